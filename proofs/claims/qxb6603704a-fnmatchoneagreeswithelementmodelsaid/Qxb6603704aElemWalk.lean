/-
  THE WALK of FnMatchOneAgreesWithElementModel (function 5).
-/
import Derived.Test.Qxb6603704aModelWalk
import Derived.Test.Qxb6603704aOneWalk
namespace Go.Proofs.Qxb6603704a
open Go.RowKit
namespace fnMatchOneAgreesWithElementModel

/-! ### THE PLAIN LAW -/
theorem one_set (l : List UInt8) (c : Nat) (h0 : 0 < l.length) (h : G.byt l 0 = 91) : G.oneW l c = G.modelW l ∧ G.oneOk l c = G.modelIn l c := by
  unfold G.oneW G.oneOk
  have h92 : ¬ G.byt l 0 = 92 := by omega
  rw [if_neg h92, if_neg h92, if_pos h, if_pos h]
  exact ⟨G.setW_model l c h0, G.setOk_model l c⟩
theorem one_atom (l : List UInt8) (c : Nat) (h : G.byt l 0 ≠ 91) : G.oneW l c = G.esc l 0 + 1 ∧ G.oneOk l c = decide (G.byt l (G.esc l 0) = c) := by
  unfold G.oneW G.oneOk
  by_cases h92 : G.byt l 0 = 92
  · rw [if_pos h92, if_pos h92]
    by_cases h1 : 1 < l.length
    · have e : G.esc l 0 = 1 := G.esc_t l 0 (decide_eq_true ⟨h92, h1⟩)
      rw [if_pos h1, if_pos h1, e]
      exact ⟨rfl, rfl⟩
    · have e : G.esc l 0 = 0 := G.esc_f l 0 (decide_eq_false (fun x => h1 x.2))
      rw [if_neg h1, if_neg h1, e, h92]
      exact ⟨rfl, by rw [Bool.eq_iff_iff]; simp; omega⟩
  · have e : G.esc l 0 = 0 := G.esc_f l 0 (decide_eq_false (fun x => h92 x.1))
    rw [if_neg h92, if_neg h92, if_neg h, if_neg h, e]
    exact ⟨rfl, rfl⟩

/-! ### THE WALKS -/
theorem fits_yes (s : ByteArray) (c : Int) (w : World) (hs : s.size ≤ 1048576) :
    Calls Try.prog 15 #[.string s, .int .u8 c] w fun e w' => e = .returned (.bool true) ∧ w' = w := by
  go_enter Try.func15, Try.ntmps15
  go_wp2
  go_ret
  exact ⟨rfl, rfl⟩
theorem fits_no (s : ByteArray) (c : Int) (w : World) (hm : s.size ≤ maxLen) (hs : ¬ s.size ≤ 1048576) :
    Calls Try.prog 15 #[.string s, .int .u8 c] w fun e w' => e = .returned (.bool false) ∧ w' = w := by
  unfold maxLen at hm
  go_enter Try.func15, Try.ntmps15
  go_wp2
  go_ret
  exact ⟨rfl, rfl⟩

set_option maxRecDepth 100000 in
set_option maxHeartbeats 400000 in
theorem core (s : ByteArray) (c : Nat) (w : World) (hs : s.size ≤ 65536) (h0 : 0 < s.size) (hc : c ≤ 255) :
    Calls Try.prog 5 #[.string s, .int .u8 c] w fun e w' => e = .returned (.bool true) ∧ Below w.heap.size w w' := by
  have z32 := zero32
  have hsz : ((s.size : Int) == 0) = false := beq_eq_false_iff_ne.mpr (by omega)
  by_cases h91 : ((s[0].toNat : Int) == 91) = true
  · have hone := fun w => zzone_any s c w (by omega) h0 hc
    obtain ⟨e1, e2⟩ := one_set s.data.toList c (by rw [len_l]; exact h0) (by rw [byt_at s 0 h0]; simp at h91; omega)
    rw [e1, e2] at hone
    have HONE : Aside (∀ w, Calls Try.prog 16 #[.string s, .int .u8 c] w fun e w' => e = .returned (.tuple #[.int .i64 (G.modelW s.data.toList), .bool (G.modelIn s.data.toList c)]) ∧ ∃ n, w' = w.drewN n) := hone
    clear hone e1 e2
    go_enter Try.func5, Try.ntmps5
    go_wp2_with fail
    refine (fits_yes _ _ _ (by omega)).mono ?_
    rintro e w' ⟨rfl, rfl⟩
    go_wp2_with fail
    refine (HONE.out _).mono ?_
    rintro e w1 ⟨rfl, n, rfl⟩
    go_upto_region 8 with fail
    go_cut [7] from 28 to 30 (fun p wx => p = .pointer (some ⟨w'.heap.size, 0, none⟩) ∧ HasTab wx w'.heap.size (fun _ => false) ∧ Below w'.heap.size w' wx ∧ wx.heap.size = w'.heap.size + 1)
    case first =>
      go_wp2
      go_meet
      exact ⟨rfl, HasTab.new (w'.drewN n) _, ((below_drewN (Below.refl _ _) n).alloc (Nat.le_refl _) _), by simp⟩
    case rest =>
      obtain ⟨rfl, htab, hbel, hsz1⟩ := hcut
      have HSZ : Aside (wc.heap.size = w'.heap.size + 1) := hsz1
      clear hsz1
      go_wp2_with fail
      have hm := model_any s wc (by omega) h0
      obtain ⟨T, hT⟩ : ∃ T, T = tab (G.modelIn s.data.toList) := ⟨_, rfl⟩
      have hT1 : (Try.prog.info? 32).map (·.size) = some T.size := by rw [hT]; exact size32 (G.modelIn s.data.toList)
      have hT2 : T.all (·.oneCell') = true := by rw [hT]; exact tab_one (G.modelIn s.data.toList)
      have hT3 : T.size = 256 := by rw [hT]; exact tab_size (G.modelIn s.data.toList)
      rw [← hT] at hm
      refine hm.mono ?_
      rintro e w2 ⟨rfl, hb2⟩
      have htab2 := htab.below hb2 (by rw [HSZ.out]; omega)
      have hbel2 := hbel.trans (hb2.mono (by rw [HSZ.out]; omega))
      clear htab hbel hb2 HSZ hm
      have hld := htab2.load_after (G.modelIn s.data.toList) c (by omega)
      have hth : w2.there w'.heap.size 0 T.size := by rw [hT3]; exact htab2.there
      rw [← hT] at hld
      clear hT hT3
      go_wp2_with (refine wpList_store_mid rfl 32 (.tmp 7) (.tmp 35) rfl w'.heap.size 0 T rfl rfl hth hT1 hT2 ?_)
      go_ret
      exact ⟨by simp, bel_setCells (Nat.le_refl _) _ _ _ hbel2⟩
  · have h91' : ((s[0].toNat : Int) == 91) = false := by simpa using h91
    clear h91
    have hone := fun w => zzone_any s c w (by omega) h0 hc
    obtain ⟨e1, e2⟩ := one_atom s.data.toList c (by rw [byt_at s 0 h0]; simp at h91'; omega)
    rw [e1, e2] at hone
    have hat := fun w => atom_any s 0 w (by omega) h0
    have hel := G.esc_lt s.data.toList 0 (by rw [len_l]; exact h0)
    rw [len_l] at hel
    have hb8 := G.byt_le s.data.toList (G.esc s.data.toList 0)
    clear e1 e2
    generalize G.byt s.data.toList (G.esc s.data.toList 0) = b at *
    generalize G.esc s.data.toList 0 = k1 at *
    have HONE : Aside (∀ w, Calls Try.prog 16 #[.string s, .int .u8 c] w fun e w' => e = .returned (.tuple #[.int .i64 ((k1 + 1 : Nat) : Int), .bool (decide (b = c))]) ∧ ∃ n, w' = w.drewN n) := hone
    have HAT : Aside (∀ w, Calls Try.prog 18 #[.string s, .int .i64 0] w fun e w' => e = .returned (.tuple #[.int .u8 b, .bool (G.escB s.data.toList 0), .int .i64 (k1 + 1)]) ∧ w' = w) := hat
    clear hone hat
    go_enter Try.func5, Try.ntmps5
    go_wp2_with fail
    refine (fits_yes _ _ _ (by omega)).mono ?_
    rintro e w' ⟨rfl, rfl⟩
    go_wp2_with fail
    refine (HONE.out _).mono ?_
    rintro e w1 ⟨rfl, n, rfl⟩
    go_upto_region 8 with fail
    go_cut [7] from 28 to 30 (fun p wx => p = .pointer (some ⟨w'.heap.size, 0, none⟩) ∧ HasTab wx w'.heap.size (fun _ => false) ∧ Below w'.heap.size w' wx)
    case first =>
      go_wp2
      go_meet
      exact ⟨rfl, HasTab.new (w'.drewN n) _, ((below_drewN (Below.refl _ _) n).alloc (Nat.le_refl _) _)⟩
    case rest =>
      obtain ⟨rfl, htab, hbel⟩ := hcut
      go_wp2_with fail
      refine (HAT.out wc).mono ?_
      rintro e w2 ⟨rfl, rfl⟩
      have hst := htab.free b
      have hcl := htab.cell b (by omega)
      have hld : (w2.setCell ⟨w'.heap.size, b, none⟩ (.bool true)).cell? ⟨w'.heap.size, c, none⟩ = some (.bool (decide (b = c))) := by
        rw [(htab.set b true).cell c (by omega)]
        by_cases e : c = b
        · subst e; simp
        · have e' : ¬ b = c := fun x => e x.symm
          rw [if_neg e, decide_eq_false e']
      go_wp2
      go_ret
      exact ⟨by simp, hbel.setCell (Nat.le_refl _) _⟩

set_option maxHeartbeats 400000 in
theorem walk (a0 : ByteArray) (a1 : Int) (w0 : a0.size ≤ maxLen) (w1 : 0 ≤ a1 ∧ a1 ≤ 255) (w : World) :
    Calls Try.prog 5 #[.string a0, .int .u8 a1] w fun e w' => e = .returned (.bool true) ∧ Below w.heap.size w w' := by
  by_cases hbig : a0.size ≤ 1048576
  · by_cases h16 : a0.size ≤ 65536
    · by_cases hz : 0 < a0.size
      · obtain ⟨c, rfl⟩ : ∃ c : Nat, a1 = (c : Int) := ⟨a1.toNat, by omega⟩
        exact core a0 c w h16 hz (by omega)
      · have hsz : ((a0.size : Int) == 0) = true := beq_iff_eq.mpr (by omega)
        go_enter Try.func5, Try.ntmps5
        go_wp2_with fail
        refine (fits_yes _ _ _ hbig).mono ?_
        rintro e w' ⟨rfl, rfl⟩
        go_wp2
        go_ret
        exact ⟨rfl, Below.refl _ _⟩
    · go_enter Try.func5, Try.ntmps5
      go_wp2_with fail
      refine (fits_yes _ _ _ hbig).mono ?_
      rintro e w' ⟨rfl, rfl⟩
      go_wp2
      go_ret
      exact ⟨rfl, Below.refl _ _⟩
  · go_enter Try.func5, Try.ntmps5
    go_wp2_with fail
    refine (fits_no _ _ _ w0 hbig).mono ?_
    rintro e w' ⟨rfl, rfl⟩
    go_wp2
    go_ret
    exact ⟨rfl, Below.refl _ _⟩
end fnMatchOneAgreesWithElementModel
end Go.Proofs.Qxb6603704a
