/-
  THE WALK of FnMatchOneNonSetElementAcceptsExactlyOneByte (function 6).
-/
import Derived.Test.Qxb6603704aOneWalk
import Derived.RowKit3
namespace Go.Proofs.Qxb6603704a.fnMatchOneNonSetElementAcceptsExactlyOneByte
open Go.RowKit

/-! ### THE PLAIN LAW -/
theorem ns (l : List UInt8) (h0 : 0 < l.length) (h : G.byt l 0 ≠ 91) :
    ∃ W t : Nat, (W = 1 ∨ W = 2) ∧ W ≤ l.length ∧ t ≤ 255 ∧ ∀ c, G.oneW l c = W ∧ G.oneOk l c = decide (c = t) := by
  unfold G.oneW G.oneOk
  by_cases h92 : G.byt l 0 = 92
  · by_cases h1 : 1 < l.length
    · refine ⟨2, G.byt l 1, Or.inr rfl, h1, G.byt_le _ _, fun c => ?_⟩
      rw [if_pos h92, if_pos h1, if_pos h92, if_pos h1]
      exact ⟨rfl, by rw [Bool.eq_iff_iff]; simp; omega⟩
    · refine ⟨1, 92, Or.inl rfl, h0, by omega, fun c => ?_⟩
      rw [if_pos h92, if_neg h1, if_pos h92, if_neg h1]
      exact ⟨rfl, rfl⟩
  · refine ⟨1, G.byt l 0, Or.inl rfl, h0, G.byt_le _ _, fun c => ?_⟩
    rw [if_neg h92, if_neg h92, if_neg h, if_neg h]
    exact ⟨rfl, by rw [Bool.eq_iff_iff]; simp; omega⟩

/-! ### THE WALKS -/
theorem fits_yes (s : ByteArray) (w : World) (hs : s.size ≤ 1048576) :
    Calls Try.prog 19 #[.string s] w fun e w' => e = .returned (.bool true) ∧ w' = w := by
  go_enter Try.func19, Try.ntmps19
  go_wp2
  go_ret
  exact ⟨rfl, rfl⟩
theorem fits_no (s : ByteArray) (w : World) (hm : s.size ≤ maxLen) (hs : ¬ s.size ≤ 1048576) :
    Calls Try.prog 19 #[.string s] w fun e w' => e = .returned (.bool false) ∧ w' = w := by
  unfold maxLen at hm
  go_enter Try.func19, Try.ntmps19
  go_wp2
  go_ret
  exact ⟨rfl, rfl⟩

/-- How many of the first k bytes are t. -/
def cnt (t k : Nat) : Nat := if t < k then 1 else 0
theorem cnt_le (t k : Nat) : cnt t k ≤ 1 := by unfold cnt; split <;> omega
theorem cnt_hit (t k : Nat) (h : k = t) : (cnt t k : Int) + 1 = (cnt t (k + 1) : Nat) := by subst h; unfold cnt; rw [if_neg (by omega), if_pos (by omega)]; rfl
theorem cnt_miss (t k : Nat) (h : ¬ k = t) : cnt t (k + 1) = cnt t k := by unfold cnt; split <;> split <;> omega

set_option maxRecDepth 100000 in
set_option maxHeartbeats 400000 in
theorem core (s : ByteArray) (w : World) (hs : s.size ≤ 65536) (h0 : 0 < s.size) (h91 : ((s[0].toNat : Int) == 91) = false) :
    Calls Try.prog 6 #[.string s] w fun e w' => e = .returned (.bool true) ∧ ∃ n, w' = w.drewN n := by
  obtain ⟨W, t, hW, hWl, ht, hall⟩ := ns s.data.toList (by rw [len_l]; exact h0) (by rw [byt_at s 0 h0]; simp at h91; omega)
  rw [len_l] at hWl
  have HALL : Aside (∀ c, G.oneW s.data.toList c = W ∧ G.oneOk s.data.toList c = decide (c = t)) := hall
  clear hall
  have one : ∀ (c : Nat) (w : World), c ≤ 255 → Calls Try.prog 16 #[.string s, .int .u8 c] w fun e w' => e = .returned (.tuple #[.int .i64 W, .bool (decide (c = t))]) ∧ ∃ n, w' = w.drewN n := by
    intro c w hc
    have h := zzone_any s c w (by omega) h0 hc
    rw [(HALL.out c).1, (HALL.out c).2] at h
    exact h
  have ONE := one
  have HONE : Aside (∀ (c : Nat) (w : World), c ≤ 255 → Calls Try.prog 16 #[.string s, .int .u8 c] w fun e w' => e = .returned (.tuple #[.int .i64 W, .bool (decide (c = t))]) ∧ ∃ n, w' = w.drewN n) := one
  clear one ONE
  have hsz : ((s.size : Int) == 0) = false := beq_eq_false_iff_ne.mpr (by omega)
  go_enter Try.func6, Try.ntmps6
  go_wp2_with fail
  refine (fits_yes _ _ (by omega)).mono ?_
  rintro e w' ⟨rfl, rfl⟩
  go_wp2_with fail
  have z := HONE.out 0 w' (by omega)
  refine (z).mono ?_
  rintro e w1 ⟨rfl, n, rfl⟩
  clear z
  rcases hW with rfl | rfl
  all_goals
    go_wp2
    go_loopg [5, 6, 7, 8] 256 (fun g a i x y wr => ∃ (k m : Nat), k ≤ 256 ∧ a = .int .i64 (cnt t k) ∧ i = .int .i64 k ∧ Aside (256 - k ≤ g) ∧ wr = w'.drewN m)
    case atStart => exact ⟨0, n, by omega, by unfold cnt; rw [if_neg (by omega)]; rfl, rfl, Nat.le_refl _, rfl⟩
    case round =>
      obtain ⟨k, m, hk, rfl, rfl, hg, rfl⟩ := hrel
      have hcl := cnt_le t k
      by_cases hlt : k < 256
      · go_wp2_with fail
        refine (HONE.out k _ (by omega)).mono ?_
        rintro e w1 ⟨rfl, n1, rfl⟩
        obtain ⟨d, hd⟩ : ∃ d, d = decide (k = t) := ⟨_, rfl⟩
        rw [← hd]
        have HD : Aside (d = decide (k = t)) := hd
        clear hd
        cases d
        · go_wp2
          go_roundg (256 - (k + 1))
          case measure => have := hg.out; omega
          case rel => exact ⟨k + 1, _, by omega, vi (by rw [cnt_miss t k (of_decide_eq_false HD.out.symm)]), by go_num, Nat.le_refl _, rfl⟩
        · go_wp2
          go_roundg (256 - (k + 1))
          case measure => have := hg.out; omega
          case rel => exact ⟨k + 1, _, by omega, vi (cnt_hit t k (of_decide_eq_true HD.out.symm)), by go_num, Nat.le_refl _, rfl⟩
      · have hk2 : k = 256 := by omega
        subst hk2
        go_wp2
        go_ret
        exact ⟨by unfold cnt; rw [if_pos (by omega)]; rfl, _, rfl⟩

theorem grown_drewN (w : World) (n : Nat) : Grown w (w.drewN n) := by
  induction n with
  | zero => exact Grown.refl _
  | succ n ih => exact Grown.drew ih

set_option maxHeartbeats 400000 in
theorem walk (a0 : ByteArray) (w0 : a0.size ≤ maxLen) (w : World) :
    Calls Try.prog 6 #[.string a0] w fun e w' => e = .returned (.bool true) ∧ Grown w w' := by
  by_cases hbig : a0.size ≤ 1048576
  · by_cases h16 : a0.size ≤ 65536
    · by_cases hz : 0 < a0.size
      · by_cases h91 : ((a0[0].toNat : Int) == 91) = false
        · refine (core a0 w h16 hz h91).mono ?_
          rintro e w' ⟨rfl, n, rfl⟩
          exact ⟨rfl, grown_drewN _ _⟩
        · have h91' : ((a0[0].toNat : Int) == 91) = true := by simpa using h91
          have hsz : ((a0.size : Int) == 0) = false := beq_eq_false_iff_ne.mpr (by omega)
          go_enter Try.func6, Try.ntmps6
          go_wp2_with fail
          refine (fits_yes _ _ hbig).mono ?_
          rintro e w' ⟨rfl, rfl⟩
          go_wp2
          go_ret
          exact ⟨rfl, Grown.refl _⟩
      · have hsz : ((a0.size : Int) == 0) = true := beq_iff_eq.mpr (by omega)
        go_enter Try.func6, Try.ntmps6
        go_wp2_with fail
        refine (fits_yes _ _ hbig).mono ?_
        rintro e w' ⟨rfl, rfl⟩
        go_wp2
        go_ret
        exact ⟨rfl, Grown.refl _⟩
    · go_enter Try.func6, Try.ntmps6
      go_wp2_with fail
      refine (fits_yes _ _ hbig).mono ?_
      rintro e w' ⟨rfl, rfl⟩
      go_wp2
      go_ret
      exact ⟨rfl, Grown.refl _⟩
  · go_enter Try.func6, Try.ntmps6
    go_wp2_with fail
    refine (fits_no _ _ w0 hbig).mono ?_
    rintro e w' ⟨rfl, rfl⟩
    go_wp2
    go_ret
    exact ⟨rfl, Grown.refl _⟩
end Go.Proofs.Qxb6603704a.fnMatchOneNonSetElementAcceptsExactlyOneByte
