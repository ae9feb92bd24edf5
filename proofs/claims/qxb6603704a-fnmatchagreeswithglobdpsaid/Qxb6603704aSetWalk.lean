/-
  THE WALK of matchSet (function 25).
-/
import Derived.Test.Qxb6603704aRows
import Derived.Test.Qxb6603704aPlain
import Derived.WalkKit
import Derived.WalkSpells
import Derived.WalkLawsBesides
import Derived.Deep.DeepCutAuto
namespace Go.Proofs.Qxb6603704a
open Go.RowKit

theorem byt_at (s : ByteArray) (k : Nat) (h : k < s.size) : G.byt s.data.toList k = s[k].toNat := by
  unfold G.byt
  rw [List.getD_eq_getElem?_getD, List.getElem?_eq_getElem (by simpa using h)]; rfl
theorem len_l (s : ByteArray) : s.data.toList.length = s.size := by simp

theorem vi {k : IntKind} {a b : Int} (h : a = b) : Value.int k a = Value.int k b := by rw [h]
theorem vb {a b : Bool} (h : a = b) : Value.bool a = Value.bool b := by rw [h]

theorem ret_two {k : IntKind} {a b : Int} {x y : Bool} (h : a = b) (h2 : x = y) : Ending.returned (.tuple #[.int k a, .bool x]) = .returned (.tuple #[.int k b, .bool y]) := by rw [h, h2]

theorem neg_a (s : ByteArray) (h : 1 < s.size) : ((s[1].toNat : Int) == 94) = G.neg s.data.toList := by
  unfold G.neg; rw [byt_at s 1 h, len_l, Bool.eq_iff_iff]; simp; omega
theorem neg_b (s : ByteArray) (h : ¬ 1 < s.size) : false = G.neg s.data.toList := by
  unfold G.neg; rw [len_l]; exact (decide_eq_false (by omega)).symm
theorem beg_t (l : List UInt8) (h : G.neg l = true) : (2 : Int) = (G.beg l : Nat) := by unfold G.beg; rw [if_pos h]; rfl
theorem beg_f (l : List UInt8) (h : G.neg l = false) : (1 : Int) = (G.beg l : Nat) := by unfold G.beg; rw [if_neg (by rw [h]; simp)]; rfl
theorem esc_a (s : ByteArray) (k : Nat) (hk : k < s.size) (h : (s[k].toNat : Int) = 92) : decide ((k : Int) + 1 < (s.size : Int)) = G.escB s.data.toList k := by
  unfold G.escB; rw [byt_at s k hk, len_l, Bool.eq_iff_iff]; simp; omega
theorem esc_b (s : ByteArray) (k : Nat) (hk : k < s.size) (h : ¬ (s[k].toNat : Int) = 92) : false = G.escB s.data.toList k := by
  unfold G.escB; rw [byt_at s k hk]; exact (decide_eq_false (by omega)).symm
theorem rng_a (s : ByteArray) (k : Nat) (h2 : k + 2 < s.size) (h : ((s[k + 1]'(by omega)).toNat : Int) = 45) : ((s[k + 2].toNat : Int) != 93) = G.rng s.data.toList k := by
  unfold G.rng; rw [byt_at s (k + 1) (by omega), byt_at s (k + 2) h2, len_l, Bool.eq_iff_iff]; simp; omega
theorem rng_b (s : ByteArray) (k : Nat) (h2 : k + 2 < s.size) (h : ¬ ((s[k + 1]'(by omega)).toNat : Int) = 45) : false = G.rng s.data.toList k := by
  unfold G.rng; rw [byt_at s (k + 1) (by omega)]; exact (decide_eq_false (by omega)).symm
theorem rng_c (s : ByteArray) (k : Nat) (h2 : ¬ k + 2 < s.size) : false = G.rng s.data.toList k := by
  unfold G.rng; rw [len_l]; exact (decide_eq_false (by omega)).symm
theorem escB_t (s : ByteArray) (k : Nat) (hk : k + 1 < s.size) (h : ((s[k]'(by omega)).toNat : Int) = 92) : G.escB s.data.toList k = true := by
  rw [← esc_a s k (by omega) h]; exact decide_eq_true (by omega)
theorem escB_f (s : ByteArray) (k : Nat) (hk : k < s.size) (h : ¬ (s[k].toNat : Int) = 92) : G.escB s.data.toList k = false := (esc_b s k hk h).symm
theorem escB_e (s : ByteArray) (k : Nat) (hk : ¬ k + 1 < s.size) : G.escB s.data.toList k = false := by
  unfold G.escB; rw [len_l]; exact decide_eq_false (by omega)

theorem up_a (s : ByteArray) (k1 : Nat) (HR : G.hiIx s.data.toList k1 = G.esc s.data.toList (k1 + 2)) (h3 : k1 + 1 + 2 < s.size) (h92 : ((s[k1 + 2]'(by omega)).toNat : Int) = 92) :
    k1 + 1 + 2 = G.hiIx s.data.toList k1 ∧ G.byt s.data.toList (k1 + 1 + 2) = s[k1 + 1 + 2].toNat := by
  refine ⟨?_, byt_at s _ h3⟩
  rw [HR, G.esc_t _ _ (escB_t s (k1 + 2) (by omega) h92)]
theorem up_b (s : ByteArray) (k1 : Nat) (HR : G.hiIx s.data.toList k1 = G.esc s.data.toList (k1 + 2)) (h2 : k1 + 2 < s.size) (h : (¬ k1 + 3 < s.size) ∨ ¬ (s[k1 + 2].toNat : Int) = 92) :
    k1 + 2 = G.hiIx s.data.toList k1 ∧ G.byt s.data.toList (k1 + 2) = s[k1 + 2].toNat := by
  refine ⟨?_, byt_at s _ h2⟩
  rcases h with h | h
  · rw [HR, G.esc_f _ _ (escB_e s (k1 + 2) (by omega))]
  · rw [HR, G.esc_f _ _ (escB_f s (k1 + 2) h2 h)]
theorem u8_le (x : UInt8) : x.toNat ≤ 255 := by have := x.toNat_lt; omega

set_option maxRecDepth 100000 in
set_option maxHeartbeats 800000 in
theorem set_any (s : ByteArray) (c : Nat) (w : World) (hs : s.size ≤ 200000) (h0 : 0 < s.size) (_hc : c ≤ 255) :
    Calls Try.prog 25 #[.string s, .int .u8 c] w fun e w' => e = .returned (.tuple #[.int .i64 (G.setW s.data.toList c), .bool (G.setOk s.data.toList c)]) ∧ w' = w := by
  have hll := len_l s
  go_enter Try.func25, Try.ntmps25
  go_upto_region 2 with fail
  go_cut [7] from 11 to 20 (fun n wx => n = .bool (G.neg s.data.toList) ∧ w = wx)
  case first =>
    by_cases h1 : 1 < s.size
    · go_wp2
      all_goals (go_meet; exact ⟨vb (neg_a s h1), rfl⟩)
    · have hd : decide ((1 : Int) < (s.size : Int)) = false := decide_eq_false (by omega)
      go_wp2
      all_goals (go_meet; exact ⟨vb (neg_b s h1), rfl⟩)
  case rest =>
    obtain ⟨rfl, rfl⟩ := hcut
    go_upto_if 21 with fail
    go_cut [6] from 11 to 23 (fun n wx => n = .int .i64 (G.beg s.data.toList) ∧ w = wx)
    case first =>
      go_wp2
      · go_meet; exact ⟨vi (beg_t _ ‹_›), rfl⟩
      · go_meet; exact ⟨vi (beg_f _ ‹_›), rfl⟩
    case rest =>
      obtain ⟨rfl, rfl⟩ := hcut
      have hbl := G.beg_le s.data.toList (by omega)
      go_wp2
      go_loopg [6, 8] s.size (fun g i f wr => ∃ (k : Nat) (fb : Bool), k ≤ s.size ∧ i = .int .i64 k ∧ f = .bool fb ∧ Aside (G.run s.data.toList c k fb = G.run s.data.toList c (G.beg s.data.toList) false) ∧ Aside (s.size - k ≤ g) ∧ w = wr)
      case atStart => exact ⟨_, _, by omega, rfl, rfl, rfl, Nat.sub_le _ _, rfl⟩
      case round =>
        obtain ⟨k, fb, hk, rfl, rfl, hrun, hg, rfl⟩ := hrel
        go_upto_region 8 with fail
        · have hlt : k < s.size := by assumption
          have h93 : ((s[k].toNat : Int) != 93) = true := by assumption
          go_cut [9, 45] from 24 to 106 (fun lo b wx => lo = .int .u8 (G.byt s.data.toList k) ∧ b = .bool (G.escB s.data.toList k) ∧ w = wx)
          case first =>
            by_cases hk1 : (s[k].toNat : Int) = 92
            · go_wp2
              all_goals (go_meet; exact ⟨vi (by rw [byt_at s k hlt, hk1]), vb (esc_a s k hlt hk1), rfl⟩)
            · go_wp2
              all_goals (go_meet; exact ⟨vi (by rw [byt_at s k hlt]), vb (esc_b s k hlt hk1), rfl⟩)
          case rest =>
            obtain ⟨rfl, rfl, rfl⟩ := hcut
            go_upto_if 45 with fail
            go_cut [6, 9] from 24 to 106 (fun i lo wx => ∃ k1 b1 : Nat, k1 < s.size ∧ b1 ≤ 255 ∧ i = .int .i64 k1 ∧ lo = .int .u8 b1 ∧ Aside (k1 = G.esc s.data.toList k ∧ b1 = G.byt s.data.toList k1) ∧ w = wx)
            case first =>
              by_cases hE : G.escB s.data.toList k = true
              · have hk1 : k + 1 < s.size := by have := of_decide_eq_true hE; omega
                rw [hE]
                go_wp2
                go_meet
                exact ⟨k + 1, G.byt s.data.toList (k + 1), hk1, G.byt_le _ _, by go_num, vi (by rw [byt_at s (k + 1) hk1]), ⟨(G.esc_t _ _ hE).symm, rfl⟩, rfl⟩
              · have hE' : G.escB s.data.toList k = false := by simpa using hE
                rw [hE']
                go_wp2
                go_meet
                exact ⟨k, G.byt s.data.toList k, hlt, G.byt_le _ _, rfl, rfl, ⟨(G.esc_f _ _ hE').symm, rfl⟩, rfl⟩
            case rest =>
              obtain ⟨k1, b1, hk1, hb1, rfl, rfl, hE1, rfl⟩ := hcut
              go_upto_region 12 with fail
              go_cut [70] from 24 to 106 (fun b wx => b = .bool (G.rng s.data.toList k1) ∧ w = wx)
              case first =>
                by_cases h2 : k1 + 2 < s.size
                · have h1 : k1 + 1 < s.size := by omega
                  by_cases h45 : (s[k1 + 1].toNat : Int) = 45
                  · go_wp2
                    all_goals (go_meet; exact ⟨vb (rng_a s k1 h2 h45), rfl⟩)
                  · go_wp2
                    all_goals (go_meet; exact ⟨vb (rng_b s k1 h2 h45), rfl⟩)
                · have hd : decide ((k1 : Int) + 2 < (s.size : Int)) = false := decide_eq_false (by omega)
                  go_wp2
                  all_goals (go_meet; exact ⟨vb (rng_c s k1 h2), rfl⟩)
              case rest =>
                obtain ⟨rfl, rfl⟩ := hcut
                go_upto_if 70 with fail
                go_cut [6, 9, 10] from 24 to 106 (fun i lo hi wx => ∃ k2 b2 b3 : Nat, k2 < s.size ∧ b2 ≤ 255 ∧ b3 ≤ 255 ∧ i = .int .i64 k2 ∧ lo = .int .u8 b2 ∧ hi = .int .u8 b3 ∧ Aside (k2 = G.hiIx s.data.toList k1 ∧ ((b2 ≤ c ∧ c ≤ b3) ↔ G.btw b1 (G.byt s.data.toList k2) c = true)) ∧ w = wx)
                case first =>
                  by_cases hR : G.rng s.data.toList k1 = true
                  · have hr2 : k1 + 2 < s.size := by have := of_decide_eq_true hR; omega
                    have hR2 := G.hiIx_t _ _ hR
                    have HR : Hid (G.hiIx s.data.toList k1 = G.esc s.data.toList (k1 + 2)) := hR2
                    clear hR2
                    rw [hR]
                    clear hR
                    by_cases h92 : (s[k1 + 2].toNat : Int) = 92
                    · by_cases hr3 : k1 + 1 + 2 < s.size
                      · have U : Aside _ := up_a s k1 HR.out hr3 h92
                        go_wp2
                        all_goals go_meet
                        · obtain ⟨ua, ub⟩ := U.out
                          exact ⟨k1 + 1 + 2, s[k1 + 1 + 2].toNat, b1, hr3, u8_le _, hb1, by go_num, rfl, rfl, ⟨ua, by rw [ub]; exact G.btw_lt ‹_›⟩, rfl⟩
                        · obtain ⟨ua, ub⟩ := U.out
                          exact ⟨k1 + 1 + 2, b1, s[k1 + 1 + 2].toNat, hr3, hb1, u8_le _, by go_num, rfl, rfl, ⟨ua, by rw [ub]; exact G.btw_ge ‹_›⟩, rfl⟩
                      · have U : Aside _ := up_b s k1 HR.out hr2 (Or.inl (by omega))
                        have hd : decide ((k1 : Int) + 3 < (s.size : Int)) = false := decide_eq_false (by omega)
                        go_wp2
                        all_goals go_meet
                        · obtain ⟨ua, ub⟩ := U.out
                          exact ⟨k1 + 2, 92, b1, hr2, by omega, hb1, by go_num, rfl, rfl, ⟨ua, by rw [ub, show s[k1 + 2].toNat = 92 from by omega]; exact G.btw_lt (by omega)⟩, rfl⟩
                        · obtain ⟨ua, ub⟩ := U.out
                          exact ⟨k1 + 2, b1, 92, hr2, hb1, by omega, by go_num, rfl, rfl, ⟨ua, by rw [ub, show s[k1 + 2].toNat = 92 from by omega]; exact G.btw_ge (by omega)⟩, rfl⟩
                    · have U : Aside _ := up_b s k1 HR.out hr2 (Or.inr h92)
                      go_wp2
                      all_goals go_meet
                      · obtain ⟨ua, ub⟩ := U.out
                        exact ⟨k1 + 2, s[k1 + 2].toNat, b1, hr2, u8_le _, hb1, by go_num, rfl, rfl, ⟨ua, by rw [ub]; exact G.btw_lt ‹_›⟩, rfl⟩
                      · obtain ⟨ua, ub⟩ := U.out
                        exact ⟨k1 + 2, b1, s[k1 + 2].toNat, hr2, hb1, u8_le _, by go_num, rfl, rfl, ⟨ua, by rw [ub]; exact G.btw_ge ‹_›⟩, rfl⟩
                  · have hR' : G.rng s.data.toList k1 = false := by simpa using hR
                    rw [hR']
                    go_wp2
                    go_meet
                    obtain ⟨-, e⟩ := hE1.out
                    exact ⟨k1, b1, b1, hk1, hb1, hb1, rfl, rfl, rfl, ⟨(G.hiIx_f _ _ hR').symm, by rw [← e]; exact G.btw_ge (by omega)⟩, rfl⟩
                case rest =>
                  obtain ⟨k2, b2, b3, hk2, hb2, hb3, rfl, rfl, rfl, hE2, rfl⟩ := hcut
                  have hro := G.round_ok (by omega) (by rw [byt_at s k hlt]; simp at h93; omega) hrun.out hE1.out hE2.out
                  have HRO : Aside _ := hro
                  clear hro
                  have hkk : k ≤ k2 := by
                    have e1 := (G.esc_le s.data.toList k).1
                    have e2 := G.hiIx_ge s.data.toList k1
                    rw [← hE1.out.1] at e1; rw [← hE2.out.1] at e2; omega
                  go_wp2
                  · go_roundg (s.size - (k2 + 1))
                    case measure => have := hg.out; omega
                    case rel => exact ⟨k2 + 1, true, by omega, by go_num, rfl, HRO.out.1 ⟨‹_›, ‹_›⟩, Nat.le_refl _, rfl⟩
                  · go_roundg (s.size - (k2 + 1))
                    case measure => have := hg.out; omega
                    case rel => exact ⟨k2 + 1, fb, by omega, by go_num, rfl, HRO.out.2 (by omega), Nat.le_refl _, rfl⟩
                  · go_roundg (s.size - (k2 + 1))
                    case measure => have := hg.out; omega
                    case rel => exact ⟨k2 + 1, fb, by omega, by go_num, rfl, HRO.out.2 (by omega), Nat.le_refl _, rfl⟩
        · have hlt : k < s.size := by assumption
          have h93 : ((s[k].toNat : Int) != 93) = false := by assumption
          go_ret2
          obtain ⟨x1, x2⟩ := G.exit_ok hrun.out (by rw [byt_at s k hlt]; simp at h93; omega)
          exact ⟨ret_two (by unfold G.setW; rw [x1, if_pos (by omega)]; omega) x2.symm, rfl⟩
        · go_ret2
          obtain ⟨x1, x2⟩ := G.exit_ok hrun.out (by omega)
          exact ⟨ret_two (by unfold G.setW; rw [x1, if_neg (by omega)]) x2.symm, rfl⟩
end Go.Proofs.Qxb6603704a
