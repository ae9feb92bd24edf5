/-
  THE WALKS of matchOne (function 24) and ZZMatchOne (16).
-/
import Derived.Test.Qxb6603704aSetWalk
import Derived.Deep.QuietTactic
import Derived.BigQuiet
namespace Go.Proofs.Qxb6603704a
open Go.RowKit

set_option maxHeartbeats 400000 in
theorem one_any (s : ByteArray) (c : Nat) (w : World) (hs : s.size ≤ 200000) (h0 : 0 < s.size) (hc : c ≤ 255) :
    Calls Try.prog 24 #[.string s, .int .u8 c] w fun e w' => e = .returned (.tuple #[.int .i64 (G.oneW s.data.toList c), .bool (G.oneOk s.data.toList c)]) ∧ ∃ n, w' = w.drewN n := by
  have b0 := byt_at s 0 h0
  by_cases h92 : s[0].toNat = 92
  · have h92' : ((s[0].toNat : Int) == 92) = true := by simp; omega
    by_cases h1 : 1 < s.size
    · have hd1 : (1 : Int) < (s.size : Int) := by omega
      have b1 := byt_at s 1 h1
      have HW : Aside (G.oneW s.data.toList c = 2 ∧ G.oneOk s.data.toList c = ((s[1].toNat : Int) == (c : Int))) := by
        unfold G.oneW G.oneOk
        rw [b0, b1, if_pos h92, if_pos (by rw [len_l]; exact h1), if_pos h92, if_pos (by rw [len_l]; exact h1)]
        refine ⟨rfl, ?_⟩
        rw [Bool.eq_iff_iff]; simp; omega
      clear b0 b1
      go_enter Try.func24, Try.ntmps24
      go_wp2
      go_quiet (fail)
      go_wp2
      go_ret2
      exact ⟨ret_two (by rw [HW.out.1]; rfl) HW.out.2.symm, _, rfl⟩
    · have HW : Aside (G.oneW s.data.toList c = 1 ∧ G.oneOk s.data.toList c = ((c : Int) == 92)) := by
        unfold G.oneW G.oneOk
        rw [b0, if_pos h92, if_neg (by rw [len_l]; exact h1), if_pos h92, if_neg (by rw [len_l]; exact h1)]
        refine ⟨rfl, ?_⟩
        rw [Bool.eq_iff_iff]; simp; omega
      clear b0
      go_enter Try.func24, Try.ntmps24
      go_wp2
      go_ret2
      exact ⟨ret_two (by rw [HW.out.1]; rfl) HW.out.2.symm, 0, rfl⟩
  · have h92' : ((s[0].toNat : Int) == 92) = false := by simp; omega
    by_cases h91 : s[0].toNat = 91
    · have h91' : ((s[0].toNat : Int) == 91) = true := by simp; omega
      have HW : Aside (G.oneW s.data.toList c = G.setW s.data.toList c ∧ G.oneOk s.data.toList c = G.setOk s.data.toList c) := by
        unfold G.oneW G.oneOk
        rw [b0, if_neg h92, if_neg h92, if_pos h91, if_pos h91]
        exact ⟨rfl, rfl⟩
      clear b0
      go_enter Try.func24, Try.ntmps24
      go_wp2_with (go_at_call 25; refine (set_any _ _ _ hs h0 hc).mono ?_; rintro e w' ⟨rfl, rfl⟩)
      go_ret2
      exact ⟨ret_two (by rw [HW.out.1]) HW.out.2.symm, 0, rfl⟩
    · have h91' : ((s[0].toNat : Int) == 91) = false := by simp; omega
      have HW : Aside (G.oneW s.data.toList c = 1 ∧ G.oneOk s.data.toList c = ((s[0].toNat : Int) == (c : Int))) := by
        unfold G.oneW G.oneOk
        rw [b0, if_neg h92, if_neg h92, if_neg h91, if_neg h91]
        refine ⟨rfl, ?_⟩
        rw [Bool.eq_iff_iff]; simp; omega
      clear b0
      go_enter Try.func24, Try.ntmps24
      go_wp2
      go_quiet (fail)
      go_wp2
      go_ret2
      exact ⟨ret_two (by rw [HW.out.1]; rfl) HW.out.2.symm, _, rfl⟩

theorem zzone_any (s : ByteArray) (c : Nat) (w : World) (hs : s.size ≤ 200000) (h0 : 0 < s.size) (hc : c ≤ 255) :
    Calls Try.prog 16 #[.string s, .int .u8 c] w fun e w' => e = .returned (.tuple #[.int .i64 (G.oneW s.data.toList c), .bool (G.oneOk s.data.toList c)]) ∧ ∃ n, w' = w.drewN n := by
  go_enter Try.func16, Try.ntmps16
  go_wp2_with (go_at_call 24; refine (one_any _ _ _ hs h0 hc).mono ?_; rintro e w' ⟨rfl, n, rfl⟩)
  go_ret2
  exact ⟨rfl, _, rfl⟩
end Go.Proofs.Qxb6603704a
