/-
  THE WALK of FnDocumentMarkerFourBytesDecide (function 5).
-/
import Derived.Test.Qxb6604637aMarkWalk
namespace Go.Proofs.Qxb6604637a
open Go.RowKit
namespace fnDocumentMarkerFourBytesDecide

theorem fits_yes (a : Option Addr) (n cap : Nat) (w : World) (hs : n ≤ 1048576) :
    Calls Try.prog 16 #[.slice a n cap] w fun e w' => e = .returned (.bool true) ∧ w' = w := by
  go_enter Try.func16, Try.ntmps16
  go_wp2
  go_ret
  exact ⟨rfl, rfl⟩
theorem fits_no (a : Option Addr) (n cap : Nat) (w : World) (hm : n ≤ maxLen) (hs : ¬ n ≤ 1048576) :
    Calls Try.prog 16 #[.slice a n cap] w fun e w' => e = .returned (.bool false) ∧ w' = w := by
  unfold maxLen at hm
  go_enter Try.func16, Try.ntmps16
  go_wp2
  go_ret
  exact ⟨rfl, rfl⟩

theorem mark_big (n : Nat) (z : Nat → Int) (h : 4 < n) : markB n z = (headB z && spB (z 3)) := by
  unfold markB; rw [decide_eq_true (show 3 ≤ n by omega), decide_eq_false (show ¬ n = 3 by omega)]; simp
theorem mark_4 (z : Nat → Int) : markB 4 z = (headB z && spB (z 3)) := by unfold markB; simp
theorem mark_3 (z : Nat → Int) : markB 3 z = headB z := by unfold markB; simp
theorem mark_lt (n : Nat) (z : Nat → Int) (h : n < 3) : markB n z = false := by
  unfold markB; rw [decide_eq_false (show ¬ 3 ≤ n by omega)]; rfl
/-- A marker's first three bytes are themselves a marker. -/
theorem mark_head (n : Nat) (z : Nat → Int) : markB n z = true → headB z = true := by
  unfold markB; simp; intro _ h _; exact h

set_option maxRecDepth 100000 in
set_option maxHeartbeats 400000 in
theorem core (x : Addr) (n cap : Nat) (zs : List Int) (w : World) (hn : n ≤ 1048576) (hzs : n ≤ zs.length) (hcell : ∀ i, i < n → w.cell? (x.add i) = some (.int .u8 (zs.getD i 0))) :
    Calls Try.prog 5 #[.slice (some x) n cap] w fun e w' => e = .returned (.bool true) ∧ Below w.heap.size w w' := by
  have HCL : Aside _ := clone_any x n cap zs w hn hzs hcell
  obtain ⟨z, hz⟩ : ∃ z : Nat → Int, z = fun i => zs.getD i 0 := ⟨_, rfl⟩
  have HC : Aside (Calls Try.prog 17 #[.slice (some x) n cap] w fun e w' => e = .returned (.slice (some ⟨w.heap.size, 0, none⟩) n n) ∧ (∀ i, i < n → w'.cell? ⟨w.heap.size, i, none⟩ = some (.int .u8 (z i))) ∧ Below w.heap.size w w') := by rw [hz]; exact HCL.out
  clear HCL hz hcell
  go_enter Try.func5, Try.ntmps5
  go_wp2_with fail
  refine (fits_yes _ _ _ _ hn).mono ?_
  rintro e w' ⟨rfl, rfl⟩
  go_wp2_with fail
  refine HC.out.mono ?_
  rintro e w1 ⟨rfl, hcl, hbel⟩
  have HCL : Aside (∀ i, i < n → w1.cell? ⟨w'.heap.size, i, none⟩ = some (.int .u8 (z i))) := hcl
  clear hcl HC
  have mk : Aside (∀ k, k ≤ n → Calls Try.prog 18 #[.slice (some ⟨w'.heap.size, 0, none⟩) k n] w1 fun e w'' => e = .returned (.bool (markB k z)) ∧ w'' = w1) := fun k hk => zzmark_any w'.heap.size k n z w1 hk hn (fun i hi => HCL.out i (by omega))
  by_cases h3 : n < 3
  · have e1 := mark_lt n z h3
    go_wp2_with fail
    have c1 := mk.out n (Nat.le_refl _)
    rw [e1] at c1
    have C1 : Aside (Calls Try.prog 18 #[.slice (some ⟨w'.heap.size, 0, none⟩) n n] w1 fun e w'' => e = .returned (.bool false) ∧ w'' = w1) := c1
    clear c1 e1
    refine C1.out.mono ?_
    rintro e w2 ⟨rfl, rfl⟩
    go_wp2_with fail
    refine C1.out.mono ?_
    rintro e w3 ⟨rfl, rfl⟩
    go_wp2
    go_ret
    exact ⟨rfl, hbel⟩
  · have hcv := conv3 w'.heap.size n z w1 (fun i hi => HCL.out i (by omega))
    have C3 := mk.out 3 (by omega)
    rw [mark_3] at C3
    obtain ⟨H, hH⟩ : ∃ H, H = headB z := ⟨_, rfl⟩
    obtain ⟨M, hM⟩ : ∃ M, M = markB n z := ⟨_, rfl⟩
    have hMH : M = true → H = true := by rw [hM, hH]; exact mark_head n z
    have C3' : Aside (Calls Try.prog 18 #[.slice (some ⟨w'.heap.size, 0, none⟩) 3 n] w1 fun e w'' => e = .returned (.bool H) ∧ w'' = w1) := by rw [hH]; exact C3
    have CN : Aside (Calls Try.prog 18 #[.slice (some ⟨w'.heap.size, 0, none⟩) n n] w1 fun e w'' => e = .returned (.bool M) ∧ w'' = w1) := by rw [hM]; exact mk.out n (Nat.le_refl _)
    have C4 : Aside (4 < n → Calls Try.prog 18 #[.slice (some ⟨w'.heap.size, 0, none⟩) 4 n] w1 fun e w'' => e = .returned (.bool M) ∧ w'' = w1) := by
      intro h
      have := mk.out 4 (by omega)
      rw [mark_4, ← mark_big n z h, ← hM] at this
      exact this
    obtain ⟨d1, hd1⟩ : ∃ d1, ((str3 z).toList == [45, 45, 45]) = d1 := ⟨_, rfl⟩
    obtain ⟨d2, hd2⟩ : ∃ d2, ((str3 z).toList == [46, 46, 46]) = d2 := ⟨_, rfl⟩
    have hHd : H = (d1 || d2) := by rw [hH, ← hd1, ← hd2]; rfl
    have HH : Aside (H = (d1 || d2) ∧ (M = true → H = true)) := ⟨hHd, hMH⟩
    clear C3 mk hM hH hMH hHd
    obtain ⟨hHd, hMH⟩ := HH.out
    clear HH HCL
    subst hHd
    by_cases h4 : 4 < n
    · have C4' : Aside (Calls Try.prog 18 #[.slice (some ⟨w'.heap.size, 0, none⟩) 4 n] w1 fun e w'' => e = .returned (.bool M) ∧ w'' = w1) := C4.out h4
      clear C4
      cases M <;> cases d1 <;> cases d2
      all_goals first
        | (exfalso; have := hMH rfl; cases this; done)
        | (clear hMH
           go_wp2_with fail
           refine CN.out.mono ?_
           rintro e w2 ⟨rfl, rfl⟩
           go_wp2_with fail
           refine C4'.out.mono ?_
           rintro e w3 ⟨rfl, rfl⟩
           go_wp2_with fail
           refine C3'.out.mono ?_
           rintro e w4 ⟨rfl, rfl⟩
           go_wp2
           go_ret
           exact ⟨rfl, hbel⟩)
    · clear C4
      cases M <;> cases d1 <;> cases d2
      all_goals first
        | (exfalso; have := hMH rfl; cases this; done)
        | (clear hMH
           go_wp2_with fail
           refine CN.out.mono ?_
           rintro e w2 ⟨rfl, rfl⟩
           go_wp2_with fail
           refine CN.out.mono ?_
           rintro e w3 ⟨rfl, rfl⟩
           go_wp2_with fail
           refine C3'.out.mono ?_
           rintro e w4 ⟨rfl, rfl⟩
           go_wp2
           go_ret
           exact ⟨rfl, hbel⟩)

theorem at_nil (w : World) : Calls Try.prog 5 #[.slice none 0 0] w fun e w' => e = .returned (.bool true) ∧ Below w.heap.size w w' := by
  have heq := fun w => Lib.run_eql_slice_nil (P := Try.prog) w 39 5 none 0 0 0 0 Try.underlying39
  go_enter Try.func5, Try.ntmps5
  go_wp2
  go_ret
  exact ⟨rfl, Below.refl _ _⟩
theorem too_long (a : Option Addr) (n cap : Nat) (w : World) (hm : n ≤ maxLen) (hs : ¬ n ≤ 1048576) :
    Calls Try.prog 5 #[.slice a n cap] w fun e w' => e = .returned (.bool true) ∧ Below w.heap.size w w' := by
  go_enter Try.func5, Try.ntmps5
  go_wp2_with fail
  refine (fits_no _ _ _ _ hm hs).mono ?_
  rintro e w' ⟨rfl, rfl⟩
  go_wp2
  go_ret
  exact ⟨rfl, Below.refl _ _⟩
end fnDocumentMarkerFourBytesDecide
end Go.Proofs.Qxb6604637a
