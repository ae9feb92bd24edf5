/-
  THE WALKS of FnDocumentMarkerFourBytesDecide (function 5) and of what it calls.
-/
import Derived.Test.Qxb6604637aRows
import Derived.WalkKit
import Derived.WalkSpells
import Derived.WalkLawsBesides
import Derived.Deep.DeepCutAuto
import Derived.Laws.CopyOwn
import Derived.Laws.BytesArg
namespace Go.Proofs.Qxb6604637a
open Go.RowKit

theorem info5' : (Try.prog.info? 5).map (fun i => (i.zero, i.size, i.bytes)) = some (some (.int .u8 0), 1, 1) := by kernel_rfl
theorem size5 : (Try.prog.info? 5).map (·.size) = some 1 := by kernel_rfl
theorem ret_bool {a b : Bool} (h : a = b) : Ending.returned (.bool a) = .returned (.bool b) := by rw [h]

/-! ### isYAMLSpace -/
def spB (c : Int) : Bool := decide (c = 32 ∨ c = 9 ∨ c = 10 ∨ c = 13)
theorem space_any (c : Int) (w : World) :
    Calls Try.prog 23 #[.int .u8 c] w fun e w' => e = .returned (.bool (spB c)) ∧ w' = w := by
  by_cases h1 : c = 32
  · have h1' : (c == 32) = true := beq_iff_eq.mpr h1
    have H : Aside (spB c = true) := decide_eq_true (Or.inl h1)
    clear h1
    go_enter Try.func23, Try.ntmps23
    go_wp2
    go_ret
    exact ⟨ret_bool H.out.symm, rfl⟩
  · have h1' : (c == 32) = false := beq_eq_false_iff_ne.mpr h1
    by_cases h2 : c = 9
    · have h2' : (c == 9) = true := beq_iff_eq.mpr h2
      have H : Aside (spB c = true) := decide_eq_true (Or.inr (Or.inl h2))
      clear h1 h2
      go_enter Try.func23, Try.ntmps23
      go_wp2
      go_ret
      exact ⟨ret_bool H.out.symm, rfl⟩
    · have h2' : (c == 9) = false := beq_eq_false_iff_ne.mpr h2
      by_cases h3 : c = 10
      · have h3' : (c == 10) = true := beq_iff_eq.mpr h3
        have H : Aside (spB c = true) := decide_eq_true (Or.inr (Or.inr (Or.inl h3)))
        clear h1 h2 h3
        go_enter Try.func23, Try.ntmps23
        go_wp2
        go_ret
        exact ⟨ret_bool H.out.symm, rfl⟩
      · have h3' : (c == 10) = false := beq_eq_false_iff_ne.mpr h3
        have H : Aside (spB c = (c == 13)) := by
          unfold spB
          by_cases h4 : c = 13
          · rw [decide_eq_true (Or.inr (Or.inr (Or.inr h4))), beq_iff_eq.mpr h4]; exact rfl
          · rw [decide_eq_false (by omega), beq_eq_false_iff_ne.mpr h4]; exact rfl
        clear h1 h2 h3
        go_enter Try.func23, Try.ntmps23
        go_wp2
        go_ret
        exact ⟨ret_bool H.out.symm, rfl⟩

theorem own_cells {w : World} {base g n : Nat} {e : TypeId} {xs : List Value} (h : w.ownsRow base e 1 (.slice (some ⟨g, 0, none⟩) n n) n xs) : ∃ cur : List Value, w.heap[g]? = some (.cells cur.toArray e (0, 0)) ∧ cur.length = n := by
  rcases h.2 with ⟨h', _⟩ | ⟨g', cap', cur, h', _, hg, _, _, hs, _⟩
  · simp at h'
  · simp only [Value.slice.injEq, Option.some.injEq, Addr.mk.injEq, and_true, true_and] at h'
    obtain ⟨rfl, rfl⟩ := h'
    exact ⟨cur.toList, by simpa using hg, by simpa using hs⟩

/-! ### zzCloneBytes -/
set_option maxHeartbeats 400000 in
theorem clone_any (x : Addr) (n cap : Nat) (zs : List Int) (w : World) (hn : n ≤ 1048576) (hzs : n ≤ zs.length) (hcell : ∀ i, i < n → w.cell? (x.add i) = some (.int .u8 (zs.getD i 0))) :
    Calls Try.prog 17 #[.slice (some x) n cap] w fun e w' => e = .returned (.slice (some ⟨w.heap.size, 0, none⟩) n n) ∧ (∀ i, i < n → w'.cell? ⟨w.heap.size, i, none⟩ = some (.int .u8 (zs.getD i 0))) ∧ Below w.heap.size w w' := by
  obtain ⟨i5, hi5, hz50, hz51, hz52⟩ := info_parts info5'
  have heq := fun w => Lib.run_eql_slice_nil (P := Try.prog) w 39 5 (some x) n cap 0 0 Try.underlying39
  have HC : Aside (∀ i, i < n → w.cell? (x.add i) = some (.int .u8 (zs.getD i 0))) := hcell
  clear hcell
  have hlen : ((zs.take n).map (Value.int .u8)).length = n := by simp; omega
  have hone : ∀ v ∈ (zs.take n).map (Value.int .u8), v.oneCell' = true := by intro v hv; obtain ⟨z, _, rfl⟩ := List.mem_map.1 hv; rfl
  have HSRC : Aside (∀ w1 : World, Below w.heap.size w w1 → ∀ j v, ((zs.take n).map (Value.int .u8))[j]? = some v → w1.cell? (x.add j) = some v) := by
    intro w1 hb j v hv
    have hj : j < n := by
      rcases Nat.lt_or_ge j n with h | h
      · exact h
      · rw [List.getElem?_eq_none (by omega)] at hv; cases hv
    have hc := HC.out j hj
    rw [hb.cell (p := x.add j) (block_lt_of_cell hc), hc, ← hv]
    simp [hj, show j < zs.length by omega]
  generalize hcs : (zs.take n).map (Value.int .u8) = cs at *
  have HCS : Aside ((zs.take n).map (Value.int .u8) = cs) := hcs
  clear hcs
  go_enter Try.func17, Try.ntmps17
  go_wp2_with (first | (at_make; refine wpList_make_full _ rfl (.tmp 7) (.tmp 7) 39 rfl w.heap.size 5 i5 (.int .u8 0) 1 Try.underlying39 hi5 hz50 hz51 _ _ _ _ n rfl rfl rfl rfl (by rw [hz52]; omega) (by unfold maxLen; omega) (Nat.le_refl _) ?_; intro w1 hown1 hgrow1; have hb1 := (Below.refl w.heap.size w).grown hgrow1 (Nat.le_refl _) (by intro k hk; cases hk); obtain ⟨cur, hg, hcl⟩ := own_cells hown1; clear hown1 hgrow1) | (refine wpList_copy_splice rfl (.tmp 9) (.tmp 10) 39 39 rfl 5 Try.underlying39 size5 (some ⟨w.heap.size, 0, none⟩) (some x) n n n cap rfl rfl w.heap.size 0 cur 5 hg cs (by rw [hlen]; exact (Nat.min_self n).symm) (fun _ => ⟨rfl, x, rfl, HSRC.out w1 hb1⟩) (by omega) hone w.heap.size w hb1 (Nat.le_refl _) ?_; intro w2 hcells hb2))
  go_ret
  refine ⟨rfl, ?_, hb2⟩
  intro i hi
  rw [cell_of_row w2 w.heap.size i _ _ _ hcells.out]
  have hsp : splice cur 0 cs = cs := by unfold splice; rw [List.take_zero, List.nil_append, List.drop_of_length_le (by omega), List.append_nil]
  rw [hsp, ← HCS.out]
  simp [hi, show i < zs.length by omega]
/-! ### documentMarker -/
def str3 (z : Nat → Int) : ByteArray := strOfNums [z 0, z 1, z 2]
def headB (z : Nat → Int) : Bool := ((str3 z).toList == [45, 45, 45]) || ((str3 z).toList == [46, 46, 46])
def markB (n : Nat) (z : Nat → Int) : Bool := decide (3 ≤ n) && (headB z && (decide (n = 3) || spB (z 3)))

theorem conv3 (b c : Nat) (z : Nat → Int) (w : World) (hcell : ∀ i, i < 3 → w.cell? ⟨b, i, none⟩ = some (.int .u8 (z i))) :
    (convert 39 9 (.slice (some ⟨b, 0, none⟩) 3 c)).run Try.prog w = .ok (.string (str3 z)) w := by
  refine run_convert_bytes_arg w 39 5 Try.underlying39 Try.underlying5 b 0 3 c [z 0, z 1, z 2] rfl ?_ 9 Try.underlying9
  intro i hi
  rw [Nat.zero_add, hcell i hi]
  match i, hi with
  | 0, _ => rfl
  | 1, _ => rfl
  | 2, _ => rfl

set_option maxHeartbeats 400000 in
theorem mark_any (b n cap : Nat) (z : Nat → Int) (w : World) (hn : n ≤ cap) (hcap : cap ≤ 1048576) (hcell : ∀ i, i < n → w.cell? ⟨b, i, none⟩ = some (.int .u8 (z i))) :
    Calls Try.prog 21 #[.slice (some ⟨b, 0, none⟩) n cap] w fun e w' => e = .returned (.bool (markB n z)) ∧ w' = w := by
  by_cases h3 : 3 ≤ n
  · have h3' : decide ((3 : Int) ≤ (n : Int)) = true := decide_eq_true (by omega)
    have hcv := conv3 b cap z w (fun i hi => hcell i (by omega))
    obtain ⟨d1, hd1⟩ : ∃ d1, ((str3 z).toList == [45, 45, 45]) = d1 := ⟨_, rfl⟩
    obtain ⟨d2, hd2⟩ : ∃ d2, ((str3 z).toList == [46, 46, 46]) = d2 := ⟨_, rfl⟩
    by_cases h4 : n = 3
    · subst h4
      have H : Aside (markB 3 z = (d1 || d2)) := by unfold markB headB; rw [hd1, hd2]; exact (by simp : (decide (3 ≤ 3) && ((d1 || d2) && (decide (3 = 3) || spB (z 3)))) = (d1 || d2))
      clear hcell
      cases d1 <;> cases d2 <;>
      · go_enter Try.func21, Try.ntmps21
        go_wp2
        go_ret
        exact ⟨ret_bool H.out.symm, rfl⟩
    · have h4' : ((n : Int) == 3) = false := beq_eq_false_iff_ne.mpr (by omega)
      have hc3 := hcell 3 (by omega)
      have h3i : (3 : Int) < n := by omega
      have H : Aside (markB n z = ((d1 || d2) && spB (z 3))) := by unfold markB headB; rw [hd1, hd2, decide_eq_true h3, decide_eq_false h4]; exact (by simp : (true && ((d1 || d2) && (false || spB (z 3)))) = ((d1 || d2) && spB (z 3)))
      clear hcell h4
      cases d1 <;> cases d2 <;>
      · go_enter Try.func21, Try.ntmps21
        go_wp2_with (go_at_call 23; refine (space_any _ _).mono ?_; rintro e w' ⟨rfl, rfl⟩)
        go_ret
        exact ⟨ret_bool (by rw [H.out]; simp), rfl⟩
  · have h3' : decide ((3 : Int) ≤ (n : Int)) = false := decide_eq_false (by omega)
    have H : Aside (markB n z = false) := by unfold markB; rw [decide_eq_false h3]; exact rfl
    clear hcell
    go_enter Try.func21, Try.ntmps21
    go_wp2
    go_ret
    exact ⟨ret_bool H.out.symm, rfl⟩
theorem zzmark_any (b n cap : Nat) (z : Nat → Int) (w : World) (hn : n ≤ cap) (hcap : cap ≤ 1048576) (hcell : ∀ i, i < n → w.cell? ⟨b, i, none⟩ = some (.int .u8 (z i))) :
    Calls Try.prog 18 #[.slice (some ⟨b, 0, none⟩) n cap] w fun e w' => e = .returned (.bool (markB n z)) ∧ w' = w := by
  have HM : Aside (∀ w', w' = w → Calls Try.prog 21 #[.slice (some ⟨b, 0, none⟩) n cap] w' fun e w'' => e = .returned (.bool (markB n z)) ∧ w'' = w') := fun w' h => by subst h; exact mark_any b n cap z w' hn hcap hcell
  clear hcell
  go_enter Try.func18, Try.ntmps18
  go_wp2_with (go_at_call 21; refine (HM.out _ rfl).mono ?_; rintro e w' ⟨rfl, rfl⟩)
  go_ret
  exact ⟨rfl, rfl⟩
theorem zzmark_nil (w : World) : Calls Try.prog 18 #[.slice none 0 0] w fun e w' => e = .returned (.bool false) ∧ w' = w := by
  go_enter Try.func18, Try.ntmps18
  go_wp2
  go_ret
  exact ⟨rfl, rfl⟩
end Go.Proofs.Qxb6604637a
