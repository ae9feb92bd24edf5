/-
  THE WALK of zzCloneRows (8).
-/
import Derived.Test.Qxb6604637aGuardWalk
import Derived.Laws.CopyOwn
import Derived.Deep.MidRow
namespace Go.Proofs.Qxb6604637a
open Go.RowKit

theorem RowAt.below {w w' : World} {r : Option Addr} {ss : List ByteArray} (h : RowAt w r ss) (hb : Below w.heap.size w w') : RowAt w' r ss := fun j hj => by
  obtain ⟨y, e, hc⟩ := h j hj
  exact ⟨y, e, (hb.cell (p := y.add j) (block_lt_of_cell hc)).trans hc⟩
theorem Grid.below {w w' : World} {a : Option Addr} {L : List (List ByteArray)} (h : Grid w a L) (hb : Below w.heap.size w w') : Grid w' a L := fun i hi => by
  obtain ⟨x, r, c, e, hc, hr⟩ := h i hi
  exact ⟨x, r, c, e, (hb.cell (p := x.add i) (block_lt_of_cell hc)).trans hc, hr.below hb⟩

theorem info25' : (Try.prog.info? 25).map (fun i => (i.zero, i.size, i.bytes)) = some (some (.slice none 0 0), 1, 24) := by kernel_rfl
theorem info9' : (Try.prog.info? 9).map (fun i => (i.zero, i.size, i.bytes)) = some (some (.string ByteArray.empty), 1, 16) := by kernel_rfl
theorem size9 : (Try.prog.info? 9).map (·.size) = some 1 := by kernel_rfl

/-- The first k rows are copied: each nil, or a block of its own behind A. -/
def Part (w : World) (A k : Nat) (L : List (List ByteArray)) (cs : List Value) : Prop := ∀ i, i < k → ∃ r, cs[i]? = some (.slice r (L.getD i []).length (L.getD i []).length) ∧
  ((r = none ∧ L.getD i [] = []) ∨ ∃ g, r = some ⟨g, 0, none⟩ ∧ A < g ∧ ∀ j, j < (L.getD i []).length → w.cell? ⟨g, j, none⟩ = some (.string ((L.getD i []).getD j ByteArray.empty)))
theorem Part.later {w w' : World} {A k : Nat} {L : List (List ByteArray)} {cs : List Value} (h : Part w A k L cs) (hw : ∀ g, A < g → g < w.heap.size → w'.heap[g]? = w.heap[g]?) : Part w' A k L cs := fun i hi => by
  obtain ⟨r, e, h1 | ⟨g, e2, hg, hc⟩⟩ := h i hi
  · exact ⟨r, e, Or.inl h1⟩
  · exact ⟨r, e, Or.inr ⟨g, e2, hg, fun j hj => by rw [World.cell?_of_block (hw g hg (block_lt_of_cell (hc j hj)))]; exact hc j hj⟩⟩
theorem own_cells' {w : World} {base g n : Nat} {e : TypeId} {xs : List Value} (h : w.ownsRow base e 1 (.slice (some ⟨g, 0, none⟩) n n) n xs) : ∃ cur : List Value, w.heap[g]? = some (.cells cur.toArray e (0, 0)) ∧ cur.length = n := by
  rcases h.2 with ⟨h', _⟩ | ⟨g', cap', cur, h', _, hg, _, _, hs, _⟩
  · simp at h'
  · simp only [Value.slice.injEq, Option.some.injEq, Addr.mk.injEq, and_true, true_and] at h'
    obtain ⟨rfl, rfl⟩ := h'
    exact ⟨cur.toList, by simpa using hg, by simpa using hs⟩

theorem below_grown {w w' : World} (h : Below w.heap.size w w') : w.grownBy w' none := ⟨h.os, h.tape, h.output, h.size, fun k hk _ => h.block k hk⟩
theorem own_below {w w' : World} {base n : Nat} {e : TypeId} {size : Nat} {v : Value} {xs : List Value} (h : w.ownsRow base e size v n xs) (hb : Below w.heap.size w w') : w'.ownsRow base e size v n xs :=
  h.kept (below_grown hb) (by cases hv : v.ownBlock <;> simp)

set_option maxRecDepth 100000 in
set_option maxHeartbeats 800000 in
theorem clone_some (x : Addr) (cap : Nat) (L : List (List ByteArray)) (w : World) (hg : Grid w (some x) L) (hs : Sm L) :
    Calls Try.prog 8 #[.slice (some x) L.length cap] w fun e w' => e = .returned (.slice (some ⟨w.heap.size, 0, none⟩) L.length L.length) ∧ Grid w' (some ⟨w.heap.size, 0, none⟩) L ∧ Below w.heap.size w w' := by
  obtain ⟨i25, hi25, hz250, hz251, hz252⟩ := info_parts info25'
  obtain ⟨i9, hi9, hz90, hz91, hz92⟩ := info_parts info9'
  have HG : Aside (Grid w (some x) L) := hg
  have HS : Aside (Sm L) := hs
  have hn := hs.1
  have heq := fun w => Lib.run_eql_slice_nil (P := Try.prog) w 22 25 (some x) L.length cap 0 0 Try.underlying22
  clear hg hs
  go_enter Try.func8, Try.ntmps8
  go_wp2_with (at_make; refine wpList_make_full _ rfl (.tmp 9) (.tmp 9) 22 rfl w.heap.size 25 i25 (.slice none 0 0) 1 Try.underlying22 hi25 hz250 hz251 _ _ _ _ L.length rfl rfl rfl rfl (by rw [hz252]; omega) (by unfold maxLen; omega) (Nat.le_refl _) ?_; intro w1 hown1 hgrow1)
  have hb1 : Below w.heap.size w w1 := (Below.refl _ _).grown hgrow1 (Nat.le_refl _) (by intro k hk; cases hk)
  clear heq hgrow1
  go_loopg [4] L.length (fun g i wr => ∃ (k : Nat) (cs : List Value), k ≤ L.length ∧ i = .int .i64 k ∧ Aside (L.length - k ≤ g ∧ Part wr w.heap.size k L cs ∧ ∀ j, k ≤ j → j < L.length → cs[j]? = some (.slice none 0 0)) ∧ wr.ownsRow w.heap.size 25 1 (.slice (some ⟨w.heap.size, 0, none⟩) L.length L.length) L.length cs ∧ Below w.heap.size w wr)
  case atStart =>
    refine ⟨0, _, Nat.zero_le _, rfl, ⟨Nat.le_refl _, fun i h => absurd h (Nat.not_lt_zero _), fun j _ hj => ?_⟩, hown1, hb1⟩
    have e : (madeCells (Value.slice none 0 0).cells (L.length * 1)).toList = List.replicate L.length (.slice none 0 0) := by rw [Nat.mul_one]; exact toList_madeCells_one _ _
    rw [e, List.getElem?_replicate, if_pos hj]
  case round =>
    clear hown1 hb1
    obtain ⟨k, cs, hk, rfl, hE, hown, hbel⟩ := hrel
    by_cases hlt : k < L.length
    · obtain ⟨x', r, c, e, hc0, hrow0⟩ := HG.out k hlt
      cases e
      have hc := (hbel.cell (p := x.add k) (block_lt_of_cell hc0)).trans hc0
      have hrl := (HS.out.2 k hlt).1
      obtain ⟨ss, hss⟩ : ∃ ss, ss = L.getD k [] := ⟨_, rfl⟩
      rw [← hss] at hc hrow0 hrl
      have HSS : Aside (ss = L.getD k []) := hss
      have hrow : RowAt wr r ss := hrow0.below hbel
      clear hc0 hrow0 hss
      have hA := (hown.lt _ rfl).2
      have hcA := hown.cellAt k (by omega)
      have hfA := hown.frozenAt k
      rw [hE.out.2.2 k (Nat.le_refl _) hlt] at hcA
      cases r with
      | none =>
        have hnil : ss = [] := by
          cases ss with
          | nil => rfl
          | cons s t => obtain ⟨y, e, _⟩ := hrow 0 (by simp); cases e
        subst hnil
        have heq2 := fun w => Lib.run_eql_slice_nil (P := Try.prog) w 25 9 none 0 c 0 0 Try.underlying25
        go_wp2
        go_roundg (L.length - (k + 1))
        case measure => have := hE.out.1; omega
        case rel =>
          refine ⟨k + 1, cs, by omega, by go_num, ⟨Nat.le_refl _, fun i hi => ?_, fun j hj hjl => hE.out.2.2 j (by omega) hjl⟩, hown, hbel⟩
          by_cases ei : i = k
          · subst ei
            rw [← HSS.out]
            exact ⟨none, hE.out.2.2 i (Nat.le_refl _) hlt, Or.inl ⟨rfl, rfl⟩⟩
          · exact hE.out.2.1 i (by omega)
      | some y =>
        have heq2 := fun w => Lib.run_eql_slice_nil (P := Try.prog) w 25 9 (some y) ss.length c 0 0 Try.underlying25
        have hlen : (ss.map Value.string).length = ss.length := by simp
        have hone : ∀ v ∈ ss.map Value.string, v.oneCell' = true := by intro v hv; obtain ⟨z, _, rfl⟩ := List.mem_map.1 hv; rfl
        have HROW : Aside (RowAt wr (some y) ss) := hrow
        have HSRC : Aside (∀ w2 : World, Below wr.heap.size wr w2 → ∀ j v, (ss.map Value.string)[j]? = some v → w2.cell? (y.add j) = some v) := by
          intro w2 hb j v hv
          have hj : j < ss.length := by
            rcases Nat.lt_or_ge j ss.length with h | h
            · exact h
            · rw [List.getElem?_eq_none (by simpa using h)] at hv; cases hv
          obtain ⟨y', e, hcy⟩ := hrow j hj
          cases e
          rw [hb.cell (p := y.add j) (block_lt_of_cell hcy), hcy, ← hv]
          simp [hj]
        clear hrow
        have hcw : ∀ w2, Below wr.heap.size wr w2 → w2.cell? ⟨w.heap.size, k, none⟩ = some (.slice none 0 0) ∧ w2.frozen? ⟨w.heap.size, k, none⟩ = false ∧ w2.cell? (x.add k) = some (.slice (some y) ss.length c) := fun w2 hb =>
          ⟨(hb.cell (p := ⟨w.heap.size, k, none⟩) hA).trans hcA, (hb.frozen (p := ⟨w.heap.size, k, none⟩) hA).trans hfA, (hb.cell (p := x.add k) (block_lt_of_cell hc)).trans hc⟩
        have HCW : Aside (∀ w2, Below wr.heap.size wr w2 → w2.cell? ⟨w.heap.size, k, none⟩ = some (.slice none 0 0) ∧ w2.frozen? ⟨w.heap.size, k, none⟩ = false ∧ w2.cell? (x.add k) = some (.slice (some y) ss.length c)) := hcw
        clear hcw hcA hfA
        go_wp2_with (first | (at_make; refine wpList_make_full _ rfl (.tmp 26) (.tmp 26) 25 rfl w.heap.size 9 i9 (.string ByteArray.empty) 1 Try.underlying25 hi9 hz90 hz91 _ _ _ _ ss.length rfl rfl rfl rfl (by rw [hz92]; omega) (by unfold maxLen; omega) hbel.size ?_; intro w2 hown2 hgrow2; have hb2 := (Below.refl wr.heap.size wr).grown hgrow2 (Nat.le_refl _) (by intro k hk; cases hk); obtain ⟨cur, hgc, hcl⟩ := own_cells' hown2; have hc2 := (HCW.out w2 hb2).2.2; clear hown2 hgrow2) | (refine wpList_copy_splice rfl (.tmp 28) (.tmp 32) 25 25 rfl 9 Try.underlying25 size9 (some ⟨wr.heap.size, 0, none⟩) (some y) ss.length ss.length ss.length c rfl rfl wr.heap.size 0 cur 9 hgc (ss.map Value.string) (by rw [hlen]; exact (Nat.min_self _).symm) (fun _ => ⟨rfl, y, rfl, HSRC.out w2 hb2⟩) (by omega) hone wr.heap.size wr hb2 (Nat.le_refl _) ?_; intro w3 hcells hb3; have hc3 := (HCW.out w3 hb3).1; have hf3 := (HCW.out w3 hb3).2.1))
        go_roundg (L.length - (k + 1))
        case measure => have := hE.out.1; omega
        case rel =>
          obtain ⟨hown3, _⟩ := (own_below hown hb3).stored k (.slice (some ⟨wr.heap.size, 0, none⟩) ss.length ss.length)
          have hcsl : cs.length = L.length := by have := hown.1; omega
          have hP3 := (hE.out.2.1.later (fun g _ hg => hb3.block g hg)).later (w' := w3.setCell ⟨w.heap.size, k, none⟩ (.slice (some ⟨wr.heap.size, 0, none⟩) ss.length ss.length)) (fun g hg _ => heap_setCell_other _ _ _ _ (by show g ≠ w.heap.size; omega))
          refine ⟨k + 1, _, by omega, by go_num, ⟨Nat.le_refl _, fun i hi => ?_, fun j hj hjl => ?_⟩, hown3, (hbel.trans (hb3.mono hbel.size)).setCell (Nat.le_refl _) _⟩
          · by_cases ei : i = k
            · subst ei
              rw [← HSS.out]
              refine ⟨some ⟨wr.heap.size, 0, none⟩, by rw [List.getElem?_set_self (by omega)], Or.inr ⟨wr.heap.size, rfl, hA, fun j hj => ?_⟩⟩
              rw [World.cell?_of_block (w := w3) (heap_setCell_other _ _ _ _ (by show wr.heap.size ≠ w.heap.size; omega)), cell_of_row _ _ _ _ _ _ hcells.out]
              simp [splice, hj, hcl]
            · obtain ⟨r, e, h⟩ := hP3 i (by omega)
              exact ⟨r, by rw [List.getElem?_set_ne (by omega)]; exact e, h⟩
          · rw [List.getElem?_set_ne (by omega)]; exact hE.out.2.2 j (by omega) hjl
    · obtain rfl : k = L.length := by omega
      go_wp2
      go_ret
      refine ⟨rfl, fun i hi => ?_, hbel⟩
      obtain ⟨r, e, h⟩ := hE.out.2.1 i hi
      refine ⟨⟨w.heap.size, 0, none⟩, r, (L.getD i []).length, rfl, ?_, ?_⟩
      · exact (hown.cells rfl i _ e)
      · rcases h with ⟨rfl, h0⟩ | ⟨g, rfl, hg, hc⟩
        · intro j hj; rw [h0] at hj; exact absurd hj (Nat.not_lt_zero _)
        · intro j hj
          refine ⟨_, rfl, ?_⟩
          rw [Addr.add_mid, Nat.zero_add]
          exact hc j hj

set_option maxRecDepth 100000 in
theorem clone_none (cap : Nat) (w : World) : Calls Try.prog 8 #[.slice none 0 cap] w fun e w' => e = .returned (.slice none 0 0) ∧ w' = w := by
  have heq := fun w => Lib.run_eql_slice_nil (P := Try.prog) w 22 25 none 0 cap 0 0 Try.underlying22
  go_enter Try.func8, Try.ntmps8
  go_wp2
  go_ret
  exact ⟨rfl, rfl⟩

/-- A clone lies behind all that was there. -/
theorem clone_any (a : Option Addr) (cap : Nat) (L : List (List ByteArray)) (w : World) (hg : Grid w a L) (hs : Sm L) :
    Calls Try.prog 8 #[.slice a L.length cap] w fun e w' => ∃ a', e = .returned (.slice a' L.length L.length) ∧ Grid w' a' L ∧ (∀ x, a' = some x → ∃ g, x = ⟨g, 0, none⟩ ∧ w.heap.size ≤ g) ∧ Below w.heap.size w w' := by
  cases a with
  | none =>
    have hl : L = [] := by
      cases L with
      | nil => rfl
      | cons s t => obtain ⟨y, _, _, e, _⟩ := hg 0 (by simp); cases e
    subst hl
    refine (clone_none cap w).mono ?_
    rintro e w' ⟨rfl, rfl⟩
    exact ⟨none, rfl, fun i hi => absurd hi (Nat.not_lt_zero _), (fun x h => by cases h), Below.refl _ _⟩
  | some x =>
    refine (clone_some x cap L w hg hs).mono ?_
    rintro e w' ⟨rfl, h1, h2⟩
    exact ⟨_, rfl, h1, (fun x h => by cases h; exact ⟨_, rfl, Nat.le_refl _⟩), h2⟩
end Go.Proofs.Qxb6604637a
