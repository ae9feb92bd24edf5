/-
  LAWS for whole tables of 256 bools inside a walk: loaded, stored, put into a slice literal of one element.
-/
import Derived.Test.Qxb6603704aTab
import Derived.Great.Walk
namespace Go.Proofs.Qxb6603704a
open Go.RowKit

theorem wpList_load_tab {ops : Array Oper} {rest : List Oper} {o : Oper} {a : Act} {w : World} {Q : Exit → Act → World → Prop} (hgd : o.guard = none) (x : Operand) (ho : o.op = .load 32 x)
    (b : Nat) (hx : a.eval x = .pointer (some ⟨b, 0, none⟩)) (f : Nat → Bool) (hf : HasTab w b f)
    (h : wpList Try.prog ops Q rest (a.put o.dst (.agg (tab f))) w) : wpList Try.prog ops Q (o :: rest) a w :=
  wpList_load_row hgd 32 x ho b hx 32 (tab f) (0, 0) _ hf Try.underlying32 rfl (size32 f) h

theorem wpList_store_tab {ops : Array Oper} {rest : List Oper} {o : Oper} {a : Act} {w : World} {Q : Exit → Act → World → Prop} (hgd : o.guard = none) (x y : Operand) (ho : o.op = .store 32 x y)
    (b : Nat) (hx : a.eval x = .pointer (some ⟨b, 0, none⟩)) (f g : Nat → Bool) (hy : a.eval y = .agg (tab g)) (hf : HasTab w b f)
    (h : ∀ w', HasTab w' b g → w.grownBy w' (some b) → wpList Try.prog ops Q rest (a.put o.dst undef) w') : wpList Try.prog ops Q (o :: rest) a w :=
  wpList_store_row hgd 32 x y ho b (tab g) hx hy 32 (tab f) hf (size32 g) (by rw [tab_size, tab_size]) (tab_one g)
    (h _ (setRow_heap w b _ _ _ _ hf) ⟨rfl, rfl, rfl, by simp, fun k _ hne => setRow_other w b k _ (fun e => hne (by rw [e]))⟩)

/-- The parts laid one after the other. -/
theorem fold_set : ∀ (l : List Value) (k : Nat) (Z : Array Value) (i : Nat), k + l.length ≤ Z.size →
    ((l.zipIdx k).foldl (fun cs p => cs.setIfInBounds (0 + p.2) p.1) Z)[i]? = if k ≤ i ∧ i < k + l.length then l[i - k]? else Z[i]?
  | [], k, Z, i, _ => by rw [if_neg (by simp)]; rfl
  | v :: l, k, Z, i, h => by
    rw [List.length_cons] at h
    rw [List.zipIdx_cons, List.foldl_cons, fold_set l (k + 1) _ i (by rw [Array.size_setIfInBounds]; omega), List.length_cons]
    by_cases e : i = k
    · subst e
      rw [if_neg (by omega), if_pos (by omega), Nat.sub_self, Nat.zero_add, Array.getElem?_setIfInBounds, if_pos rfl, if_pos (by omega)]
      rfl
    · by_cases h1 : k ≤ i ∧ i < k + (l.length + 1)
      · rw [if_pos h1, if_pos (by omega), show i - k = (i - (k + 1)) + 1 from by omega, List.getElem?_cons_succ]
      · rw [if_neg h1, if_neg (by omega), Array.getElem?_setIfInBounds, if_neg (by omega)]
theorem fold_all (C Z : Array Value) (h : C.size = Z.size) : C.zipIdx.foldl (fun cs p => cs.setIfInBounds (0 + p.2) p.1) Z = C := by
  apply Array.ext_getElem?
  intro i
  have hf := fold_set C.toList 0 Z i (by rw [Array.length_toList]; omega)
  have e : C.zipIdx.foldl (fun cs p => cs.setIfInBounds (0 + p.2) p.1) Z = (C.toList.zipIdx 0).foldl (fun cs p => cs.setIfInBounds (0 + p.2) p.1) Z := by
    rw [← Array.foldl_toList, Array.toList_zipIdx]
  rw [e, hf, Nat.zero_add, Array.length_toList]
  by_cases hi : i < C.size
  · rw [if_pos ⟨Nat.zero_le _, hi⟩, Nat.sub_zero, Array.getElem?_toList]
  · rw [if_neg (by omega), Array.getElem?_eq_none (by omega), Array.getElem?_eq_none (by omega)]

theorem fill_one (C Z : Array Value) (n : Nat) (h : C.size = n) (hz : Z.size = n) : Instr.fill (fun i => some (i * n, n)) Z [(0, .agg C)] = some C := by
  have hn : (decide (C.size ≠ n) || decide (0 * n + C.size > Z.size)) = false := by simp; omega
  have e : Instr.fill (fun i => some (i * n, n)) Z [(0, .agg C)] = if (decide (C.size ≠ n) || decide (0 * n + C.size > Z.size)) = true then none else some (C.zipIdx.foldl (fun cs p => cs.setIfInBounds (0 * n + p.2) p.1) Z) := rfl
  rw [e, if_neg (by rw [hn]; simp), Nat.zero_mul, fold_all C Z (by omega)]
theorem built (f : Nat → Bool) : Try.prog.builtSlice 32 1 [(0, .agg (tab f))] = some (tab f) := by
  have hi := info32
  unfold Program.builtSlice
  cases hq : Try.prog.info? 32 with
  | none => rw [hq] at hi; cases hi
  | some i =>
    rw [hq] at hi
    simp only [Option.map_some, Option.some.injEq, Prod.mk.injEq] at hi
    obtain ⟨h1, h2⟩ := hi
    simp only [h1, h2]
    rw [if_neg (by omega)]
    exact fill_one (tab f) _ 256 (tab_size f) (by rw [Array.size_map, Array.size_range])

theorem wpList_build_tab {ops : Array Oper} {rest : List Oper} {o : Oper} {a : Act} {w : World} {Q : Exit → Act → World → Prop} (hgd : o.guard = none) (x : Operand) (ho : o.op = .buildSlice 24 1 #[(0, x)])
    (f : Nat → Bool) (hx : a.eval x = .agg (tab f))
    (h : wpList Try.prog ops Q rest (a.put o.dst (.slice (some ⟨w.heap.size, 0, none⟩) 1 1)) (w.alloc (.cells (tab f) 32))) : wpList Try.prog ops Q (o :: rest) a w :=
  Great.wpList_buildSliceTo hgd 24 32 1 #[(0, x)] ho w.heap.size rfl o.dst rfl Try.underlying24 (tab f) (by simp only [List.map_toArray, List.map_cons, List.map_nil, hx]; exact built f) h
end Go.Proofs.Qxb6603704a
