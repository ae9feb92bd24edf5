/-
  TABLES OF 256 BOOLS in memory: the block of an array variable of type [256]bool (32), as a function.
-/
import Derived.Test.Qxb6603704aAtomWalk
import Derived.Deep.WholeRow
import Derived.Deep.MidRow
import Derived.Laws.ResultCell
namespace Go.Proofs.Qxb6603704a
open Go.RowKit

/-- The cells of a table. -/
def tab (f : Nat → Bool) : Array Value := Array.ofFn (n := 256) fun i => Value.bool (f i.val)
theorem tab_size (f : Nat → Bool) : (tab f).size = 256 := by simp [tab]
theorem tab_at (f : Nat → Bool) (j : Nat) (h : j < 256) : (tab f)[j]? = some (.bool (f j)) := by
  unfold tab; rw [Array.getElem?_ofFn, dif_pos h]
theorem tab_ext (f g : Nat → Bool) (h : ∀ j, j < 256 → f j = g j) : tab f = tab g := by
  unfold tab
  congr 1
  funext i
  rw [h i.val i.isLt]
theorem tab_set (f : Nat → Bool) (j : Nat) (b : Bool) : (tab f).setIfInBounds j (.bool b) = tab (fun i => if i = j then b else f i) := by
  apply Array.ext_getElem?
  intro i
  by_cases hi : i < 256
  · rw [tab_at _ i hi, Array.getElem?_setIfInBounds]
    by_cases hj : j = i
    · subst hj; rw [if_pos rfl, if_pos (by rw [tab_size]; exact hi), if_pos rfl]
    · rw [if_neg hj, tab_at f i hi, if_neg (fun h => hj h.symm)]
  · rw [Array.getElem?_eq_none (by rw [Array.size_setIfInBounds, tab_size]; omega), Array.getElem?_eq_none (by rw [tab_size]; omega)]
theorem tab_one (f : Nat → Bool) : (tab f).all (·.oneCell') = true := by
  rw [Array.all_eq_true]
  intro i hi
  have h := tab_at f i (by rw [tab_size] at hi; exact hi)
  rw [Array.getElem?_eq_getElem hi] at h
  rw [Option.some.inj h]; rfl
theorem tab_false : Array.replicate 256 (Value.bool false) = tab (fun _ => false) := by
  apply Array.ext_getElem?
  intro i
  by_cases hi : i < 256
  · rw [tab_at _ i hi, Array.getElem?_replicate, if_pos hi]
  · rw [Array.getElem?_eq_none (by rw [Array.size_replicate]; omega), Array.getElem?_eq_none (by rw [tab_size]; omega)]

theorem info32 : (Try.prog.info? 32).map (fun i => (i.zero, i.size)) = some (some (.agg (Array.replicate 256 (.bool false))), 256) := by kernel_rfl
theorem zero32 (w : World) : (zeroValue 32).run Try.prog w = .ok (.agg (tab fun _ => false)) w := by
  rw [← tab_false]; exact (zero_of_info info32).1 w
theorem size32 (f : Nat → Bool) : (Try.prog.info? 32).map (·.size) = some (tab f).size := by
  rw [tab_size]; exact (zero_of_info info32).2

/-- Block b holds the table f. -/
def HasTab (w : World) (b : Nat) (f : Nat → Bool) : Prop := w.heap[b]? = some (.cells (tab f) 32 (0, 0))
theorem HasTab.cell {w : World} {b : Nat} {f : Nat → Bool} (h : HasTab w b f) (j : Nat) (hj : j < 256) : w.cell? ⟨b, j, none⟩ = some (.bool (f j)) := by
  rw [cell_of_row w b j _ _ _ h, tab_at f j hj]
theorem HasTab.free {w : World} {b : Nat} {f : Nat → Bool} (h : HasTab w b f) (j : Nat) : w.frozen? ⟨b, j, none⟩ = false := frozen_of_row w b j _ _ h
theorem HasTab.lt {w : World} {b : Nat} {f : Nat → Bool} (h : HasTab w b f) : b < w.heap.size := (Array.getElem?_eq_some_iff.1 h).1
theorem HasTab.alloc {w : World} {b : Nat} {f : Nat → Bool} (h : HasTab w b f) (o : Obj) : HasTab (w.alloc o) b f := by
  unfold HasTab; rw [heap_alloc_old w o h.lt]; exact h
theorem HasTab.new (w : World) (f : Nat → Bool) : HasTab (w.alloc (.cells (tab f) 32)) w.heap.size f := heap_alloc_new w _
theorem HasTab.drewN {w : World} {b : Nat} {f : Nat → Bool} (h : HasTab w b f) (n : Nat) : HasTab (w.drewN n) b f := h
theorem HasTab.grown {w w' : World} {b : Nat} {f : Nat → Bool} {row : Option Nat} (h : HasTab w b f) (hg : w.grownBy w' row) (hne : some b ≠ row) : HasTab w' b f := by
  unfold HasTab; rw [hg.block b h.lt hne]; exact h
theorem HasTab.below {w w' : World} {b B : Nat} {f : Nat → Bool} (h : HasTab w b f) (hb : Below B w w') (hlt : b < B) : HasTab w' b f := by
  unfold HasTab; rw [hb.block b hlt]; exact h
theorem HasTab.set {w : World} {b : Nat} {f : Nat → Bool} (h : HasTab w b f) (j : Nat) (x : Bool) : HasTab (w.setCell ⟨b, j, none⟩ (.bool x)) b (fun i => if i = j then x else f i) := by
  unfold HasTab
  rw [heap_setCell_same w b j _ _ _ h, tab_set]
theorem HasTab.other {w : World} {b : Nat} {f : Nat → Bool} (h : HasTab w b f) (a : Addr) (v : Value) (hne : b ≠ a.block) : HasTab (w.setCell a v) b f := by
  unfold HasTab; rw [heap_setCell_other w a b v hne]; exact h
theorem HasTab.congr {w : World} {b : Nat} {f g : Nat → Bool} (h : HasTab w b f) (e : ∀ j, j < 256 → f j = g j) : HasTab w b g := by
  unfold HasTab; rw [← tab_ext f g e]; exact h
theorem tab_one' (f : Nat → Bool) : ∀ v ∈ (tab f).toList, v.oneCell' = true := by
  intro v hv
  have h := tab_one f
  rw [Array.all_eq_true_iff_forall_mem] at h
  exact h v (by simpa using hv)
theorem tab_len (f : Nat → Bool) : (tab f).toList.length = 256 := by rw [Array.length_toList, tab_size]
theorem size32' (f : Nat → Bool) : (Try.prog.info? 32).map (·.size) = some (tab f).toList.length := by rw [Array.length_toList]; exact size32 f
theorem HasTab.range {w : World} {b : Nat} {f : Nat → Bool} (h : HasTab w b f) : w.rangeAt b 0 (tab f).toList := by
  intro j v hv
  rw [Nat.zero_add, cell_of_row w b j _ _ _ h]
  simpa using hv
theorem HasTab.there {w : World} {b : Nat} {f : Nat → Bool} (h : HasTab w b f) : w.there b 0 256 := by
  intro j hj
  rw [Nat.zero_add, h.cell j hj]
  exact ⟨rfl, h.free j⟩
theorem HasTab.load_after {w : World} {b : Nat} {f : Nat → Bool} (h : HasTab w b f) (g : Nat → Bool) (j : Nat) (hj : j < 256) : (w.setCells b 0 (tab g).toList).cell? ⟨b, j, none⟩ = some (.bool (g j)) := by
  have hr := World.rangeAt_setCells_same w b 0 (tab g).toList (by rw [tab_len]; exact h.there) j (.bool (g j)) (by rw [Array.getElem?_toList]; exact tab_at g j hj)
  rw [Nat.zero_add] at hr
  exact hr
/-- The whole table out of its block, and into it. -/
theorem HasTab.loadVar {w : World} {b : Nat} {f : Nat → Bool} (h : HasTab w b f) : (loadVar 32 ⟨b, 0, none⟩).run Try.prog w = .ok (.agg (tab f)) w :=
  run_loadVar_row w b 32 32 (tab f) (0, 0) _ h Try.underlying32 rfl (size32 f)
theorem HasTab.loadAt {w : World} {b : Nat} {f : Nat → Bool} (h : HasTab w b f) : (Instr.loadAt 32 (.pointer (some ⟨b, 0, none⟩))).run Try.prog w = .ok (.agg (tab f)) w := by
  simp only [Instr.loadAt, Instr.sureAddr, Sem.run_bind, Sem.run_pure, Result.andThen]
  exact h.loadVar
theorem HasTab.storeVar {w : World} {b : Nat} {f : Nat → Bool} (h : HasTab w b f) (g : Nat → Bool) : (storeVar 32 ⟨b, 0, none⟩ (.agg (tab g))).run Try.prog w = .ok () (w.setRow b (tab g)) :=
  run_storeVar_row w b 32 32 (tab f) (tab g) h (size32 g) (by rw [tab_size, tab_size]) (tab_one g)
theorem HasTab.storeAt {w : World} {b : Nat} {f : Nat → Bool} (h : HasTab w b f) (g : Nat → Bool) : (Instr.storeAt 32 (.pointer (some ⟨b, 0, none⟩)) (.agg (tab g))).run Try.prog w = .ok () (w.setRow b (tab g)) := by
  simp only [Instr.storeAt, Instr.sureAddr, Sem.run_bind, Sem.run_pure, Result.andThen]
  exact h.storeVar g
end Go.Proofs.Qxb6603704a
