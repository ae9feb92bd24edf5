/-
  ROWS OF BOOLS that the call itself made, as functions.
-/
import Derived.Test.Qxb6603704aTokWalk
namespace Go.Proofs.Qxb6603704a
open Go.RowKit

def brow (n : Nat) (f : Nat → Bool) : Array Value := Array.ofFn (n := n) fun i => Value.bool (f i.val)
theorem brow_size (n : Nat) (f : Nat → Bool) : (brow n f).size = n := by simp [brow]
theorem brow_at (n : Nat) (f : Nat → Bool) (j : Nat) (h : j < n) : (brow n f)[j]? = some (.bool (f j)) := by
  unfold brow; rw [Array.getElem?_ofFn, dif_pos h]
theorem brow_ext (n : Nat) (f g : Nat → Bool) (h : ∀ j, j < n → f j = g j) : brow n f = brow n g := by
  unfold brow
  congr 1
  funext i
  rw [h i.val i.isLt]
theorem brow_set (n : Nat) (f : Nat → Bool) (j : Nat) (b : Bool) : (brow n f).setIfInBounds j (.bool b) = brow n (fun i => if i = j then b else f i) := by
  apply Array.ext_getElem?
  intro i
  by_cases hi : i < n
  · rw [brow_at _ _ i hi, Array.getElem?_setIfInBounds]
    by_cases hj : j = i
    · subst hj; rw [if_pos rfl, if_pos (by rw [brow_size]; exact hi), if_pos rfl]
    · rw [if_neg hj, brow_at _ f i hi, if_neg (fun h => hj h.symm)]
  · rw [Array.getElem?_eq_none (by rw [Array.size_setIfInBounds, brow_size]; omega), Array.getElem?_eq_none (by rw [brow_size]; omega)]

/-- Block b is a row of n bools, f. -/
def HasB (w : World) (b n : Nat) (f : Nat → Bool) : Prop := w.heap[b]? = some (.cells (brow n f) 4 (0, 0))
theorem HasB.cell {w : World} {b n : Nat} {f : Nat → Bool} (h : HasB w b n f) (j : Nat) (hj : j < n) : w.cell? ⟨b, j, none⟩ = some (.bool (f j)) := by
  rw [cell_of_row w b j _ _ _ h, brow_at n f j hj]
theorem HasB.free {w : World} {b n : Nat} {f : Nat → Bool} (h : HasB w b n f) (j : Nat) : w.frozen? ⟨b, j, none⟩ = false := frozen_of_row w b j _ _ h
theorem HasB.lt {w : World} {b n : Nat} {f : Nat → Bool} (h : HasB w b n f) : b < w.heap.size := (Array.getElem?_eq_some_iff.1 h).1
theorem HasB.grown {w w' : World} {b n : Nat} {f : Nat → Bool} {row : Option Nat} (h : HasB w b n f) (hg : w.grownBy w' row) (hne : some b ≠ row) : HasB w' b n f := by
  unfold HasB; rw [hg.block b h.lt hne]; exact h
theorem HasB.set {w : World} {b n : Nat} {f : Nat → Bool} (h : HasB w b n f) (j : Nat) (x : Bool) : HasB (w.setCell ⟨b, j, none⟩ (.bool x)) b n (fun i => if i = j then x else f i) := by
  unfold HasB
  rw [heap_setCell_same w b j _ _ _ h, brow_set]
theorem HasB.other {w : World} {b n : Nat} {f : Nat → Bool} (h : HasB w b n f) (a : Addr) (v : Value) (hne : b ≠ a.block) : HasB (w.setCell a v) b n f := by
  unfold HasB; rw [heap_setCell_other w a b v hne]; exact h
theorem HasB.congr {w : World} {b n : Nat} {f g : Nat → Bool} (h : HasB w b n f) (e : ∀ j, j < n → f j = g j) : HasB w b n g := by
  unfold HasB; rw [← brow_ext n f g e]; exact h
/-- Just made. -/
theorem hasB_made {w : World} {B g n cap : Nat} (h : w.ownsRow B 4 1 (.slice (some ⟨g, 0, none⟩) n cap) n (List.replicate n (.bool false))) (hc : cap = n) : HasB w g n (fun _ => false) := by
  subst hc
  rcases h.2 with ⟨h', _⟩ | ⟨g', cap', cur, h', _, hg, _, _, hsz, htake⟩
  · simp at h'
  · simp only [Value.slice.injEq, Option.some.injEq, Addr.mk.injEq, and_true, true_and] at h'
    obtain ⟨rfl, rfl⟩ := h'
    unfold HasB
    rw [hg]
    have e : cur = brow cap (fun _ => false) := by
      rw [List.take_of_length_le (by rw [Array.length_toList]; omega)] at htake
      apply Array.ext_getElem?
      intro i
      have hi : cur[i]? = (List.replicate cap (Value.bool false))[i]? := by rw [← htake, Array.getElem?_toList]
      rw [hi]
      by_cases hl : i < cap
      · rw [brow_at _ _ i hl, List.getElem?_replicate, if_pos hl]
      · rw [List.getElem?_replicate, if_neg hl, Array.getElem?_eq_none (by rw [brow_size]; omega)]
    rw [e]
end Go.Proofs.Qxb6603704a
