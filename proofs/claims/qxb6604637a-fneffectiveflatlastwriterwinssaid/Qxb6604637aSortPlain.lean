/-
  THE PLAIN LAW of the stable merge sort of indices by their keys. No Go in sight.
-/
import Derived.Sort.Walk0
import Derived.Test.Qxb6604637aMapPlain
namespace Go.Proofs.Qxb6604637a

def ky (ks : List ByteArray) (a : Nat) : List UInt8 := (ks.getD a ByteArray.empty).toList
/-- a stands ahead of b: a lesser key, or the same and a lesser index. -/
def le (ks : List ByteArray) (a b : Nat) : Bool := decide (ky ks a < ky ks b) || (decide (ky ks a = ky ks b) && decide (a ≤ b))
theorem le_iff (ks : List ByteArray) (a b : Nat) : le ks a b = true ↔ (ky ks a < ky ks b ∨ (ky ks a = ky ks b ∧ a ≤ b)) := by simp [le]
theorem lt_tri (x y : List UInt8) : x < y ∨ x = y ∨ y < x := by
  by_cases h : x < y
  · exact Or.inl h
  · by_cases h' : y < x
    · exact Or.inr (Or.inr h')
    · exact Or.inr (Or.inl (List.le_antisymm (List.not_lt.1 h') (List.not_lt.1 h)))
theorem le_trans' (ks : List ByteArray) (a b c : Nat) (h1 : le ks a b = true) (h2 : le ks b c = true) : le ks a c = true := by
  rw [le_iff] at *
  rcases h1 with h1 | ⟨e1, h1⟩
  · rcases h2 with h2 | ⟨e2, h2⟩
    · exact Or.inl (List.lt_trans h1 h2)
    · exact Or.inl (e2 ▸ h1)
  · rcases h2 with h2 | ⟨e2, h2⟩
    · exact Or.inl (e1 ▸ h2)
    · exact Or.inr ⟨e1.trans e2, Nat.le_trans h1 h2⟩
theorem le_total' (ks : List ByteArray) (a b : Nat) : (le ks a b || le ks b a) = true := by
  rw [Bool.or_eq_true, le_iff, le_iff]
  rcases lt_tri (ky ks a) (ky ks b) with h | h | h
  · exact Or.inl (Or.inl h)
  · rcases Nat.le_total a b with h2 | h2
    · exact Or.inl (Or.inr ⟨h, h2⟩)
    · exact Or.inr (Or.inr ⟨h.symm, h2⟩)
  · exact Or.inr (Or.inl h)

/-- What the Go text asks: the right one stands ahead of the left one. -/
def less (ks : List ByteArray) (a b : Nat) : Bool := Op.bytesLess (ky ks a) (ky ks b)
theorem less_iff (ks : List ByteArray) (a b : Nat) : less ks a b = true ↔ ky ks a < ky ks b := by unfold less; rw [bytesLess_eq]; simp
theorem less_le (ks : List ByteArray) {a b : Nat} (h : a < b) : less ks b a = !le ks a b := by
  rw [Bool.eq_iff_iff, less_iff, Bool.not_eq_true', Bool.eq_false_iff, ne_eq, le_iff]
  constructor
  · rintro h1 (h2 | ⟨h2, _⟩)
    · exact List.lt_asymm h1 h2
    · rw [h2] at h1; exact List.lt_irrefl _ h1
  · intro h1
    rcases lt_tri (ky ks a) (ky ks b) with h2 | h2 | h2
    · exact absurd (Or.inl h2) h1
    · exact absurd (Or.inr ⟨h2, Nat.le_of_lt h⟩) h1
    · exact h2

/-- The merge, by the sort's own order. -/
abbrev mrg (ks : List ByteArray) (l r : List Nat) : List Nat := List.merge l r (le ks)
theorem mrg_nil_right (ks : List ByteArray) (l : List Nat) : mrg ks l [] = l := by simp [mrg]
theorem mrg_nil_left (ks : List ByteArray) (l : List Nat) : mrg ks [] l = l := by simp [mrg]
theorem drop_getD (l : List Nat) (i : Nat) (h : i < l.length) : l.drop i = l.getD i 0 :: l.drop (i + 1) := by
  rw [List.drop_eq_getElem_cons h, List.getD_eq_getElem?_getD, List.getElem?_eq_getElem h]; rfl
theorem step_r {ks : List ByteArray} {l r xs T : List Nat} {i j : Nat} (hx : xs ++ mrg ks (l.drop i) (r.drop j) = T) (hi : i < l.length) (hj : j < r.length) (h : le ks (l.getD i 0) (r.getD j 0) = false) : (xs ++ [r.getD j 0]) ++ mrg ks (l.drop i) (r.drop (j + 1)) = T := by
  rw [← hx, drop_getD l i hi, drop_getD r j hj]; generalize l.getD i 0 = a at *; generalize r.getD j 0 = b at *; simp [mrg, h]
theorem step_l {ks : List ByteArray} {l r xs T : List Nat} {i j : Nat} (hx : xs ++ mrg ks (l.drop i) (r.drop j) = T) (hi : i < l.length) (hj : j < r.length) (h : le ks (l.getD i 0) (r.getD j 0) = true) : (xs ++ [l.getD i 0]) ++ mrg ks (l.drop (i + 1)) (r.drop j) = T := by
  rw [← hx, drop_getD l i hi, drop_getD r j hj]; generalize l.getD i 0 = a at *; generalize r.getD j 0 = b at *; simp [mrg, h]
theorem step_end {ks : List ByteArray} {l r xs T : List Nat} {i j : Nat} (hx : xs ++ mrg ks (l.drop i) (r.drop j) = T) (h : ¬ (i < l.length ∧ j < r.length)) : xs ++ l.drop i ++ r.drop j = T := by
  rw [← hx]
  by_cases hi : i < l.length
  · have : r.drop j = [] := List.drop_eq_nil_of_le (by omega)
    rw [this]; simp [mrg]
  · have : l.drop i = [] := List.drop_eq_nil_of_le (by omega)
    rw [this]; simp [mrg]

/-- The sorted indices: a permutation, in order. -/
def Srt (ks : List ByteArray) (xs ys : List Nat) : Prop := ys.Perm xs ∧ ys.Pairwise (fun a b => le ks a b = true)
theorem srt_small (ks : List ByteArray) (xs : List Nat) (h : xs.length ≤ 1) : Srt ks xs xs := by
  refine ⟨List.Perm.refl _, ?_⟩
  match xs, h with
  | [], _ => exact List.Pairwise.nil
  | [a], _ => exact List.pairwise_singleton _ _
theorem srt_merge {ks : List ByteArray} {xs l r : List Nat} (m : Nat) (hl : Srt ks (xs.take m) l) (hr : Srt ks (xs.drop m) r) : Srt ks xs (mrg ks l r) := by
  refine ⟨?_, List.pairwise_merge (le_trans' ks) (le_total' ks) l r hl.2 hr.2⟩
  refine (List.merge_perm_append (le ks)).trans ?_
  exact (hl.1.append hr.1).trans (by rw [List.take_append_drop])
theorem srt_apart {ks : List ByteArray} {xs l r : List Nat} (m : Nat) (hx : xs.Pairwise (· < ·)) (hl : Srt ks (xs.take m) l) (hr : Srt ks (xs.drop m) r) (a b : Nat) (ha : a ∈ l) (hb : b ∈ r) : a < b := by
  rw [← List.take_append_drop m xs, List.pairwise_append] at hx
  exact hx.2.2 a (hl.1.mem_iff.1 ha) b (hr.1.mem_iff.1 hb)
end Go.Proofs.Qxb6604637a
