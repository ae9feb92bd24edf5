/-
  THE PLAIN FACTS on the elements that zzb1Tokens reads. No Go in sight.
-/
import Derived.Test.Qxb6603704aDpPlain
namespace Go.Proofs.Qxb6603704a
namespace G
theorem byt_drop' (l : List UInt8) (p k : Nat) : byt (l.drop p) k = byt l (p + k) := by
  unfold byt; rw [List.getD_eq_getElem?_getD, List.getD_eq_getElem?_getD, List.getElem?_drop]
theorem esc_drop (l : List UInt8) (p : Nat) : p + esc (l.drop p) 0 = esc l p := by
  unfold esc
  rw [byt_drop', List.length_drop, Nat.add_zero]
  by_cases h : byt l p = 92 ∧ p + 1 < l.length
  · rw [if_pos h, if_pos (by omega)]
  · rw [if_neg h, if_neg (by omega)]; omega
theorem one_set (l : List UInt8) (c : Nat) (h0 : 0 < l.length) (h : byt l 0 = 91) : oneW l c = modelW l ∧ oneOk l c = modelIn l c := by
  have h92 : ¬ byt l 0 = 92 := by omega
  unfold oneW oneOk
  rw [if_neg h92, if_neg h92, if_pos h, if_pos h]
  exact ⟨setW_model l c h0, setOk_model l c⟩
theorem one_atom (l : List UInt8) (c : Nat) (h : byt l 0 ≠ 91) : oneW l c = esc l 0 + 1 ∧ oneOk l c = decide (byt l (esc l 0) = c) := by
  unfold oneW oneOk
  by_cases h92 : byt l 0 = 92
  · rw [if_pos h92, if_pos h92]
    by_cases h1 : 1 < l.length
    · have e : esc l 0 = 1 := esc_t l 0 (decide_eq_true ⟨h92, h1⟩)
      rw [if_pos h1, if_pos h1, e]
      exact ⟨rfl, rfl⟩
    · have e : esc l 0 = 0 := esc_f l 0 (decide_eq_false (fun x => h1 x.2))
      rw [if_neg h1, if_neg h1, e, h92]
      exact ⟨rfl, by rw [Bool.eq_iff_iff]; simp; omega⟩
  · have e : esc l 0 = 0 := esc_f l 0 (decide_eq_false (fun x => h92 x.1))
    rw [if_neg h92, if_neg h92, if_neg h, if_neg h, e]
    exact ⟨rfl, rfl⟩
theorem tokAt_star (l : List UInt8) (p : Nat) (h : byt l p = 42) : tokAt l p = (0, fun _ => false) ∧ wAt l p = 1 := by
  unfold tokAt wAt; rw [if_pos h, if_pos h]; exact ⟨rfl, rfl⟩
theorem tokAt_q (l : List UInt8) (p : Nat) (h : byt l p = 63) : tokAt l p = (1, fun _ => false) ∧ wAt l p = 1 := by
  unfold tokAt wAt; rw [if_neg (by omega), if_pos h, if_neg (by omega), if_pos h]; exact ⟨rfl, rfl⟩
theorem tokAt_set (l : List UInt8) (p : Nat) (hp : p < l.length) (h : byt l p = 91) : tokAt l p = (2, modelIn (l.drop p)) ∧ wAt l p = modelW (l.drop p) := by
  have h0 : 0 < (l.drop p).length := by rw [List.length_drop]; omega
  have hb : byt (l.drop p) 0 = 91 := by rw [byt_drop', Nat.add_zero]; exact h
  have e : oneOk (l.drop p) = modelIn (l.drop p) := funext fun c => (one_set _ c h0 hb).2
  unfold tokAt wAt
  rw [if_neg (by omega), if_neg (by omega), if_neg (by omega), if_neg (by omega), e, (one_set _ 0 h0 hb).1]
  exact ⟨rfl, rfl⟩
theorem tokAt_atom (l : List UInt8) (p : Nat) (h1 : byt l p ≠ 42) (h2 : byt l p ≠ 63) (h3 : byt l p ≠ 91) :
    tokAt l p = (2, fun i => if i = byt l (esc l p) then true else false) ∧ p + wAt l p = esc l p + 1 := by
  have hb : byt (l.drop p) 0 ≠ 91 := by rw [byt_drop', Nat.add_zero]; exact h3
  have e : oneOk (l.drop p) = fun i => if i = byt l (esc l p) then true else false := funext fun c => by
    rw [(one_atom _ c hb).2, byt_drop', esc_drop, Bool.eq_iff_iff]
    simp; omega
  unfold tokAt wAt
  rw [if_neg h1, if_neg h2, if_neg h1, if_neg h2, e, (one_atom _ 0 hb).1, ← esc_drop]
  exact ⟨rfl, by omega⟩
end G
end Go.Proofs.Qxb6603704a
