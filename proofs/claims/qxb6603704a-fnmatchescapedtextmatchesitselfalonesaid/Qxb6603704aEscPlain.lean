/-
  THE PLAIN LAW of escaped text: a backslash ahead of every byte. No Go in sight.
-/
import Derived.Test.Qxb6603704aMatchPlain
namespace Go.Proofs.Qxb6603704a
namespace G

def escL : List UInt8 → List UInt8
  | [] => []
  | b :: t => 92 :: b :: escL t
theorem escL_length : ∀ t : List UInt8, (escL t).length = 2 * t.length
  | [] => rfl
  | b :: t => by rw [escL, List.length_cons, List.length_cons, escL_length t, List.length_cons]; omega
theorem escL_append : ∀ s t : List UInt8, escL (s ++ t) = escL s ++ escL t
  | [], t => rfl
  | b :: s, t => by rw [List.cons_append, escL, escL, escL_append s t]; rfl
theorem escL_even : ∀ (t : List UInt8) (i : Nat), i < t.length → byt (escL t) (2 * i) = 92
  | [], i, h => by simp at h
  | b :: t, 0, h => by simp [escL, byt]
  | b :: t, i + 1, h => by
    rw [escL, show 2 * (i + 1) = (2 * i + 1) + 1 from by omega, byt_cons, byt_cons]
    exact escL_even t i (by simpa using h)
theorem escL_odd : ∀ (t : List UInt8) (i : Nat), i < t.length → byt (escL t) (2 * i + 1) = byt t i
  | [], i, h => by simp at h
  | b :: t, 0, h => by simp [escL, byt]
  | b :: t, i + 1, h => by
    rw [escL, show 2 * (i + 1) + 1 = (2 * i + 1 + 1) + 1 from by omega, byt_cons, byt_cons, byt_cons]
    exact escL_odd t i (by simpa using h)
theorem byt_drop (l : List UInt8) (p k : Nat) : byt (l.drop p) k = byt l (p + k) := by
  unfold byt; rw [List.getD_eq_getElem?_getD, List.getD_eq_getElem?_getD, List.getElem?_drop]
theorem byt_inj (s t : List UInt8) (i : Nat) (h1 : i < s.length) (h2 : i < t.length) : byt s i = byt t i ↔ s[i] = t[i] := by
  unfold byt
  rw [List.getD_eq_getElem?_getD, List.getD_eq_getElem?_getD, List.getElem?_eq_getElem h1, List.getElem?_eq_getElem h2]
  exact ⟨fun h => UInt8.toNat_inj.mp h, fun h => by simp [h]⟩

theorem esc_one (t : List UInt8) (i c : Nat) (h : i < t.length) : oneW ((escL t).drop (2 * i)) c = 2 ∧ oneOk ((escL t).drop (2 * i)) c = decide (byt t i = c) := by
  have e0 : byt ((escL t).drop (2 * i)) 0 = 92 := by rw [byt_drop, Nat.add_zero, escL_even t i h]
  have e1 : byt ((escL t).drop (2 * i)) 1 = byt t i := by rw [byt_drop, escL_odd t i h]
  have el : 1 < ((escL t).drop (2 * i)).length := by rw [List.length_drop, escL_length]; omega
  unfold oneW oneOk
  rw [if_pos e0, if_pos e0, if_pos el, if_pos el, e1]
  exact ⟨rfl, rfl⟩

theorem esc_from (t name : List UInt8) : ∀ n i, name.length - i = n → i ≤ t.length → i ≤ name.length →
    (match mres (escL t) name (2 * i) i 0 0 with | none => false | some p => decide (sk (escL t) p = (escL t).length)) = decide (t.drop i = name.drop i) := by
  have hl := escL_length t
  intro n
  induction n with
  | zero =>
    intro i hn hi hi2
    rw [mres_end (by omega)]
    have hs : sk (escL t) (2 * i) = 2 * i := sk_stop (fun h => by
      have := escL_even t i (by omega)
      omega)
    show decide (sk (escL t) (2 * i) = (escL t).length) = _
    rw [hs, hl, List.drop_of_length_le (show name.length ≤ i by omega), Bool.eq_iff_iff]
    simp only [decide_eq_true_eq, List.drop_eq_nil_iff]
    omega
  | succ n ih =>
    intro i hn hi hi2
    have hlt : i < name.length := by omega
    by_cases ht : i < t.length
    · have he := escL_even t i ht
      obtain ⟨o1, o2⟩ := esc_one t i (byt name i) ht
      rw [List.drop_eq_getElem_cons ht, List.drop_eq_getElem_cons hlt]
      by_cases hb : byt t i = byt name i
      · rw [mres_one (Nat.zero_le _) (Nat.zero_le _) hlt (by omega) (by omega) (by omega) (by rw [o2]; exact decide_eq_true hb), o1,
          show 2 * i + 2 = 2 * (i + 1) from by omega, ih (i + 1) (by omega) (by omega) (by omega), Bool.eq_iff_iff]
        simp only [decide_eq_true_eq, List.cons.injEq]
        exact ⟨fun h => ⟨(byt_inj t name i ht hlt).1 hb, h⟩, fun h => h.2⟩
      · rw [mres_fail hlt (by omega) (by omega) (by rw [o2]; simp [hb])]
        symm
        refine decide_eq_false fun h => hb ((byt_inj t name i ht hlt).2 ?_)
        exact (List.cons.inj h).1
    · rw [mres_fail hlt (by omega) (by omega) (by omega)]
      symm
      refine decide_eq_false fun h => ?_
      have := congrArg List.length h
      rw [List.length_drop, List.length_drop] at this
      omega

theorem esc_law (t name : List UInt8) : matchP (escL t) name = decide (t = name) := by
  have := esc_from t name _ 0 rfl (Nat.zero_le _) (Nat.zero_le _)
  rw [Nat.mul_zero, List.drop_zero, List.drop_zero] at this
  exact this

end G
end Go.Proofs.Qxb6603704a
