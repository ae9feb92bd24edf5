/-
  THE PLAIN DYNAMIC PROGRAMME over a list of elements: that it decides the glob language. No Go in sight.
-/
import Derived.Test.Qxb6603704aGlobPlain
namespace Go.Proofs.Qxb6603704a
namespace G

def kd (ts : List Tok) (j : Nat) : Nat := (ts.getD j (0, fun _ => false)).1
def tb (ts : List Tok) (j : Nat) : Nat → Bool := (ts.getD j (0, fun _ => false)).2
def row0 (ts : List Tok) : Nat → Bool
  | 0 => true
  | j + 1 => row0 ts j && decide (kd ts j = 0)
def rowN (ts : List Tok) (prev : Nat → Bool) (c : Nat) : Nat → Bool
  | 0 => false
  | j + 1 => if kd ts j = 0 then rowN ts prev c j || prev (j + 1) else if kd ts j = 1 then prev j else prev j && tb ts j c
def dp (ts : List Tok) (name : List UInt8) : Nat → Nat → Bool
  | 0 => row0 ts
  | i + 1 => rowN ts (dp ts name i) (byt name i)

theorem take_snocT (ts : List Tok) (j : Nat) (h : j < ts.length) : ts.take (j + 1) = ts.take j ++ [ts.getD j (0, fun _ => false)] := by
  rw [List.take_succ_eq_append_getElem h, List.getD_eq_getElem?_getD, List.getElem?_eq_getElem h]; rfl
theorem take_snocB (s : List UInt8) (i : Nat) (h : i < s.length) : s.take (i + 1) = s.take i ++ [s[i]] := List.take_succ_eq_append_getElem h

theorem Ms_snoc_star (ts : List Tok) (t : Tok) (s : List UInt8) (h : t.1 = 0) : Ms (ts ++ [t]) s ↔ ∃ u v, s = u ++ v ∧ Ms ts u := by
  rw [Ms_append]
  constructor
  · rintro ⟨u, v, hs, hu, _⟩; exact ⟨u, v, hs, hu⟩
  · rintro ⟨u, v, hs, hu⟩; exact ⟨u, v, hs, hu, (Ms_one t v).2 (Or.inl h)⟩
theorem Ms_snoc_nil (ts : List Tok) (t : Tok) : Ms (ts ++ [t]) [] ↔ Ms ts [] ∧ t.1 = 0 := by
  rw [Ms_append]
  constructor
  · rintro ⟨u, v, hs, hu, hv⟩
    have hs' := hs.symm
    rw [List.append_eq_nil_iff] at hs'
    obtain ⟨rfl, rfl⟩ := hs'
    rcases (Ms_one t []).1 hv with h | ⟨c, hc, _⟩
    · exact ⟨hu, h⟩
    · cases hc
  · rintro ⟨hu, h⟩; exact ⟨[], [], rfl, hu, (Ms_one t []).2 (Or.inl h)⟩
theorem Ms_snoc_star_step (ts : List Tok) (t : Tok) (s : List UInt8) (c : UInt8) (h : t.1 = 0) : Ms (ts ++ [t]) (s ++ [c]) ↔ Ms ts (s ++ [c]) ∨ Ms (ts ++ [t]) s := by
  rw [Ms_snoc_star _ _ _ h, Ms_snoc_star _ _ _ h]
  constructor
  · rintro ⟨u, v, hs, hu⟩
    rcases List.eq_nil_or_concat v with rfl | ⟨v', d, rfl⟩
    · rw [List.append_nil] at hs; rw [hs]; exact Or.inl hu
    · rw [List.concat_eq_append, ← List.append_assoc] at hs
      obtain ⟨e1, _⟩ := List.append_inj' hs rfl
      exact Or.inr ⟨u, v', e1, hu⟩
  · rintro (h | ⟨u, v, rfl, hu⟩)
    · exact ⟨s ++ [c], [], by rw [List.append_nil], h⟩
    · exact ⟨u, v ++ [c], by rw [List.append_assoc], hu⟩
theorem Ms_snoc_byte (ts : List Tok) (t : Tok) (s : List UInt8) (c : UInt8) (h : t.1 ≠ 0) : Ms (ts ++ [t]) (s ++ [c]) ↔ Ms ts s ∧ acc t c.toNat = true := by
  rw [Ms_append]
  constructor
  · rintro ⟨u, v, hs, hu, hv⟩
    rcases (Ms_one t v).1 hv with h0 | ⟨d, rfl, hd⟩
    · exact absurd h0 h
    · obtain ⟨e1, e2⟩ := List.append_inj' hs rfl
      cases e2
      rw [e1]; exact ⟨hu, hd⟩
  · rintro ⟨hu, hc⟩; exact ⟨s, [c], rfl, hu, (Ms_one t [c]).2 (Or.inr ⟨c, rfl, hc⟩)⟩

theorem dp_iff (ts : List Tok) (name : List UInt8) (hk : ∀ t ∈ ts, t.1 ≤ 2) : ∀ i, i ≤ name.length → ∀ j, j ≤ ts.length → (dp ts name i j = true ↔ Ms (ts.take j) (name.take i)) := by
  intro i
  induction i with
  | zero =>
    intro _ j
    induction j with
    | zero => intro _; simp [dp, row0, Ms]
    | succ j ih =>
      intro hj
      rw [take_snocT ts j (by omega), List.take_zero, Ms_snoc_nil]
      rw [List.take_zero] at ih
      show (row0 ts j && decide (kd ts j = 0)) = true ↔ _
      rw [Bool.and_eq_true, decide_eq_true_eq]
      exact and_congr (ih (by omega)) Iff.rfl
  | succ i ih =>
    intro hi j
    have hi' := ih (by omega)
    have hlt : i < name.length := by omega
    induction j with
    | zero =>
      intro _
      rw [List.take_zero]
      constructor
      · intro h; cases h
      · intro h
        have h' : name.take (i + 1) = [] := h
        have h2 := congrArg List.length h'
        rw [List.length_take, List.length_nil, Nat.min_eq_left hi] at h2
        omega
    | succ j ihj =>
      intro hj
      have ihj' := ihj (by omega)
      have hmem : ts.getD j (0, fun _ => false) ∈ ts := by
        rw [List.getD_eq_getElem?_getD, List.getElem?_eq_getElem (by omega)]; exact List.getElem_mem _
      have hk2 := hk _ hmem
      have hb : byt name i = (name[i]).toNat := byt_eq hlt
      rw [take_snocT ts j (by omega), take_snocB name i hlt]
      rw [take_snocB name i hlt] at ihj'
      show (if kd ts j = 0 then rowN ts (dp ts name i) (byt name i) j || dp ts name i (j + 1) else if kd ts j = 1 then dp ts name i j else dp ts name i j && tb ts j (byt name i)) = true ↔ _
      by_cases h0 : kd ts j = 0
      · rw [if_pos h0, Ms_snoc_star_step _ _ _ _ h0, Bool.or_eq_true]
        exact or_congr ihj' (by rw [hi' (j + 1) (by omega), take_snocT ts j (by omega)])
      · rw [if_neg h0, Ms_snoc_byte _ _ _ _ h0]
        by_cases h1 : kd ts j = 1
        · rw [if_pos h1, hi' j (by omega)]
          have ha : acc (ts.getD j (0, fun _ => false)) (name[i]).toNat = true := by
            unfold acc; unfold kd at h1; rw [h1]; rfl
          rw [ha]
          exact ⟨fun x => ⟨x, rfl⟩, fun x => x.1⟩
        · rw [if_neg h1, Bool.and_eq_true, hi' j (by omega), hb]
          have h2 : kd ts j = 2 := by unfold kd at *; omega
          have ha : acc (ts.getD j (0, fun _ => false)) (name[i]).toNat = tb ts j (name[i]).toNat := by
            unfold acc tb; unfold kd at h2; rw [h2]; rfl
          rw [ha]

theorem toks_kind (l : List UInt8) : ∀ n p, ∀ t ∈ toksF l n p, t.1 ≤ 2 := by
  intro n
  induction n with
  | zero => intro p t ht; cases ht
  | succ n ih =>
    intro p t ht
    rw [toksF] at ht
    split at ht
    · rcases List.mem_cons.1 ht with rfl | h
      · unfold tokAt; split
        · exact Nat.zero_le _
        · split <;> simp
      · exact ih _ t h
    · cases ht

/-- MATCH AND THE DYNAMIC PROGRAMME AGREE. -/
theorem dp_match (pat name : List UInt8) : dp (toks pat 0) name name.length (toks pat 0).length = matchP pat name := by
  have h := dp_iff (toks pat 0) name (toks_kind pat _ _) name.length (Nat.le_refl _) (toks pat 0).length (Nat.le_refl _)
  rw [List.take_length, List.take_length, ← matchP_iff] at h
  rw [Bool.eq_iff_iff]; exact h
end G
end Go.Proofs.Qxb6603704a
