/-
  THE PLAIN LAW of the groups: keys in sorted order, a run of equal keys a probe, its last index the last writer. No Go in sight.
-/
import Derived.Test.Qxb6604637aSortPlain
namespace Go.Proofs.Qxb6604637a

theorem toList_iff (s t : ByteArray) : s.toList = t.toList ↔ s = t := by
  constructor
  · intro h; rw [ByteArray.toList_eq, ByteArray.toList_eq] at h; exact bytes_ext h
  · rintro rfl; rfl

abbrev gb (ks : List ByteArray) (i : Nat) : ByteArray := ks.getD i ByteArray.empty
/-- The key at the sorted position t. -/
abbrev kt (ks : List ByteArray) (ys : List Nat) (t : Nat) : ByteArray := gb ks (ys.getD t 0)

theorem look_last (ks vs : List ByteArray) (hl : vs.length = ks.length) (s : ByteArray) (m : Nat) (hm : m < ks.length) (he : gb ks m = s) (hlast : ∀ u, m < u → u < ks.length → gb ks u ≠ s) : look (ks.zip vs) s = some (gb vs m) := by
  induction ks generalizing vs m with
  | nil => exact absurd hm (Nat.not_lt_zero _)
  | cons k ks ih =>
    cases vs with
    | nil => simp at hl
    | cons v vs =>
      have hl' : vs.length = ks.length := by simpa using hl
      rw [List.zip_cons_cons, look]
      cases m with
      | zero =>
        have hn : look (ks.zip vs) s = none := by
          cases hlk : look (ks.zip vs) s with
          | none => rfl
          | some u =>
            have hmem := (look_mem (ks.zip vs) s).1 (by rw [hlk]; rfl)
            rw [List.map_fst_zip (by omega)] at hmem
            obtain ⟨i, hi, e⟩ := List.mem_iff_getElem.1 hmem
            exact absurd (by simp [gb, hi, e]) (hlast (i + 1) (by omega) (by simp; omega))
        rw [hn]
        simp only [gb, List.getD_cons_zero] at he ⊢
        rw [if_pos he]
      | succ m =>
        have := ih vs hl' m (by simpa using hm) (by simpa [gb] using he) (fun u h1 h2 => by simpa [gb] using hlast (u + 1) (by omega) (by simpa using h2))
        rw [this]
        simp [gb]

/-- The runs up to the sorted position i have been told. -/
structure Grp (ks vs : List ByteArray) (ys : List Nat) (i : Nat) (A C : List ByteArray) : Prop where
  len : C.length = A.length
  small : A.length ≤ i
  nodup : A.Nodup
  mem : ∀ s, s ∈ A ↔ ∃ t, t < i ∧ kt ks ys t = s
  run : ∀ t u, t < i → i ≤ u → u < ys.length → kt ks ys t ≠ kt ks ys u
  told : ∀ t, t < A.length → look (ks.zip vs) (gb A t) = some (gb C t)
theorem grp_nil (ks vs : List ByteArray) (ys : List Nat) : Grp ks vs ys 0 [] [] :=
  ⟨rfl, Nat.le_refl _, List.nodup_nil, fun s => ⟨fun h => by simp at h, fun ⟨t, h, _⟩ => absurd h (Nat.not_lt_zero _)⟩, fun t _ h => absurd h (Nat.not_lt_zero _), fun t h => absurd h (Nat.not_lt_zero _)⟩
theorem srt_get {ks : List ByteArray} {ys : List Nat} (h : ys.Pairwise (fun a b => le ks a b = true)) {t u : Nat} (htu : t < u) (hu : u < ys.length) : le ks (ys.getD t 0) (ys.getD u 0) = true := by
  have := List.pairwise_iff_getElem.1 h t u (by omega) hu htu
  simpa [show t < ys.length by omega, hu] using this
theorem ky_eq {ks : List ByteArray} {ys : List Nat} (t u : Nat) : ky ks (ys.getD t 0) = ky ks (ys.getD u 0) ↔ kt ks ys t = kt ks ys u := by
  unfold ky; exact toList_iff _ _

theorem grp_step {ks vs : List ByteArray} {ys : List Nat} {i j : Nat} {A C : List ByteArray} (hl : vs.length = ks.length) (hs : Srt ks (List.range ks.length) ys) (h : Grp ks vs ys i A C) (hij : i ≤ j) (hj : j < ys.length)
    (heq : ∀ t, i ≤ t → t ≤ j → kt ks ys t = kt ks ys i) (hne : j + 1 < ys.length → kt ks ys (j + 1) ≠ kt ks ys i) : Grp ks vs ys (j + 1) (A ++ [kt ks ys i]) (C ++ [gb vs (ys.getD j 0)]) := by
  have hyl : ys.length = ks.length := by rw [hs.1.length_eq, List.length_range]
  have hlater : ∀ u, j < u → u < ys.length → kt ks ys u ≠ kt ks ys i := by
    intro u hu hul e
    have h1 := hne (by omega)
    have l1 : ky ks (ys.getD j 0) < ky ks (ys.getD (j + 1) 0) := by
      rcases (le_iff _ _ _).1 (srt_get hs.2 (Nat.lt_succ_self j) (by omega)) with h2 | ⟨h2, _⟩
      · exact h2
      · exact absurd ((ky_eq j (j + 1)).1 h2).symm (by rw [heq j hij (Nat.le_refl _)]; exact h1)
    have l2 : ky ks (ys.getD j 0) < ky ks (ys.getD u 0) := by
      by_cases e1 : u = j + 1
      · rw [e1]; exact l1
      · rcases (le_iff _ _ _).1 (srt_get hs.2 (show j + 1 < u by omega) hul) with h2 | ⟨h2, _⟩
        · exact List.lt_trans l1 h2
        · rw [← h2]; exact l1
    have e3 := (ky_eq (ks := ks) (ys := ys) u j).2 (by rw [e, heq j hij (Nat.le_refl _)])
    rw [e3] at l2
    exact List.lt_irrefl _ l2
  have hmemlt : ∀ t, t < ys.length → ys.getD t 0 < ks.length := by
    intro t ht
    have : ys.getD t 0 ∈ ys := by rw [List.getD_eq_getElem?_getD, List.getElem?_eq_getElem ht]; exact List.getElem_mem _
    exact List.mem_range.1 (hs.1.mem_iff.1 this)
  refine ⟨by simp [h.len], by have := h.small; simp; omega, ?_, ?_, ?_, ?_⟩
  · rw [List.nodup_append]
    refine ⟨h.nodup, by simp, ?_⟩
    intro a ha b hb e
    have hb' : b = kt ks ys i := List.mem_singleton.1 hb
    obtain ⟨t, ht, e2⟩ := (h.mem a).1 ha
    exact h.run t i ht (Nat.le_refl _) (by omega) (by rw [e2, e, hb'])
  · intro s
    rw [List.mem_append, h.mem, List.mem_singleton]
    constructor
    · rintro (⟨t, ht, e⟩ | e)
      · exact ⟨t, by omega, e⟩
      · exact ⟨i, by omega, e.symm⟩
    · rintro ⟨t, ht, e⟩
      by_cases hti : t < i
      · exact Or.inl ⟨t, hti, e⟩
      · exact Or.inr (by rw [← e]; exact heq t (by omega) (by omega))
  · intro t u ht hu hul
    by_cases hti : t < i
    · exact h.run t u hti (by omega) hul
    · rw [heq t (by omega) (by omega)]
      exact fun e => hlater u (by omega) hul e.symm
  · intro t ht
    rw [List.length_append, List.length_singleton] at ht
    by_cases e : t = A.length
    · subst e
      have e1 : gb (A ++ [kt ks ys i]) A.length = kt ks ys i := by simp [gb]
      have e2 : gb (C ++ [gb vs (ys.getD j 0)]) A.length = gb vs (ys.getD j 0) := by rw [← h.len]; simp [gb]
      rw [e1, e2]
      refine look_last ks vs hl _ _ (hmemlt j hj) (heq j hij (Nat.le_refl _)) ?_
      intro m hm hml e
      have hmem : m ∈ ys := hs.1.mem_iff.2 (List.mem_range.2 hml)
      obtain ⟨t, ht, et⟩ := List.mem_iff_getElem.1 hmem
      have et' : ys.getD t 0 = m := by simp [ht, et]
      have ek : kt ks ys t = kt ks ys i := by rw [kt, et']; exact e
      have h1 : i ≤ t := Nat.le_of_not_lt fun hlt => h.run t i hlt (Nat.le_refl _) (by omega) ek
      have h2 : t ≤ j := Nat.le_of_not_lt fun hlt => hlater t hlt ht ek
      by_cases h3 : t = j
      · rw [h3] at et'; omega
      · rcases (le_iff _ _ _).1 (srt_get hs.2 (show t < j by omega) hj) with h4 | ⟨_, h4⟩
        · have e3 := (ky_eq (ks := ks) (ys := ys) t j).2 (by rw [ek, heq j hij (Nat.le_refl _)])
          rw [e3] at h4
          exact List.lt_irrefl _ h4
        · omega
    · have e1 : gb (A ++ [kt ks ys i]) t = gb A t := by simp [gb, List.getD_eq_getElem?_getD, List.getElem?_append_left (show t < A.length by omega)]
      have e2 : gb (C ++ [gb vs (ys.getD j 0)]) t = gb C t := by simp [gb, List.getD_eq_getElem?_getD, List.getElem?_append_left (show t < C.length by rw [h.len]; omega)]
      rw [e1, e2]
      exact h.told t (by omega)

/-- At the end every key is a probe, and no other text. -/
theorem grp_end {ks vs : List ByteArray} {ys : List Nat} {A C : List ByteArray} (hl : vs.length = ks.length) (hs : Srt ks (List.range ks.length) ys) (h : Grp ks vs ys ys.length A C) (s : ByteArray) : s ∈ A ↔ (look (ks.zip vs) s).isSome = true := by
  have hyl : ys.length = ks.length := by rw [hs.1.length_eq, List.length_range]
  rw [h.mem, look_mem, List.map_fst_zip (by omega)]
  constructor
  · rintro ⟨t, ht, e⟩
    have h1 : ys.getD t 0 < ks.length := by
      have : ys.getD t 0 ∈ ys := by rw [List.getD_eq_getElem?_getD, List.getElem?_eq_getElem ht]; exact List.getElem_mem _
      exact List.mem_range.1 (hs.1.mem_iff.1 this)
    rw [← e]
    unfold kt gb
    rw [List.getD_eq_getElem?_getD, List.getElem?_eq_getElem h1]
    exact List.getElem_mem _
  · intro hm
    obtain ⟨i, hi, e⟩ := List.mem_iff_getElem.1 hm
    have hmem : i ∈ ys := hs.1.mem_iff.2 (List.mem_range.2 hi)
    obtain ⟨t, ht, et⟩ := List.mem_iff_getElem.1 hmem
    refine ⟨t, ht, ?_⟩
    have et' : ys.getD t 0 = i := by simp [ht, et]
    rw [kt, et', gb, List.getD_eq_getElem?_getD, List.getElem?_eq_getElem hi]
    exact e
theorem grp_none {ks vs : List ByteArray} {ys : List Nat} {A C : List ByteArray} (hl : vs.length = ks.length) (hs : Srt ks (List.range ks.length) ys) (h : Grp ks vs ys ys.length A C) : ks.zip vs = [] ↔ A.length = 0 := by
  rw [List.length_eq_zero_iff]
  constructor
  · intro e
    cases A with
    | nil => rfl
    | cons a A => have := (grp_end hl hs h a).1 (by simp); rw [e] at this; cases this
  · intro e
    cases hz : ks.zip vs with
    | nil => rfl
    | cons p P =>
      have := (grp_end hl hs h p.1).2 ((look_mem _ _).2 (by rw [hz]; simp))
      rw [e] at this
      simp at this
end Go.Proofs.Qxb6604637a
