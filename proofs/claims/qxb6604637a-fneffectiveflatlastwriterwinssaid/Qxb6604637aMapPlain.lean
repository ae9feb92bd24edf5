/-
  THE PLAIN LAW of maps of strings: what a list of pairs, the last writer winning, reads as. No Go in sight (but the model's data).
-/
import Derived.Maps.OwnSet
import Derived.Maps.Own
namespace Go.Proofs.Qxb6604637a
open Go.Maps

def kl (s : ByteArray) : Lit := .string s.data.toList
def el {H : Type} (s : ByteArray) : DataW H := .lit (.string s.data.toList)
theorem bytes_ext {s t : ByteArray} (h : s.data.toList = t.data.toList) : s = t := by
  cases s; cases t
  simp only [ByteArray.mk.injEq]
  exact Array.toList_inj.mp h
theorem kl_inj {s t : ByteArray} (h : kl s = kl t) : s = t := bytes_ext (by unfold kl at h; simpa using h)
theorem el_inj {H : Type} {s t : ByteArray} (h : (el s : DataW H) = el t) : s = t := bytes_ext (by unfold el at h; simpa using h)
theorem kl_key (s : ByteArray) : WideAt.IsKeyLit (kl s) := trivial

abbrev Pairs := List (ByteArray × ByteArray)
/-- The last writer's value at k. -/
def look : Pairs → ByteArray → Option ByteArray
  | [], _ => none
  | p :: P, k => match look P k with | some v => some v | none => if p.1 = k then some p.2 else none
theorem look_append : ∀ (P Q : Pairs) (k : ByteArray), look (P ++ Q) k = match look Q k with | some v => some v | none => look P k
  | [], Q, k => by rw [List.nil_append]; cases look Q k <;> rfl
  | p :: P, Q, k => by
    rw [List.cons_append, look, look_append P Q k]
    cases look Q k with
    | some v => rfl
    | none => rfl
theorem look_snoc (P : Pairs) (s v k : ByteArray) : look (P ++ [(s, v)]) k = if s = k then some v else look P k := by
  rw [look_append]
  by_cases h : s = k
  · simp [look, h]
  · simp [look, h]
theorem look_mem : ∀ (P : Pairs) (k : ByteArray), (look P k).isSome = true ↔ k ∈ P.map (·.1)
  | [], k => by simp [look]
  | p :: P, k => by
    rw [List.map_cons, List.mem_cons, ← look_mem P k, look]
    cases look P k with
    | some v => simp
    | none =>
      by_cases h : p.1 = k
      · simp [h]
      · have h' : ¬ k = p.1 := fun e => h e.symm
        simp [h, h']

/-- The datum D reads as the pairs P. -/
structure Rep (D : DataW Unit) (P : Pairs) : Prop where
  tidy : Tidy D
  keys : ∀ l, Maps.has D l = true → ∃ s, l = kl s
  has : ∀ s, Maps.has D (kl s) = (look P s).isSome
  place : ∀ s v, look P s = some v → ∀ z, D.atKey (kl s) z = el v
theorem rep_nil : Rep (.map []) [] := ⟨tidy_empty, fun l h => by simp [Maps.has_eq] at h, fun s => rfl, fun s v h => by cases h⟩
theorem rep_put {D : DataW Unit} {P : Pairs} (h : Rep D P) (s v : ByteArray) : Rep (D.put (kl s) (el v)) (P ++ [(s, v)]) := by
  refine ⟨h.tidy.put (kl_key s) _, fun l hl => ?_, fun t => ?_, fun t u ht z => ?_⟩
  · by_cases e : l = kl s
    · exact ⟨s, e⟩
    · rw [has_put_other e] at hl; exact h.keys l hl
  · rw [look_snoc]
    by_cases e : s = t
    · subst e; rw [has_put_same h.tidy.isMap (kl_key s), if_pos rfl]; rfl
    · rw [has_put_other (fun x => e (kl_inj x).symm), if_neg e]; exact h.has t
  · rw [look_snoc] at ht
    by_cases e : s = t
    · subst e; rw [if_pos rfl] at ht; cases ht
      exact atKey_put_same h.tidy.isMap (kl_key s) _ _
    · rw [if_neg e] at ht
      rw [atKey_put_other (fun x => e (kl_inj x).symm)]; exact h.place t u ht z
/-- How many entries: as many as a list without repeats of the same keys. -/
theorem rep_size {D : DataW Unit} {P : Pairs} (h : Rep D P) (hE : ∃ es, D = .map es ∧ es.Pairwise (fun p q => p.1 ≠ q.1) ∧ ∀ p ∈ es, WideAt.IsKeyLit p.1) (L : List ByteArray) (hL : L.Nodup) (hm : ∀ s, s ∈ L ↔ (look P s).isSome = true) : Maps.size D = L.length := by
  obtain ⟨es, rfl, hp, hkey⟩ := hE
  rw [Maps.size_eq]
  have hk : ∀ l, l ∈ es.map (·.1) ↔ Maps.has (.map es) l = true := by
    intro l
    rw [Maps.has_eq, List.any_eq_true, List.mem_map]
    constructor
    · rintro ⟨p, hp1, rfl⟩
      exact ⟨p, hp1, WideAt.sameKey_self (hkey p hp1)⟩
    · rintro ⟨p, hp1, hp2⟩
      exact ⟨p, hp1, WideAt.sameKey_eq hp2⟩
  have h1 : (es.map (·.1)).Nodup := by rw [List.Nodup, List.pairwise_map]; exact hp
  have h2 : (L.map kl).Nodup := by
    rw [List.Nodup, List.pairwise_map]
    exact List.pairwise_iff_getElem.2 (fun i j hi hj hij e => List.pairwise_iff_getElem.1 hL i j hi hj hij (kl_inj e))
  have hperm : (es.map (·.1)).Perm (L.map kl) := by
    rw [List.perm_ext_iff_of_nodup h1 h2]
    intro l
    rw [hk l, List.mem_map]
    constructor
    · intro hl
      obtain ⟨s, rfl⟩ := h.keys l hl
      exact ⟨s, (hm s).2 (by rw [← h.has s]; exact hl), rfl⟩
    · rintro ⟨s, hs, rfl⟩
      rw [h.has s]; exact (hm s).1 hs
  have := hperm.length_eq
  simpa using this
theorem rep_zero {D : DataW Unit} {P : Pairs} (h : Rep D P) (hE : ∃ es, D = .map es ∧ es.Pairwise (fun p q => p.1 ≠ q.1) ∧ ∀ p ∈ es, WideAt.IsKeyLit p.1) : Maps.size D = 0 ↔ P = [] := by
  constructor
  · intro h0
    cases P with
    | nil => rfl
    | cons p P =>
      exfalso
      have hs : (look (p :: P) p.1).isSome = true := (look_mem _ _).2 (by simp)
      rw [← h.has] at hs
      obtain ⟨es, rfl, _⟩ := hE
      rw [Maps.size_eq, List.length_eq_zero_iff] at h0
      subst h0
      simp [Maps.has_eq] at hs
  · intro h0
    subst h0
    exact rep_size h hE [] List.nodup_nil (fun s => by simp [look])

/-! ### one map laid over another, in whatever order -/
/-- Dout: lower, and those entries of higher that are no longer to come. -/
structure Mid (Dlo Dhi : DataW Unit) (left : Lit → Bool) (Dout : DataW Unit) : Prop where
  tidy : Tidy Dout
  keys : ∀ l, Maps.has Dout l = true → ∃ s, l = kl s
  has : ∀ s, Maps.has Dout (kl s) = (Maps.has Dlo (kl s) || (Maps.has Dhi (kl s) && !left (kl s)))
  new : ∀ s, (Maps.has Dhi (kl s) && !left (kl s)) = true → ∀ z, Dout.atKey (kl s) z = Dhi.atKey (kl s) z
  old : ∀ s, (Maps.has Dhi (kl s) && !left (kl s)) = false → ∀ z, Dout.atKey (kl s) z = Dlo.atKey (kl s) z
theorem mid_start {Dlo Dhi : DataW Unit} {P : Pairs} (h : Rep Dlo P) : Mid Dlo Dhi (Maps.has Dhi) Dlo :=
  ⟨h.tidy, h.keys, fun s => by cases Maps.has Dhi (kl s) <;> simp, (fun s hs => by cases e : Maps.has Dhi (kl s) <;> rw [e] at hs <;> cases hs), fun s _ z => rfl⟩
theorem same_kl {s t : ByteArray} (h : s ≠ t) : (kl s).sameKey (kl t) = false := sameKey_ne (fun e => h (kl_inj e))
theorem mid_step {Dlo Dhi Dout : DataW Unit} {left : Lit → Bool} (h : Mid Dlo Dhi left Dout) (x c : ByteArray) (hat : ∀ zd, Dhi.atKey (kl x) zd = el c) :
    Mid Dlo Dhi (fun z => left z && !z.sameKey (kl x)) (Dout.put (kl x) (el c)) := by
  have hx : Maps.has Dhi (kl x) = true := has_true_of_atKey hat
  have hself : (kl x).sameKey (kl x) = true := WideAt.sameKey_self (kl_key x)
  refine ⟨h.tidy.put (kl_key x) _, fun l hl => ?_, fun s => ?_, fun s hs z => ?_, fun s hs z => ?_⟩
  · by_cases e : l = kl x
    · exact ⟨x, e⟩
    · rw [has_put_other e] at hl; exact h.keys l hl
  · by_cases e : s = x
    · subst e; rw [has_put_same h.tidy.isMap (kl_key s), hx, hself]; simp
    · rw [has_put_other (fun y => e (kl_inj y)), h.has s, same_kl e]; simp
  · by_cases e : s = x
    · subst e; rw [atKey_put_same h.tidy.isMap (kl_key s), hat z]
    · rw [atKey_put_other (fun y => e (kl_inj y))]
      rw [same_kl e] at hs
      exact h.new s (by simpa using hs) z
  · by_cases e : s = x
    · subst e; rw [hx, hself] at hs; simp at hs
    · rw [atKey_put_other (fun y => e (kl_inj y))]
      rw [same_kl e] at hs
      exact h.old s (by simpa using hs) z
theorem mid_end {Dlo Dhi Dout : DataW Unit} {left : Lit → Bool} {P Q : Pairs} (h : Mid Dlo Dhi left Dout) (hl : ∀ l, left l = false) (hlo : Rep Dlo P) (hhi : Rep Dhi Q) : Rep Dout (P ++ Q) := by
  refine ⟨h.tidy, h.keys, fun s => ?_, fun s v hv z => ?_⟩
  · rw [h.has s, hl, hlo.has s, hhi.has s, look_append]
    cases look Q s <;> simp
  · rw [look_append] at hv
    cases hq : look Q s with
    | some u =>
      rw [hq] at hv
      simp only [Option.some.injEq] at hv
      subst hv
      have hh : (Maps.has Dhi (kl s) && !left (kl s)) = true := by rw [hhi.has s, hl, hq]; rfl
      rw [h.new s hh z]; exact hhi.place s _ hq z
    | none =>
      rw [hq] at hv
      have hh : (Maps.has Dhi (kl s) && !left (kl s)) = false := by rw [hhi.has s, hq]; rfl
      rw [h.old s hh z]; exact hlo.place s _ hv z
end Go.Proofs.Qxb6604637a
