/-
  THE PLAIN LAW of numbering: a map from names to their ranks of first appearance. No Go in sight (but the model's data).
-/
import Derived.Maps.OwnSet
import Derived.Maps.Own
namespace Go.Proofs.Qxb6603398a
open Go.Maps

def kl (s : ByteArray) : Lit := .string s.data.toList
theorem kl_inj {s t : ByteArray} (h : kl s = kl t) : s = t := by
  unfold kl at h
  have h2 : s.data.toList = t.data.toList := by simpa using h
  cases s; cases t
  simp only [ByteArray.mk.injEq]
  exact Array.toList_inj.mp h2
theorem kl_key (s : ByteArray) : WideAt.IsKeyLit (kl s) := trivial

/-- The map C gives each of the names D its place. -/
structure Good (C : DataW Unit) (D : List ByteArray) : Prop where
  tidy : Tidy C
  size : Maps.size C = D.length
  has : ∀ s, Maps.has C (kl s) = true ↔ s ∈ D
  place : ∀ i, i < D.length → C.atKey (kl (D.getD i ByteArray.empty)) (.lit (.int .i32 0)) = .lit (.int .i32 i)
theorem good_nil : Good (.map []) [] := by
  refine ⟨tidy_empty, rfl, fun s => ?_, fun i hi => by simp at hi⟩
  simp [Maps.has_eq]
theorem good_snoc {C : DataW Unit} {D : List ByteArray} {s : ByteArray} (h : Good C D) (hs : s ∉ D) : Good (C.put (kl s) (.lit (.int .i32 D.length))) (D ++ [s]) := by
  have hno : Maps.has C (kl s) = false := by
    cases e : Maps.has C (kl s) with
    | false => rfl
    | true => exact absurd ((h.has s).1 e) hs
  refine ⟨h.tidy.put (kl_key s) _, ?_, fun t => ?_, fun i hi => ?_⟩
  · rw [size_put h.tidy, hno, h.size]; simp
  · by_cases e : t = s
    · subst e
      rw [has_put_same h.tidy.isMap (kl_key t)]; simp
    · rw [has_put_other (fun x => e (kl_inj x)), h.has t, List.mem_append]
      simp [e]
  · rw [List.length_append] at hi
    by_cases e : i < D.length
    · have hg : (D ++ [s]).getD i ByteArray.empty = D.getD i ByteArray.empty := by
        rw [List.getD_eq_getElem?_getD, List.getD_eq_getElem?_getD, List.getElem?_append_left e]
      have hm : D.getD i ByteArray.empty ∈ D := by
        rw [List.getD_eq_getElem?_getD, List.getElem?_eq_getElem e]; exact List.getElem_mem _
      rw [hg, atKey_put_other (fun x => hs (by rw [← kl_inj x]; exact hm)), h.place i e]
    · obtain rfl : i = D.length := by simp at hi; omega
      have hg : (D ++ [s]).getD D.length ByteArray.empty = s := by
        rw [List.getD_eq_getElem?_getD, List.getElem?_append_right (Nat.le_refl _)]; simp
      rw [hg, atKey_put_same h.tidy.isMap (kl_key s)]
end Go.Proofs.Qxb6603398a
