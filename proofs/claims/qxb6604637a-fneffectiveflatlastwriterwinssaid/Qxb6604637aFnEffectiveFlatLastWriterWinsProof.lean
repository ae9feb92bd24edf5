/-
  THE PROOF of the given statement FnEffectiveFlatLastWriterWinsSaid. The frame follows the guide's template for a law, at two slices of slices of strings.
-/
import Derived.Test.Qxb6604637aRows
import Derived.WalkKit
import Derived.ProofKit
import Derived.OpenShut
import Derived.ShutString
import Derived.ChangeOld
import Derived.Below
import Derived.SliceStrings
import Derived.Deep.Slices
import Derived.Test.Qxb6604637aLawWalk
namespace Go.Proofs.Qxb6604637a.fnEffectiveFlatLastWriterWins
open Go.ChangeShapes Go.WideShapes Go.ChangeAt Go.RowKit
open Go.ChangeMaps (open_string shut_string)
set_option linter.unusedVariables false

theorem own : ownKnob Try.prog.godebug = none := by kernel_rfl
theorem laidOut : laidOutB Try.prog = true := by kernel_rfl

/-- A slice of slices of strings that came in, opened at every row. -/
theorem open_grid {H : Type} {enc : TypeId × Value → H} {W : World} {fuel : Nat} {a : Option Addr} {len cap : Nat} {x : DataW H × List MemPlace}
    (h : DataW.trod enc Try.prog W 0 (fun _ => true) true fuel 22 (Value.slice a len cap).cells.toList = some x) : ∃ L : List (List ByteArray), L.length = len ∧ Grid W a L ∧ Mx L := by
  rcases Go.Deep.open_slice1 Try.underlying22 (by kernel_rfl) h with ⟨hcs, _⟩ | ⟨y, l, c, m, n, F, D, Pl, hcs, _, hl, hm, hmm, _, hx⟩
  · simp [Value.cells] at hcs
    obtain ⟨rfl, rfl, rfl⟩ := hcs
    exact ⟨[], rfl, fun i hi => absurd hi (Nat.not_lt_zero _), Nat.zero_le _, fun i hi => absurd hi (Nat.not_lt_zero _)⟩
  · simp [Value.cells] at hcs
    obtain ⟨rfl, rfl, rfl⟩ := hcs
    simp only [if_true] at hmm
    have each : ∀ i, i < len → ∃ ss : List ByteArray, (∃ r k, F i = .slice r ss.length k ∧ RowAt W r ss) ∧ ss.length ≤ maxLen ∧ ∀ j, j < ss.length → (ss.getD j ByteArray.empty).size ≤ maxLen := by
      intro i hi
      rcases open_strings Try.underlying25 Try.underlying9 (by kernel_rfl) (hx i (by omega)).2 with ⟨hc, _⟩ | ⟨y', l', c', ss, hc, _, hl', hm', hz, _, hcell, hws⟩
      · refine ⟨[], ⟨none, 0, by simpa using hc, fun j hj => absurd hj (Nat.not_lt_zero _)⟩, Nat.zero_le _, fun j hj => absurd hj (Nat.not_lt_zero _)⟩
      · simp only [if_true] at hz
        have htl : (ss.take l').length = l' := by rw [List.length_take]; omega
        have hgd : ∀ j, j < l' → (ss.take l').getD j ByteArray.empty = ss.getD j ByteArray.empty := fun j hj => by
          rw [List.getD_eq_getElem?_getD, List.getD_eq_getElem?_getD, List.getElem?_take_of_lt hj]
        refine ⟨ss.take l', ⟨some y', c', by rw [htl]; simpa using hc, fun j hj => ⟨y', rfl, ?_⟩⟩, by omega, fun j hj => ?_⟩
        · rw [hgd j (by omega)]; exact hcell j (by omega)
        · rw [hgd j (by omega), List.getD_eq_getElem?_getD, List.getElem?_eq_getElem (show j < ss.length by omega)]
          exact hws _ (List.getElem_mem _)
    obtain ⟨S, hS⟩ := Go.Deep.choose_lt each
    have hget : ∀ i, i < len → ((List.range len).map S).getD i [] = S i := fun i hi => by simp [hi]
    refine ⟨(List.range len).map S, by simp, fun i hi => ?_, by simp; omega, fun i hi => ?_⟩
    · have hi' : i < len := by simpa using hi
      obtain ⟨⟨r, k, e, hr⟩, _⟩ := hS i hi'
      rw [hget i hi']
      exact ⟨y, r, k, rfl, by rw [(hx i (by omega)).1, e], hr⟩
    · have hi' : i < len := by simpa using hi
      rw [hget i hi']
      exact (hS i hi').2

/-! ### THE ROW's STEP: WRITTEN OUT: LEAVE IT -/
set_option maxRecDepth 100000 in
theorem lifted (os : Os) (started : os.Started) (H : Type) (enc : TypeId × Value → H) :
    ReturnsInHanded {} Try.checked os 3 .any (Rows.fnEffectiveFlatLastWriterWinsSpec.pre6 enc Try.prog Try.f3 Rows.fnEffectiveFlatLastWriterWinsRow.domain false) (Rows.fnEffectiveFlatLastWriterWinsSpec.post enc Try.prog Try.f3 false true false false) := by
  refine returnsInHanded_of_change (C := Try.checked) own started (by kernel_rfl) Try.func3
    (ChangeSpec.witness6 (enc := enc) (C := Try.checked) false ⟨#[], #[.slice none 0 0, .slice none 0 0], []⟩ 8 (by kernel_rfl) (by kernel_rfl) (by kernel_rfl) (by kernel_rfl)) ?_
  intro W base args ds gs before hval0 hW hcnd _
  have hval : ∀ (j : Nat) t v, Try.f3.params[j]? = some t → args[j]? = some v → Value.okWide Try.prog W .any base t v := hval0
  have hW' := hW
  obtain ⟨p, q, hA0, hV, rfl, hfz, hnd⟩ := hW
  have hA : DataW.TrodAll enc Try.prog W 0 (fun _ => true) true Try.f3.params.toList args.toList ds p := hA0
  rw [Try.params3] at hA hval
  obtain ⟨v0, vs0, d0, ds0, p0, q0, hargs, rfl, rfl, h0, r0⟩ := trodAll_cons hA
  obtain ⟨v1, vs1, d1, ds1, p1, q1, hargs1, rfl, rfl, h1, r1⟩ := trodAll_cons r0
  obtain ⟨rfl, rfl, rfl⟩ := trodAll_nil r1
  obtain rfl : args = #[v0, v1] := by cases args; simp_all
  obtain ⟨rfl, rfl⟩ := trodVars_none hV
  obtain ⟨a0, len0, cap0, rfl⟩ := okWide_slice Try.underlying22 (hval 0 22 v0 rfl rfl)
  obtain ⟨a1, len1, cap1, rfl⟩ := okWide_slice Try.underlying22 (hval 1 22 v1 rfl rfl)
  have k0 := h0
  have k1 := h1
  have lt0 : ∀ x ∈ p0, x.block < W.heap.size := by obtain ⟨m, hm⟩ := k0; exact DataW.trod_lt m _ _ _ hm
  have lt1 : ∀ x ∈ p1, x.block < W.heap.size := by obtain ⟨m, hm⟩ := k1; exact DataW.trod_lt m _ _ _ hm
  have walk : Calls Try.prog 3 #[.slice a0 len0 cap0, .slice a1 len1 cap1] W fun e w' => e = .returned (.bool true) ∧ Below W.heap.size W w' := by
    obtain ⟨fuel0, hf0⟩ := h0
    obtain ⟨fuel1, hf1⟩ := h1
    obtain ⟨K, rfl, hgK, hmK⟩ := open_grid hf0
    obtain ⟨V, rfl, hgV, hmV⟩ := open_grid hf1
    exact law_any a0 a1 cap0 cap1 K V W hgK hgV hmK hmV
  clear hA0 hval0
  refine walk.mono fun e W' ⟨he, bel⟩ => ?_
  subst he
  exact ⟨_, rfl, _, _, _, [], _, [], hW', trodAll_mk1 (shut_bool Try.underlying4 _), (trodAll_cons_mk (Below.trod laidOut (by kernel_rfl) (of_decide_eq_true (by kernel_rfl)) k0 bel lt0) (trodAll_cons_mk (Below.trod laidOut (by kernel_rfl) (of_decide_eq_true (by kernel_rfl)) k1 bel lt1) trodAll_mk0)), rfl, bel.frame _, fun h => by cases h⟩

theorem over : Rows.fnEffectiveFlatLastWriterWinsRow.holds Try.pinned (OpenSpec.ofChange Rows.fnEffectiveFlatLastWriterWinsSpec) :=
  OpenClaim.holds_of_wide 3 Try.f3 rfl rfl rfl rfl rfl rfl rfl ⟨rfl, rfl, rfl, rfl, rfl⟩ rfl rfl rfl rfl rfl (by kernel_rfl) Try.func3 (by kernel_rfl)
    (of_decide_eq_true (by kernel_rfl)) (by unfold Func.isWrapper; first | (rw [if_pos (by decide +kernel)]; kernel_rfl) | (rw [if_neg (by decide +kernel)]; exact ⟨rfl, rfl⟩))
    (fun os started H enc _ => lifted os started H enc)

/-- ████ THE STATEMENT ████ -/
theorem proved : Rows.FnEffectiveFlatLastWriterWinsSaid := over
end Go.Proofs.Qxb6604637a.fnEffectiveFlatLastWriterWins
