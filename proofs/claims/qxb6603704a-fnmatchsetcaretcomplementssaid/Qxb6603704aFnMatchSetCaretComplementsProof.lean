/-
  THE PROOF of the given statement FnMatchSetCaretComplementsSaid. The frame is the guide's template at this function's number and types; the walk is ours.
-/
import Derived.Test.Qxb6603704aRows
import Derived.WalkKit
import Derived.ProofKit
import Derived.OpenShut
import Derived.ShutString
import Derived.Test.Qxb6603704aSetWalk
namespace Go.Proofs.Qxb6603704a.fnMatchSetCaretComplements
open Go.ChangeShapes Go.WideShapes Go.ChangeAt Go.RowKit
open Go.ChangeMaps (open_string shut_string)
set_option linter.unusedVariables false      -- a walk need not use every 'w<i>' (that an integer argument fits its kind)

theorem own : ownKnob Try.prog.godebug = none := by kernel_rfl

/-! ### STEP 1: THE WALK -/
theorem zz_any (s : ByteArray) (c : Nat) (w : World) (hs : s.size ≤ 200000) (h0 : 0 < s.size) (hc : c ≤ 255) :
    Calls Try.prog 21 #[.string s, .int .u8 c] w fun e w' => e = .returned (.tuple #[.int .i64 (G.setW s.data.toList c), .bool (G.setOk s.data.toList c)]) ∧ w' = w := by
  go_enter Try.func21, Try.ntmps21
  go_wp2_with (go_at_call 25; refine (set_any _ _ _ hs h0 hc).mono ?_; rintro e w' ⟨rfl, rfl⟩)
  go_ret2
  exact ⟨rfl, rfl⟩
theorem fits_yes (s : ByteArray) (c : Int) (w : World) (hs : s.size ≤ 1048576) :
    Calls Try.prog 22 #[.string s, .int .u8 c] w fun e w' => e = .returned (.bool true) ∧ w' = w := by
  go_enter Try.func22, Try.ntmps22
  go_wp2
  go_ret
  exact ⟨rfl, rfl⟩
theorem fits_no (s : ByteArray) (c : Int) (w : World) (hm : s.size ≤ maxLen) (hs : ¬ s.size ≤ 1048576) :
    Calls Try.prog 22 #[.string s, .int .u8 c] w fun e w' => e = .returned (.bool false) ∧ w' = w := by
  unfold maxLen at hm
  go_enter Try.func22, Try.ntmps22
  go_wp2
  go_ret
  exact ⟨rfl, rfl⟩

theorem list1 (b : ByteArray) : (({ data := #[91] } : ByteArray) ++ b).data.toList = 91 :: b.data.toList := by simp
theorem list2 (b : ByteArray) : (({ data := #[91, 94] } : ByteArray) ++ b).data.toList = 91 :: 94 :: b.data.toList := by simp
theorem size1 (b : ByteArray) : (({ data := #[91] } : ByteArray) ++ b).size = b.size + 1 := by
  rw [← len_l, list1, List.length_cons, len_l]
theorem size2 (b : ByteArray) : (({ data := #[91, 94] } : ByteArray) ++ b).size = b.size + 2 := by
  rw [← len_l, list2, List.length_cons, List.length_cons, len_l]
theorem one (b : ByteArray) (c : Nat) (w : World) (hs : b.size ≤ 65536) (hc : c ≤ 255) :
    Calls Try.prog 21 #[.string (({ data := #[91] } : ByteArray) ++ b), .int .u8 c] w fun e w' => e = .returned (.tuple #[.int .i64 (G.setW (91 :: b.data.toList) c), .bool (G.setOk (91 :: b.data.toList) c)]) ∧ w' = w := by
  have h := zz_any (({ data := #[91] } : ByteArray) ++ b) c w (by rw [size1]; omega) (by rw [size1]; omega) hc
  rw [list1] at h
  exact h
theorem two (b : ByteArray) (c : Nat) (w : World) (hs : b.size ≤ 65536) (hc : c ≤ 255) (hn : ¬ (0 < b.size ∧ G.byt b.data.toList 0 = 94)) :
    Calls Try.prog 21 #[.string (({ data := #[91, 94] } : ByteArray) ++ b), .int .u8 c] w fun e w' => e = .returned (.tuple #[.int .i64 ((G.setW (91 :: b.data.toList) c : Int) + 1), .bool (!(G.setOk (91 :: b.data.toList) c))]) ∧ w' = w := by
  have h := zz_any (({ data := #[91, 94] } : ByteArray) ++ b) c w (by rw [size2]; omega) (by rw [size2]; omega) hc
  rw [list2, G.caret_w _ _ (by rw [len_l]; exact hn), G.caret_ok _ _ (by rw [len_l]; exact hn)] at h
  exact h

set_option maxHeartbeats 400000 in
theorem walk (a0 : ByteArray) (a1 : Int) (w0 : a0.size ≤ maxLen) (w1 : (Lit.int .u8 a1).wf = true) (w : World) :
    Calls Try.prog 8 #[.string a0, .int .u8 a1] w fun e w' => e = .returned (.bool true) ∧ Grown w w' := by
  have hb := bounds_u8 w1
  obtain ⟨c, rfl⟩ : ∃ c : Nat, a1 = (c : Int) := ⟨a1.toNat, by omega⟩
  clear w1
  by_cases hbig : a0.size ≤ 1048576
  · by_cases h16 : a0.size ≤ 65536
    · go_enter Try.func8, Try.ntmps8
      go_wp2_with fail
      refine (fits_yes _ _ _ hbig).mono ?_
      rintro e w' ⟨rfl, rfl⟩
      have hw := G.setW_le (91 :: a0.data.toList) c (by simp)
      rw [List.length_cons, len_l] at hw
      go_wp2_with fail
      · go_ret
        exact ⟨rfl, Grown.refl _⟩
      · have hz : 0 < a0.size := by assumption
        have h94 : ((a0[0].toNat : Int) == 94) = false := by assumption
        have hn : ¬ (0 < a0.size ∧ G.byt a0.data.toList 0 = 94) := by rw [byt_at a0 0 hz]; simp at h94; omega
        refine (one _ _ _ h16 (by omega)).mono ?_
        rintro e w' ⟨rfl, rfl⟩
        go_wp2_with fail
        refine (two _ _ _ h16 (by omega) hn).mono ?_
        rintro e w' ⟨rfl, rfl⟩
        cases G.setOk (91 :: a0.data.toList) c
        · go_wp2
          go_ret
          exact ⟨rfl, Grown.refl _⟩
        · go_wp2
          go_ret
          exact ⟨rfl, Grown.refl _⟩
      · have hn : ¬ (0 < a0.size ∧ G.byt a0.data.toList 0 = 94) := by omega
        refine (one _ _ _ h16 (by omega)).mono ?_
        rintro e w' ⟨rfl, rfl⟩
        go_wp2_with fail
        refine (two _ _ _ h16 (by omega) hn).mono ?_
        rintro e w' ⟨rfl, rfl⟩
        cases G.setOk (91 :: a0.data.toList) c
        · go_wp2
          go_ret
          exact ⟨rfl, Grown.refl _⟩
        · go_wp2
          go_ret
          exact ⟨rfl, Grown.refl _⟩
    · go_enter Try.func8, Try.ntmps8
      go_wp2_with fail
      refine (fits_yes _ _ _ hbig).mono ?_
      rintro e w' ⟨rfl, rfl⟩
      go_wp2
      go_ret
      exact ⟨rfl, Grown.refl _⟩
  · go_enter Try.func8, Try.ntmps8
    go_wp2_with fail
    refine (fits_no _ _ _ w0 hbig).mono ?_
    rintro e w' ⟨rfl, rfl⟩
    go_wp2
    go_ret
    exact ⟨rfl, Grown.refl _⟩

/-! ### THE ROW's STEP: WRITTEN OUT: LEAVE IT -/
set_option maxRecDepth 100000 in
theorem lifted (os : Os) (started : os.Started) (H : Type) (enc : TypeId × Value → H) :
    ReturnsInHanded {} Try.checked os 8 .any (Rows.fnMatchSetCaretComplementsSpec.pre6 enc Try.prog Try.f8 Rows.fnMatchSetCaretComplementsRow.domain false) (Rows.fnMatchSetCaretComplementsSpec.post enc Try.prog Try.f8 false true false false) := by
  refine returnsInHanded_of_change (C := Try.checked) own started (by kernel_rfl) Try.func8
    (ChangeSpec.witness6 (enc := enc) (C := Try.checked) false ⟨#[], #[.string ByteArray.empty, .int .u8 0], []⟩ 8 (by kernel_rfl) (by kernel_rfl) (by kernel_rfl) (by kernel_rfl)) ?_
  intro W base args ds gs before hval0 hW hcnd _
  have hval : ∀ (j : Nat) t v, Try.f8.params[j]? = some t → args[j]? = some v → Value.okWide Try.prog W .any base t v := hval0
  have hW' := hW
  obtain ⟨p, q, hA0, hV, rfl, hfz, hnd⟩ := hW
  have hA : DataW.TrodAll enc Try.prog W 0 (fun _ => true) true Try.f8.params.toList args.toList ds p := hA0
  rw [Try.params8] at hA hval
  obtain ⟨v0, vs0, d0, ds0, p0, q0, hargs, rfl, rfl, h0, r0⟩ := trodAll_cons hA
  obtain ⟨v1, vs1, d1, ds1, p1, q1, rfl, rfl, rfl, h1, r1⟩ := trodAll_cons r0
  obtain ⟨rfl, rfl, rfl⟩ := trodAll_nil r1
  obtain rfl : args = #[v0, v1] := by cases args; simp_all
  obtain ⟨rfl, rfl⟩ := trodVars_none hV
  obtain ⟨a0, rfl, rfl, rfl, w0⟩ := open_string Try.underlying9 (hval 0 9 v0 rfl rfl) h0
  obtain ⟨a1, rfl, rfl, rfl, w1⟩ := open_int Try.underlying5 (hval 1 5 v1 rfl rfl) h1
  clear hA0 hval0
  simp only [List.append_nil] at hW'
  refine (walk a0 a1 w0 w1 W).mono fun e W' ⟨he, hg⟩ => ?_
  subst he
  exact ⟨_, rfl, post_of_same (pa := []) (pv := []) hW' (fun _ _ _ => (trodAll_cons_mk (shut_bool Try.underlying4 _) trodAll_mk0)) (fun sp _ => (trodAll_cons_mk (shut_string Try.underlying9 w0) (trodAll_cons_mk (shut_int Try.underlying5 w1) trodAll_mk0))) (fun _ _ => rfl) rfl
    (hg.frame _) hg.2.1 (ok_one (by kernel_rfl) rfl (okWide_bool_mk Try.underlying4 _))⟩

theorem over : Rows.fnMatchSetCaretComplementsRow.holds Try.pinned (OpenSpec.ofChange Rows.fnMatchSetCaretComplementsSpec) :=
  OpenClaim.holds_of_wide 8 Try.f8 rfl rfl rfl rfl rfl rfl rfl ⟨rfl, rfl, rfl, rfl, rfl⟩ rfl rfl rfl rfl rfl (by kernel_rfl) Try.func8 (by kernel_rfl)
    (of_decide_eq_true (by kernel_rfl)) (by unfold Func.isWrapper; first | (rw [if_pos (by decide +kernel)]; kernel_rfl) | (rw [if_neg (by decide +kernel)]; exact ⟨rfl, rfl⟩))
    (fun os started H enc _ => lifted os started H enc)

/-- ████ THE STATEMENT ████ -/
theorem proved : Rows.FnMatchSetCaretComplementsSaid :=
  over
end Go.Proofs.Qxb6603704a.fnMatchSetCaretComplements
