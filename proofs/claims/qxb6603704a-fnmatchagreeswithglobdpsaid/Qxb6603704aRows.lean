/-
  No cell of these rows narrows 'for every input' (looked for: loops, veiled, ifaces, maps, wideKeys, modest, calm, conditions, laid).
  DERIVED. THE GIVEN ROWS OF THIS SEAT. 7 by the template 'for every input the law returns true; each argument reads behind the call as it read before'; 0 by the template 'total and deterministic' (their statements: Qxb6603704aTotals.lean).
  GIVEN WITH THE SEED: the statements are not yours to turn. If you find one false, say at which input.
  Laid BY PROGRAM, IN A SANDBOX (cutbox-rows.mjs): the forced cells as the released guide's own fill.sh prints them over the translation ae441928ed5a6d07… (all of the seat's roots in one cut). By AI agents, Wed Nov 11 2026. No macro, syntax, notation, axiom, sorry.
-/
import Derived.Test.Qxb6603704aChecked
import GoSem.Claim
import GoSem.ClaimJoined
import GoSem.ClaimMapViews
import Derived.JoinedTies
import Derived.KernelRfl
namespace Go.Proofs.Qxb6603704a
/- THE CELL 'sum', in the pinned program and in every row, IS THE sha256 OF THE DUMP (.gsa) THAT Qxb6603704aProg.lean LOADS. Nothing in Lean hashes anything: it is a label: what it is worth is what the hold of that sum in a sandbox is worth. -/
noncomputable def Try.pinned : Pinned := { name := "qxb6603704a", sum := "ae441928ed5a6d07789614e8d31fcd792713a7c06667b17986bf6de44a0e6b1b", checked := Try.checked }
namespace Rows
def none {H : Type} : Left H := { results := [], args := [] }

/-- 'zzlaws_pubsub_b1.FnMatchAgreesWithGlobDP': WHATEVER THE INPUT: true; the input reads as it did. -/
def fnMatchAgreesWithGlobDPSpec : ChangeSpec := { name := "fnMatchAgreesWithGlobDP", fn := fun _ => fun
  | [d1, d2] => { results := [.lit (.bool true)], args := [d1, d2] }
  | _ => none }
def fnMatchAgreesWithGlobDPRow : OpenClaim := { program := "qxb6603704a", sum := "ae441928ed5a6d07789614e8d31fcd792713a7c06667b17986bf6de44a0e6b1b", func := "example.com/watchkeep/watchkeep/zzlaws_pubsub_b1.FnMatchAgreesWithGlobDP", spec := "fnMatchAgreesWithGlobDP", apart := false }
def FnMatchAgreesWithGlobDPSaid : Prop := fnMatchAgreesWithGlobDPRow.holds Try.pinned (OpenSpec.ofChange fnMatchAgreesWithGlobDPSpec)

/-- ITS FALSE NEIGHBOUR: 'it returns false'. Refute it at one input. -/
def fnMatchAgreesWithGlobDPWrong : ChangeSpec := { name := "fnMatchAgreesWithGlobDP", fn := fun _ => fun
  | [d1, d2] => { results := [.lit (.bool false)], args := [d1, d2] }
  | _ => none }
def FnMatchAgreesWithGlobDPWrongFalsely : Prop := fnMatchAgreesWithGlobDPRow.holds Try.pinned (OpenSpec.ofChange fnMatchAgreesWithGlobDPWrong)

/-- 'zzlaws_pubsub_b1.FnMatchEscapedTextMatchesItselfAlone': WHATEVER THE INPUT: true; the input reads as it did. -/
def fnMatchEscapedTextMatchesItselfAloneSpec : ChangeSpec := { name := "fnMatchEscapedTextMatchesItselfAlone", fn := fun _ => fun
  | [d1, d2] => { results := [.lit (.bool true)], args := [d1, d2] }
  | _ => none }
def fnMatchEscapedTextMatchesItselfAloneRow : OpenClaim := { program := "qxb6603704a", sum := "ae441928ed5a6d07789614e8d31fcd792713a7c06667b17986bf6de44a0e6b1b", func := "example.com/watchkeep/watchkeep/zzlaws_pubsub_b1.FnMatchEscapedTextMatchesItselfAlone", spec := "fnMatchEscapedTextMatchesItselfAlone", apart := false }
def FnMatchEscapedTextMatchesItselfAloneSaid : Prop := fnMatchEscapedTextMatchesItselfAloneRow.holds Try.pinned (OpenSpec.ofChange fnMatchEscapedTextMatchesItselfAloneSpec)

/-- ITS FALSE NEIGHBOUR: 'it returns false'. Refute it at one input. -/
def fnMatchEscapedTextMatchesItselfAloneWrong : ChangeSpec := { name := "fnMatchEscapedTextMatchesItselfAlone", fn := fun _ => fun
  | [d1, d2] => { results := [.lit (.bool false)], args := [d1, d2] }
  | _ => none }
def FnMatchEscapedTextMatchesItselfAloneWrongFalsely : Prop := fnMatchEscapedTextMatchesItselfAloneRow.holds Try.pinned (OpenSpec.ofChange fnMatchEscapedTextMatchesItselfAloneWrong)

/-- 'zzlaws_pubsub_b1.FnMatchOneAgreesWithElementModel': WHATEVER THE INPUT: true; the input reads as it did. -/
def fnMatchOneAgreesWithElementModelSpec : ChangeSpec := { name := "fnMatchOneAgreesWithElementModel", fn := fun _ => fun
  | [d1, d2] => { results := [.lit (.bool true)], args := [d1, d2] }
  | _ => none }
def fnMatchOneAgreesWithElementModelRow : OpenClaim := { program := "qxb6603704a", sum := "ae441928ed5a6d07789614e8d31fcd792713a7c06667b17986bf6de44a0e6b1b", func := "example.com/watchkeep/watchkeep/zzlaws_pubsub_b1.FnMatchOneAgreesWithElementModel", spec := "fnMatchOneAgreesWithElementModel", apart := false }
def FnMatchOneAgreesWithElementModelSaid : Prop := fnMatchOneAgreesWithElementModelRow.holds Try.pinned (OpenSpec.ofChange fnMatchOneAgreesWithElementModelSpec)

/-- ITS FALSE NEIGHBOUR: 'it returns false'. Refute it at one input. -/
def fnMatchOneAgreesWithElementModelWrong : ChangeSpec := { name := "fnMatchOneAgreesWithElementModel", fn := fun _ => fun
  | [d1, d2] => { results := [.lit (.bool false)], args := [d1, d2] }
  | _ => none }
def FnMatchOneAgreesWithElementModelWrongFalsely : Prop := fnMatchOneAgreesWithElementModelRow.holds Try.pinned (OpenSpec.ofChange fnMatchOneAgreesWithElementModelWrong)

/-- 'zzlaws_pubsub_b1.FnMatchOneNonSetElementAcceptsExactlyOneByte': WHATEVER THE INPUT: true; the input reads as it did. -/
def fnMatchOneNonSetElementAcceptsExactlyOneByteSpec : ChangeSpec := { name := "fnMatchOneNonSetElementAcceptsExactlyOneByte", fn := fun _ => fun
  | [d] => { results := [.lit (.bool true)], args := [d] }
  | _ => none }
def fnMatchOneNonSetElementAcceptsExactlyOneByteRow : OpenClaim := { program := "qxb6603704a", sum := "ae441928ed5a6d07789614e8d31fcd792713a7c06667b17986bf6de44a0e6b1b", func := "example.com/watchkeep/watchkeep/zzlaws_pubsub_b1.FnMatchOneNonSetElementAcceptsExactlyOneByte", spec := "fnMatchOneNonSetElementAcceptsExactlyOneByte", apart := false }
def FnMatchOneNonSetElementAcceptsExactlyOneByteSaid : Prop := fnMatchOneNonSetElementAcceptsExactlyOneByteRow.holds Try.pinned (OpenSpec.ofChange fnMatchOneNonSetElementAcceptsExactlyOneByteSpec)

/-- ITS FALSE NEIGHBOUR: 'it returns false'. Refute it at one input. -/
def fnMatchOneNonSetElementAcceptsExactlyOneByteWrong : ChangeSpec := { name := "fnMatchOneNonSetElementAcceptsExactlyOneByte", fn := fun _ => fun
  | [d] => { results := [.lit (.bool false)], args := [d] }
  | _ => none }
def FnMatchOneNonSetElementAcceptsExactlyOneByteWrongFalsely : Prop := fnMatchOneNonSetElementAcceptsExactlyOneByteRow.holds Try.pinned (OpenSpec.ofChange fnMatchOneNonSetElementAcceptsExactlyOneByteWrong)

/-- 'zzlaws_pubsub_b1.FnMatchSetAgreesWithSetModel': WHATEVER THE INPUT: true; the input reads as it did. -/
def fnMatchSetAgreesWithSetModelSpec : ChangeSpec := { name := "fnMatchSetAgreesWithSetModel", fn := fun _ => fun
  | [d1, d2] => { results := [.lit (.bool true)], args := [d1, d2] }
  | _ => none }
def fnMatchSetAgreesWithSetModelRow : OpenClaim := { program := "qxb6603704a", sum := "ae441928ed5a6d07789614e8d31fcd792713a7c06667b17986bf6de44a0e6b1b", func := "example.com/watchkeep/watchkeep/zzlaws_pubsub_b1.FnMatchSetAgreesWithSetModel", spec := "fnMatchSetAgreesWithSetModel", apart := false }
def FnMatchSetAgreesWithSetModelSaid : Prop := fnMatchSetAgreesWithSetModelRow.holds Try.pinned (OpenSpec.ofChange fnMatchSetAgreesWithSetModelSpec)

/-- ITS FALSE NEIGHBOUR: 'it returns false'. Refute it at one input. -/
def fnMatchSetAgreesWithSetModelWrong : ChangeSpec := { name := "fnMatchSetAgreesWithSetModel", fn := fun _ => fun
  | [d1, d2] => { results := [.lit (.bool false)], args := [d1, d2] }
  | _ => none }
def FnMatchSetAgreesWithSetModelWrongFalsely : Prop := fnMatchSetAgreesWithSetModelRow.holds Try.pinned (OpenSpec.ofChange fnMatchSetAgreesWithSetModelWrong)

/-- 'zzlaws_pubsub_b1.FnMatchSetCaretComplements': WHATEVER THE INPUT: true; the input reads as it did. -/
def fnMatchSetCaretComplementsSpec : ChangeSpec := { name := "fnMatchSetCaretComplements", fn := fun _ => fun
  | [d1, d2] => { results := [.lit (.bool true)], args := [d1, d2] }
  | _ => none }
def fnMatchSetCaretComplementsRow : OpenClaim := { program := "qxb6603704a", sum := "ae441928ed5a6d07789614e8d31fcd792713a7c06667b17986bf6de44a0e6b1b", func := "example.com/watchkeep/watchkeep/zzlaws_pubsub_b1.FnMatchSetCaretComplements", spec := "fnMatchSetCaretComplements", apart := false }
def FnMatchSetCaretComplementsSaid : Prop := fnMatchSetCaretComplementsRow.holds Try.pinned (OpenSpec.ofChange fnMatchSetCaretComplementsSpec)

/-- ITS FALSE NEIGHBOUR: 'it returns false'. Refute it at one input. -/
def fnMatchSetCaretComplementsWrong : ChangeSpec := { name := "fnMatchSetCaretComplements", fn := fun _ => fun
  | [d1, d2] => { results := [.lit (.bool false)], args := [d1, d2] }
  | _ => none }
def FnMatchSetCaretComplementsWrongFalsely : Prop := fnMatchSetCaretComplementsRow.holds Try.pinned (OpenSpec.ofChange fnMatchSetCaretComplementsWrong)

/-- 'zzlaws_pubsub_b1.FnMatchSetWidthIgnoresByteAndEndsAtBracket': WHATEVER THE INPUT: true; the input reads as it did. -/
def fnMatchSetWidthIgnoresByteAndEndsAtBracketSpec : ChangeSpec := { name := "fnMatchSetWidthIgnoresByteAndEndsAtBracket", fn := fun _ => fun
  | [d] => { results := [.lit (.bool true)], args := [d] }
  | _ => none }
def fnMatchSetWidthIgnoresByteAndEndsAtBracketRow : OpenClaim := { program := "qxb6603704a", sum := "ae441928ed5a6d07789614e8d31fcd792713a7c06667b17986bf6de44a0e6b1b", func := "example.com/watchkeep/watchkeep/zzlaws_pubsub_b1.FnMatchSetWidthIgnoresByteAndEndsAtBracket", spec := "fnMatchSetWidthIgnoresByteAndEndsAtBracket", apart := false }
def FnMatchSetWidthIgnoresByteAndEndsAtBracketSaid : Prop := fnMatchSetWidthIgnoresByteAndEndsAtBracketRow.holds Try.pinned (OpenSpec.ofChange fnMatchSetWidthIgnoresByteAndEndsAtBracketSpec)

/-- ITS FALSE NEIGHBOUR: 'it returns false'. Refute it at one input. -/
def fnMatchSetWidthIgnoresByteAndEndsAtBracketWrong : ChangeSpec := { name := "fnMatchSetWidthIgnoresByteAndEndsAtBracket", fn := fun _ => fun
  | [d] => { results := [.lit (.bool false)], args := [d] }
  | _ => none }
def FnMatchSetWidthIgnoresByteAndEndsAtBracketWrongFalsely : Prop := fnMatchSetWidthIgnoresByteAndEndsAtBracketRow.holds Try.pinned (OpenSpec.ofChange fnMatchSetWidthIgnoresByteAndEndsAtBracketWrong)

end Rows
end Go.Proofs.Qxb6603704a
