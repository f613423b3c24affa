/-
  No cell of these rows narrows 'for every input' (looked for: loops, veiled, ifaces, maps, wideKeys, modest, calm, conditions, laid).
  DERIVED. THE GIVEN ROWS OF THIS SEAT. 4 by the template 'for every input the law returns true; each argument reads behind the call as it read before'; 0 by the template 'total and deterministic' (their statements: Qxb6605767aTotals.lean).
  GIVEN WITH THE SEED: the statements are not yours to turn. If you find one false, say at which input.
  Laid BY PROGRAM, IN A SANDBOX (cutbox-rows.mjs): the forced cells as the released guide's own fill.sh prints them over the translation 2d43ae3d6729a69e… (all of the seat's roots in one cut). By AI agents, Wed Nov 11 2026. No macro, syntax, notation, axiom, sorry.
-/
import Derived.Test.Qxb6605767aChecked
import GoSem.Claim
import GoSem.ClaimJoined
import GoSem.ClaimMapViews
import Derived.JoinedTies
import Derived.KernelRfl
namespace Go.Proofs.Qxb6605767a
/- THE CELL 'sum', in the pinned program and in every row, IS THE sha256 OF THE DUMP (.gsa) THAT Qxb6605767aProg.lean LOADS. Nothing in Lean hashes anything: it is a label: what it is worth is what the hold of that sum in a sandbox is worth. -/
noncomputable def Try.pinned : Pinned := { name := "qxb6605767a", sum := "2d43ae3d6729a69e0d1ec526c21d71787c43d73f5df843b074982b0f23aa5ef3", checked := Try.checked }
namespace Rows
def none {H : Type} : Left H := { results := [], args := [] }

/-- 'zzlaws_internal_exact_b1.FnSignedResidue64ClosedForm': WHATEVER THE INPUT: true; the input reads as it did. -/
def fnSignedResidue64ClosedFormSpec : ChangeSpec := { name := "fnSignedResidue64ClosedForm", fn := fun _ => fun
  | [d1, d2] => { results := [.lit (.bool true)], args := [d1, d2] }
  | _ => none }
def fnSignedResidue64ClosedFormRow : OpenClaim := { program := "qxb6605767a", sum := "2d43ae3d6729a69e0d1ec526c21d71787c43d73f5df843b074982b0f23aa5ef3", func := "example.com/topologue/topologue/zzlaws_internal_exact_b1.FnSignedResidue64ClosedForm", spec := "fnSignedResidue64ClosedForm", apart := false }
def FnSignedResidue64ClosedFormSaid : Prop := fnSignedResidue64ClosedFormRow.holds Try.pinned (OpenSpec.ofChange fnSignedResidue64ClosedFormSpec)

/-- ITS FALSE NEIGHBOUR: 'it returns false'. Refute it at one input. -/
def fnSignedResidue64ClosedFormWrong : ChangeSpec := { name := "fnSignedResidue64ClosedForm", fn := fun _ => fun
  | [d1, d2] => { results := [.lit (.bool false)], args := [d1, d2] }
  | _ => none }
def FnSignedResidue64ClosedFormWrongFalsely : Prop := fnSignedResidue64ClosedFormRow.holds Try.pinned (OpenSpec.ofChange fnSignedResidue64ClosedFormWrong)

/-- 'zzlaws_internal_exact_b1.FnSignedResidue64StepsAndAgreesWithBig': WHATEVER THE INPUT: true; the input reads as it did. -/
def fnSignedResidue64StepsAndAgreesWithBigSpec : ChangeSpec := { name := "fnSignedResidue64StepsAndAgreesWithBig", fn := fun _ => fun
  | [d1, d2] => { results := [.lit (.bool true)], args := [d1, d2] }
  | _ => none }
def fnSignedResidue64StepsAndAgreesWithBigRow : OpenClaim := { program := "qxb6605767a", sum := "2d43ae3d6729a69e0d1ec526c21d71787c43d73f5df843b074982b0f23aa5ef3", func := "example.com/topologue/topologue/zzlaws_internal_exact_b1.FnSignedResidue64StepsAndAgreesWithBig", spec := "fnSignedResidue64StepsAndAgreesWithBig", named := ["math/bits.divideError", "math/bits.overflowError"], apart := false }
def FnSignedResidue64StepsAndAgreesWithBigSaid : Prop := fnSignedResidue64StepsAndAgreesWithBigRow.holds Try.pinned (OpenSpec.ofChange fnSignedResidue64StepsAndAgreesWithBigSpec)

/-- ITS FALSE NEIGHBOUR: 'it returns false'. Refute it at one input. -/
def fnSignedResidue64StepsAndAgreesWithBigWrong : ChangeSpec := { name := "fnSignedResidue64StepsAndAgreesWithBig", fn := fun _ => fun
  | [d1, d2] => { results := [.lit (.bool false)], args := [d1, d2] }
  | _ => none }
def FnSignedResidue64StepsAndAgreesWithBigWrongFalsely : Prop := fnSignedResidue64StepsAndAgreesWithBigRow.holds Try.pinned (OpenSpec.ofChange fnSignedResidue64StepsAndAgreesWithBigWrong)

/-- 'zzlaws_internal_exact_b1.FnDigitsDifferenceAddsBackToX': WHATEVER THE INPUT: true; the input reads as it did. -/
def fnDigitsDifferenceAddsBackToXSpec : ChangeSpec := { name := "fnDigitsDifferenceAddsBackToX", fn := fun _ => fun
  | [d1, d2] => { results := [.lit (.bool true)], args := [d1, d2] }
  | _ => none }
def fnDigitsDifferenceAddsBackToXRow : OpenClaim := { program := "qxb6605767a", sum := "2d43ae3d6729a69e0d1ec526c21d71787c43d73f5df843b074982b0f23aa5ef3", func := "example.com/topologue/topologue/zzlaws_internal_exact_b1.FnDigitsDifferenceAddsBackToX", spec := "fnDigitsDifferenceAddsBackToX", apart := false }
def FnDigitsDifferenceAddsBackToXSaid : Prop := fnDigitsDifferenceAddsBackToXRow.holds Try.pinned (OpenSpec.ofChange fnDigitsDifferenceAddsBackToXSpec)

/-- ITS FALSE NEIGHBOUR: 'it returns false'. Refute it at one input. -/
def fnDigitsDifferenceAddsBackToXWrong : ChangeSpec := { name := "fnDigitsDifferenceAddsBackToX", fn := fun _ => fun
  | [d1, d2] => { results := [.lit (.bool false)], args := [d1, d2] }
  | _ => none }
def FnDigitsDifferenceAddsBackToXWrongFalsely : Prop := fnDigitsDifferenceAddsBackToXRow.holds Try.pinned (OpenSpec.ofChange fnDigitsDifferenceAddsBackToXWrong)

/-- 'zzlaws_internal_exact_b1.FnDigitsDifferenceTwiceGivesY': WHATEVER THE INPUT: true; the input reads as it did. -/
def fnDigitsDifferenceTwiceGivesYSpec : ChangeSpec := { name := "fnDigitsDifferenceTwiceGivesY", fn := fun _ => fun
  | [d1, d2] => { results := [.lit (.bool true)], args := [d1, d2] }
  | _ => none }
def fnDigitsDifferenceTwiceGivesYRow : OpenClaim := { program := "qxb6605767a", sum := "2d43ae3d6729a69e0d1ec526c21d71787c43d73f5df843b074982b0f23aa5ef3", func := "example.com/topologue/topologue/zzlaws_internal_exact_b1.FnDigitsDifferenceTwiceGivesY", spec := "fnDigitsDifferenceTwiceGivesY", apart := false }
def FnDigitsDifferenceTwiceGivesYSaid : Prop := fnDigitsDifferenceTwiceGivesYRow.holds Try.pinned (OpenSpec.ofChange fnDigitsDifferenceTwiceGivesYSpec)

/-- ITS FALSE NEIGHBOUR: 'it returns false'. Refute it at one input. -/
def fnDigitsDifferenceTwiceGivesYWrong : ChangeSpec := { name := "fnDigitsDifferenceTwiceGivesY", fn := fun _ => fun
  | [d1, d2] => { results := [.lit (.bool false)], args := [d1, d2] }
  | _ => none }
def FnDigitsDifferenceTwiceGivesYWrongFalsely : Prop := fnDigitsDifferenceTwiceGivesYRow.holds Try.pinned (OpenSpec.ofChange fnDigitsDifferenceTwiceGivesYWrong)

end Rows
end Go.Proofs.Qxb6605767a
