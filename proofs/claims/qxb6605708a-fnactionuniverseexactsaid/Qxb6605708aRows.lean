/-
  NARROWER THAN 'FOR EVERY INPUT', by the rows' own cells (each row's printed sentence says how): FnMostMatchesDenseCount: maps · FnMostLinearInHolding: maps.
  DERIVED. THE GIVEN ROWS OF THIS SEAT. 4 by the template 'for every input the law returns true; each argument reads behind the call as it read before'; 0 by the template 'total and deterministic' (their statements: Qxb6605708aTotals.lean).
  GIVEN WITH THE SEED: the statements are not yours to turn. If you find one false, say at which input.
  Laid BY PROGRAM, IN A SANDBOX (cutbox-rows.mjs): the forced cells as the released guide's own fill.sh prints them over the translation 2f218dbdf1ac254f… (all of the seat's roots in one cut). By AI agents, Wed Nov 11 2026. No macro, syntax, notation, axiom, sorry.
-/
import Derived.Test.Qxb6605708aChecked
import GoSem.Claim
import GoSem.ClaimJoined
import GoSem.ClaimMapViews
import Derived.JoinedTies
import Derived.KernelRfl
namespace Go.Proofs.Qxb6605708a
/- THE CELL 'sum', in the pinned program and in every row, IS THE sha256 OF THE DUMP (.gsa) THAT Qxb6605708aProg.lean LOADS. Nothing in Lean hashes anything: it is a label: what it is worth is what the hold of that sum in a sandbox is worth. -/
noncomputable def Try.pinned : Pinned := { name := "qxb6605708a", sum := "2f218dbdf1ac254fa2122cd28bd8ead722814e9cc9bc71e020169fe22a18c942", checked := Try.checked }
namespace Rows
def none {H : Type} : Left H := { results := [], args := [] }

/-- 'zzlaws_root_b1.FnMostMatchesDenseCount': WHATEVER THE INPUT: true; the input reads as it did. -/
def fnMostMatchesDenseCountSpec : ChangeSpec := { name := "fnMostMatchesDenseCount", fn := fun _ => fun
  | [d1, d2, d3, d4, d5, d6] => { results := [.lit (.bool true)], args := [d1, d2, d3, d4, d5, d6] }
  | _ => none }
def fnMostMatchesDenseCountRow : OpenClaim := { program := "qxb6605708a", sum := "2f218dbdf1ac254fa2122cd28bd8ead722814e9cc9bc71e020169fe22a18c942", func := "example.com/obligation/obligation/zzlaws_root_b1.FnMostMatchesDenseCount", spec := "fnMostMatchesDenseCount", maps := true, apart := false }
def FnMostMatchesDenseCountSaid : Prop := fnMostMatchesDenseCountRow.holds Try.pinned (OpenSpec.ofChange fnMostMatchesDenseCountSpec)

/-- ITS FALSE NEIGHBOUR: 'it returns false'. Refute it at one input. -/
def fnMostMatchesDenseCountWrong : ChangeSpec := { name := "fnMostMatchesDenseCount", fn := fun _ => fun
  | [d1, d2, d3, d4, d5, d6] => { results := [.lit (.bool false)], args := [d1, d2, d3, d4, d5, d6] }
  | _ => none }
def FnMostMatchesDenseCountWrongFalsely : Prop := fnMostMatchesDenseCountRow.holds Try.pinned (OpenSpec.ofChange fnMostMatchesDenseCountWrong)

/-- 'zzlaws_root_b1.FnMostLinearInHolding': WHATEVER THE INPUT: true; the input reads as it did. -/
def fnMostLinearInHoldingSpec : ChangeSpec := { name := "fnMostLinearInHolding", fn := fun _ => fun
  | [d1, d2, d3, d4, d5, d6, d7, d8] => { results := [.lit (.bool true)], args := [d1, d2, d3, d4, d5, d6, d7, d8] }
  | _ => none }
def fnMostLinearInHoldingRow : OpenClaim := { program := "qxb6605708a", sum := "2f218dbdf1ac254fa2122cd28bd8ead722814e9cc9bc71e020169fe22a18c942", func := "example.com/obligation/obligation/zzlaws_root_b1.FnMostLinearInHolding", spec := "fnMostLinearInHolding", maps := true, apart := false }
def FnMostLinearInHoldingSaid : Prop := fnMostLinearInHoldingRow.holds Try.pinned (OpenSpec.ofChange fnMostLinearInHoldingSpec)

/-- ITS FALSE NEIGHBOUR: 'it returns false'. Refute it at one input. -/
def fnMostLinearInHoldingWrong : ChangeSpec := { name := "fnMostLinearInHolding", fn := fun _ => fun
  | [d1, d2, d3, d4, d5, d6, d7, d8] => { results := [.lit (.bool false)], args := [d1, d2, d3, d4, d5, d6, d7, d8] }
  | _ => none }
def FnMostLinearInHoldingWrongFalsely : Prop := fnMostLinearInHoldingRow.holds Try.pinned (OpenSpec.ofChange fnMostLinearInHoldingWrong)

/-- 'zzlaws_root_b1.FnActionUniverseExact': WHATEVER THE INPUT: true; the input reads as it did. -/
def fnActionUniverseExactSpec : ChangeSpec := { name := "fnActionUniverseExact", fn := fun _ => fun
  | [d1, d2] => { results := [.lit (.bool true)], args := [d1, d2] }
  | _ => none }
def fnActionUniverseExactRow : OpenClaim := { program := "qxb6605708a", sum := "2f218dbdf1ac254fa2122cd28bd8ead722814e9cc9bc71e020169fe22a18c942", func := "example.com/obligation/obligation/zzlaws_root_b1.FnActionUniverseExact", spec := "fnActionUniverseExact", inPlace := ["internal/abi.NoEscape", "internal/bytealg.MakeNoZero"], recurses := true, apart := false }
def FnActionUniverseExactSaid : Prop := fnActionUniverseExactRow.holds Try.pinned (OpenSpec.ofChange fnActionUniverseExactSpec)

/-- ITS FALSE NEIGHBOUR: 'it returns false'. Refute it at one input. -/
def fnActionUniverseExactWrong : ChangeSpec := { name := "fnActionUniverseExact", fn := fun _ => fun
  | [d1, d2] => { results := [.lit (.bool false)], args := [d1, d2] }
  | _ => none }
def FnActionUniverseExactWrongFalsely : Prop := fnActionUniverseExactRow.holds Try.pinned (OpenSpec.ofChange fnActionUniverseExactWrong)

/-- 'zzlaws_root_b1.FnActionUniverseOrderFree': WHATEVER THE INPUT: true; the input reads as it did. -/
def fnActionUniverseOrderFreeSpec : ChangeSpec := { name := "fnActionUniverseOrderFree", fn := fun _ => fun
  | [d1, d2] => { results := [.lit (.bool true)], args := [d1, d2] }
  | _ => none }
def fnActionUniverseOrderFreeRow : OpenClaim := { program := "qxb6605708a", sum := "2f218dbdf1ac254fa2122cd28bd8ead722814e9cc9bc71e020169fe22a18c942", func := "example.com/obligation/obligation/zzlaws_root_b1.FnActionUniverseOrderFree", spec := "fnActionUniverseOrderFree", inPlace := ["internal/abi.NoEscape", "internal/bytealg.MakeNoZero"], recurses := true, apart := false }
def FnActionUniverseOrderFreeSaid : Prop := fnActionUniverseOrderFreeRow.holds Try.pinned (OpenSpec.ofChange fnActionUniverseOrderFreeSpec)

/-- ITS FALSE NEIGHBOUR: 'it returns false'. Refute it at one input. -/
def fnActionUniverseOrderFreeWrong : ChangeSpec := { name := "fnActionUniverseOrderFree", fn := fun _ => fun
  | [d1, d2] => { results := [.lit (.bool false)], args := [d1, d2] }
  | _ => none }
def FnActionUniverseOrderFreeWrongFalsely : Prop := fnActionUniverseOrderFreeRow.holds Try.pinned (OpenSpec.ofChange fnActionUniverseOrderFreeWrong)

end Rows
end Go.Proofs.Qxb6605708a
