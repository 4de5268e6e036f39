/-
  No cell of these rows narrows 'for every input' (looked for: loops, veiled, ifaces, maps, wideKeys, modest, calm, conditions, laid).
  DERIVED. THE GIVEN ROWS OF THIS SEAT. 4 by the template 'for every input the law returns true; each argument reads behind the call as it read before'; 0 by the template 'total and deterministic' (their statements: Qxb6619695aTotals.lean).
  GIVEN WITH THE SEED: the statements are not yours to turn. If you find one false, say at which input.
  Laid BY PROGRAM, IN A SANDBOX (cutbox-rows.mjs): the forced cells as the released guide's own fill.sh prints them over the translation 87163c06b1a45512… (all of the seat's roots in one cut). By AI agents, Wed Nov 11 2026. No macro, syntax, notation, axiom, sorry.
-/
import Derived.Test.Qxb6619695aChecked
import GoSem.Claim
import GoSem.ClaimJoined
import GoSem.ClaimMapViews
import Derived.JoinedTies
import Derived.KernelRfl
namespace Go.Proofs.Qxb6619695a
/- THE CELL 'sum', in the pinned program and in every row, IS THE sha256 OF THE DUMP (.gsa) THAT Qxb6619695aProg.lean LOADS. Nothing in Lean hashes anything: it is a label: what it is worth is what the hold of that sum in a sandbox is worth. -/
noncomputable def Try.pinned : Pinned := { name := "qxb6619695a", sum := "87163c06b1a45512eebc8e17a70b4c0c9b241fed30e335fc0646215ffc78436d", checked := Try.checked }
namespace Rows
def none {H : Type} : Left H := { results := [], args := [] }

/-- 'zzlaws_internal_threshold_b1.FnHoldsOrdersByTheDifference': WHATEVER THE INPUT: true; the input reads as it did. -/
def fnHoldsOrdersByTheDifferenceSpec : ChangeSpec := { name := "fnHoldsOrdersByTheDifference", fn := fun _ => fun
  | [d1, d2] => { results := [.lit (.bool true)], args := [d1, d2] }
  | _ => none }
def fnHoldsOrdersByTheDifferenceRow : OpenClaim := { program := "qxb6619695a", sum := "87163c06b1a45512eebc8e17a70b4c0c9b241fed30e335fc0646215ffc78436d", func := "example.com/openloop/openloop/zzlaws_internal_threshold_b1.FnHoldsOrdersByTheDifference", spec := "fnHoldsOrdersByTheDifference", apart := false }
def FnHoldsOrdersByTheDifferenceSaid : Prop := fnHoldsOrdersByTheDifferenceRow.holds Try.pinned (OpenSpec.ofChange fnHoldsOrdersByTheDifferenceSpec)

/-- ITS FALSE NEIGHBOUR: 'it returns false'. Refute it at one input. -/
def fnHoldsOrdersByTheDifferenceWrong : ChangeSpec := { name := "fnHoldsOrdersByTheDifference", fn := fun _ => fun
  | [d1, d2] => { results := [.lit (.bool false)], args := [d1, d2] }
  | _ => none }
def FnHoldsOrdersByTheDifferenceWrongFalsely : Prop := fnHoldsOrdersByTheDifferenceRow.holds Try.pinned (OpenSpec.ofChange fnHoldsOrdersByTheDifferenceWrong)

/-- 'zzlaws_internal_threshold_b1.FnHoldsUnknownOperatorIsNotEqual': WHATEVER THE INPUT: true; the input reads as it did. -/
def fnHoldsUnknownOperatorIsNotEqualSpec : ChangeSpec := { name := "fnHoldsUnknownOperatorIsNotEqual", fn := fun _ => fun
  | [d1, d2, d3] => { results := [.lit (.bool true)], args := [d1, d2, d3] }
  | _ => none }
def fnHoldsUnknownOperatorIsNotEqualRow : OpenClaim := { program := "qxb6619695a", sum := "87163c06b1a45512eebc8e17a70b4c0c9b241fed30e335fc0646215ffc78436d", func := "example.com/openloop/openloop/zzlaws_internal_threshold_b1.FnHoldsUnknownOperatorIsNotEqual", spec := "fnHoldsUnknownOperatorIsNotEqual", apart := false }
def FnHoldsUnknownOperatorIsNotEqualSaid : Prop := fnHoldsUnknownOperatorIsNotEqualRow.holds Try.pinned (OpenSpec.ofChange fnHoldsUnknownOperatorIsNotEqualSpec)

/-- ITS FALSE NEIGHBOUR: 'it returns false'. Refute it at one input. -/
def fnHoldsUnknownOperatorIsNotEqualWrong : ChangeSpec := { name := "fnHoldsUnknownOperatorIsNotEqual", fn := fun _ => fun
  | [d1, d2, d3] => { results := [.lit (.bool false)], args := [d1, d2, d3] }
  | _ => none }
def FnHoldsUnknownOperatorIsNotEqualWrongFalsely : Prop := fnHoldsUnknownOperatorIsNotEqualRow.holds Try.pinned (OpenSpec.ofChange fnHoldsUnknownOperatorIsNotEqualWrong)

/-- 'zzlaws_internal_threshold_b1.FnFailsFromMeansNoFigureAboveHolds': WHATEVER THE INPUT: true; the input reads as it did. -/
def fnFailsFromMeansNoFigureAboveHoldsSpec : ChangeSpec := { name := "fnFailsFromMeansNoFigureAboveHolds", fn := fun _ => fun
  | [d1, d2, d3, d4] => { results := [.lit (.bool true)], args := [d1, d2, d3, d4] }
  | _ => none }
def fnFailsFromMeansNoFigureAboveHoldsRow : OpenClaim := { program := "qxb6619695a", sum := "87163c06b1a45512eebc8e17a70b4c0c9b241fed30e335fc0646215ffc78436d", func := "example.com/openloop/openloop/zzlaws_internal_threshold_b1.FnFailsFromMeansNoFigureAboveHolds", spec := "fnFailsFromMeansNoFigureAboveHolds", apart := false }
def FnFailsFromMeansNoFigureAboveHoldsSaid : Prop := fnFailsFromMeansNoFigureAboveHoldsRow.holds Try.pinned (OpenSpec.ofChange fnFailsFromMeansNoFigureAboveHoldsSpec)

/-- ITS FALSE NEIGHBOUR: 'it returns false'. Refute it at one input. -/
def fnFailsFromMeansNoFigureAboveHoldsWrong : ChangeSpec := { name := "fnFailsFromMeansNoFigureAboveHolds", fn := fun _ => fun
  | [d1, d2, d3, d4] => { results := [.lit (.bool false)], args := [d1, d2, d3, d4] }
  | _ => none }
def FnFailsFromMeansNoFigureAboveHoldsWrongFalsely : Prop := fnFailsFromMeansNoFigureAboveHoldsRow.holds Try.pinned (OpenSpec.ofChange fnFailsFromMeansNoFigureAboveHoldsWrong)

/-- 'zzlaws_internal_threshold_b1.FnIsDigitsCutsAndInsertsAnywhere': WHATEVER THE INPUT: true; the input reads as it did. -/
def fnIsDigitsCutsAndInsertsAnywhereSpec : ChangeSpec := { name := "fnIsDigitsCutsAndInsertsAnywhere", fn := fun _ => fun
  | [d1, d2, d3, d4] => { results := [.lit (.bool true)], args := [d1, d2, d3, d4] }
  | _ => none }
def fnIsDigitsCutsAndInsertsAnywhereRow : OpenClaim := { program := "qxb6619695a", sum := "87163c06b1a45512eebc8e17a70b4c0c9b241fed30e335fc0646215ffc78436d", func := "example.com/openloop/openloop/zzlaws_internal_threshold_b1.FnIsDigitsCutsAndInsertsAnywhere", spec := "fnIsDigitsCutsAndInsertsAnywhere", apart := false }
def FnIsDigitsCutsAndInsertsAnywhereSaid : Prop := fnIsDigitsCutsAndInsertsAnywhereRow.holds Try.pinned (OpenSpec.ofChange fnIsDigitsCutsAndInsertsAnywhereSpec)

/-- ITS FALSE NEIGHBOUR: 'it returns false'. Refute it at one input. -/
def fnIsDigitsCutsAndInsertsAnywhereWrong : ChangeSpec := { name := "fnIsDigitsCutsAndInsertsAnywhere", fn := fun _ => fun
  | [d1, d2, d3, d4] => { results := [.lit (.bool false)], args := [d1, d2, d3, d4] }
  | _ => none }
def FnIsDigitsCutsAndInsertsAnywhereWrongFalsely : Prop := fnIsDigitsCutsAndInsertsAnywhereRow.holds Try.pinned (OpenSpec.ofChange fnIsDigitsCutsAndInsertsAnywhereWrong)

end Rows
end Go.Proofs.Qxb6619695a
