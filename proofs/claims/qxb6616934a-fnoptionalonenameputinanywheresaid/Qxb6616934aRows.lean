/-
  No cell of these rows narrows 'for every input' (looked for: loops, veiled, ifaces, maps, wideKeys, modest, calm, conditions, laid).
  DERIVED. THE GIVEN ROWS OF THIS SEAT. 4 by the template 'for every input the law returns true; each argument reads behind the call as it read before'; 0 by the template 'total and deterministic' (their statements: Qxb6616934aTotals.lean).
  GIVEN WITH THE SEED: the statements are not yours to turn. If you find one false, say at which input.
  Laid BY PROGRAM, IN A SANDBOX (cutbox-rows.mjs): the forced cells as the released guide's own fill.sh prints them over the translation 547bb234287f333c… (all of the seat's roots in one cut). By AI agents, Wed Nov 11 2026. No macro, syntax, notation, axiom, sorry.
-/
import Derived.Test.Qxb6616934aChecked
import GoSem.Claim
import GoSem.ClaimJoined
import GoSem.ClaimMapViews
import Derived.JoinedTies
import Derived.KernelRfl
namespace Go.Proofs.Qxb6616934a
/- THE CELL 'sum', in the pinned program and in every row, IS THE sha256 OF THE DUMP (.gsa) THAT Qxb6616934aProg.lean LOADS. Nothing in Lean hashes anything: it is a label: what it is worth is what the hold of that sum in a sandbox is worth. -/
noncomputable def Try.pinned : Pinned := { name := "qxb6616934a", sum := "547bb234287f333cd78934e5083c81ff48efab9ddd7199d57054f1ade9498858", checked := Try.checked }
namespace Rows
def none {H : Type} : Left H := { results := [], args := [] }

/-- 'zzlaws_pkg_csvfile_b1.FnOptionalSplitAtAnyCutRaisesNeedToLastNamedColumn': WHATEVER THE INPUT: true; the input reads as it did. -/
def fnOptionalSplitAtAnyCutRaisesNeedToLastNamedColumnSpec : ChangeSpec := { name := "fnOptionalSplitAtAnyCutRaisesNeedToLastNamedColumn", fn := fun _ => fun
  | [d1, d2, d3, d4] => { results := [.lit (.bool true)], args := [d1, d2, d3, d4] }
  | _ => none }
def fnOptionalSplitAtAnyCutRaisesNeedToLastNamedColumnRow : OpenClaim := { program := "qxb6616934a", sum := "547bb234287f333cd78934e5083c81ff48efab9ddd7199d57054f1ade9498858", func := "example.com/tuoguan/tuoguan/zzlaws_pkg_csvfile_b1.FnOptionalSplitAtAnyCutRaisesNeedToLastNamedColumn", spec := "fnOptionalSplitAtAnyCutRaisesNeedToLastNamedColumn", apart := false }
def FnOptionalSplitAtAnyCutRaisesNeedToLastNamedColumnSaid : Prop := fnOptionalSplitAtAnyCutRaisesNeedToLastNamedColumnRow.holds Try.pinned (OpenSpec.ofChange fnOptionalSplitAtAnyCutRaisesNeedToLastNamedColumnSpec)

/-- ITS FALSE NEIGHBOUR: 'it returns false'. Refute it at one input. -/
def fnOptionalSplitAtAnyCutRaisesNeedToLastNamedColumnWrong : ChangeSpec := { name := "fnOptionalSplitAtAnyCutRaisesNeedToLastNamedColumn", fn := fun _ => fun
  | [d1, d2, d3, d4] => { results := [.lit (.bool false)], args := [d1, d2, d3, d4] }
  | _ => none }
def FnOptionalSplitAtAnyCutRaisesNeedToLastNamedColumnWrongFalsely : Prop := fnOptionalSplitAtAnyCutRaisesNeedToLastNamedColumnRow.holds Try.pinned (OpenSpec.ofChange fnOptionalSplitAtAnyCutRaisesNeedToLastNamedColumnWrong)

/-- 'zzlaws_pkg_csvfile_b1.FnOptionalOneNamePutInAnywhere': WHATEVER THE INPUT: true; the input reads as it did. -/
def fnOptionalOneNamePutInAnywhereSpec : ChangeSpec := { name := "fnOptionalOneNamePutInAnywhere", fn := fun _ => fun
  | [d1, d2, d3, d4, d5] => { results := [.lit (.bool true)], args := [d1, d2, d3, d4, d5] }
  | _ => none }
def fnOptionalOneNamePutInAnywhereRow : OpenClaim := { program := "qxb6616934a", sum := "547bb234287f333cd78934e5083c81ff48efab9ddd7199d57054f1ade9498858", func := "example.com/tuoguan/tuoguan/zzlaws_pkg_csvfile_b1.FnOptionalOneNamePutInAnywhere", spec := "fnOptionalOneNamePutInAnywhere", apart := false }
def FnOptionalOneNamePutInAnywhereSaid : Prop := fnOptionalOneNamePutInAnywhereRow.holds Try.pinned (OpenSpec.ofChange fnOptionalOneNamePutInAnywhereSpec)

/-- ITS FALSE NEIGHBOUR: 'it returns false'. Refute it at one input. -/
def fnOptionalOneNamePutInAnywhereWrong : ChangeSpec := { name := "fnOptionalOneNamePutInAnywhere", fn := fun _ => fun
  | [d1, d2, d3, d4, d5] => { results := [.lit (.bool false)], args := [d1, d2, d3, d4, d5] }
  | _ => none }
def FnOptionalOneNamePutInAnywhereWrongFalsely : Prop := fnOptionalOneNamePutInAnywhereRow.holds Try.pinned (OpenSpec.ofChange fnOptionalOneNamePutInAnywhereWrong)

/-- 'zzlaws_pkg_csvfile_b1.FnFieldReadsItsHeaderColumnBeforeAndAfterOptional': WHATEVER THE INPUT: true; the input reads as it did. -/
def fnFieldReadsItsHeaderColumnBeforeAndAfterOptionalSpec : ChangeSpec := { name := "fnFieldReadsItsHeaderColumnBeforeAndAfterOptional", fn := fun _ => fun
  | [d1, d2, d3, d4, d5] => { results := [.lit (.bool true)], args := [d1, d2, d3, d4, d5] }
  | _ => none }
def fnFieldReadsItsHeaderColumnBeforeAndAfterOptionalRow : OpenClaim := { program := "qxb6616934a", sum := "547bb234287f333cd78934e5083c81ff48efab9ddd7199d57054f1ade9498858", func := "example.com/tuoguan/tuoguan/zzlaws_pkg_csvfile_b1.FnFieldReadsItsHeaderColumnBeforeAndAfterOptional", spec := "fnFieldReadsItsHeaderColumnBeforeAndAfterOptional", apart := false }
def FnFieldReadsItsHeaderColumnBeforeAndAfterOptionalSaid : Prop := fnFieldReadsItsHeaderColumnBeforeAndAfterOptionalRow.holds Try.pinned (OpenSpec.ofChange fnFieldReadsItsHeaderColumnBeforeAndAfterOptionalSpec)

/-- ITS FALSE NEIGHBOUR: 'it returns false'. Refute it at one input. -/
def fnFieldReadsItsHeaderColumnBeforeAndAfterOptionalWrong : ChangeSpec := { name := "fnFieldReadsItsHeaderColumnBeforeAndAfterOptional", fn := fun _ => fun
  | [d1, d2, d3, d4, d5] => { results := [.lit (.bool false)], args := [d1, d2, d3, d4, d5] }
  | _ => none }
def FnFieldReadsItsHeaderColumnBeforeAndAfterOptionalWrongFalsely : Prop := fnFieldReadsItsHeaderColumnBeforeAndAfterOptionalRow.holds Try.pinned (OpenSpec.ofChange fnFieldReadsItsHeaderColumnBeforeAndAfterOptionalWrong)

/-- 'zzlaws_pkg_csvfile_b1.FnFieldFollowsAColumnSwap': WHATEVER THE INPUT: true; the input reads as it did. -/
def fnFieldFollowsAColumnSwapSpec : ChangeSpec := { name := "fnFieldFollowsAColumnSwap", fn := fun _ => fun
  | [d1, d2, d3, d4, d5, d6] => { results := [.lit (.bool true)], args := [d1, d2, d3, d4, d5, d6] }
  | _ => none }
def fnFieldFollowsAColumnSwapRow : OpenClaim := { program := "qxb6616934a", sum := "547bb234287f333cd78934e5083c81ff48efab9ddd7199d57054f1ade9498858", func := "example.com/tuoguan/tuoguan/zzlaws_pkg_csvfile_b1.FnFieldFollowsAColumnSwap", spec := "fnFieldFollowsAColumnSwap", apart := false }
def FnFieldFollowsAColumnSwapSaid : Prop := fnFieldFollowsAColumnSwapRow.holds Try.pinned (OpenSpec.ofChange fnFieldFollowsAColumnSwapSpec)

/-- ITS FALSE NEIGHBOUR: 'it returns false'. Refute it at one input. -/
def fnFieldFollowsAColumnSwapWrong : ChangeSpec := { name := "fnFieldFollowsAColumnSwap", fn := fun _ => fun
  | [d1, d2, d3, d4, d5, d6] => { results := [.lit (.bool false)], args := [d1, d2, d3, d4, d5, d6] }
  | _ => none }
def FnFieldFollowsAColumnSwapWrongFalsely : Prop := fnFieldFollowsAColumnSwapRow.holds Try.pinned (OpenSpec.ofChange fnFieldFollowsAColumnSwapWrong)

end Rows
end Go.Proofs.Qxb6616934a
