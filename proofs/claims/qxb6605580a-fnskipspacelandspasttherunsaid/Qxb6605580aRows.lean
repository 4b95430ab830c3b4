/-
  No cell of these rows narrows 'for every input' (looked for: loops, veiled, ifaces, maps, wideKeys, modest, calm, conditions, laid).
  DERIVED. THE GIVEN ROWS OF THIS SEAT. 4 by the template 'for every input the law returns true; each argument reads behind the call as it read before'; 0 by the template 'total and deterministic' (their statements: Qxb6605580aTotals.lean).
  GIVEN WITH THE SEED: the statements are not yours to turn. If you find one false, say at which input.
  Laid BY PROGRAM, IN A SANDBOX (cutbox-rows.mjs): the forced cells as the released guide's own fill.sh prints them over the translation 14c312cf9dce6770… (all of the seat's roots in one cut). By AI agents, Wed Nov 11 2026. No macro, syntax, notation, axiom, sorry.
-/
import Derived.Test.Qxb6605580aChecked
import GoSem.Claim
import GoSem.ClaimJoined
import GoSem.ClaimMapViews
import Derived.JoinedTies
import Derived.KernelRfl
namespace Go.Proofs.Qxb6605580a
/- THE CELL 'sum', in the pinned program and in every row, IS THE sha256 OF THE DUMP (.gsa) THAT Qxb6605580aProg.lean LOADS. Nothing in Lean hashes anything: it is a label: what it is worth is what the hold of that sum in a sandbox is worth. -/
noncomputable def Try.pinned : Pinned := { name := "qxb6605580a", sum := "14c312cf9dce67704795b59b06632fac47705320201248a24aaa1ac7efaf747b", checked := Try.checked }
namespace Rows
def none {H : Type} : Left H := { results := [], args := [] }

/-- 'zzlaws_internal_input_b1.FnRepeatsMarksEarlierNames': WHATEVER THE INPUT: true; the input reads as it did. -/
def fnRepeatsMarksEarlierNamesSpec : ChangeSpec := { name := "fnRepeatsMarksEarlierNames", fn := fun _ => fun
  | [d] => { results := [.lit (.bool true)], args := [d] }
  | _ => none }
def fnRepeatsMarksEarlierNamesRow : OpenClaim := { program := "qxb6605580a", sum := "14c312cf9dce67704795b59b06632fac47705320201248a24aaa1ac7efaf747b", func := "example.com/tuoguan/tuoguan/zzlaws_internal_input_b1.FnRepeatsMarksEarlierNames", spec := "fnRepeatsMarksEarlierNames", apart := false }
def FnRepeatsMarksEarlierNamesSaid : Prop := fnRepeatsMarksEarlierNamesRow.holds Try.pinned (OpenSpec.ofChange fnRepeatsMarksEarlierNamesSpec)

/-- ITS FALSE NEIGHBOUR: 'it returns false'. Refute it at one input. -/
def fnRepeatsMarksEarlierNamesWrong : ChangeSpec := { name := "fnRepeatsMarksEarlierNames", fn := fun _ => fun
  | [d] => { results := [.lit (.bool false)], args := [d] }
  | _ => none }
def FnRepeatsMarksEarlierNamesWrongFalsely : Prop := fnRepeatsMarksEarlierNamesRow.holds Try.pinned (OpenSpec.ofChange fnRepeatsMarksEarlierNamesWrong)

/-- 'zzlaws_internal_input_b1.FnRepeatsRemembersEveryName': WHATEVER THE INPUT: true; the input reads as it did. -/
def fnRepeatsRemembersEveryNameSpec : ChangeSpec := { name := "fnRepeatsRemembersEveryName", fn := fun _ => fun
  | [d] => { results := [.lit (.bool true)], args := [d] }
  | _ => none }
def fnRepeatsRemembersEveryNameRow : OpenClaim := { program := "qxb6605580a", sum := "14c312cf9dce67704795b59b06632fac47705320201248a24aaa1ac7efaf747b", func := "example.com/tuoguan/tuoguan/zzlaws_internal_input_b1.FnRepeatsRemembersEveryName", spec := "fnRepeatsRemembersEveryName", apart := false }
def FnRepeatsRemembersEveryNameSaid : Prop := fnRepeatsRemembersEveryNameRow.holds Try.pinned (OpenSpec.ofChange fnRepeatsRemembersEveryNameSpec)

/-- ITS FALSE NEIGHBOUR: 'it returns false'. Refute it at one input. -/
def fnRepeatsRemembersEveryNameWrong : ChangeSpec := { name := "fnRepeatsRemembersEveryName", fn := fun _ => fun
  | [d] => { results := [.lit (.bool false)], args := [d] }
  | _ => none }
def FnRepeatsRemembersEveryNameWrongFalsely : Prop := fnRepeatsRemembersEveryNameRow.holds Try.pinned (OpenSpec.ofChange fnRepeatsRemembersEveryNameWrong)

/-- 'zzlaws_internal_input_b1.FnSkipSpaceLandsPastTheRun': WHATEVER THE INPUT: true; the input reads as it did. -/
def fnSkipSpaceLandsPastTheRunSpec : ChangeSpec := { name := "fnSkipSpaceLandsPastTheRun", fn := fun _ => fun
  | [d1, d2, d3, d4] => { results := [.lit (.bool true)], args := [d1, d2, d3, d4] }
  | _ => none }
def fnSkipSpaceLandsPastTheRunRow : OpenClaim := { program := "qxb6605580a", sum := "14c312cf9dce67704795b59b06632fac47705320201248a24aaa1ac7efaf747b", func := "example.com/tuoguan/tuoguan/zzlaws_internal_input_b1.FnSkipSpaceLandsPastTheRun", spec := "fnSkipSpaceLandsPastTheRun", apart := false }
def FnSkipSpaceLandsPastTheRunSaid : Prop := fnSkipSpaceLandsPastTheRunRow.holds Try.pinned (OpenSpec.ofChange fnSkipSpaceLandsPastTheRunSpec)

/-- ITS FALSE NEIGHBOUR: 'it returns false'. Refute it at one input. -/
def fnSkipSpaceLandsPastTheRunWrong : ChangeSpec := { name := "fnSkipSpaceLandsPastTheRun", fn := fun _ => fun
  | [d1, d2, d3, d4] => { results := [.lit (.bool false)], args := [d1, d2, d3, d4] }
  | _ => none }
def FnSkipSpaceLandsPastTheRunWrongFalsely : Prop := fnSkipSpaceLandsPastTheRunRow.holds Try.pinned (OpenSpec.ofChange fnSkipSpaceLandsPastTheRunWrong)

/-- 'zzlaws_internal_input_b1.FnSkipSpaceLandsAlikeFromWithinTheRun': WHATEVER THE INPUT: true; the input reads as it did. -/
def fnSkipSpaceLandsAlikeFromWithinTheRunSpec : ChangeSpec := { name := "fnSkipSpaceLandsAlikeFromWithinTheRun", fn := fun _ => fun
  | [d1, d2] => { results := [.lit (.bool true)], args := [d1, d2] }
  | _ => none }
def fnSkipSpaceLandsAlikeFromWithinTheRunRow : OpenClaim := { program := "qxb6605580a", sum := "14c312cf9dce67704795b59b06632fac47705320201248a24aaa1ac7efaf747b", func := "example.com/tuoguan/tuoguan/zzlaws_internal_input_b1.FnSkipSpaceLandsAlikeFromWithinTheRun", spec := "fnSkipSpaceLandsAlikeFromWithinTheRun", apart := false }
def FnSkipSpaceLandsAlikeFromWithinTheRunSaid : Prop := fnSkipSpaceLandsAlikeFromWithinTheRunRow.holds Try.pinned (OpenSpec.ofChange fnSkipSpaceLandsAlikeFromWithinTheRunSpec)

/-- ITS FALSE NEIGHBOUR: 'it returns false'. Refute it at one input. -/
def fnSkipSpaceLandsAlikeFromWithinTheRunWrong : ChangeSpec := { name := "fnSkipSpaceLandsAlikeFromWithinTheRun", fn := fun _ => fun
  | [d1, d2] => { results := [.lit (.bool false)], args := [d1, d2] }
  | _ => none }
def FnSkipSpaceLandsAlikeFromWithinTheRunWrongFalsely : Prop := fnSkipSpaceLandsAlikeFromWithinTheRunRow.holds Try.pinned (OpenSpec.ofChange fnSkipSpaceLandsAlikeFromWithinTheRunWrong)

end Rows
end Go.Proofs.Qxb6605580a
