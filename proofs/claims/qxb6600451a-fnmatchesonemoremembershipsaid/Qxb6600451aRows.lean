/-
  No cell of these rows narrows 'for every input' (looked for: loops, veiled, ifaces, maps, wideKeys, modest, calm, conditions, laid).
  DERIVED. THE GIVEN ROWS OF THIS SEAT. 3 by the template 'for every input the law returns true; each argument reads behind the call as it read before'; 0 by the template 'total and deterministic' (their statements: Qxb6600451aTotals.lean).
  GIVEN WITH THE SEED: the statements are not yours to turn. If you find one false, say at which input.
  Laid BY PROGRAM, IN A SANDBOX (cutbox-rows.mjs): the forced cells as the released guide's own fill.sh prints them over the translation 6629e7a73225c09f… (all of the seat's roots in one cut). By AI agents, Wed Nov 11 2026. No macro, syntax, notation, axiom, sorry.
-/
import Derived.Test.Qxb6600451aChecked
import GoSem.Claim
import GoSem.ClaimJoined
import GoSem.ClaimMapViews
import Derived.JoinedTies
import Derived.KernelRfl
namespace Go.Proofs.Qxb6600451a
/- THE CELL 'sum', in the pinned program and in every row, IS THE sha256 OF THE DUMP (.gsa) THAT Qxb6600451aProg.lean LOADS. Nothing in Lean hashes anything: it is a label: what it is worth is what the hold of that sum in a sandbox is worth. -/
noncomputable def Try.pinned : Pinned := { name := "qxb6600451a", sum := "6629e7a73225c09f70fee57b3eb9a715a225a6d9e856f66c839616048c3bf18e", checked := Try.checked }
namespace Rows
def none {H : Type} : Left H := { results := [], args := [] }

/-- 'zzlaws_pkg_uudex_b1.FnMatchesAgreesWithMembershipList': WHATEVER THE INPUT: true; the input reads as it did. -/
def fnMatchesAgreesWithMembershipListSpec : ChangeSpec := { name := "fnMatchesAgreesWithMembershipList", fn := fun _ => fun
  | [d1, d2, d3, d4, d5] => { results := [.lit (.bool true)], args := [d1, d2, d3, d4, d5] }
  | _ => none }
def fnMatchesAgreesWithMembershipListRow : OpenClaim := { program := "qxb6600451a", sum := "6629e7a73225c09f70fee57b3eb9a715a225a6d9e856f66c839616048c3bf18e", func := "example.com/izin/izin/zzlaws_pkg_uudex_b1.FnMatchesAgreesWithMembershipList", spec := "fnMatchesAgreesWithMembershipList", plainKeys := false, apart := false }
def FnMatchesAgreesWithMembershipListSaid : Prop := fnMatchesAgreesWithMembershipListRow.holds Try.pinned (OpenSpec.ofChange fnMatchesAgreesWithMembershipListSpec)

/-- ITS FALSE NEIGHBOUR: 'it returns false'. Refute it at one input. -/
def fnMatchesAgreesWithMembershipListWrong : ChangeSpec := { name := "fnMatchesAgreesWithMembershipList", fn := fun _ => fun
  | [d1, d2, d3, d4, d5] => { results := [.lit (.bool false)], args := [d1, d2, d3, d4, d5] }
  | _ => none }
def FnMatchesAgreesWithMembershipListWrongFalsely : Prop := fnMatchesAgreesWithMembershipListRow.holds Try.pinned (OpenSpec.ofChange fnMatchesAgreesWithMembershipListWrong)

/-- 'zzlaws_pkg_uudex_b1.FnMatchesOneMoreMembership': WHATEVER THE INPUT: true; the input reads as it did. -/
def fnMatchesOneMoreMembershipSpec : ChangeSpec := { name := "fnMatchesOneMoreMembership", fn := fun _ => fun
  | [d1, d2, d3, d4, d5, d6] => { results := [.lit (.bool true)], args := [d1, d2, d3, d4, d5, d6] }
  | _ => none }
def fnMatchesOneMoreMembershipRow : OpenClaim := { program := "qxb6600451a", sum := "6629e7a73225c09f70fee57b3eb9a715a225a6d9e856f66c839616048c3bf18e", func := "example.com/izin/izin/zzlaws_pkg_uudex_b1.FnMatchesOneMoreMembership", spec := "fnMatchesOneMoreMembership", plainKeys := false, apart := false }
def FnMatchesOneMoreMembershipSaid : Prop := fnMatchesOneMoreMembershipRow.holds Try.pinned (OpenSpec.ofChange fnMatchesOneMoreMembershipSpec)

/-- ITS FALSE NEIGHBOUR: 'it returns false'. Refute it at one input. -/
def fnMatchesOneMoreMembershipWrong : ChangeSpec := { name := "fnMatchesOneMoreMembership", fn := fun _ => fun
  | [d1, d2, d3, d4, d5, d6] => { results := [.lit (.bool false)], args := [d1, d2, d3, d4, d5, d6] }
  | _ => none }
def FnMatchesOneMoreMembershipWrongFalsely : Prop := fnMatchesOneMoreMembershipRow.holds Try.pinned (OpenSpec.ofChange fnMatchesOneMoreMembershipWrong)

/-- 'zzlaws_pkg_uudex_b1.FnLevelSpecificityOrder': WHATEVER THE INPUT: true; the input reads as it did. -/
def fnLevelSpecificityOrderSpec : ChangeSpec := { name := "fnLevelSpecificityOrder", fn := fun _ => fun
  | [d1, d2, d3, d4] => { results := [.lit (.bool true)], args := [d1, d2, d3, d4] }
  | _ => none }
def fnLevelSpecificityOrderRow : OpenClaim := { program := "qxb6600451a", sum := "6629e7a73225c09f70fee57b3eb9a715a225a6d9e856f66c839616048c3bf18e", func := "example.com/izin/izin/zzlaws_pkg_uudex_b1.FnLevelSpecificityOrder", spec := "fnLevelSpecificityOrder", plainKeys := false, apart := false }
def FnLevelSpecificityOrderSaid : Prop := fnLevelSpecificityOrderRow.holds Try.pinned (OpenSpec.ofChange fnLevelSpecificityOrderSpec)

/-- ITS FALSE NEIGHBOUR: 'it returns false'. Refute it at one input. -/
def fnLevelSpecificityOrderWrong : ChangeSpec := { name := "fnLevelSpecificityOrder", fn := fun _ => fun
  | [d1, d2, d3, d4] => { results := [.lit (.bool false)], args := [d1, d2, d3, d4] }
  | _ => none }
def FnLevelSpecificityOrderWrongFalsely : Prop := fnLevelSpecificityOrderRow.holds Try.pinned (OpenSpec.ofChange fnLevelSpecificityOrderWrong)

end Rows
end Go.Proofs.Qxb6600451a
