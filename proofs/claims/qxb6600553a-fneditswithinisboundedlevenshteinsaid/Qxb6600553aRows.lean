/-
  No cell of these rows narrows 'for every input' (looked for: loops, veiled, ifaces, maps, wideKeys, modest, calm, conditions, laid).
  DERIVED. THE GIVEN ROWS OF THIS SEAT. 3 by the template 'for every input the law returns true; each argument reads behind the call as it read before'; 0 by the template 'total and deterministic' (their statements: Qxb6600553aTotals.lean).
  GIVEN WITH THE SEED: the statements are not yours to turn. If you find one false, say at which input.
  Laid BY PROGRAM, IN A SANDBOX (cutbox-rows.mjs): the forced cells as the released guide's own fill.sh prints them over the translation 4bad89ce03e60ffd… (all of the seat's roots in one cut). By AI agents, Wed Nov 11 2026. No macro, syntax, notation, axiom, sorry.
-/
import Derived.Test.Qxb6600553aChecked
import GoSem.Claim
import GoSem.ClaimJoined
import GoSem.ClaimMapViews
import Derived.JoinedTies
import Derived.KernelRfl
namespace Go.Proofs.Qxb6600553a
/- THE CELL 'sum', in the pinned program and in every row, IS THE sha256 OF THE DUMP (.gsa) THAT Qxb6600553aProg.lean LOADS. Nothing in Lean hashes anything: it is a label: what it is worth is what the hold of that sum in a sandbox is worth. -/
noncomputable def Try.pinned : Pinned := { name := "qxb6600553a", sum := "4bad89ce03e60ffdcd6287567da94a50c851bc0e3d4ccb8b6af57f20f0cb0b00", checked := Try.checked }
namespace Rows
def none {H : Type} : Left H := { results := [], args := [] }

/-- 'zzlaws_pkg_catalog_b1.FnEditsWithinIsBoundedLevenshtein': WHATEVER THE INPUT: true; the input reads as it did. -/
def fnEditsWithinIsBoundedLevenshteinSpec : ChangeSpec := { name := "fnEditsWithinIsBoundedLevenshtein", fn := fun _ => fun
  | [d1, d2, d3] => { results := [.lit (.bool true)], args := [d1, d2, d3] }
  | _ => none }
def fnEditsWithinIsBoundedLevenshteinRow : OpenClaim := { program := "qxb6600553a", sum := "4bad89ce03e60ffdcd6287567da94a50c851bc0e3d4ccb8b6af57f20f0cb0b00", func := "example.com/vetted-catalog/vetted-catalog/zzlaws_pkg_catalog_b1.FnEditsWithinIsBoundedLevenshtein", spec := "fnEditsWithinIsBoundedLevenshtein", recurses := true, apart := false }
def FnEditsWithinIsBoundedLevenshteinSaid : Prop := fnEditsWithinIsBoundedLevenshteinRow.holds Try.pinned (OpenSpec.ofChange fnEditsWithinIsBoundedLevenshteinSpec)

/-- ITS FALSE NEIGHBOUR: 'it returns false'. Refute it at one input. -/
def fnEditsWithinIsBoundedLevenshteinWrong : ChangeSpec := { name := "fnEditsWithinIsBoundedLevenshtein", fn := fun _ => fun
  | [d1, d2, d3] => { results := [.lit (.bool false)], args := [d1, d2, d3] }
  | _ => none }
def FnEditsWithinIsBoundedLevenshteinWrongFalsely : Prop := fnEditsWithinIsBoundedLevenshteinRow.holds Try.pinned (OpenSpec.ofChange fnEditsWithinIsBoundedLevenshteinWrong)

/-- 'zzlaws_pkg_catalog_b1.FnEditsWithinIsSymmetric': WHATEVER THE INPUT: true; the input reads as it did. -/
def fnEditsWithinIsSymmetricSpec : ChangeSpec := { name := "fnEditsWithinIsSymmetric", fn := fun _ => fun
  | [d1, d2, d3] => { results := [.lit (.bool true)], args := [d1, d2, d3] }
  | _ => none }
def fnEditsWithinIsSymmetricRow : OpenClaim := { program := "qxb6600553a", sum := "4bad89ce03e60ffdcd6287567da94a50c851bc0e3d4ccb8b6af57f20f0cb0b00", func := "example.com/vetted-catalog/vetted-catalog/zzlaws_pkg_catalog_b1.FnEditsWithinIsSymmetric", spec := "fnEditsWithinIsSymmetric", apart := false }
def FnEditsWithinIsSymmetricSaid : Prop := fnEditsWithinIsSymmetricRow.holds Try.pinned (OpenSpec.ofChange fnEditsWithinIsSymmetricSpec)

/-- ITS FALSE NEIGHBOUR: 'it returns false'. Refute it at one input. -/
def fnEditsWithinIsSymmetricWrong : ChangeSpec := { name := "fnEditsWithinIsSymmetric", fn := fun _ => fun
  | [d1, d2, d3] => { results := [.lit (.bool false)], args := [d1, d2, d3] }
  | _ => none }
def FnEditsWithinIsSymmetricWrongFalsely : Prop := fnEditsWithinIsSymmetricRow.holds Try.pinned (OpenSpec.ofChange fnEditsWithinIsSymmetricWrong)

/-- 'zzlaws_pkg_catalog_b1.FnEditsWithinAgreesAcrossLimits': WHATEVER THE INPUT: true; the input reads as it did. -/
def fnEditsWithinAgreesAcrossLimitsSpec : ChangeSpec := { name := "fnEditsWithinAgreesAcrossLimits", fn := fun _ => fun
  | [d1, d2, d3, d4] => { results := [.lit (.bool true)], args := [d1, d2, d3, d4] }
  | _ => none }
def fnEditsWithinAgreesAcrossLimitsRow : OpenClaim := { program := "qxb6600553a", sum := "4bad89ce03e60ffdcd6287567da94a50c851bc0e3d4ccb8b6af57f20f0cb0b00", func := "example.com/vetted-catalog/vetted-catalog/zzlaws_pkg_catalog_b1.FnEditsWithinAgreesAcrossLimits", spec := "fnEditsWithinAgreesAcrossLimits", apart := false }
def FnEditsWithinAgreesAcrossLimitsSaid : Prop := fnEditsWithinAgreesAcrossLimitsRow.holds Try.pinned (OpenSpec.ofChange fnEditsWithinAgreesAcrossLimitsSpec)

/-- ITS FALSE NEIGHBOUR: 'it returns false'. Refute it at one input. -/
def fnEditsWithinAgreesAcrossLimitsWrong : ChangeSpec := { name := "fnEditsWithinAgreesAcrossLimits", fn := fun _ => fun
  | [d1, d2, d3, d4] => { results := [.lit (.bool false)], args := [d1, d2, d3, d4] }
  | _ => none }
def FnEditsWithinAgreesAcrossLimitsWrongFalsely : Prop := fnEditsWithinAgreesAcrossLimitsRow.holds Try.pinned (OpenSpec.ofChange fnEditsWithinAgreesAcrossLimitsWrong)

end Rows
end Go.Proofs.Qxb6600553a
