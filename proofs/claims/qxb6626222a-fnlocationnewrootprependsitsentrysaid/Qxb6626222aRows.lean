/-
  NARROWER THAN 'FOR EVERY INPUT', by the rows' own cells (each row's printed sentence says how): FnLocationIsParentsLocationThenParent: maps · FnLocationNewRootPrependsItsEntry: maps.
  DERIVED. THE GIVEN ROWS OF THIS SEAT. 2 by the template 'for every input the law returns true; each argument reads behind the call as it read before'; 0 by the template 'total and deterministic' (their statements: Qxb6626222aTotals.lean).
  GIVEN WITH THE SEED: the statements are not yours to turn. If you find one false, say at which input.
  Laid BY PROGRAM, IN A SANDBOX (cutbox-rows.mjs): the forced cells as the released guide's own fill.sh prints them over the translation 0b967567787640e3… (all of the seat's roots in one cut). By AI agents, Wed Nov 11 2026. No macro, syntax, notation, axiom, sorry.
-/
import Derived.Test.Qxb6626222aChecked
import GoSem.Claim
import GoSem.ClaimJoined
import GoSem.ClaimMapViews
import Derived.JoinedTies
import Derived.KernelRfl
namespace Go.Proofs.Qxb6626222a
/- THE CELL 'sum', in the pinned program and in every row, IS THE sha256 OF THE DUMP (.gsa) THAT Qxb6626222aProg.lean LOADS. Nothing in Lean hashes anything: it is a label: what it is worth is what the hold of that sum in a sandbox is worth. -/
noncomputable def Try.pinned : Pinned := { name := "qxb6626222a", sum := "0b967567787640e3f83e82b499fca33e413da217bda320bf6f53102d7044365a", checked := Try.checked }
namespace Rows
def none {H : Type} : Left H := { results := [], args := [] }

/-- 'zzlaws_pkg_ceph_b1.FnLocationIsParentsLocationThenParent': WHATEVER THE INPUT: true; the input reads as it did. -/
def fnLocationIsParentsLocationThenParentSpec : ChangeSpec := { name := "fnLocationIsParentsLocationThenParent", fn := fun _ => fun
  | [d1, d2, d3, d4] => { results := [.lit (.bool true)], args := [d1, d2, d3, d4] }
  | _ => none }
def fnLocationIsParentsLocationThenParentRow : OpenClaim := { program := "qxb6626222a", sum := "0b967567787640e3f83e82b499fca33e413da217bda320bf6f53102d7044365a", func := "example.com/ballast/ballast/zzlaws_pkg_ceph_b1.FnLocationIsParentsLocationThenParent", spec := "fnLocationIsParentsLocationThenParent", inPlace := ["slices.overlaps[string]"], unfollowed := true, recurses := true, maps := true, apart := false }
def FnLocationIsParentsLocationThenParentSaid : Prop := fnLocationIsParentsLocationThenParentRow.holds Try.pinned (OpenSpec.ofChange fnLocationIsParentsLocationThenParentSpec)

/-- ITS FALSE NEIGHBOUR: 'it returns false'. Refute it at one input. -/
def fnLocationIsParentsLocationThenParentWrong : ChangeSpec := { name := "fnLocationIsParentsLocationThenParent", fn := fun _ => fun
  | [d1, d2, d3, d4] => { results := [.lit (.bool false)], args := [d1, d2, d3, d4] }
  | _ => none }
def FnLocationIsParentsLocationThenParentWrongFalsely : Prop := fnLocationIsParentsLocationThenParentRow.holds Try.pinned (OpenSpec.ofChange fnLocationIsParentsLocationThenParentWrong)

/-- 'zzlaws_pkg_ceph_b1.FnLocationNewRootPrependsItsEntry': WHATEVER THE INPUT: true; the input reads as it did. -/
def fnLocationNewRootPrependsItsEntrySpec : ChangeSpec := { name := "fnLocationNewRootPrependsItsEntry", fn := fun _ => fun
  | [d1, d2, d3, d4, d5, d6] => { results := [.lit (.bool true)], args := [d1, d2, d3, d4, d5, d6] }
  | _ => none }
def fnLocationNewRootPrependsItsEntryRow : OpenClaim := { program := "qxb6626222a", sum := "0b967567787640e3f83e82b499fca33e413da217bda320bf6f53102d7044365a", func := "example.com/ballast/ballast/zzlaws_pkg_ceph_b1.FnLocationNewRootPrependsItsEntry", spec := "fnLocationNewRootPrependsItsEntry", inPlace := ["slices.overlaps[string]"], unfollowed := true, recurses := true, maps := true, apart := false }
def FnLocationNewRootPrependsItsEntrySaid : Prop := fnLocationNewRootPrependsItsEntryRow.holds Try.pinned (OpenSpec.ofChange fnLocationNewRootPrependsItsEntrySpec)

/-- ITS FALSE NEIGHBOUR: 'it returns false'. Refute it at one input. -/
def fnLocationNewRootPrependsItsEntryWrong : ChangeSpec := { name := "fnLocationNewRootPrependsItsEntry", fn := fun _ => fun
  | [d1, d2, d3, d4, d5, d6] => { results := [.lit (.bool false)], args := [d1, d2, d3, d4, d5, d6] }
  | _ => none }
def FnLocationNewRootPrependsItsEntryWrongFalsely : Prop := fnLocationNewRootPrependsItsEntryRow.holds Try.pinned (OpenSpec.ofChange fnLocationNewRootPrependsItsEntryWrong)

end Rows
end Go.Proofs.Qxb6626222a
