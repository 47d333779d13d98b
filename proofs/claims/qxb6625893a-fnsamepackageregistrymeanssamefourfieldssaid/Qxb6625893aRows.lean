/-
  No cell of these rows narrows 'for every input' (looked for: loops, veiled, ifaces, maps, wideKeys, modest, calm, conditions, laid).
  DERIVED. THE GIVEN ROWS OF THIS SEAT. 2 by the template 'for every input the law returns true; each argument reads behind the call as it read before'; 0 by the template 'total and deterministic' (their statements: Qxb6625893aTotals.lean).
  GIVEN WITH THE SEED: the statements are not yours to turn. If you find one false, say at which input.
  Laid BY PROGRAM, IN A SANDBOX (cutbox-rows.mjs): the forced cells as the released guide's own fill.sh prints them over the translation e74c627dc1b2a717… (all of the seat's roots in one cut). By AI agents, Wed Nov 11 2026. No macro, syntax, notation, axiom, sorry.
-/
import Derived.Test.Qxb6625893aChecked
import GoSem.Claim
import GoSem.ClaimJoined
import GoSem.ClaimMapViews
import Derived.JoinedTies
import Derived.KernelRfl
namespace Go.Proofs.Qxb6625893a
/- THE CELL 'sum', in the pinned program and in every row, IS THE sha256 OF THE DUMP (.gsa) THAT Qxb6625893aProg.lean LOADS. Nothing in Lean hashes anything: it is a label: what it is worth is what the hold of that sum in a sandbox is worth. -/
noncomputable def Try.pinned : Pinned := { name := "qxb6625893a", sum := "e74c627dc1b2a717c140730b203775679c5d3d93bcc84edf095452aaf664d268", checked := Try.checked }
namespace Rows
def none {H : Type} : Left H := { results := [], args := [] }

/-- 'zzlaws_modulesource_b1.FnSamePackageIgnoresSubdirAndSeparatesKinds': WHATEVER THE INPUT: true; the input reads as it did. -/
def fnSamePackageIgnoresSubdirAndSeparatesKindsSpec : ChangeSpec := { name := "fnSamePackageIgnoresSubdirAndSeparatesKinds", fn := fun _ => fun
  | [d1, d2, d3, d4, d5, d6, d7, d8] => { results := [.lit (.bool true)], args := [d1, d2, d3, d4, d5, d6, d7, d8] }
  | _ => none }
def fnSamePackageIgnoresSubdirAndSeparatesKindsRow : OpenClaim := { program := "qxb6625893a", sum := "e74c627dc1b2a717c140730b203775679c5d3d93bcc84edf095452aaf664d268", func := "example.com/sextant/sextant/zzlaws_modulesource_b1.FnSamePackageIgnoresSubdirAndSeparatesKinds", spec := "fnSamePackageIgnoresSubdirAndSeparatesKinds", apart := false }
def FnSamePackageIgnoresSubdirAndSeparatesKindsSaid : Prop := fnSamePackageIgnoresSubdirAndSeparatesKindsRow.holds Try.pinned (OpenSpec.ofChange fnSamePackageIgnoresSubdirAndSeparatesKindsSpec)

/-- ITS FALSE NEIGHBOUR: 'it returns false'. Refute it at one input. -/
def fnSamePackageIgnoresSubdirAndSeparatesKindsWrong : ChangeSpec := { name := "fnSamePackageIgnoresSubdirAndSeparatesKinds", fn := fun _ => fun
  | [d1, d2, d3, d4, d5, d6, d7, d8] => { results := [.lit (.bool false)], args := [d1, d2, d3, d4, d5, d6, d7, d8] }
  | _ => none }
def FnSamePackageIgnoresSubdirAndSeparatesKindsWrongFalsely : Prop := fnSamePackageIgnoresSubdirAndSeparatesKindsRow.holds Try.pinned (OpenSpec.ofChange fnSamePackageIgnoresSubdirAndSeparatesKindsWrong)

/-- 'zzlaws_modulesource_b1.FnSamePackageRegistryMeansSameFourFields': WHATEVER THE INPUT: true; the input reads as it did. -/
def fnSamePackageRegistryMeansSameFourFieldsSpec : ChangeSpec := { name := "fnSamePackageRegistryMeansSameFourFields", fn := fun _ => fun
  | [d1, d2, d3, d4, d5, d6, d7, d8, d9, d10] => { results := [.lit (.bool true)], args := [d1, d2, d3, d4, d5, d6, d7, d8, d9, d10] }
  | _ => none }
def fnSamePackageRegistryMeansSameFourFieldsRow : OpenClaim := { program := "qxb6625893a", sum := "e74c627dc1b2a717c140730b203775679c5d3d93bcc84edf095452aaf664d268", func := "example.com/sextant/sextant/zzlaws_modulesource_b1.FnSamePackageRegistryMeansSameFourFields", spec := "fnSamePackageRegistryMeansSameFourFields", apart := false }
def FnSamePackageRegistryMeansSameFourFieldsSaid : Prop := fnSamePackageRegistryMeansSameFourFieldsRow.holds Try.pinned (OpenSpec.ofChange fnSamePackageRegistryMeansSameFourFieldsSpec)

/-- ITS FALSE NEIGHBOUR: 'it returns false'. Refute it at one input. -/
def fnSamePackageRegistryMeansSameFourFieldsWrong : ChangeSpec := { name := "fnSamePackageRegistryMeansSameFourFields", fn := fun _ => fun
  | [d1, d2, d3, d4, d5, d6, d7, d8, d9, d10] => { results := [.lit (.bool false)], args := [d1, d2, d3, d4, d5, d6, d7, d8, d9, d10] }
  | _ => none }
def FnSamePackageRegistryMeansSameFourFieldsWrongFalsely : Prop := fnSamePackageRegistryMeansSameFourFieldsRow.holds Try.pinned (OpenSpec.ofChange fnSamePackageRegistryMeansSameFourFieldsWrong)

end Rows
end Go.Proofs.Qxb6625893a
