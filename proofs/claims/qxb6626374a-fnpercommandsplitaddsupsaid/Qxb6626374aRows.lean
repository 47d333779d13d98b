/-
  No cell of these rows narrows 'for every input' (looked for: loops, veiled, ifaces, maps, wideKeys, modest, calm, conditions, laid).
  DERIVED. THE GIVEN ROWS OF THIS SEAT. 2 by the template 'for every input the law returns true; each argument reads behind the call as it read before'; 0 by the template 'total and deterministic' (their statements: Qxb6626374aTotals.lean).
  GIVEN WITH THE SEED: the statements are not yours to turn. If you find one false, say at which input.
  Laid BY PROGRAM, IN A SANDBOX (cutbox-rows.mjs): the forced cells as the released guide's own fill.sh prints them over the translation 0acf0acf5645e432… (all of the seat's roots in one cut). By AI agents, Wed Nov 11 2026. No macro, syntax, notation, axiom, sorry.
-/
import Derived.Test.Qxb6626374aChecked
import GoSem.Claim
import GoSem.ClaimJoined
import GoSem.ClaimMapViews
import Derived.JoinedTies
import Derived.KernelRfl
namespace Go.Proofs.Qxb6626374a
/- THE CELL 'sum', in the pinned program and in every row, IS THE sha256 OF THE DUMP (.gsa) THAT Qxb6626374aProg.lean LOADS. Nothing in Lean hashes anything: it is a label: what it is worth is what the hold of that sum in a sandbox is worth. -/
noncomputable def Try.pinned : Pinned := { name := "qxb6626374a", sum := "0acf0acf5645e432f04ec83e524c2c345ad05b938c15e3a501e1ef4829d18da5", checked := Try.checked }
namespace Rows
def none {H : Type} : Left H := { results := [], args := [] }

/-- 'zzlaws_memnet_b1.FnPerCommandSplitAddsUp': WHATEVER THE INPUT: true; the input reads as it did. -/
def fnPerCommandSplitAddsUpSpec : ChangeSpec := { name := "fnPerCommandSplitAddsUp", fn := fun _ => fun
  | [d1, d2, d3, d4, d5] => { results := [.lit (.bool true)], args := [d1, d2, d3, d4, d5] }
  | _ => none }
def fnPerCommandSplitAddsUpRow : OpenClaim := { program := "qxb6626374a", sum := "0acf0acf5645e432f04ec83e524c2c345ad05b938c15e3a501e1ef4829d18da5", func := "example.com/ballotline/ballotline/zzlaws_memnet_b1.FnPerCommandSplitAddsUp", spec := "fnPerCommandSplitAddsUp", apart := false }
def FnPerCommandSplitAddsUpSaid : Prop := fnPerCommandSplitAddsUpRow.holds Try.pinned (OpenSpec.ofChange fnPerCommandSplitAddsUpSpec)

/-- ITS FALSE NEIGHBOUR: 'it returns false'. Refute it at one input. -/
def fnPerCommandSplitAddsUpWrong : ChangeSpec := { name := "fnPerCommandSplitAddsUp", fn := fun _ => fun
  | [d1, d2, d3, d4, d5] => { results := [.lit (.bool false)], args := [d1, d2, d3, d4, d5] }
  | _ => none }
def FnPerCommandSplitAddsUpWrongFalsely : Prop := fnPerCommandSplitAddsUpRow.holds Try.pinned (OpenSpec.ofChange fnPerCommandSplitAddsUpWrong)

/-- 'zzlaws_memnet_b1.FnPerCommandMeanOfRepeatedList': WHATEVER THE INPUT: true; the input reads as it did. -/
def fnPerCommandMeanOfRepeatedListSpec : ChangeSpec := { name := "fnPerCommandMeanOfRepeatedList", fn := fun _ => fun
  | [d1, d2, d3, d4] => { results := [.lit (.bool true)], args := [d1, d2, d3, d4] }
  | _ => none }
def fnPerCommandMeanOfRepeatedListRow : OpenClaim := { program := "qxb6626374a", sum := "0acf0acf5645e432f04ec83e524c2c345ad05b938c15e3a501e1ef4829d18da5", func := "example.com/ballotline/ballotline/zzlaws_memnet_b1.FnPerCommandMeanOfRepeatedList", spec := "fnPerCommandMeanOfRepeatedList", apart := false }
def FnPerCommandMeanOfRepeatedListSaid : Prop := fnPerCommandMeanOfRepeatedListRow.holds Try.pinned (OpenSpec.ofChange fnPerCommandMeanOfRepeatedListSpec)

/-- ITS FALSE NEIGHBOUR: 'it returns false'. Refute it at one input. -/
def fnPerCommandMeanOfRepeatedListWrong : ChangeSpec := { name := "fnPerCommandMeanOfRepeatedList", fn := fun _ => fun
  | [d1, d2, d3, d4] => { results := [.lit (.bool false)], args := [d1, d2, d3, d4] }
  | _ => none }
def FnPerCommandMeanOfRepeatedListWrongFalsely : Prop := fnPerCommandMeanOfRepeatedListRow.holds Try.pinned (OpenSpec.ofChange fnPerCommandMeanOfRepeatedListWrong)

end Rows
end Go.Proofs.Qxb6626374a
