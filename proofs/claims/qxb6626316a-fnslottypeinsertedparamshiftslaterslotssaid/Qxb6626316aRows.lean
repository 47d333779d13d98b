/-
  No cell of these rows narrows 'for every input' (looked for: loops, veiled, ifaces, maps, wideKeys, modest, calm, conditions, laid).
  DERIVED. THE GIVEN ROWS OF THIS SEAT. 2 by the template 'for every input the law returns true; each argument reads behind the call as it read before'; 0 by the template 'total and deterministic' (their statements: Qxb6626316aTotals.lean).
  GIVEN WITH THE SEED: the statements are not yours to turn. If you find one false, say at which input.
  Laid BY PROGRAM, IN A SANDBOX (cutbox-rows.mjs): the forced cells as the released guide's own fill.sh prints them over the translation 181752d006f5bad9… (all of the seat's roots in one cut). By AI agents, Wed Nov 11 2026. No macro, syntax, notation, axiom, sorry.
-/
import Derived.Test.Qxb6626316aChecked
import GoSem.Claim
import GoSem.ClaimJoined
import GoSem.ClaimMapViews
import Derived.JoinedTies
import Derived.KernelRfl
namespace Go.Proofs.Qxb6626316a
/- THE CELL 'sum', in the pinned program and in every row, IS THE sha256 OF THE DUMP (.gsa) THAT Qxb6626316aProg.lean LOADS. Nothing in Lean hashes anything: it is a label: what it is worth is what the hold of that sum in a sandbox is worth. -/
noncomputable def Try.pinned : Pinned := { name := "qxb6626316a", sum := "181752d006f5bad95a1b1a38dd3265dc1eeebc5bf02714f724d3367716357305", checked := Try.checked }
namespace Rows
def none {H : Type} : Left H := { results := [], args := [] }

/-- 'zzlaws_bytecode_b1.FnSlotTypeReadsParamsThenVarsAtAnyCut': WHATEVER THE INPUT: true; the input reads as it did. -/
def fnSlotTypeReadsParamsThenVarsAtAnyCutSpec : ChangeSpec := { name := "fnSlotTypeReadsParamsThenVarsAtAnyCut", fn := fun _ => fun
  | [d1, d2, d3, d4, d5, d6, d7, d8, d9] => { results := [.lit (.bool true)], args := [d1, d2, d3, d4, d5, d6, d7, d8, d9] }
  | _ => none }
def fnSlotTypeReadsParamsThenVarsAtAnyCutRow : OpenClaim := { program := "qxb6626316a", sum := "181752d006f5bad95a1b1a38dd3265dc1eeebc5bf02714f724d3367716357305", func := "example.com/stackwright/stackwright/zzlaws_bytecode_b1.FnSlotTypeReadsParamsThenVarsAtAnyCut", spec := "fnSlotTypeReadsParamsThenVarsAtAnyCut", apart := false }
def FnSlotTypeReadsParamsThenVarsAtAnyCutSaid : Prop := fnSlotTypeReadsParamsThenVarsAtAnyCutRow.holds Try.pinned (OpenSpec.ofChange fnSlotTypeReadsParamsThenVarsAtAnyCutSpec)

/-- ITS FALSE NEIGHBOUR: 'it returns false'. Refute it at one input. -/
def fnSlotTypeReadsParamsThenVarsAtAnyCutWrong : ChangeSpec := { name := "fnSlotTypeReadsParamsThenVarsAtAnyCut", fn := fun _ => fun
  | [d1, d2, d3, d4, d5, d6, d7, d8, d9] => { results := [.lit (.bool false)], args := [d1, d2, d3, d4, d5, d6, d7, d8, d9] }
  | _ => none }
def FnSlotTypeReadsParamsThenVarsAtAnyCutWrongFalsely : Prop := fnSlotTypeReadsParamsThenVarsAtAnyCutRow.holds Try.pinned (OpenSpec.ofChange fnSlotTypeReadsParamsThenVarsAtAnyCutWrong)

/-- 'zzlaws_bytecode_b1.FnSlotTypeInsertedParamShiftsLaterSlots': WHATEVER THE INPUT: true; the input reads as it did. -/
def fnSlotTypeInsertedParamShiftsLaterSlotsSpec : ChangeSpec := { name := "fnSlotTypeInsertedParamShiftsLaterSlots", fn := fun _ => fun
  | [d1, d2, d3, d4, d5, d6, d7, d8, d9, d10] => { results := [.lit (.bool true)], args := [d1, d2, d3, d4, d5, d6, d7, d8, d9, d10] }
  | _ => none }
def fnSlotTypeInsertedParamShiftsLaterSlotsRow : OpenClaim := { program := "qxb6626316a", sum := "181752d006f5bad95a1b1a38dd3265dc1eeebc5bf02714f724d3367716357305", func := "example.com/stackwright/stackwright/zzlaws_bytecode_b1.FnSlotTypeInsertedParamShiftsLaterSlots", spec := "fnSlotTypeInsertedParamShiftsLaterSlots", apart := false }
def FnSlotTypeInsertedParamShiftsLaterSlotsSaid : Prop := fnSlotTypeInsertedParamShiftsLaterSlotsRow.holds Try.pinned (OpenSpec.ofChange fnSlotTypeInsertedParamShiftsLaterSlotsSpec)

/-- ITS FALSE NEIGHBOUR: 'it returns false'. Refute it at one input. -/
def fnSlotTypeInsertedParamShiftsLaterSlotsWrong : ChangeSpec := { name := "fnSlotTypeInsertedParamShiftsLaterSlots", fn := fun _ => fun
  | [d1, d2, d3, d4, d5, d6, d7, d8, d9, d10] => { results := [.lit (.bool false)], args := [d1, d2, d3, d4, d5, d6, d7, d8, d9, d10] }
  | _ => none }
def FnSlotTypeInsertedParamShiftsLaterSlotsWrongFalsely : Prop := fnSlotTypeInsertedParamShiftsLaterSlotsRow.holds Try.pinned (OpenSpec.ofChange fnSlotTypeInsertedParamShiftsLaterSlotsWrong)

end Rows
end Go.Proofs.Qxb6626316a
