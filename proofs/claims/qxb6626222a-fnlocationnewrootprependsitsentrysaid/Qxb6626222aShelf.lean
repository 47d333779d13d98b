/- The shelf's contracts for strings.ContainsFunc and slices.Insert at this dump, in plain words (by the kit's lay-plain.mjs, cut down to what is used). -/
import Derived.Shelf.GgClosure.StringsRunes
import Derived.Shelf.Spec.SlicesInsert
import Derived.Shelf.Spec.SlicesInsertGrow
import Derived.Test.Qxb6626222aProg
namespace Go.Proofs
open Go.Shelf
def Try.laysGw17_ren : Go.Shelf.Ren := ⟨fun | 17 => 20 | 15 => 23 | 20 => 25 | n => n, fun | 9 => 9 | 23 => 56 | 4 => 4 | 3 => 3 | 0 => 0 | 21 => 21 | n => n, fun | n => n⟩
theorem Try.laysGw17 : Go.Proofs.LaysGw.n17 Try.prog Try.laysGw17_ren := {
  mixed := by kernel_rfl
  f15 := Try.func23.trans (congrArg some (by kernel_rfl))
  f17 := Try.func20.trans (congrArg some (by kernel_rfl))
  f20 := Try.func25.trans (congrArg some (by kernel_rfl))
  t0 := Try.underlying0
  a0 := Try.isAgg0
  z0 := Try.sizeOf0
  v0 := Try.zeroValue0
  i0 := by kernel_rfl
  t3 := Try.underlying3
  a3 := Try.isAgg3
  z3 := Try.sizeOf3
  v3 := Try.zeroValue3
  i3 := by kernel_rfl
  t4 := Try.underlying4
  a4 := Try.isAgg4
  z4 := Try.sizeOf4
  v4 := Try.zeroValue4
  i4 := by kernel_rfl
  t9 := Try.underlying9
  a9 := Try.isAgg9
  z9 := Try.sizeOf9
  v9 := Try.zeroValue9
  i9 := by kernel_rfl
  t21 := Try.underlying21
  a21 := Try.isAgg21
  z21 := Try.sizeOf21
  v21 := Try.zeroValue21
  i21 := by kernel_rfl
  t23 := Try.underlying56
  a23 := Try.isAgg56
  z23 := Try.sizeOf56
  v23 := Try.zeroValue56
  i23 := by kernel_rfl }
open Go.RowKit Go.Lib in
theorem Try.strings_ContainsFunc_runes (g : Nat) (lb : Array Value) (eg : ∀ args w, (callFunc g args).run Try.prog w = .ok (.enter g args) w) (p : Nat → Bool) (s : ByteArray) (w : World) (hp : PredAtRunes Try.prog g lb p w) :
    Calls Try.prog 20 #[.string s, .func (.func g) #[] lb] w fun e w' => e = .returned (.bool (decide (0 ≤ Lib.idxFunc p true s))) ∧ Below w.heap.size w w' := Any.strings_ContainsFunc_runes Try.laysGw17 g lb eg p s w hp
def Try.laysNm2_22_ren : Go.Shelf.Ren := ⟨fun | 22 => 13 | 29 => 18 | 30 => 19 | 36 => 22 | 17 => 24 | n => n, fun | 24 => 33 | 9 => 9 | 3 => 3 | 4 => 4 | 0 => 0 | n => n, fun | n => n⟩
theorem Try.laysNm2_22 : Go.Proofs.Lays2.n22 Try.prog Try.laysNm2_22_ren := {
  mixed := by kernel_rfl
  f17 := Try.func24.trans (congrArg some (by kernel_rfl))
  f22 := Try.func13.trans (congrArg some (by kernel_rfl))
  f29 := Try.func18.trans (congrArg some (by kernel_rfl))
  f30 := Try.func19.trans (congrArg some (by kernel_rfl))
  f36 := Try.func22.trans (congrArg some (by kernel_rfl))
  t0 := Try.underlying0
  a0 := Try.isAgg0
  z0 := Try.sizeOf0
  v0 := Try.zeroValue0
  t3 := Try.underlying3
  a3 := Try.isAgg3
  z3 := Try.sizeOf3
  v3 := Try.zeroValue3
  t4 := Try.underlying4
  a4 := Try.isAgg4
  z4 := Try.sizeOf4
  v4 := Try.zeroValue4
  t9 := Try.underlying9
  a9 := Try.isAgg9
  z9 := Try.sizeOf9
  v9 := Try.zeroValue9
  t24 := Try.underlying33
  a24 := Try.isAgg33
  z24 := Try.sizeOf33
  v24 := Try.zeroValue33
  i9 := by kernel_rfl }
end Go.Proofs
