/- The proof of 'Rows.FnLocationNewRootPrependsItsEntrySaid'. -/
import Derived.Test.Qxb6626222aLawBE
import Derived.Test.Qxb6626222aOpen
import Derived.OpenShut
namespace Go.Proofs.Qxb6626222a.fnLocationNewRootPrependsItsEntry
open Go.ChangeShapes Go.WideShapes Go.ChangeAt Go.RowKit
set_option linter.unusedVariables false

theorem own : ownKnob Try.prog.godebug = none := by kernel_rfl
theorem laidOut : laidOutB Try.prog = true := by kernel_rfl

set_option maxRecDepth 100000 in
theorem lifted (os : Os) (started : os.Started) (H : Type) (enc : TypeId × Value → H) :
    ReturnsInHanded {} Try.checked os 4 .any (Rows.fnLocationNewRootPrependsItsEntrySpec.pre6 enc Try.prog Try.f4 Rows.fnLocationNewRootPrependsItsEntryRow.domain false) (Rows.fnLocationNewRootPrependsItsEntrySpec.post enc Try.prog Try.f4 false true false false) := by
  refine returnsInHanded_of_change_sized (C := Try.checked) own started (by kernel_rfl) Try.func4
    (ChangeSpec.witness6 (enc := enc) (C := Try.checked) false ⟨#[], #[.slice none 0 0, .map none, .map none, .int .i64 0, .int .i32 0, .int .u16 0], []⟩ 8 (by kernel_rfl) (by kernel_rfl) (by kernel_rfl) (by kernel_rfl)) ?_
  intro W base args ds gs before hval0 hW hcnd hsz0 _
  have hval : ∀ (j : Nat) t v, Try.f4.params[j]? = some t → args[j]? = some v → Value.okWide Try.prog W .any base t v := hval0
  have hsz : (DataW.weightsEach Try.prog (Try.f4.params.toList ++ Rows.fnLocationNewRootPrependsItsEntrySpec.plain.varTypes Try.prog) (ds ++ gs)).all (· ≤ reachBytes) = true := hsz0
  have hW' := hW
  obtain ⟨p, q, hA0, hV, rfl, hfz, hnd⟩ := hW
  have hA : DataW.TrodAll enc Try.prog W 0 (fun _ => true) true Try.f4.params.toList args.toList ds p := hA0
  rw [Try.params4] at hA hval hsz
  obtain ⟨v0, vs0, d0, ds0, p0, q0, hargs, rfl, rfl, h0, r0⟩ := trodAll_cons hA
  obtain ⟨v1, vs1, d1, ds1, p1, q1, rfl, rfl, rfl, h1, r1⟩ := trodAll_cons r0
  obtain ⟨v2, vs2, d2, ds2, p2, q2, rfl, rfl, rfl, h2, r2⟩ := trodAll_cons r1
  obtain ⟨v3, vs3, d3, ds3, p3, q3, rfl, rfl, rfl, h3, r3⟩ := trodAll_cons r2
  obtain ⟨v4, vs4, d4, ds4, p4, q4, rfl, rfl, rfl, h4, r4⟩ := trodAll_cons r3
  obtain ⟨v5, vs5, d5, ds5, p5, q5, rfl, rfl, rfl, h5, r5⟩ := trodAll_cons r4
  obtain ⟨rfl, rfl, rfl⟩ := trodAll_nil r5
  obtain rfl : args = #[v0, v1, v2, v3, v4, v5] := by cases args; simp_all
  obtain ⟨rfl, rfl⟩ := trodVars_none hV
  have hwt : ∀ (j : Nat) t d, [22, 23, 23, 3, 21, 25][j]? = some t → ([d0, d1, d2, d3, d4, d5] ++ [])[j]? = some d → ∀ n ∈ DataW.weights Try.prog t d, n ≤ reachBytes := fun j t d ht hd n hn => by
    have := List.all_eq_true.1 hsz n (DataW.weights_mem_each (j := j) (t := t) (d := d) (show ([22, 23, 23, 3, 21, 25] ++ ([] : List TypeId))[j]? = some t from by simpa using ht) hd n hn)
    simpa using this
  have lt0 : ∀ x ∈ p0, x.block < W.heap.size := by obtain ⟨m, hm⟩ := h0; exact DataW.trod_lt m _ _ _ hm
  obtain ⟨bs, w0⟩ := bks_of (okWide_slice Try.underlying22 (hval 0 22 v0 rfl rfl)) h0
  have lt1 : ∀ x ∈ p1, x.block < W.heap.size := by obtain ⟨m, hm⟩ := h1; exact DataW.trod_lt m _ _ _ hm
  obtain ⟨r1', g1, rfl, w1⟩ := maps_of (okWide_map Try.underlying23 (hval 1 23 v1 rfl rfl)) h1 (hwt 1 23 d1 rfl rfl)
  have lt2 : ∀ x ∈ p2, x.block < W.heap.size := by obtain ⟨m, hm⟩ := h2; exact DataW.trod_lt m _ _ _ hm
  obtain ⟨r2', g2, rfl, w2⟩ := maps_of (okWide_map Try.underlying23 (hval 2 23 v2 rfl rfl)) h2 (hwt 2 23 d2 rfl rfl)
  obtain ⟨a3, rfl, rfl, rfl, w3⟩ := open_int Try.underlying3 (hval 3 3 v3 rfl rfl) h3
  obtain ⟨a4, rfl, rfl, rfl, w4⟩ := open_int Try.underlying21 (hval 4 21 v4 rfl rfl) h4
  obtain ⟨a5, rfl, rfl, rfl, w5⟩ := open_int Try.underlying25 (hval 5 25 v5 rfl rfl) h5
  clear hA0 hval0 hsz0
  refine (lawB_any v0 r1' r2' bs g1 g2 a3 a4 a5 W ⟨w0, w1, w2⟩ w4 w5).mono fun e W' ⟨he, bel⟩ => ?_
  subst he
  exact ⟨_, rfl, _, _, _, [], _, [], hW', trodAll_mk1 (shut_bool Try.underlying4 _), (trodAll_cons_mk (Below.trod laidOut (by kernel_rfl) (of_decide_eq_true (by kernel_rfl)) h0 bel lt0) (trodAll_cons_mk (Below.trod laidOut (by kernel_rfl) (of_decide_eq_true (by kernel_rfl)) h1 bel lt1) (trodAll_cons_mk (Below.trod laidOut (by kernel_rfl) (of_decide_eq_true (by kernel_rfl)) h2 bel lt2) (trodAll_cons_mk (shut_int Try.underlying3 w3) (trodAll_cons_mk (shut_int Try.underlying21 w4) (trodAll_cons_mk (shut_int Try.underlying25 w5) trodAll_mk0)))))), rfl, bel.frame _, fun h => by cases h⟩

theorem over : Rows.fnLocationNewRootPrependsItsEntryRow.holds Try.pinned (OpenSpec.ofChange Rows.fnLocationNewRootPrependsItsEntrySpec) :=
  OpenClaim.holds_of_wide 4 Try.f4 rfl rfl rfl rfl rfl rfl rfl ⟨rfl, rfl, rfl, rfl, rfl⟩ rfl rfl rfl rfl rfl (by kernel_rfl) Try.func4 (by kernel_rfl)
    (of_decide_eq_true (by kernel_rfl)) (by unfold Func.isWrapper; first | (rw [if_pos (by decide +kernel)]; kernel_rfl) | (rw [if_neg (by decide +kernel)]; exact ⟨rfl, rfl⟩))
    (fun os started H enc _ => lifted os started H enc)

/-- THE STATEMENT -/
theorem proved : Rows.FnLocationNewRootPrependsItsEntrySaid := over
end Go.Proofs.Qxb6626222a.fnLocationNewRootPrependsItsEntry
