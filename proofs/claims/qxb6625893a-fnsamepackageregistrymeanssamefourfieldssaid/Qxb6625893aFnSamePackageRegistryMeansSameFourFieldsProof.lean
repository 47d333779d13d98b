/- The proof of 'Rows.FnSamePackageRegistryMeansSameFourFieldsSaid'. -/
import Derived.Test.Qxb6625893aTwoB
import Derived.Test.Qxb6625893aTwoC
import Derived.Test.Qxb6625893aTwoD
import Derived.Test.Qxb6625893aTwoE
import Derived.WalkKit
import Derived.ProofKit
import Derived.OpenShut
import Derived.ShutString
namespace Go.Proofs.Qxb6625893a.fnSamePackageRegistryMeansSameFourFields
open Go.ChangeShapes Go.WideShapes Go.ChangeAt Go.RowKit
open Go.ChangeMaps (open_string shut_string)
set_option linter.unusedVariables false      -- a walk need not use every 'w<i>' (that an integer argument fits its kind)

theorem own : ownKnob Try.prog.godebug = none := by kernel_rfl

/-! ### STEP 1: THE WALK, put together: the first length that is too great (TwoD), the first field with a slash (TwoE), the first pair of fields that differ, or none (Two, TwoB, TwoC) -/
theorem walk (a0 : ByteArray) (a1 : ByteArray) (a2 : ByteArray) (a3 : ByteArray) (a4 : ByteArray) (a5 : ByteArray) (a6 : ByteArray) (a7 : ByteArray) (a8 : ByteArray) (a9 : ByteArray) (w0 : a0.size ≤ maxLen) (w1 : a1.size ≤ maxLen) (w2 : a2.size ≤ maxLen) (w3 : a3.size ≤ maxLen) (w4 : a4.size ≤ maxLen) (w5 : a5.size ≤ maxLen) (w6 : a6.size ≤ maxLen) (w7 : a7.size ≤ maxLen) (w8 : a8.size ≤ maxLen) (w9 : a9.size ≤ maxLen) (w : World) :
    Calls Try.prog 4 #[.string a0, .string a1, .string a2, .string a3, .string a4, .string a5, .string a6, .string a7, .string a8, .string a9] w fun e w' => e = .returned (.bool true) ∧ Gr w w' := by
  by_cases b0 : a0.size ≤ 65536
  case neg => exact (two_big0 a0 a1 a2 a3 a4 a5 a6 a7 a8 a9 w w0 w1 w2 w3 w4 w5 w6 w7 w8 w9  (by omega)).mono fun e w' h => ⟨h.1, by rw [h.2]; exact Gr.refl _⟩
  by_cases b1 : a1.size ≤ 65536
  case neg => exact (two_big1 a0 a1 a2 a3 a4 a5 a6 a7 a8 a9 w w0 w1 w2 w3 w4 w5 w6 w7 w8 w9 b0 (by omega)).mono fun e w' h => ⟨h.1, by rw [h.2]; exact Gr.refl _⟩
  by_cases b2 : a2.size ≤ 65536
  case neg => exact (two_big2 a0 a1 a2 a3 a4 a5 a6 a7 a8 a9 w w0 w1 w2 w3 w4 w5 w6 w7 w8 w9 b0 b1 (by omega)).mono fun e w' h => ⟨h.1, by rw [h.2]; exact Gr.refl _⟩
  by_cases b3 : a3.size ≤ 65536
  case neg => exact (two_big3 a0 a1 a2 a3 a4 a5 a6 a7 a8 a9 w w0 w1 w2 w3 w4 w5 w6 w7 w8 w9 b0 b1 b2 (by omega)).mono fun e w' h => ⟨h.1, by rw [h.2]; exact Gr.refl _⟩
  by_cases b4 : a4.size ≤ 65536
  case neg => exact (two_big4 a0 a1 a2 a3 a4 a5 a6 a7 a8 a9 w w0 w1 w2 w3 w4 w5 w6 w7 w8 w9 b0 b1 b2 b3 (by omega)).mono fun e w' h => ⟨h.1, by rw [h.2]; exact Gr.refl _⟩
  by_cases b5 : a5.size ≤ 65536
  case neg => exact (two_big5 a0 a1 a2 a3 a4 a5 a6 a7 a8 a9 w w0 w1 w2 w3 w4 w5 w6 w7 w8 w9 b0 b1 b2 b3 b4 (by omega)).mono fun e w' h => ⟨h.1, by rw [h.2]; exact Gr.refl _⟩
  by_cases b6 : a6.size ≤ 65536
  case neg => exact (two_big6 a0 a1 a2 a3 a4 a5 a6 a7 a8 a9 w w0 w1 w2 w3 w4 w5 w6 w7 w8 w9 b0 b1 b2 b3 b4 b5 (by omega)).mono fun e w' h => ⟨h.1, by rw [h.2]; exact Gr.refl _⟩
  by_cases b7 : a7.size ≤ 65536
  case neg => exact (two_big7 a0 a1 a2 a3 a4 a5 a6 a7 a8 a9 w w0 w1 w2 w3 w4 w5 w6 w7 w8 w9 b0 b1 b2 b3 b4 b5 b6 (by omega)).mono fun e w' h => ⟨h.1, by rw [h.2]; exact Gr.refl _⟩
  by_cases b8 : a8.size ≤ 65536
  case neg => exact (two_big8 a0 a1 a2 a3 a4 a5 a6 a7 a8 a9 w w0 w1 w2 w3 w4 w5 w6 w7 w8 w9 b0 b1 b2 b3 b4 b5 b6 b7 (by omega)).mono fun e w' h => ⟨h.1, by rw [h.2]; exact Gr.refl _⟩
  by_cases b9 : a9.size ≤ 65536
  case neg => exact (two_big9 a0 a1 a2 a3 a4 a5 a6 a7 a8 a9 w w0 w1 w2 w3 w4 w5 w6 w7 w8 w9 b0 b1 b2 b3 b4 b5 b6 b7 b8 (by omega)).mono fun e w' h => ⟨h.1, by rw [h.2]; exact Gr.refl _⟩
  by_cases s0 : hasSl a0 = false
  case neg => exact (two_sl0 a0 a1 a2 a3 a4 a5 a6 a7 a8 a9 w w0 w1 w2 w3 w4 w5 w6 w7 w8 w9 b0 b1 b2 b3 b4 b5 b6 b7 b8 b9  (by simpa using s0)).mono fun e w' h => ⟨h.1, by rw [h.2]; exact Gr.refl _⟩
  by_cases s1 : hasSl a1 = false
  case neg => exact (two_sl1 a0 a1 a2 a3 a4 a5 a6 a7 a8 a9 w w0 w1 w2 w3 w4 w5 w6 w7 w8 w9 b0 b1 b2 b3 b4 b5 b6 b7 b8 b9 s0 (by simpa using s1)).mono fun e w' h => ⟨h.1, by rw [h.2]; exact Gr.refl _⟩
  by_cases s2 : hasSl a2 = false
  case neg => exact (two_sl2 a0 a1 a2 a3 a4 a5 a6 a7 a8 a9 w w0 w1 w2 w3 w4 w5 w6 w7 w8 w9 b0 b1 b2 b3 b4 b5 b6 b7 b8 b9 s0 s1 (by simpa using s2)).mono fun e w' h => ⟨h.1, by rw [h.2]; exact Gr.refl _⟩
  by_cases s3 : hasSl a3 = false
  case neg => exact (two_sl3 a0 a1 a2 a3 a4 a5 a6 a7 a8 a9 w w0 w1 w2 w3 w4 w5 w6 w7 w8 w9 b0 b1 b2 b3 b4 b5 b6 b7 b8 b9 s0 s1 s2 (by simpa using s3)).mono fun e w' h => ⟨h.1, by rw [h.2]; exact Gr.refl _⟩
  by_cases s5 : hasSl a5 = false
  case neg => exact (two_sl5 a0 a1 a2 a3 a4 a5 a6 a7 a8 a9 w w0 w1 w2 w3 w4 w5 w6 w7 w8 w9 b0 b1 b2 b3 b4 b5 b6 b7 b8 b9 s0 s1 s2 s3 (by simpa using s5)).mono fun e w' h => ⟨h.1, by rw [h.2]; exact Gr.refl _⟩
  by_cases s6 : hasSl a6 = false
  case neg => exact (two_sl6 a0 a1 a2 a3 a4 a5 a6 a7 a8 a9 w w0 w1 w2 w3 w4 w5 w6 w7 w8 w9 b0 b1 b2 b3 b4 b5 b6 b7 b8 b9 s0 s1 s2 s3 s5 (by simpa using s6)).mono fun e w' h => ⟨h.1, by rw [h.2]; exact Gr.refl _⟩
  by_cases s7 : hasSl a7 = false
  case neg => exact (two_sl7 a0 a1 a2 a3 a4 a5 a6 a7 a8 a9 w w0 w1 w2 w3 w4 w5 w6 w7 w8 w9 b0 b1 b2 b3 b4 b5 b6 b7 b8 b9 s0 s1 s2 s3 s5 s6 (by simpa using s7)).mono fun e w' h => ⟨h.1, by rw [h.2]; exact Gr.refl _⟩
  by_cases s8 : hasSl a8 = false
  case neg => exact (two_sl8 a0 a1 a2 a3 a4 a5 a6 a7 a8 a9 w w0 w1 w2 w3 w4 w5 w6 w7 w8 w9 b0 b1 b2 b3 b4 b5 b6 b7 b8 b9 s0 s1 s2 s3 s5 s6 s7 (by simpa using s8)).mono fun e w' h => ⟨h.1, by rw [h.2]; exact Gr.refl _⟩
  have hs := eqS_symm (pkgS a5 a6 a7 a8) (pkgS a0 a1 a2 a3)
  have inj := pkg_inj (s := a3) (s2 := a8) s0 s1 s2 s5 s6 s7
  by_cases e0 : eqS a0 a5 = true
  case neg =>
    have x : eqS (pkgS a0 a1 a2 a3) (pkgS a5 a6 a7 a8) = false := by
      cases hh : eqS (pkgS a0 a1 a2 a3) (pkgS a5 a6 a7 a8)
      · rfl
      · exact absurd ((fun h => h.1) (inj hh)) e0
    exact two_ne0 a0 a1 a2 a3 a4 a5 a6 a7 a8 a9 w b0 b1 b2 b3 b4 b5 b6 b7 b8 b9 s0 s1 s2 s3 s5 s6 s7 s8  ((tl_iff _ _ _).mpr (by simpa using e0)) x (hs.trans x)
  by_cases e1 : eqS a1 a6 = true
  case neg =>
    have x : eqS (pkgS a0 a1 a2 a3) (pkgS a5 a6 a7 a8) = false := by
      cases hh : eqS (pkgS a0 a1 a2 a3) (pkgS a5 a6 a7 a8)
      · rfl
      · exact absurd ((fun h => h.2.1) (inj hh)) e1
    exact two_ne1 a0 a1 a2 a3 a4 a5 a6 a7 a8 a9 w b0 b1 b2 b3 b4 b5 b6 b7 b8 b9 s0 s1 s2 s3 s5 s6 s7 s8 e0 ((tl_iff _ _ _).mpr (by simpa using e1)) x (hs.trans x)
  by_cases e2 : eqS a2 a7 = true
  case neg =>
    have x : eqS (pkgS a0 a1 a2 a3) (pkgS a5 a6 a7 a8) = false := by
      cases hh : eqS (pkgS a0 a1 a2 a3) (pkgS a5 a6 a7 a8)
      · rfl
      · exact absurd ((fun h => h.2.2.1) (inj hh)) e2
    exact two_ne2 a0 a1 a2 a3 a4 a5 a6 a7 a8 a9 w b0 b1 b2 b3 b4 b5 b6 b7 b8 b9 s0 s1 s2 s3 s5 s6 s7 s8 e0 e1 ((tl_iff _ _ _).mpr (by simpa using e2)) x (hs.trans x)
  by_cases e3 : eqS a3 a8 = true
  case neg =>
    have x : eqS (pkgS a0 a1 a2 a3) (pkgS a5 a6 a7 a8) = false := by
      cases hh : eqS (pkgS a0 a1 a2 a3) (pkgS a5 a6 a7 a8)
      · rfl
      · exact absurd ((fun h => h.2.2.2) (inj hh)) e3
    exact two_ne3 a0 a1 a2 a3 a4 a5 a6 a7 a8 a9 w b0 b1 b2 b3 b4 b5 b6 b7 b8 b9 s0 s1 s2 s3 s5 s6 s7 s8 e0 e1 e2 ((tl_iff _ _ _).mpr (by simpa using e3)) x (hs.trans x)
  have x := pkg_same e0 e1 e2 e3
  exact two_eq a0 a1 a2 a3 a4 a5 a6 a7 a8 a9 w b0 b1 b2 b3 b4 b5 b6 b7 b8 b9 s0 s1 s2 s3 s5 s6 s7 s8 e0 e1 e2 e3 x (hs.trans x)

/-! ### THE ROW's STEP: WRITTEN OUT: LEAVE IT -/
set_option maxRecDepth 100000 in
theorem lifted (os : Os) (started : os.Started) (H : Type) (enc : TypeId × Value → H) :
    ReturnsInHanded {} Try.checked os 4 .any (Rows.fnSamePackageRegistryMeansSameFourFieldsSpec.pre6 enc Try.prog Try.f4 Rows.fnSamePackageRegistryMeansSameFourFieldsRow.domain false) (Rows.fnSamePackageRegistryMeansSameFourFieldsSpec.post enc Try.prog Try.f4 false true false false) := by
  refine returnsInHanded_of_change (C := Try.checked) own started (by kernel_rfl) Try.func4
    (ChangeSpec.witness6 (enc := enc) (C := Try.checked) false ⟨#[], #[.string ByteArray.empty, .string ByteArray.empty, .string ByteArray.empty, .string ByteArray.empty, .string ByteArray.empty, .string ByteArray.empty, .string ByteArray.empty, .string ByteArray.empty, .string ByteArray.empty, .string ByteArray.empty], []⟩ 8 (by kernel_rfl) (by kernel_rfl) (by kernel_rfl) (by kernel_rfl)) ?_
  intro W base args ds gs before hval0 hW hcnd _
  have hval : ∀ (j : Nat) t v, Try.f4.params[j]? = some t → args[j]? = some v → Value.okWide Try.prog W .any base t v := hval0
  have hW' := hW
  obtain ⟨p, q, hA0, hV, rfl, hfz, hnd⟩ := hW
  have hA : DataW.TrodAll enc Try.prog W 0 (fun _ => true) true Try.f4.params.toList args.toList ds p := hA0
  rw [Try.params4] at hA hval
  obtain ⟨v0, vs0, d0, ds0, p0, q0, hargs, rfl, rfl, h0, r0⟩ := trodAll_cons hA
  obtain ⟨v1, vs1, d1, ds1, p1, q1, rfl, rfl, rfl, h1, r1⟩ := trodAll_cons r0
  obtain ⟨v2, vs2, d2, ds2, p2, q2, rfl, rfl, rfl, h2, r2⟩ := trodAll_cons r1
  obtain ⟨v3, vs3, d3, ds3, p3, q3, rfl, rfl, rfl, h3, r3⟩ := trodAll_cons r2
  obtain ⟨v4, vs4, d4, ds4, p4, q4, rfl, rfl, rfl, h4, r4⟩ := trodAll_cons r3
  obtain ⟨v5, vs5, d5, ds5, p5, q5, rfl, rfl, rfl, h5, r5⟩ := trodAll_cons r4
  obtain ⟨v6, vs6, d6, ds6, p6, q6, rfl, rfl, rfl, h6, r6⟩ := trodAll_cons r5
  obtain ⟨v7, vs7, d7, ds7, p7, q7, rfl, rfl, rfl, h7, r7⟩ := trodAll_cons r6
  obtain ⟨v8, vs8, d8, ds8, p8, q8, rfl, rfl, rfl, h8, r8⟩ := trodAll_cons r7
  obtain ⟨v9, vs9, d9, ds9, p9, q9, rfl, rfl, rfl, h9, r9⟩ := trodAll_cons r8
  obtain ⟨rfl, rfl, rfl⟩ := trodAll_nil r9
  obtain rfl : args = #[v0, v1, v2, v3, v4, v5, v6, v7, v8, v9] := by cases args; simp_all
  obtain ⟨rfl, rfl⟩ := trodVars_none hV
  obtain ⟨a0, rfl, rfl, rfl, w0⟩ := open_string Try.underlying9 (hval 0 9 v0 rfl rfl) h0
  obtain ⟨a1, rfl, rfl, rfl, w1⟩ := open_string Try.underlying9 (hval 1 9 v1 rfl rfl) h1
  obtain ⟨a2, rfl, rfl, rfl, w2⟩ := open_string Try.underlying9 (hval 2 9 v2 rfl rfl) h2
  obtain ⟨a3, rfl, rfl, rfl, w3⟩ := open_string Try.underlying9 (hval 3 9 v3 rfl rfl) h3
  obtain ⟨a4, rfl, rfl, rfl, w4⟩ := open_string Try.underlying9 (hval 4 9 v4 rfl rfl) h4
  obtain ⟨a5, rfl, rfl, rfl, w5⟩ := open_string Try.underlying9 (hval 5 9 v5 rfl rfl) h5
  obtain ⟨a6, rfl, rfl, rfl, w6⟩ := open_string Try.underlying9 (hval 6 9 v6 rfl rfl) h6
  obtain ⟨a7, rfl, rfl, rfl, w7⟩ := open_string Try.underlying9 (hval 7 9 v7 rfl rfl) h7
  obtain ⟨a8, rfl, rfl, rfl, w8⟩ := open_string Try.underlying9 (hval 8 9 v8 rfl rfl) h8
  obtain ⟨a9, rfl, rfl, rfl, w9⟩ := open_string Try.underlying9 (hval 9 9 v9 rfl rfl) h9
  clear hA0 hval0
  simp only [List.append_nil] at hW'
  refine (walk a0 a1 a2 a3 a4 a5 a6 a7 a8 a9 w0 w1 w2 w3 w4 w5 w6 w7 w8 w9 W).mono fun e W' ⟨he, hg⟩ => ?_
  subst he
  exact ⟨_, rfl, post_of_same (pa := []) (pv := []) hW' (fun _ _ _ => (trodAll_cons_mk (shut_bool Try.underlying4 _) trodAll_mk0)) (fun sp _ => (trodAll_cons_mk (shut_string Try.underlying9 w0) (trodAll_cons_mk (shut_string Try.underlying9 w1) (trodAll_cons_mk (shut_string Try.underlying9 w2) (trodAll_cons_mk (shut_string Try.underlying9 w3) (trodAll_cons_mk (shut_string Try.underlying9 w4) (trodAll_cons_mk (shut_string Try.underlying9 w5) (trodAll_cons_mk (shut_string Try.underlying9 w6) (trodAll_cons_mk (shut_string Try.underlying9 w7) (trodAll_cons_mk (shut_string Try.underlying9 w8) (trodAll_cons_mk (shut_string Try.underlying9 w9) trodAll_mk0))))))))))) (fun _ _ => rfl) rfl
    (hg.below.frame _) hg.marks (ok_one (by kernel_rfl) rfl (okWide_bool_mk Try.underlying4 _))⟩

theorem over : Rows.fnSamePackageRegistryMeansSameFourFieldsRow.holds Try.pinned (OpenSpec.ofChange Rows.fnSamePackageRegistryMeansSameFourFieldsSpec) :=
  OpenClaim.holds_of_wide 4 Try.f4 rfl rfl rfl rfl rfl rfl rfl ⟨rfl, rfl, rfl, rfl, rfl⟩ rfl rfl rfl rfl rfl (by kernel_rfl) Try.func4 (by kernel_rfl)
    (of_decide_eq_true (by kernel_rfl)) (by unfold Func.isWrapper; first | (rw [if_pos (by decide +kernel)]; kernel_rfl) | (rw [if_neg (by decide +kernel)]; exact ⟨rfl, rfl⟩))
    (fun os started H enc _ => lifted os started H enc)

/-- ████ THE STATEMENT ████ -/
theorem proved : Rows.FnSamePackageRegistryMeansSameFourFieldsSaid :=
  over
end Go.Proofs.Qxb6625893a.fnSamePackageRegistryMeansSameFourFields
