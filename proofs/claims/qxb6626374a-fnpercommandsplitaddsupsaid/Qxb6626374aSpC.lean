import Derived.Test.Qxb6626374aSpA
namespace Go.Proofs.Qxb6626374a
open Go.RowKit Split

/-- three reports' boxes -/
theorem three_boxes {w : World} (x0 x1 x2 y z u : Value) :
    ∃ W, ((w.alloc (.cells #[x0, x1, x2, y] 32)).alloc (.cells #[x0, x1, x2, z] 32)).alloc (.cells #[x0, x1, x2, u] 32) = W ∧ Below w.heap.size w W ∧ w.heap.size + 1 + 1 < W.heap.size ∧
      (W.cell? ⟨w.heap.size + 1, 0, none⟩ = some x0 ∧ W.cell? ⟨w.heap.size + 1, 1, none⟩ = some x1 ∧ W.cell? ⟨w.heap.size + 1, 2, none⟩ = some x2 ∧ W.cell? ⟨w.heap.size + 1, 3, none⟩ = some z) ∧
      (W.cell? ⟨w.heap.size + 1 + 1, 0, none⟩ = some x0 ∧ W.cell? ⟨w.heap.size + 1 + 1, 1, none⟩ = some x1 ∧ W.cell? ⟨w.heap.size + 1 + 1, 2, none⟩ = some x2 ∧ W.cell? ⟨w.heap.size + 1 + 1, 3, none⟩ = some u) := by
  refine ⟨_, rfl, (((Below.refl _ _).alloc (Nat.le_refl _) _).alloc (by simp) _).alloc (by simp; omega) _, by simp, ⟨?_, ?_, ?_, ?_⟩, ?_, ?_, ?_, ?_⟩ <;> simp [go_sem]

/-- what one part's averages tell -/
structure Piece (M B n : Nat) (tm tb : Int) : Prop where
  ex : ∃ rm rb, floatBits .mul .f64 M (floatOfInt .f64 (n : Int)) = some rm ∧ RoundsTo rm tm ∧ floatBits .mul .f64 B (floatOfInt .f64 (n : Int)) = some rb ∧ RoundsTo rb tb
  zero : n = 0 → M = 0 ∧ B = 0
  sm : tm.natAbs ≤ 281474976710656
  sb : tb.natAbs ≤ 281474976710656

theorem piece {cs : List Cmd} (hS : Small cs) (hn : cs.length ≤ 4096) : Piece (mean (tot Cmd.ms cs) cs.length) (mean (tot Cmd.bs cs) cs.length) cs.length (tot Cmd.ms cs) (tot Cmd.bs cs) := by
  obtain ⟨rm, h1, h2⟩ := part_ms hS hn
  obtain ⟨rb, h3, h4⟩ := part_bs hS hn
  have s1 := tot_ms hS
  have s2 := tot_bs hS
  refine ⟨⟨rm, rb, h1, h2, h3, h4⟩, fun h => ?_, by omega, by omega⟩
  rw [h]
  exact ⟨rfl, rfl⟩

set_option maxRecDepth 100000 in
set_option maxHeartbeats 4000000 in
theorem split_late (rep bk se : Int) (v : Value) (cs : List Cmd) (kk D : Nat) (w : World) (h : RowC w v cs) (hn : cs.length ≤ 4096) (hD : kk + D = cs.length) (hpos : 0 < cs.length) :
    Calls Try.prog 3 #[.int .i64 rep, .int .i64 bk, .int .u64 se, v, .int .i64 kk] w fun e w' => e = .returned (.bool true) ∧ Below w.heap.size w w' := by
  obtain ⟨ao, c, rfl⟩ := h.form
  have Hr : Hid (RowC w (.slice ao cs.length c) cs) := h
  have hkl : kk ≤ cs.length := by omega
  have HD : Hid (kk + D = cs.length) := hD
  clear h hD
  go_enter Try.func3, Try.ntmps3
  go_wp2_with fail
  refine (bytes5_any _ _ _ _ _ _ _ _).mono ?_
  rintro e w1 ⟨⟨b, rfl⟩, hw1⟩
  subst hw1
  cases b
  · go_wp2_with fail
    go_ret
    exact ⟨rfl, Below.refl _ _⟩
  go_wp2_with fail
  go_loopw [11] (fun i wr => ∃ k : Nat, k ≤ cs.length ∧ i = .int .i64 k ∧ w1 = wr ∧ Hid (Small (cs.take k))) (fun i _ => cs.length - (intOf i).toNat)
  case atStart => exact ⟨0, Nat.zero_le _, rfl, rfl, fun c hc => by simp at hc⟩
  case round =>
    obtain ⟨k, hk, rfl, rfl, HS⟩ := hrel
    by_cases hlt : k < cs.length
    · obtain ⟨b, off, rfl, hbl, hc⟩ := Hr.out.at (by omega)
      obtain ⟨⟨ix, ls, al, ms, bs⟩, hck⟩ : ∃ ck, ck = cs[k] := ⟨_, rfl⟩
      have Hck : Hid (⟨ix, ls, al, ms, bs⟩ = cs[k]) := hck
      have hr := hc k hlt
      rw [← hck] at hr
      obtain ⟨r0, r1, r2, r3, r4⟩ := range5 hr
      simp only at r0 r1 r2 r3 r4
      clear hc hck hr
      go_wp2_with fail
      refine (range_any _ _).mono ?_
      rintro e w2 ⟨⟨b1, rfl, hb1⟩, hw2⟩
      subst hw2
      have HB1 : Hid (b1 = false → ms.natAbs ≤ 68719476736) := hb1
      clear hb1
      cases b1
      case true =>
        go_wp2_with fail
        go_ret
        exact ⟨rfl, Below.refl _ _⟩
      go_wp2_with fail
      refine (range_any _ _).mono ?_
      rintro e w3 ⟨⟨b2, rfl, hb2⟩, hw3⟩
      subst hw3
      have HB2 : Hid (b2 = false → bs.natAbs ≤ 68719476736) := hb2
      clear hb2
      cases b2
      case true =>
        go_wp2_with fail
        go_ret
        exact ⟨rfl, Below.refl _ _⟩
      go_wp2_with fail
      go_roundw
      case rel =>
        refine ⟨k + 1, by omega, by go_num, trivial, Split.Small.step HS.out hlt ?_ ?_⟩
        · rw [← Hck.out]; exact HB1.out trivial
        · rw [← Hck.out]; exact HB2.out trivial
      case measure => simp [intOf]; omega
    · have hkn : k = cs.length := by omega
      subst hkn
      have HS' : Hid (Small cs) := by have := HS.out; rwa [List.take_length] at this
      clear HS
      go_wp2_with fail
      refine (build_cap _ _ _ Hr.out (by omega)).mono ?_
      rintro e w2 ⟨ao2, rfl, hrow, hbel⟩
      obtain ⟨b, off, rfl, hbl, hc⟩ := hrow.at hpos
      have HR2 : Hid (RowC w2 (.slice (some ⟨b, off, none⟩) cs.length cs.length) cs ∧ Below w1.heap.size w1 w2 ∧ ∀ j (h : j < cs.length), w2.rangeAt b (off + j * 5) cs[j].cells) := ⟨hrow, hbel, hc⟩
      have hsz := hbel.size
      clear hrow hbel Hr hc
      go_wp2_with fail
      go_loopw [14, 15, 16] (fun tm tb i wr => ∃ k : Nat, k ≤ cs.length ∧ i = .int .i64 k ∧ tm = .int .i64 (tot Cmd.ms (cs.take k)) ∧ tb = .int .i64 (tot Cmd.bs (cs.take k)) ∧ w2 = wr) (fun _ _ i _ => cs.length - (intOf i).toNat)
      case atStart => exact ⟨0, Nat.zero_le _, rfl, rfl, rfl, rfl⟩
      case round =>
        obtain ⟨k, hk, rfl, rfl, rfl, rfl⟩ := hrel
        by_cases hlt : k < cs.length
        · have hr := HR2.out.2.2 k hlt
          have t1 := tot_take Cmd.ms cs k hlt
          have t2 := tot_take Cmd.bs cs k hlt
          have s1 := tot_ms (HS'.out.take k)
          have s2 := tot_bs (HS'.out.take k)
          have s3 := HS'.out cs[k] (List.getElem_mem hlt)
          rw [List.length_take] at s1 s2
          obtain ⟨⟨ix, ls, al, ms, bs⟩, hck⟩ : ∃ ck, ck = cs[k] := ⟨_, rfl⟩
          rw [← hck] at hr t1 t2 s3
          simp only at s3 t1 t2
          obtain ⟨r0, r1, r2, r3, r4⟩ := range5 hr
          simp only at r0 r1 r2 r3 r4
          generalize tot Cmd.ms (cs.take k) = tm at *
          generalize tot Cmd.bs (cs.take k) = tb at *
          have T : Hid (tot Cmd.ms (cs.take (k + 1)) = tm + ms ∧ tot Cmd.bs (cs.take (k + 1)) = tb + bs) := ⟨t1, t2⟩
          have u1 : tm ≤ 1125899906842624 := by omega
          have u2 : -1125899906842624 ≤ tm := by omega
          have u3 : tb ≤ 1125899906842624 := by omega
          have u4 : -1125899906842624 ≤ tb := by omega
          have v1 : ms ≤ 68719476736 := by omega
          have v2 : -68719476736 ≤ ms := by omega
          have v3 : bs ≤ 68719476736 := by omega
          have v4 : -68719476736 ≤ bs := by omega
          clear hr t1 t2 s1 s2 s3 hck
          go_wp2_with fail
          go_roundw
          case rel => exact ⟨k + 1, by omega, by go_num, by rw [T.out.1], by rw [T.out.2], trivial⟩
          case measure => simp [intOf]; omega
        · have hkn : k = cs.length := by omega
          subst hkn
          rw [List.take_length]
          by_cases hE : cs.length = kk
          · subst hE
            have hD0 : D = 0 := by have := HD.out; omega
            go_wp2_with fail
            obtain ⟨Wb, hWb, bWb, sWb, ⟨x0, x1, x2, x3⟩, y0, y1, y2, y3⟩ := three_boxes (w := w2) (.int .i64 rep) (.int .i64 bk) (.int .u64 se) (.slice (some ⟨b, off, none⟩) cs.length cs.length) (.slice (some ⟨b, off, none⟩) cs.length cs.length) (.slice (some ⟨b, off, none⟩) 0 0)
            rw [hWb]
            clear hWb
            refine (per_any _ _ _ _ _ _ (HR2.out.1.later bWb) HS'.out (by omega)).mono ?_
            rintro e w3 ⟨he, hb3⟩
            have he' : e = .returned (.tuple #[.float .f64 (mean (tot Cmd.ms cs) cs.length), .float .f64 (mean (tot Cmd.bs cs) cs.length)]) := he
            subst he'
            have b3 := bWb.trans (hb3.mono (by omega))
            have HQ3 : Hid (RowC w3 (.slice (some ⟨b, off, none⟩) cs.length cs.length) cs ∧ Below w1.heap.size w1 w3) := ⟨HR2.out.1.later b3, HR2.out.2.1.trans (b3.mono hsz)⟩
            replace x0 := cell_later hb3 x0
            replace x1 := cell_later hb3 x1
            replace x2 := cell_later hb3 x2
            replace x3 := cell_later hb3 x3
            replace y0 := cell_later hb3 y0
            replace y1 := cell_later hb3 y1
            replace y2 := cell_later hb3 y2
            replace y3 := cell_later hb3 y3
            have hsz3 : w2.heap.size + 1 + 1 < w3.heap.size := by have := hb3.size; omega
            clear he hb3 b3 bWb sWb HR2
            go_wp2_with fail
            have hlt : (cs.take cs.length).length = cs.length := by rw [List.length_take]; omega
            have hld : (cs.drop cs.length).length = 0 := by rw [List.length_drop]; have := HD.out; omega
            refine (per_any _ _ _ _ _ _ (RowC.front HQ3.out.1 (Nat.le_refl _) _) (HS'.out.take cs.length) (by omega)).mono ?_
            rintro e w4 ⟨he, hb4⟩
            have he' : e = .returned (.tuple #[.float .f64 (mean (tot Cmd.ms (cs.take cs.length)) (cs.take cs.length).length), .float .f64 (mean (tot Cmd.bs (cs.take cs.length)) (cs.take cs.length).length)]) := he
            subst he'
            have HQ4 : Hid (RowC w4 (.slice (some ⟨b, off, none⟩) cs.length cs.length) cs ∧ Below w1.heap.size w1 w4) := ⟨HQ3.out.1.later hb4, HQ3.out.2.trans (hb4.mono (by omega))⟩
            replace y0 := cell_later hb4 y0
            replace y1 := cell_later hb4 y1
            replace y2 := cell_later hb4 y2
            replace y3 := cell_later hb4 y3
            have hsz4 : w2.heap.size + 1 + 1 < w4.heap.size := by have := hb4.size; omega
            have HL : Hid ((cs.take cs.length).length = cs.length ∧ (cs.drop cs.length).length = 0) := ⟨hlt, hld⟩
            have PA := piece (HS'.out.take cs.length) (by omega)
            have PB := piece (HS'.out.drop cs.length) (by omega)
            have PW := whole HS'.out hpos hn
            rw [hlt] at PA ⊢
            rw [hld] at PB
            have HT : Hid (tot Cmd.ms cs = tot Cmd.ms (cs.take cs.length) + tot Cmd.ms (cs.drop cs.length) ∧ tot Cmd.bs cs = tot Cmd.bs (cs.take cs.length) + tot Cmd.bs (cs.drop cs.length)) := by
              constructor
              · rw [← tot_append, List.take_append_drop]
              · rw [← tot_append, List.take_append_drop]
            have HPA : Hid (Piece _ _ _ _ _) := PA
            have HPB : Hid (Piece _ _ _ _ _) := PB
            have HPW : Hid (Whole _ _ _) := PW
            clear he hb4 HQ3 x0 x1 x2 x3 hlt hld PA PB PW
            go_wp2_with fail
            refine (per_any _ _ _ _ _ _ (⟨_, 0, by rw [HL.out.2], fun j hj => by rw [HL.out.2] at hj; omega⟩) (HS'.out.drop cs.length) (by rw [HL.out.2]; omega)).mono ?_
            rintro e w5 ⟨he, hb5⟩
            have he' : e = .returned (.tuple #[.float .f64 (mean (tot Cmd.ms (cs.drop cs.length)) (cs.drop cs.length).length), .float .f64 (mean (tot Cmd.bs (cs.drop cs.length)) (cs.drop cs.length).length)]) := he
            subst he'
            rw [HL.out.2]
            have HQ5 : Hid (Below w1.heap.size w1 w5) := HQ4.out.2.trans (hb5.mono (by omega))
            clear he hb5 HQ4 y0 y1 y2 y3 HL
            rw [List.take_length] at HPA HT
            generalize mean (tot Cmd.ms (cs.drop cs.length)) 0 = BM at *
            generalize mean (tot Cmd.bs (cs.drop cs.length)) 0 = BB at *
            generalize mean (tot Cmd.ms cs) cs.length = WM at *
            generalize mean (tot Cmd.bs cs) cs.length = WB at *
            generalize tot Cmd.ms (cs.drop cs.length) = t3 at *
            generalize tot Cmd.bs (cs.drop cs.length) = t4 at *
            obtain ⟨⟨rm, rb, q1, q2, q3, q4⟩, hz, sA1, sA2⟩ := HPA.out
            obtain ⟨⟨sm, sb, p1, p2, p3, p4⟩, hz', sB1, sB2⟩ := HPB.out
            obtain ⟨o1, o2, o3, o4⟩ := HPW.out
            generalize tot Cmd.ms cs = t1 at *
            generalize tot Cmd.bs cs = t2 at *
            have g1 : t3 = 0 := by have := HT.out.1; omega
            have g2 : t4 = 0 := by have := HT.out.2; omega
            subst g1 g2
            have Q2 : Hid (RoundsTo rm t1) := q2
            have Q4 : Hid (RoundsTo rb t2) := q4
            have P2 : Hid (RoundsTo sm 0) := p2
            have P4 : Hid (RoundsTo sb 0) := p4
            have c1 : t1 ≤ 281474976710656 := by omega
            have c2 : -281474976710656 ≤ t1 := by omega
            have c3 : t2 ≤ 281474976710656 := by omega
            have c4 : -281474976710656 ≤ t2 := by omega
            have a5 := fun w => run_float_arith (P := Try.prog) w .quo 33 .f64 _ _ _ o3
            have a6 := fun w => run_float_arith (P := Try.prog) w .quo 33 .f64 _ _ _ o4
            have o0 := ord00
            clear HT HPA HPB HPW q2 q4 p2 p4 sA1 sA2 sB1 sB2 o3 o4
            obtain ⟨rfl, rfl⟩ := hz' rfl
            have hne : ¬ cs.length = 0 := by omega
            have a1 := fun w => run_float_arith (P := Try.prog) w .mul 33 .f64 _ _ _ q1
            have a2 := fun w => run_float_arith (P := Try.prog) w .mul 33 .f64 _ _ _ q3
            have a3 : ∀ w, (binOp .mul 33 (.float .f64 0) (.float .f64 (floatOfInt .f64 0))).run Try.prog w = .ok (.float .f64 sm) w := fun w => run_float_arith (P := Try.prog) w .mul 33 .f64 _ _ _ p1
            have a4 : ∀ w, (binOp .mul 33 (.float .f64 0) (.float .f64 (floatOfInt .f64 0))).run Try.prog w = .ok (.float .f64 sb) w := fun w => run_float_arith (P := Try.prog) w .mul 33 .f64 _ _ _ p3
            have hsame : sb = sm := by
              have e : some sm = some sb := p1.symm.trans p3
              exact (Option.some.inj e).symm
            subst hsame
            clear q1 q3 p1 p3 hz hz' a4
            go_wp2_with fail
            refine (round_any _ _ _ Q2.out).mono ?_
            rintro e w6 ⟨rfl, hw6⟩
            subst hw6
            go_wp2_with fail
            refine (round_any _ _ _ P2.out).mono ?_
            rintro e w7 ⟨rfl, hw7⟩
            subst hw7
            go_wp2_with fail
            refine (round_any _ _ _ Q4.out).mono ?_
            rintro e w8 ⟨rfl, hw8⟩
            subst hw8
            go_wp2_with fail
            refine (round_any _ _ _ P4.out).mono ?_
            rintro e w9 ⟨rfl, hw9⟩
            subst hw9
            go_wp2_with fail
            go_ret
            exact ⟨rfl, HQ5.out⟩
          · have hsub : cs.length - kk = D := by have := HD.out; omega
            have hsubI : (cs.length : Int) - (kk : Int) = (D : Int) := by have := HD.out; omega
            go_wp2_with fail
            obtain ⟨Wb, hWb, bWb, sWb, ⟨x0, x1, x2, x3⟩, y0, y1, y2, y3⟩ := three_boxes (w := w2) (.int .i64 rep) (.int .i64 bk) (.int .u64 se) (.slice (some ⟨b, off, none⟩) cs.length cs.length) (.slice (some ⟨b, off, none⟩) kk cs.length) (.slice (some ⟨b, off + kk * 5, none⟩) D D)
            rw [hWb]
            clear hWb
            refine (per_any _ _ _ _ _ _ (HR2.out.1.later bWb) HS'.out (by omega)).mono ?_
            rintro e w3 ⟨he, hb3⟩
            have he' : e = .returned (.tuple #[.float .f64 (mean (tot Cmd.ms cs) cs.length), .float .f64 (mean (tot Cmd.bs cs) cs.length)]) := he
            subst he'
            have b3 := bWb.trans (hb3.mono (by omega))
            have HQ3 : Hid (RowC w3 (.slice (some ⟨b, off, none⟩) cs.length cs.length) cs ∧ Below w1.heap.size w1 w3) := ⟨HR2.out.1.later b3, HR2.out.2.1.trans (b3.mono hsz)⟩
            replace x0 := cell_later hb3 x0
            replace x1 := cell_later hb3 x1
            replace x2 := cell_later hb3 x2
            replace x3 := cell_later hb3 x3
            replace y0 := cell_later hb3 y0
            replace y1 := cell_later hb3 y1
            replace y2 := cell_later hb3 y2
            replace y3 := cell_later hb3 y3
            have hsz3 : w2.heap.size + 1 + 1 < w3.heap.size := by have := hb3.size; omega
            clear he hb3 b3 bWb sWb HR2
            go_wp2_with fail
            have hlt : (cs.take kk).length = kk := by rw [List.length_take]; omega
            have hld : (cs.drop kk).length = D := by rw [List.length_drop]; have := HD.out; omega
            refine (per_any _ _ _ _ _ _ (RowC.front HQ3.out.1 (by omega) _) (HS'.out.take kk) (by omega)).mono ?_
            rintro e w4 ⟨he, hb4⟩
            have he' : e = .returned (.tuple #[.float .f64 (mean (tot Cmd.ms (cs.take kk)) (cs.take kk).length), .float .f64 (mean (tot Cmd.bs (cs.take kk)) (cs.take kk).length)]) := he
            subst he'
            have HQ4 : Hid (RowC w4 (.slice (some ⟨b, off, none⟩) cs.length cs.length) cs ∧ Below w1.heap.size w1 w4) := ⟨HQ3.out.1.later hb4, HQ3.out.2.trans (hb4.mono (by omega))⟩
            replace y0 := cell_later hb4 y0
            replace y1 := cell_later hb4 y1
            replace y2 := cell_later hb4 y2
            replace y3 := cell_later hb4 y3
            have hsz4 : w2.heap.size + 1 + 1 < w4.heap.size := by have := hb4.size; omega
            have HL : Hid ((cs.take kk).length = kk ∧ (cs.drop kk).length = D) := ⟨hlt, hld⟩
            have PA := piece (HS'.out.take kk) (by omega)
            have PB := piece (HS'.out.drop kk) (by omega)
            have PW := whole HS'.out hpos hn
            rw [hlt] at PA ⊢
            rw [hld] at PB
            have HT : Hid (tot Cmd.ms cs = tot Cmd.ms (cs.take kk) + tot Cmd.ms (cs.drop kk) ∧ tot Cmd.bs cs = tot Cmd.bs (cs.take kk) + tot Cmd.bs (cs.drop kk)) := by
              constructor
              · rw [← tot_append, List.take_append_drop]
              · rw [← tot_append, List.take_append_drop]
            have HPA : Hid (Piece _ _ _ _ _) := PA
            have HPB : Hid (Piece _ _ _ _ _) := PB
            have HPW : Hid (Whole _ _ _) := PW
            clear he hb4 HQ3 x0 x1 x2 x3 hlt hld PA PB PW
            go_wp2_with fail
            refine (per_any _ _ _ _ _ _ (RowC.back HQ4.out.1 D HD.out _) (HS'.out.drop kk) (by rw [HL.out.2]; omega)).mono ?_
            rintro e w5 ⟨he, hb5⟩
            have he' : e = .returned (.tuple #[.float .f64 (mean (tot Cmd.ms (cs.drop kk)) (cs.drop kk).length), .float .f64 (mean (tot Cmd.bs (cs.drop kk)) (cs.drop kk).length)]) := he
            subst he'
            rw [HL.out.2]
            have HQ5 : Hid (Below w1.heap.size w1 w5) := HQ4.out.2.trans (hb5.mono (by omega))
            clear he hb5 HQ4 y0 y1 y2 y3 HL
            generalize mean (tot Cmd.ms (cs.take kk)) kk = AM at *
            generalize mean (tot Cmd.bs (cs.take kk)) kk = AB at *
            generalize mean (tot Cmd.ms (cs.drop kk)) D = BM at *
            generalize mean (tot Cmd.bs (cs.drop kk)) D = BB at *
            generalize mean (tot Cmd.ms cs) cs.length = WM at *
            generalize mean (tot Cmd.bs cs) cs.length = WB at *
            generalize tot Cmd.ms (cs.take kk) = t1 at *
            generalize tot Cmd.bs (cs.take kk) = t2 at *
            generalize tot Cmd.ms (cs.drop kk) = t3 at *
            generalize tot Cmd.bs (cs.drop kk) = t4 at *
            obtain ⟨g1, g2⟩ := HT.out
            obtain ⟨⟨rm, rb, q1, q2, q3, q4⟩, hz, sA1, sA2⟩ := HPA.out
            obtain ⟨⟨sm, sb, p1, p2, p3, p4⟩, hz', sB1, sB2⟩ := HPB.out
            obtain ⟨o1, o2, o3, o4⟩ := HPW.out
            rw [g1] at o3
            rw [g2] at o4
            rw [g1, g2]
            have Q2 : Hid (RoundsTo rm t1) := q2
            have Q4 : Hid (RoundsTo rb t2) := q4
            have P2 : Hid (RoundsTo sm t3) := p2
            have P4 : Hid (RoundsTo sb t4) := p4
            have c1 : t1 ≤ 281474976710656 := by omega
            have c2 : -281474976710656 ≤ t1 := by omega
            have c3 : t2 ≤ 281474976710656 := by omega
            have c4 : -281474976710656 ≤ t2 := by omega
            have c5 : t3 ≤ 281474976710656 := by omega
            have c6 : -281474976710656 ≤ t3 := by omega
            have c7 : t4 ≤ 281474976710656 := by omega
            have c8 : -281474976710656 ≤ t4 := by omega
            have a5 := fun w => run_float_arith (P := Try.prog) w .quo 33 .f64 _ _ _ o3
            have a6 := fun w => run_float_arith (P := Try.prog) w .quo 33 .f64 _ _ _ o4
            have o0 := ord00
            clear g1 g2 HT HPA HPB HPW q2 q4 p2 p4 sA1 sA2 sB1 sB2 o3 o4
            have hne : ¬ cs.length = 0 := by omega
            have hDp : ¬ D = 0 := by have := HD.out; omega
            rcases Nat.eq_zero_or_pos kk with hk0 | hk0
            · obtain ⟨rfl, rfl⟩ := hz hk0
              subst hk0
              have hDl : D = cs.length := by have := HD.out; omega
              subst hDl
              clear hsub hsubI
              have a1 : ∀ w, (binOp .mul 33 (.float .f64 0) (.float .f64 (floatOfInt .f64 0))).run Try.prog w = .ok (.float .f64 rm) w := fun w => run_float_arith (P := Try.prog) w .mul 33 .f64 _ _ _ q1
              have hsame : rb = rm := by
                have e : some rm = some rb := q1.symm.trans q3
                exact (Option.some.inj e).symm
              subst hsame
              have a3 := fun w => run_float_arith (P := Try.prog) w .mul 33 .f64 _ _ _ p1
              have a4 := fun w => run_float_arith (P := Try.prog) w .mul 33 .f64 _ _ _ p3
              clear q1 q3 p1 p3 hz hz'
              go_wp2_with fail
              refine (round_any _ _ _ Q2.out).mono ?_
              rintro e w6 ⟨rfl, hw6⟩
              subst hw6
              go_wp2_with fail
              refine (round_any _ _ _ P2.out).mono ?_
              rintro e w7 ⟨rfl, hw7⟩
              subst hw7
              go_wp2_with fail
              refine (round_any _ _ _ Q4.out).mono ?_
              rintro e w8 ⟨rfl, hw8⟩
              subst hw8
              go_wp2_with fail
              refine (round_any _ _ _ P4.out).mono ?_
              rintro e w9 ⟨rfl, hw9⟩
              subst hw9
              go_wp2_with fail
              go_ret
              exact ⟨rfl, HQ5.out⟩
            · have hk1 : ¬ kk = 0 := by omega
              have a1 := fun w => run_float_arith (P := Try.prog) w .mul 33 .f64 _ _ _ q1
              have a2 := fun w => run_float_arith (P := Try.prog) w .mul 33 .f64 _ _ _ q3
              have a3 := fun w => run_float_arith (P := Try.prog) w .mul 33 .f64 _ _ _ p1
              have a4 := fun w => run_float_arith (P := Try.prog) w .mul 33 .f64 _ _ _ p3
              clear q1 q3 p1 p3 hz hz'
              go_wp2_with fail
              refine (round_any _ _ _ Q2.out).mono ?_
              rintro e w6 ⟨rfl, hw6⟩
              subst hw6
              go_wp2_with fail
              refine (round_any _ _ _ P2.out).mono ?_
              rintro e w7 ⟨rfl, hw7⟩
              subst hw7
              go_wp2_with fail
              refine (round_any _ _ _ Q4.out).mono ?_
              rintro e w8 ⟨rfl, hw8⟩
              subst hw8
              go_wp2_with fail
              refine (round_any _ _ _ P4.out).mono ?_
              rintro e w9 ⟨rfl, hw9⟩
              subst hw9
              go_wp2_with fail
              go_ret
              exact ⟨rfl, HQ5.out⟩

end Go.Proofs.Qxb6626374a
