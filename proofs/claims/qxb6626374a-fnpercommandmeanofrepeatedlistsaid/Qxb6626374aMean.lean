import Derived.Test.Qxb6626374aPer
import Derived.Deep.CutRange
namespace Go.Proofs.Qxb6626374a
open Go.RowKit

set_option maxRecDepth 100000 in
set_option maxHeartbeats 1000000 in
theorem mean_long (rep bk se : Int) (v : Value) (cs : List Cmd) (w : World) (h : RowC w v cs) (hn : 4096 < cs.length) :
    Calls Try.prog 4 #[.int .i64 rep, .int .i64 bk, .int .u64 se, v] w fun e w' => e = .returned (.bool true) ∧ Below w.heap.size w w' := by
  obtain ⟨ao, c, rfl⟩ := h.form
  clear h
  go_enter Try.func4, Try.ntmps4
  go_wp2_with fail
  refine (bytes10_any _ _ _ _ _ _ _).mono ?_
  rintro e w1 ⟨⟨b, rfl⟩, hw1⟩
  subst hw1
  cases b
  all_goals
    go_wp2_with fail
    go_ret
    exact ⟨rfl, Below.refl _ _⟩

theorem Small.step {cs : List Cmd} {k : Nat} (h : Small (cs.take k)) (hk : k < cs.length) (h1 : cs[k].ms.natAbs ≤ 68719476736) (h2 : cs[k].bs.natAbs ≤ 68719476736) : Small (cs.take (k + 1)) := by
  rw [List.take_succ_eq_append_getElem hk]
  refine h.append fun c hc => ?_
  rw [List.mem_singleton] at hc
  subst hc
  exact ⟨h1, h2⟩

theorem make_two (w : World) (n : Nat) (h : n ≤ 4096) : ∃ C : Array Value, C.size = (n + n) * 5 ∧ (Instr.makeSlice 28 (.int .i64 (2 * (n : Int))) (.int .i64 (2 * (n : Int)))).run Try.prog w = .ok (.slice (some ⟨w.heap.size, 0, none⟩) (n + n) (n + n)) (w.alloc (.cells C 30)) := by
  obtain ⟨C, h1, h2⟩ := make28 w (n + n) (by omega)
  rw [show ((n + n : Nat) : Int) = 2 * (n : Int) by omega] at h2
  exact ⟨C, h1, h2⟩

/-- the doubled row being filled -/
structure Twice (w : World) (B n k : Nat) (cs : List Cmd) : Prop where
  there : ∀ j, j < n + n → w.there B (j * 5) 5
  done : ∀ j (h : j < cs.length), j < k → w.rangeAt B (j * 5) cs[j].cells ∧ w.rangeAt B ((n + j) * 5) cs[j].cells

/-- in the middle of a round -/
structure Half (w : World) (B n k : Nat) (cs : List Cmd) : Prop where
  twice : Twice w B n k cs
  at_ : ∀ (h : k < cs.length), w.rangeAt B (k * 5) cs[k].cells

theorem Twice.start {w : World} {C : Array Value} {t : TypeId} {cs : List Cmd} {n : Nat} (hC : C.size = (n + n) * 5) : Twice (w.alloc (.cells C t)) w.heap.size n 0 cs :=
  ⟨(Filling.start (cs := cs) hC).there, fun j _ hj => by omega⟩

theorem Twice.half {w : World} {B n k : Nat} {cs : List Cmd} (hf : Twice w B n k cs) (hk : k < cs.length) (hn : k < n) (c : Cmd) (hc : c = cs[k]) :
    Half (w.setCells B (k * 5) c.cells) B n k cs := by
  subst hc
  refine ⟨⟨fun j hj => World.there_setCells (hf.there j hj) _ _ _, fun j hj hl => ⟨?_, ?_⟩⟩, fun _ => World.rangeAt_setCells_same _ _ _ _ (hf.there k (by omega))⟩
  · refine World.rangeAt_setCells_apart (hf.done j hj hl).1 _ _ _ (.inr (.inl ?_))
    show j * 5 + 5 ≤ k * 5
    omega
  · refine World.rangeAt_setCells_apart (hf.done j hj hl).2 _ _ _ (.inr (.inr ?_))
    show k * 5 + 5 ≤ (n + j) * 5
    omega

theorem Half.full {w : World} {B n k : Nat} {cs : List Cmd} (hf : Half w B n k cs) (hk : k < cs.length) (hn : k < n) (c : Cmd) (hc : c = cs[k]) :
    Twice (w.setCells B ((n + k) * 5) c.cells) B n (k + 1) cs := by
  subst hc
  refine ⟨fun j hj => World.there_setCells (hf.twice.there j hj) _ _ _, fun j hj hl => ?_⟩
  by_cases h : j = k
  · subst h
    refine ⟨World.rangeAt_setCells_apart (hf.at_ hj) _ _ _ (.inr (.inl ?_)), World.rangeAt_setCells_same _ _ _ _ (hf.twice.there (n + j) (by omega))⟩
    show j * 5 + 5 ≤ (n + j) * 5
    omega
  · have hjk : j < k := by omega
    refine ⟨World.rangeAt_setCells_apart (hf.twice.done j hj hjk).1 _ _ _ (.inr (.inl ?_)), World.rangeAt_setCells_apart (hf.twice.done j hj hjk).2 _ _ _ (.inr (.inl ?_))⟩
    · show j * 5 + 5 ≤ (n + k) * 5
      omega
    · show (n + j) * 5 + 5 ≤ (n + k) * 5
      omega

theorem Twice.row {w : World} {B n : Nat} {cs : List Cmd} (hf : Twice w B n n cs) (hn : cs.length = n) (hB : B < w.heap.size) (c : Nat) : RowC w (.slice (some ⟨B, 0, none⟩) (n + n) c) (cs ++ cs) := by
  subst hn
  refine ⟨_, c, by rw [List.length_append], fun j hj => ⟨B, 0, rfl, hB, ?_⟩⟩
  rw [Nat.zero_add]
  rw [List.length_append] at hj
  by_cases h : j < cs.length
  · rw [List.getElem_append_left h]
    exact (hf.done j h h).1
  · rw [List.getElem_append_right (by omega)]
    have := (hf.done (j - cs.length) (by omega) (by omega)).2
    rwa [show cs.length + (j - cs.length) = j by omega] at this

theorem mid_facts {w wr : World} {B : Nat} (hb : Below w.heap.size w wr) (hs : w.heap.size < wr.heap.size) (hB : w.heap.size ≤ B) (o : Nat) (vs : List Value) :
    Below w.heap.size w (wr.setCells B o vs) ∧ w.heap.size < (wr.setCells B o vs).heap.size := by
  have h2 : Below w.heap.size wr (wr.setCells B o vs) := below_setCells hB _ _ _ (Below.refl _ _)
  exact ⟨below_setCells hB _ _ _ hb, Nat.lt_of_lt_of_le hs h2.size⟩

/-- two reports' boxes -/
theorem two_boxes {w : World} (x0 x1 x2 y z : Value) :
    ∃ W, (w.alloc (.cells #[x0, x1, x2, y] 32)).alloc (.cells #[x0, x1, x2, z] 32) = W ∧ Below w.heap.size w W ∧ w.heap.size + 1 < W.heap.size ∧
      W.cell? ⟨w.heap.size + 1, 0, none⟩ = some x0 ∧ W.cell? ⟨w.heap.size + 1, 1, none⟩ = some x1 ∧ W.cell? ⟨w.heap.size + 1, 2, none⟩ = some x2 ∧ W.cell? ⟨w.heap.size + 1, 3, none⟩ = some z := by
  refine ⟨_, rfl, ((Below.refl _ _).alloc (Nat.le_refl _) _).alloc (by simp) _, by simp, ?_, ?_, ?_, ?_⟩ <;> simp [go_sem]

/-- what the least and the greatest of the counts tell -/
structure Bnd (lm hm lb hb : Int) (l : List Cmd) : Prop where
  s1 : lm.natAbs ≤ 68719476736
  s2 : hm.natAbs ≤ 68719476736
  s3 : lb.natAbs ≤ 68719476736
  s4 : hb.natAbs ≤ 68719476736
  all : ∀ c ∈ l, lm ≤ c.ms ∧ c.ms ≤ hm ∧ lb ≤ c.bs ∧ c.bs ≤ hb

theorem Bnd.step {lm hm lb hb lm' hm' lb' hb' : Int} {cs : List Cmd} {k : Nat} (h : Bnd lm hm lb hb (cs.take k)) (hk : k < cs.length) (c : Cmd) (hc : c = cs[k])
    (g1 : lm' ≤ lm ∧ lm' ≤ c.ms ∧ lm'.natAbs ≤ 68719476736) (g2 : hm ≤ hm' ∧ c.ms ≤ hm' ∧ hm'.natAbs ≤ 68719476736)
    (g3 : lb' ≤ lb ∧ lb' ≤ c.bs ∧ lb'.natAbs ≤ 68719476736) (g4 : hb ≤ hb' ∧ c.bs ≤ hb' ∧ hb'.natAbs ≤ 68719476736) : Bnd lm' hm' lb' hb' (cs.take (k + 1)) := by
  subst hc
  refine ⟨g1.2.2, g2.2.2, g3.2.2, g4.2.2, fun c hc => ?_⟩
  rw [List.take_succ_eq_append_getElem hk, List.mem_append] at hc
  rcases hc with hc | hc
  · have := h.all c hc
    omega
  · rw [List.mem_singleton] at hc
    subst hc
    exact ⟨g1.2.1, g2.2.1, g3.2.1, g4.2.1⟩

theorem tot_lo {f : Cmd → Int} {lo : Int} {l : List Cmd} (h : ∀ c ∈ l, lo ≤ f c) : lo * (l.length : Int) ≤ tot f l := by
  induction l with
  | nil => simp [tot]
  | cons c r ih =>
    have h1 := h c (by simp)
    have h2 := ih (fun x hx => h x (by simp [hx]))
    simp only [tot, List.length_cons, Int.natCast_add, Int.mul_add]
    omega
theorem tot_hi {f : Cmd → Int} {hi : Int} {l : List Cmd} (h : ∀ c ∈ l, f c ≤ hi) : tot f l ≤ hi * (l.length : Int) := by
  induction l with
  | nil => simp [tot]
  | cons c r ih =>
    have h1 := h c (by simp)
    have h2 := ih (fun x hx => h x (by simp [hx]))
    simp only [tot, List.length_cons, Int.natCast_add, Int.mul_add]
    omega

theorem mean_pos {t : Int} {n : Nat} (h : 0 < n) : mean t n = avg t n := by unfold mean; rw [if_neg (by omega)]

/-- the averages of a list and of the list twice over -/
structure Avgs (M1 B1 M2 B2 : Nat) (cs : List Cmd) : Prop where
  om : FloatKind.f64.format.order M1 M2 = some .eq
  ob : FloatKind.f64.format.order B1 B2 = some .eq
  sm : FloatKind.f64.format.order M1 M1 = some .eq
  sb : FloatKind.f64.format.order B1 B1 = some .eq
  qm : floatBits .quo .f64 (floatOfInt .f64 (tot Cmd.ms cs)) (floatOfInt .f64 (cs.length : Int)) = some M1
  qb : floatBits .quo .f64 (floatOfInt .f64 (tot Cmd.bs cs)) (floatOfInt .f64 (cs.length : Int)) = some B1
  bnd : ∀ {lm hm lb hb : Int}, Bnd lm hm lb hb cs → (FloatKind.f64.format.order (floatOfInt .f64 lm) M1 == some .gt) = false ∧ (FloatKind.f64.format.order M1 (floatOfInt .f64 hm) == some .gt) = false ∧
    (FloatKind.f64.format.order (floatOfInt .f64 lb) B1 == some .gt) = false ∧ (FloatKind.f64.format.order B1 (floatOfInt .f64 hb) == some .gt) = false

theorem beq_gt_false {o : Option Ordering} (h : o ≠ some .gt) : (o == some .gt) = false := by
  cases hb : (o == some .gt)
  · rfl
  · exact absurd (eq_of_beq hb) h

theorem avgs {cs : List Cmd} (hS : Small cs) (hp : 0 < cs.length) (hn : cs.length ≤ 4096) :
    Avgs (mean (tot Cmd.ms cs) cs.length) (mean (tot Cmd.bs cs) cs.length) (mean (tot Cmd.ms (cs ++ cs)) (cs ++ cs).length) (mean (tot Cmd.bs (cs ++ cs)) (cs ++ cs).length) cs := by
  have s1 := tot_ms hS
  have s2 := tot_bs hS
  have l2 : (((cs ++ cs).length : Nat) : Int) = 2 * (cs.length : Int) := by rw [List.length_append]; omega
  rw [mean_pos hp, mean_pos hp, mean_pos (by rw [List.length_append]; omega), mean_pos (by rw [List.length_append]; omega), l2, tot_append, tot_append]
  have e1 : tot Cmd.ms cs + tot Cmd.ms cs = 2 * tot Cmd.ms cs := by omega
  have e2 : tot Cmd.bs cs + tot Cmd.bs cs = 2 * tot Cmd.bs cs := by omega
  rw [e1, e2]
  obtain ⟨_, q1, -⟩ := avg_spec (t := tot Cmd.ms cs) (n := cs.length) (by omega) (by omega) (by omega)
  obtain ⟨_, q2, -⟩ := avg_spec (t := tot Cmd.bs cs) (n := cs.length) (by omega) (by omega) (by omega)
  refine ⟨avg_double (by omega) (by omega) (by omega), avg_double (by omega) (by omega) (by omega), avg_same (by omega) (by omega) (by omega), avg_same (by omega) (by omega) (by omega), q1, q2, fun {lm hm lb hb} h => ⟨?_, ?_, ?_, ?_⟩⟩
  · exact beq_gt_false (avg_lo (by omega) (by omega) (by omega) (by have := h.s1; omega) (tot_lo fun c hc => (h.all c hc).1))
  · exact beq_gt_false (avg_hi (by omega) (by omega) (by omega) (by have := h.s2; omega) (tot_hi fun c hc => (h.all c hc).2.1))
  · exact beq_gt_false (avg_lo (by omega) (by omega) (by omega) (by have := h.s3; omega) (tot_lo fun c hc => (h.all c hc).2.2.1))
  · exact beq_gt_false (avg_hi (by omega) (by omega) (by omega) (by have := h.s4; omega) (tot_hi fun c hc => (h.all c hc).2.2.2))

theorem ord00 : FloatKind.f64.format.order 0 0 = some .eq := by decide

set_option maxRecDepth 100000 in
set_option maxHeartbeats 4000000 in
theorem mean_late (rep bk se : Int) (v : Value) (cs : List Cmd) (w : World) (h : RowC w v cs) (hn : cs.length ≤ 4096) :
    Calls Try.prog 4 #[.int .i64 rep, .int .i64 bk, .int .u64 se, v] w fun e w' => e = .returned (.bool true) ∧ Below w.heap.size w w' := by
  obtain ⟨ao, c, rfl⟩ := h.form
  have Hr : Hid (RowC w (.slice ao cs.length c) cs) := h
  clear h
  go_enter Try.func4, Try.ntmps4
  go_wp2_with fail
  refine (bytes10_any _ _ _ _ _ _ _).mono ?_
  rintro e w1 ⟨⟨b, rfl⟩, hw1⟩
  subst hw1
  cases b
  · go_wp2_with fail
    go_ret
    exact ⟨rfl, Below.refl _ _⟩
  go_wp2_with fail
  go_loopw [9] (fun i wr => ∃ k : Nat, k ≤ cs.length ∧ i = .int .i64 k ∧ w1 = wr ∧ Hid (Small (cs.take k))) (fun i _ => cs.length - (intOf i).toNat)
  case atStart => exact ⟨0, Nat.zero_le _, rfl, rfl, fun c hc => by simp at hc⟩
  case round =>
    obtain ⟨k, hk, rfl, rfl, HS⟩ := hrel
    by_cases hlt : k < cs.length
    · obtain ⟨b, off, rfl, hbl, hc⟩ := Hr.out.at (by omega)
      obtain ⟨⟨ix, ls, al, ms, bs⟩, hck⟩ : ∃ ck, ck = cs[k] := ⟨_, rfl⟩
      have Hck : Hid (⟨ix, ls, al, ms, bs⟩ = cs[k]) := hck
      have hr := hc k hlt
      rw [← hck] at hr
      obtain ⟨r0, r1, r2, r3, r4⟩ := range5 hr
      simp only at r0 r1 r2 r3 r4
      clear hc hck hr
      go_wp2_with fail
      refine (range_any _ _).mono ?_
      rintro e w2 ⟨⟨b1, rfl, hb1⟩, hw2⟩
      subst hw2
      have HB1 : Hid (b1 = false → ms.natAbs ≤ 68719476736) := hb1
      clear hb1
      cases b1
      case true =>
        go_wp2_with fail
        go_ret
        exact ⟨rfl, Below.refl _ _⟩
      go_wp2_with fail
      refine (range_any _ _).mono ?_
      rintro e w3 ⟨⟨b2, rfl, hb2⟩, hw3⟩
      subst hw3
      have HB2 : Hid (b2 = false → bs.natAbs ≤ 68719476736) := hb2
      clear hb2
      cases b2
      case true =>
        go_wp2_with fail
        go_ret
        exact ⟨rfl, Below.refl _ _⟩
      go_wp2_with fail
      go_roundw
      case rel =>
        refine ⟨k + 1, by omega, by go_num, trivial, HS.out.step hlt ?_ ?_⟩
        · rw [← Hck.out]; exact HB1.out trivial
        · rw [← Hck.out]; exact HB2.out trivial
      case measure => simp [intOf]; omega
    · have hkn : k = cs.length := by omega
      subst hkn
      have HS' : Hid (Small cs) := by have := HS.out; rwa [List.take_length] at this
      clear HS
      go_wp2_with fail
      refine (build_any _ _ _ Hr.out (by omega)).mono ?_
      rintro e w2 ⟨rv, rfl, hrow, hbel⟩
      obtain ⟨ao2, c2, rfl⟩ := hrow.form
      have HR2 : Hid (RowC w2 (.slice ao2 cs.length c2) cs ∧ Below w1.heap.size w1 w2) := ⟨hrow, hbel⟩
      have hsz := hbel.size
      clear hrow hbel Hr
      obtain ⟨C, hC, hmk⟩ := make_two w2 cs.length (by omega)
      have HC : Hid (C.size = (cs.length + cs.length) * 5) := hC
      clear hC
      go_wp2_with fail
      go_loopw [13] (fun i wq => ∃ k : Nat, k ≤ cs.length ∧ i = .int .i64 k ∧ w2.heap.size < wq.heap.size ∧ Hid (Below w2.heap.size w2 wq ∧ Twice wq w2.heap.size cs.length k cs)) (fun i _ => cs.length - (intOf i).toNat)
      case atStart => exact ⟨0, Nat.zero_le _, rfl, by simp, (Below.refl _ _).alloc (Nat.le_refl _) _, Twice.start HC.out⟩
      case round =>
        obtain ⟨k, hk, rfl, hs2, HT⟩ := hrel
        by_cases hlt : k < cs.length
        · obtain ⟨b, off, rfl, hbl, hc⟩ := HR2.out.1.at (by omega)
          obtain ⟨⟨ix, ls, al, ms, bs⟩, hck⟩ : ∃ ck, ck = cs[k] := ⟨_, rfl⟩
          have Hck : Hid (⟨ix, ls, al, ms, bs⟩ = cs[k]) := hck
          have hr := hc k hlt
          rw [← hck] at hr
          have Hrk : Hid (w2.rangeAt b (off + k * 5) (Cmd.cells ⟨ix, ls, al, ms, bs⟩)) := hr
          obtain ⟨r0, r1, r2, r3, r4⟩ := range5 (range_later HT.out.1 hr)
          simp only at r0 r1 r2 r3 r4
          obtain ⟨o0, o1, o2, o3, o4, p0, p1, p2, p3, p4, f0, f1, f2, f3, f4⟩ := there5 (HT.out.2.there k (by omega))
          clear hc hck hr
          go_upto_region 17 with fail
          obtain ⟨hbm, hsm⟩ := mid_facts HT.out.1 hs2 (Nat.le_refl _) (k * 5) (Cmd.cells ⟨ix, ls, al, ms, bs⟩)
          have hhm := HT.out.2.half hlt hlt ⟨ix, ls, al, ms, bs⟩ Hck.out
          have hW : wr.setCells w2.heap.size (k * 5) (Cmd.cells ⟨ix, ls, al, ms, bs⟩) = (((((wr.setCell ⟨w2.heap.size, k * 5, none⟩ (.int .u64 ix)).setCell ⟨w2.heap.size, k * 5 + 1, none⟩ (.int .i64 ls)).setCell ⟨w2.heap.size, k * 5 + 2, none⟩ (.int .i64 al)).setCell ⟨w2.heap.size, k * 5 + 3, none⟩ (.int .i64 ms)).setCell ⟨w2.heap.size, k * 5 + 4, none⟩ (.int .i64 bs)) := rfl
          rw [← hW]
          clear hW
          generalize wr.setCells w2.heap.size (k * 5) (Cmd.cells ⟨ix, ls, al, ms, bs⟩) = wm at *
          clear r0 r1 r2 r3 r4 p0 p1 p2 p3 p4 f0 f1 f2 f3 f4 hs2 HT
          obtain ⟨r0, r1, r2, r3, r4⟩ := range5 (range_later hbm Hrk.out)
          simp only at r0 r1 r2 r3 r4
          obtain ⟨o0, o1, o2, o3, o4, p0, p1, p2, p3, p4, f0, f1, f2, f3, f4⟩ := there5 (hhm.twice.there (cs.length + k) (by omega))
          have HM : Hid (Below w2.heap.size w2 wm ∧ Half wm w2.heap.size cs.length k cs) := ⟨hbm, hhm⟩
          clear hbm hhm
          go_wp2_with fail
          go_roundw
          case rel =>
            have := mid_facts HM.out.1 hsm (Nat.le_refl _) ((cs.length + k) * 5) (Cmd.cells ⟨ix, ls, al, ms, bs⟩)
            exact ⟨k + 1, by omega, by go_num, this.2, this.1, HM.out.2.full hlt hlt ⟨ix, ls, al, ms, bs⟩ Hck.out⟩
          case measure => simp [intOf]; omega
        · have hkn : k = cs.length := by omega
          subst hkn
          have HQ : Hid (RowC wr (.slice ao2 cs.length c2) cs ∧ RowC wr (.slice (some ⟨w2.heap.size, 0, none⟩) (cs.length + cs.length) (cs.length + cs.length)) (cs ++ cs) ∧ Below w1.heap.size w1 wr) :=
            ⟨HR2.out.1.later HT.out.1, HT.out.2.row rfl hs2 _, HR2.out.2.trans (HT.out.1.mono hsz)⟩
          have hszr : w1.heap.size < wr.heap.size := by omega
          clear HR2 HT HC hmk
          go_wp2_with fail
          obtain ⟨Wb, hWb, bWb, sWb, x0, x1, x2, x3⟩ := two_boxes (w := wr) (.int .i64 rep) (.int .i64 bk) (.int .u64 se) (.slice ao2 cs.length c2) (.slice (some ⟨w2.heap.size, 0, none⟩) (cs.length + cs.length) (cs.length + cs.length))
          rw [hWb]
          clear hWb
          refine (per_any _ _ _ _ _ _ (HQ.out.1.later bWb) HS'.out (by omega)).mono ?_
          rintro e w3 ⟨he, hb3⟩
          have he' : e = .returned (.tuple #[.float .f64 (mean (tot Cmd.ms cs) cs.length), .float .f64 (mean (tot Cmd.bs cs) cs.length)]) := he
          subst he'
          have b3 := bWb.trans (hb3.mono (by omega))
          have HQ3 : Hid (RowC w3 (.slice ao2 cs.length c2) cs ∧ RowC w3 (.slice (some ⟨w2.heap.size, 0, none⟩) (cs.length + cs.length) (cs.length + cs.length)) (cs ++ cs) ∧ Below w1.heap.size w1 w3) :=
            ⟨HQ.out.1.later b3, HQ.out.2.1.later b3, HQ.out.2.2.trans (b3.mono (Nat.le_of_lt hszr))⟩
          have y0 := cell_later hb3 x0
          have y1 := cell_later hb3 x1
          have y2 := cell_later hb3 x2
          have y3 := cell_later hb3 x3
          have hsz3 : w1.heap.size < w3.heap.size := by have := hb3.size; omega
          have hsz4 : wr.heap.size + 1 < w3.heap.size := by have := hb3.size; omega
          clear he x0 x1 x2 x3 hb3 b3 bWb sWb HQ
          go_wp2_with fail
          refine (per_any _ _ _ _ _ _ HQ3.out.2.1 (HS'.out.append HS'.out) (by rw [List.length_append]; omega)).mono ?_
          rintro e w4 ⟨he, hb4⟩
          have he' : e = .returned (.tuple #[.float .f64 (mean (tot Cmd.ms (cs ++ cs)) (cs ++ cs).length), .float .f64 (mean (tot Cmd.bs (cs ++ cs)) (cs ++ cs).length)]) := he
          subst he'
          have HQ4 : Hid (RowC w4 (.slice ao2 cs.length c2) cs ∧ Below w1.heap.size w1 w4) :=
            ⟨HQ3.out.1.later hb4, HQ3.out.2.2.trans (hb4.mono (Nat.le_of_lt hsz3))⟩
          have hsz5 : w1.heap.size < w4.heap.size := by have := hb4.size; omega
          clear he y0 y1 y2 y3 hb4 HQ3
          by_cases hpos : 0 < cs.length
          case neg =>
            have hx : cs.length = 0 := by omega
            have hm0 : ∀ t, mean t 0 = 0 := fun t => rfl
            have ho := ord00
            rw [List.length_append, hx]
            simp only [Nat.add_zero, hm0]
            go_wp2_with fail
            go_ret
            exact ⟨rfl, HQ4.out.2⟩
          have HA := avgs HS'.out hpos hn
          generalize mean (tot Cmd.ms cs) cs.length = M1 at *
          generalize mean (tot Cmd.bs cs) cs.length = B1 at *
          generalize mean (tot Cmd.ms (cs ++ cs)) (cs ++ cs).length = M2 at *
          generalize mean (tot Cmd.bs (cs ++ cs)) (cs ++ cs).length = B2 at *
          have HA' : Hid (Avgs M1 B1 M2 B2 cs) := HA
          clear HA
          obtain ⟨b, off, rfl, hbl, hc⟩ := HQ4.out.1.at hpos
          obtain ⟨⟨i0, l0, a0, m0, z0⟩, hck⟩ : ∃ ck, ck = cs[0] := ⟨_, rfl⟩
          have hr := hc 0 hpos
          rw [← hck] at hr
          obtain ⟨r0, r1, r2, r3, r4⟩ := range5 hr
          simp only [Nat.zero_mul, Nat.add_zero] at r0 r1 r2 r3 r4
          have hk0 := HS'.out cs[0] (List.getElem_mem hpos)
          rw [← hck] at hk0
          have Hk0 : Hid (m0.natAbs ≤ 68719476736 ∧ z0.natAbs ≤ 68719476736) := hk0
          have Hc : Hid (∀ j (h : j < cs.length), w4.rangeAt b (off + j * 5) cs[j].cells) := hc
          clear hc hr hck hk0
          go_wp2_with fail
          go_loopw [20, 21, 22, 23, 24, 25, 26] (fun tm tb lm hm lb hb i wr => ∃ (k : Nat) (lmi hmi lbi hbi : Int), k ≤ cs.length ∧ i = .int .i64 k ∧ tm = .int .i64 (tot Cmd.ms (cs.take k)) ∧ tb = .int .i64 (tot Cmd.bs (cs.take k)) ∧ lm = .int .i64 lmi ∧ hm = .int .i64 hmi ∧ lb = .int .i64 lbi ∧ hb = .int .i64 hbi ∧ Hid (Bnd lmi hmi lbi hbi (cs.take k)) ∧ Hid (Below w4.heap.size w4 wr)) (fun _ _ _ _ _ _ i _ => cs.length - (intOf i).toNat)
          case atStart => exact ⟨0, m0, m0, z0, z0, Nat.zero_le _, rfl, rfl, rfl, rfl, rfl, rfl, rfl, ⟨Hk0.out.1, Hk0.out.1, Hk0.out.2, Hk0.out.2, fun c hc => by simp at hc⟩, Below.refl _ _⟩
          case round =>
            obtain ⟨k, lm, hm, lb, hb, hk, rfl, rfl, rfl, rfl, rfl, rfl, rfl, HBn, HBl⟩ := hrel
            by_cases hlt : k < cs.length
            · have hr := range_later HBl.out (Hc.out k hlt)
              have t1 := tot_take Cmd.ms cs k hlt
              have t2 := tot_take Cmd.bs cs k hlt
              have s1 := tot_ms (HS'.out.take k)
              have s2 := tot_bs (HS'.out.take k)
              have s3 := HS'.out cs[k] (List.getElem_mem hlt)
              rw [List.length_take] at s1 s2
              have hbl2 : b < wr.heap.size := Nat.lt_of_lt_of_le hbl HBl.out.size
              obtain ⟨⟨ix, ls, al, ms, bs⟩, hck⟩ : ∃ ck, ck = cs[k] := ⟨_, rfl⟩
              have Hck : Hid (⟨ix, ls, al, ms, bs⟩ = cs[k]) := hck
              rw [← hck] at hr t1 t2 s3
              simp only at s3 t1 t2
              clear r0 r1 r2 r3 r4
              obtain ⟨r0, r1, r2, r3, r4⟩ := range5 hr
              simp only at r0 r1 r2 r3 r4
              generalize tot Cmd.ms (cs.take k) = tm at *
              generalize tot Cmd.bs (cs.take k) = tb at *
              have T : Hid (tot Cmd.ms (cs.take (k + 1)) = tm + ms ∧ tot Cmd.bs (cs.take (k + 1)) = tb + bs ∧ ms.natAbs ≤ 68719476736 ∧ bs.natAbs ≤ 68719476736) := ⟨t1, t2, s3⟩
              have u1 : tm ≤ 1125899906842624 := by omega
              have u2 : -1125899906842624 ≤ tm := by omega
              have u3 : tb ≤ 1125899906842624 := by omega
              have u4 : -1125899906842624 ≤ tb := by omega
              have v1 : ms ≤ 68719476736 := by omega
              have v2 : -68719476736 ≤ ms := by omega
              have v3 : bs ≤ 68719476736 := by omega
              have v4 : -68719476736 ≤ bs := by omega
              clear hr t1 t2 s1 s2 s3 hck
              by_cases q1 : ms < lm <;> by_cases q2 : hm < ms <;> by_cases q3 : bs < lb <;> by_cases q4 : hb < bs
              all_goals
                go_wp2_with fail
                go_roundw
                case rel =>
                  refine ⟨k + 1, _, _, _, _, by omega, by go_num, by rw [T.out.1], by rw [T.out.2.1], rfl, rfl, rfl, rfl, HBn.out.step hlt ⟨ix, ls, al, ms, bs⟩ Hck.out ⟨?_, ?_, ?_⟩ ⟨?_, ?_, ?_⟩ ⟨?_, ?_, ?_⟩ ⟨?_, ?_, ?_⟩, HBl.out.alloc (HBl.out.size) _⟩
                  all_goals
                    have b1 := HBn.out.s1
                    have b2 := HBn.out.s2
                    have b3 := HBn.out.s3
                    have b4 := HBn.out.s4
                    have b5 := T.out.2.2
                    try dsimp only
                    omega
                case measure => simp [intOf]; omega
            · have hkn : k = cs.length := by omega
              subst hkn
              have HBn' : Hid (Bnd lm hm lb hb cs) := by have := HBn.out; rwa [List.take_length] at this
              rw [List.take_length]
              have A := HA'.out
              obtain ⟨g1, g2, g3, g4⟩ := A.bnd HBn'.out
              have a1 := A.om
              have a2 := A.ob
              have a3 := A.sm
              have a4 := A.sb
              have a5 := fun w => run_float_arith (P := Try.prog) w .quo 33 .f64 _ _ _ A.qm
              have a6 := fun w => run_float_arith (P := Try.prog) w .quo 33 .f64 _ _ _ A.qb
              clear A HBn HA'
              go_wp2_with fail
              go_ret
              exact ⟨rfl, HQ4.out.2.trans (HBl.out.mono (Nat.le_of_lt hsz5))⟩

theorem mean_any (rep bk se : Int) (v : Value) (cs : List Cmd) (w : World) (h : RowC w v cs) :
    Calls Try.prog 4 #[.int .i64 rep, .int .i64 bk, .int .u64 se, v] w fun e w' => e = .returned (.bool true) ∧ Below w.heap.size w w' := by
  by_cases hn : cs.length ≤ 4096
  · exact mean_late rep bk se v cs w h hn
  · exact mean_long rep bk se v cs w h (by omega)

end Go.Proofs.Qxb6626374a
