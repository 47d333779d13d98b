import Derived.Test.Qxb6626316aCut
namespace Go.Proofs.Qxb6626316a
open Go.RowKit

theorem slot_int (I : Int) (fb i : Nat) (hI : I = (i : Int)) (vp vv : Value) (zp zv : List Int) (w : World) (f : FnAt w fb vp vv zp zv) (hi : i < zp.length + zv.length) (hp : zp.length ≤ 1000000000) (hv : zv.length ≤ 1000000000) :
    Calls Try.prog 10 #[.pointer (some ⟨fb, 0, none⟩), .int .i64 I] w fun e w' => e = .returned (.int .u32 ((zp ++ zv).getD i 0)) ∧ Below w.heap.size w w' := by
  subst hI
  exact slot_any fb i vp vv zp zv w f.p f.v f.rp f.rv hi hp hv

/-- the parameters with t put in at j -/
def insd (zp : List Int) (j : Nat) (t : Int) : List Int := zp.take j ++ t :: zp.drop j
theorem insd_length (zp : List Int) (j : Nat) (t : Int) (h : j ≤ zp.length) : (insd zp j t).length = zp.length + 1 := by simp [insd]; omega
theorem insd_at (zp zv : List Int) (j : Nat) (t : Int) (h : j ≤ zp.length) : (insd zp j t ++ zv).getD j 0 = t := by
  simp only [insd, List.append_assoc, List.getD_eq_getElem?_getD]
  rw [List.getElem?_append_right (by simp; omega)]
  simp [Nat.min_eq_left h]
theorem insd_lo (zp zv : List Int) (j i : Nat) (t : Int) (h : j ≤ zp.length) (hi : i < j) : (insd zp j t ++ zv).getD i 0 = (zp ++ zv).getD i 0 := by
  simp only [insd, List.append_assoc, List.getD_eq_getElem?_getD]
  rw [List.getElem?_append_left (by simp; omega), List.getElem?_append_left (by omega), List.getElem?_take, if_pos hi]
theorem insd_hi (zp zv : List Int) (j i : Nat) (t : Int) (h : j ≤ zp.length) (hi : j ≤ i) : (insd zp j t ++ zv).getD (i + 1) 0 = (zp ++ zv).getD i 0 := by
  have e : zp ++ zv = zp.take j ++ (zp.drop j ++ zv) := by rw [← List.append_assoc, List.take_append_drop]
  have hl : (zp.take j).length = j := by simp; omega
  rw [e]
  simp only [insd, List.append_assoc, List.getD_eq_getElem?_getD, List.cons_append]
  rw [List.getElem?_append_right (by omega), List.getElem?_append_right (by omega), hl, show i + 1 - j = i - j + 1 by omega, List.getElem?_cons_succ]
theorem insd_lo_at (zp : List Int) (j m : Nat) (t : Int) (h : j ≤ zp.length) (hm : m < j) : (U32s (insd zp j t))[m]? = some (.int .u32 (zp.getD m 0)) := by
  have := insd_lo zp [] j m t h hm
  simp only [List.append_nil] at this
  rw [← this]
  simp only [U32s, List.getElem?_map, List.getD_eq_getElem?_getD]
  rw [List.getElem?_eq_getElem (by rw [insd_length _ _ _ h]; omega)]
  rfl
theorem insd_hi_at (zp : List Int) (j m : Nat) (t : Int) (h : j ≤ zp.length) (hm : j + m < zp.length) : (U32s (insd zp j t))[j + 1 + m]? = some (.int .u32 (zp.getD (j + m) 0)) := by
  have := insd_hi zp [] j (j + m) t h (by omega)
  simp only [List.append_nil] at this
  rw [← this, show j + 1 + m = j + m + 1 by omega]
  simp only [U32s, List.getElem?_map, List.getD_eq_getElem?_getD]
  rw [List.getElem?_eq_getElem (by rw [insd_length _ _ _ h]; omega)]
  rfl
theorem insd_j_at (zp : List Int) (j : Nat) (t : Int) (h : j ≤ zp.length) : (U32s (insd zp j t))[j]? = some (.int .u32 t) := by
  have := insd_at zp [] j t h
  simp only [List.append_nil] at this
  conv => rhs; rw [← this]
  simp only [U32s, List.getElem?_map, List.getD_eq_getElem?_getD]
  rw [List.getElem?_eq_getElem (by rw [insd_length _ _ _ h]; omega)]
  rfl

theorem make_succ (w : World) (X : List Value) (a : Nat) (h : a + 1 ≤ 1000000000) : (Instr.makeSlice 28 (.int .i64 ((a : Int) + 1)) (.int .i64 ((a : Int) + 1))).run Try.prog w = .ok (.slice (some ⟨w.heap.size, 0, none⟩) (a + 1) (a + 1)) (w.alloc (.cells (filled X (.int .u32 0) (a + 1) 0) 29)) := by
  have := make28 w X (a + 1) h
  rwa [Int.natCast_add] at this

/-- the world once the new parameters are filled -/
theorem ins_facts {w6 : World} {vp vv : Value} {zp zv ys : List Int} (hp : Row w6 vp (U32s zp)) (hv : Row w6 vv (U32s zv)) (x0 x1 x3 x4 x6 : Value) (n : Nat) (hn : ys.length = n) :
    ∃ Wc, (w6.alloc (.cells #[x0, x1, vp, x3, x4, vv, x6] 36)).alloc (.cells (filled (U32s ys) (.int .u32 0) n n) 29) = Wc ∧
      Below w6.heap.size w6 Wc ∧ w6.heap.size < Wc.heap.size ∧ FnAt Wc w6.heap.size vp vv zp zv ∧ Row Wc (.slice (some ⟨w6.heap.size + 1, 0, none⟩) n n) (U32s ys) := by
  refine ⟨_, rfl, ?_, ?_, ?_, ?_⟩
  · exact ((Below.refl _ _).alloc (Nat.le_refl _) _).alloc (by simp) _
  · simp; omega
  · exact (fn_new hp hv x0 x1 x3 x4 x6).later ((Below.refl _ _).alloc (Nat.le_refl _) _)
  · have hl : (U32s ys).length = n := by simpa using hn
    have := row_at_new (w := w6.alloc (.cells #[x0, x1, vp, x3, x4, vv, x6] 36)) (U32s ys) 29 n (filled (U32s ys) (.int .u32 0) n n) (by rw [← hl, filled_full]) hl.symm
    rw [World.size_alloc] at this
    exact this

set_option maxRecDepth 100000 in
set_option maxHeartbeats 4000000 in
theorem ins_out (s : ByteArray) (role res : Int) (vp vn vv vc : Value) (zp : List Int) (ss : List ByteArray) (zv zc : List Int) (i : Int) (j : Nat) (t : Int) (w : World)
    (hr : Came w vp vn vv vc zp ss zv zc) (hj : j ≤ zp.length) (hi : i < 0 ∨ (0 ≤ i ∧ (zp.length : Int) + (zv.length : Int) ≤ i)) :
    Calls Try.prog 4 #[.string s, .int .u8 role, vp, vn, .int .u32 res, vv, vc, .int .i64 i, .int .i64 j, .int .u32 t] w fun e w' => e = .returned (.bool true) ∧ Below w.heap.size w w' := by
  obtain ⟨ap, cp, rfl⟩ := hr.p.form
  obtain ⟨av, cv, rfl⟩ := hr.v.form
  obtain ⟨ac, cc, rfl⟩ := hr.c.form
  have Hr : Hid (Came w _ vn _ _ zp ss zv zc) := hr
  clear hr
  simp only [List.length_map] at *
  go_enter Try.func4, Try.ntmps4
  go_wp2_with fail
  refine (bytes11_any _ _ _ _ _ _ _ _ _ _ _ _ _ _ _ _ _ _ Hr.out.n strs_of).mono ?_
  rintro e w1 ⟨⟨b, rfl⟩, hw1⟩
  subst hw1
  cases b
  · go_wp2_with fail
    go_ret
    exact ⟨rfl, Below.refl _ _⟩
  go_wp2_with fail
  refine (big_any _ _ _ _ _ _ _ _ _ _ _ _ _ Hr.out.n strs_of).mono ?_
  rintro e w2 ⟨⟨b, rfl, hfit⟩, hw2⟩
  subst hw2
  cases b
  case true =>
    go_wp2_with fail
    go_ret
    exact ⟨rfl, Below.refl _ _⟩
  obtain ⟨f0, f1, f2, f3⟩ := hfit rfl
  clear hfit
  go_wp2_with fail
  refine (copy7_any _ _ _ Hr.out.p (by simp; omega) ints_of).mono ?_
  rintro e w3 ⟨rv1, rfl, r1, hb3⟩
  obtain ⟨ao1, c1, rfl⟩ := r1.form
  have HR1 : Hid (Row w3 (.slice ao1 (U32s zp).length c1) (U32s zp) ∧ Below w2.heap.size w2 w3) := ⟨r1, hb3⟩
  have hS3 : w2.heap.size ≤ w3.heap.size := hb3.size
  clear r1 hb3
  simp only [List.length_map] at *
  go_wp2_with fail
  refine (copy8_any _ _ _ (Hr.out.later HR1.out.2).n (by simp; omega) strs_of).mono ?_
  rintro e w4 ⟨rv2, rfl, r2, hb4⟩
  obtain ⟨ao2, c2, rfl⟩ := r2.form
  have hS4 : w2.heap.size ≤ w4.heap.size := Nat.le_trans hS3 hb4.size
  have HR2 : Hid (Row w4 (.slice ao1 zp.length c1) (U32s zp) ∧ Below w2.heap.size w2 w4) := ⟨HR1.out.1.later hb4, HR1.out.2.trans (hb4.mono hS3)⟩
  clear HR1 r2 hb4 hS3
  simp only [List.length_map] at *
  go_wp2_with fail
  refine (copy7_any _ _ _ (Hr.out.later HR2.out.2).v (by simp; omega) ints_of).mono ?_
  rintro e w5 ⟨rv3, rfl, r3, hb5⟩
  obtain ⟨ao3, c3, rfl⟩ := r3.form
  have hS5 : w2.heap.size ≤ w5.heap.size := Nat.le_trans hS4 hb5.size
  have HR3 : Hid (Row w5 (.slice ao1 zp.length c1) (U32s zp) ∧ Row w5 (.slice ao3 (U32s zv).length c3) (U32s zv) ∧ Below w2.heap.size w2 w5) := ⟨HR2.out.1.later hb5, r3, HR2.out.2.trans (hb5.mono hS4)⟩
  clear HR2 r3 hb5 hS4
  simp only [List.length_map] at *
  go_wp2_with fail
  refine (copy9_any _ _ _ (Hr.out.later HR3.out.2.2).c (by simp; omega) ints_of).mono ?_
  rintro e w6 ⟨rv4, rfl, r4, hb6⟩
  obtain ⟨ao4, c4, rfl⟩ := r4.form
  have hS6 : w2.heap.size ≤ w6.heap.size := Nat.le_trans hS5 hb6.size
  have HR4 : Hid (Row w6 (.slice ao1 zp.length c1) (U32s zp) ∧ Row w6 (.slice ao3 zv.length c3) (U32s zv) ∧ Below w2.heap.size w2 w6) := ⟨HR3.out.1.later hb6, HR3.out.2.1.later hb6, HR3.out.2.2.trans (hb6.mono hS5)⟩
  clear HR3 r4 hb6 hS5
  simp only [List.length_map] at *
  have H6 : Hid (Came w6 _ vn _ _ zp ss zv zc) := Hr.out.later HR4.out.2.2
  obtain ⟨Y, hY⟩ : ∃ Y, Y = U32s (insd zp j t) := ⟨_, rfl⟩
  have HY : Hid (Y = U32s (insd zp j t)) := hY
  have HL : Hid (Y.length = zp.length + 1) := by rw [hY]; simp [Hid, insd_length zp j t hj]
  clear hY
  have hmk := fun w => make_succ w Y zp.length (by omega)
  go_wp2_with fail
  go_loopw [24] (fun a wr => ∃ m : Nat, m ≤ j ∧ a = .int .i64 m ∧ wr = (w6.alloc (.cells #[.string s, .int .u8 role, .slice ao1 zp.length c1, .slice ao2 ss.length c2, .int .u32 res, .slice ao3 zv.length c3, .slice ao4 zc.length c4] 36)).alloc (.cells (filled Y (.int .u32 0) (zp.length + 1) m) 29)) (fun a _ => j - (intOf a).toNat)
  case atStart => exact ⟨0, Nat.zero_le _, rfl, rfl⟩
  case round =>
    obtain ⟨m, hm, rfl, rfl⟩ := hrel
    by_cases hlt : m < j
    · obtain ⟨b, off, rfl, hb, hc⟩ := H6.out.p.at (by simp; omega)
      have hb' : b < w6.heap.size + 1 := by omega
      have hcell := u32_at hc m (by omega)
      have hx : Y[m]? = some (.int .u32 (zp.getD m 0)) := by rw [HY.out]; exact insd_lo_at zp j m t hj hlt
      obtain ⟨u, hu⟩ : ∃ u, zp.getD m 0 = u := ⟨_, rfl⟩
      rw [hu] at hcell hx
      have Hs : Hid ((filled Y (.int .u32 0) (zp.length + 1) m).setIfInBounds m (.int .u32 u) = filled Y (.int .u32 0) (zp.length + 1) (m + 1)) := filled_put _ _ _ hx (by omega)
      have hfa := filled_at Y (.int .u32 0) (zp.length + 1) m (by have := HL.out; omega) (by omega)
      have hm1 : (m : Int) < (zp.length : Int) + 1 := by omega
      clear hc hu hx
      go_wp2_with fail
      go_roundw
      case rel => exact ⟨m + 1, by omega, by go_num, by rw [Hs.out]⟩
      case measure => simp [intOf]; omega
    · have hmn : j = m := by omega
      subst hmn
      have hx : Y[j]? = some (.int .u32 t) := by rw [HY.out]; exact insd_j_at zp j t hj
      have Hs : Hid ((filled Y (.int .u32 0) (zp.length + 1) j).setIfInBounds j (.int .u32 t) = filled Y (.int .u32 0) (zp.length + 1) (j + 1)) := filled_put _ _ _ hx (by omega)
      have hfa := filled_at Y (.int .u32 0) (zp.length + 1) j (by have := HL.out; omega) (by omega)
      have hm1 : (j : Int) < (zp.length : Int) + 1 := by omega
      clear hx hm hlt
      go_wp2_with fail
      go_loopw [25] (fun a wr => ∃ m : Nat, j + m ≤ zp.length ∧ a = .int .i64 ((j : Int) + (m : Int)) ∧ wr = (w6.alloc (.cells #[.string s, .int .u8 role, .slice ao1 zp.length c1, .slice ao2 ss.length c2, .int .u32 res, .slice ao3 zv.length c3, .slice ao4 zc.length c4] 36)).alloc (.cells (filled Y (.int .u32 0) (zp.length + 1) (j + 1 + m)) 29)) (fun a _ => zp.length - (intOf a).toNat)
      case atStart => exact ⟨0, by omega, by go_num, by rw [Hs.out]; first | done | rfl⟩
      case round =>
        obtain ⟨m, hm, rfl, rfl⟩ := hrel
        clear Hs hfa
        by_cases hlt : j + m < zp.length
        · obtain ⟨b, off, rfl, hb, hc⟩ := H6.out.p.at (by simp; omega)
          have hb' : b < w6.heap.size + 1 := by omega
          have hcell := u32_at hc (j + m) hlt
          have hx : Y[j + 1 + m]? = some (.int .u32 (zp.getD (j + m) 0)) := by rw [HY.out]; exact insd_hi_at zp j m t hj hlt
          obtain ⟨u, hu⟩ : ∃ u, zp.getD (j + m) 0 = u := ⟨_, rfl⟩
          rw [hu] at hcell hx
          have hfa := filled_at Y (.int .u32 0) (zp.length + 1) (j + 1 + m) (by have := HL.out; omega) (by omega)
          have Hs : Hid ((filled Y (.int .u32 0) (zp.length + 1) (j + 1 + m)).setIfInBounds (j + 1 + m) (.int .u32 u) = filled Y (.int .u32 0) (zp.length + 1) (j + 1 + m + 1)) := filled_put _ _ _ hx (by omega)
          have hn1 : ((j : Int) + (m : Int) + 1) = ((j + 1 + m : Nat) : Int) := by omega
          have hn2 : ((j + 1 + m : Nat) : Int) < (zp.length : Int) + 1 := by omega
          have hn3 : (j : Int) + (m : Int) < (zp.length : Int) := by omega
          clear hc hu hx
          go_wp2_with fail
          go_roundw
          case rel => exact ⟨m + 1, by omega, by go_num, by rw [Hs.out]; first | done | rfl⟩
          case measure => simp [intOf]; omega
        · have hmn : j + m = zp.length := by omega
          have hge : (zp.length : Int) ≤ (j : Int) + (m : Int) := by omega
          have hZ : j + 1 + m = zp.length + 1 := by omega
          have HZ : Hid (j + 1 + m = zp.length + 1) := hZ
          clear hmn hZ hlt hm
          go_wp2_with fail
          rw [HZ.out]
          have hXz := HY.out
          subst hXz
          obtain ⟨Wc, hWc, bWc, sWc, fWc, pWc⟩ := ins_facts HR4.out.1 HR4.out.2.1 (.string s) (.int .u8 role) (.slice ao2 ss.length c2) (.int .u32 res) (.slice ao4 zc.length c4) (zp.length + 1) (insd_length zp j t hj)
          rw [hWc]
          have lWc := HR4.out.2.2.trans (bWc.mono hS6)
          have tWc : w2.heap.size ≤ Wc.heap.size := by omega
          clear hWc bWc HR4 hmk HY HL HZ H6 hge
          refine (copy8_any _ _ _ (Hr.out.later lWc).n (by simp; omega) strs_of).mono ?_
          rintro e w7 ⟨rv5, rfl, r5, b7⟩
          obtain ⟨ao5, c5, rfl⟩ := r5.form
          have HQ : Hid (Below w2.heap.size w2 w7 ∧ FnAt w7 w6.heap.size _ _ zp zv ∧ Row w7 _ (U32s (insd zp j t))) := ⟨lWc.trans (b7.mono tWc), fWc.later b7, pWc.later b7⟩
          have t7 : w2.heap.size ≤ w7.heap.size := Nat.le_trans tWc b7.size
          clear lWc fWc pWc r5 b7 tWc sWc
          simp only [List.length_map] at *
          go_wp2_with fail
          refine (copy7_any _ _ _ (Hr.out.later HQ.out.1).v (by simp; omega) ints_of).mono ?_
          rintro e w8 ⟨rv6, rfl, r6, b8⟩
          obtain ⟨ao6, c6, rfl⟩ := r6.form
          have HQ8 : Hid (Below w2.heap.size w2 w8 ∧ FnAt w8 w6.heap.size _ _ zp zv ∧ Row w8 _ (U32s (insd zp j t)) ∧ Row w8 _ (U32s zv)) := ⟨HQ.out.1.trans (b8.mono t7), HQ.out.2.1.later b8, HQ.out.2.2.later b8, r6⟩
          have t8 : w2.heap.size ≤ w8.heap.size := Nat.le_trans t7 b8.size
          clear HQ r6 b8 t7
          simp only [List.length_map] at *
          go_wp2_with fail
          refine (copy9_any _ _ _ (Hr.out.later HQ8.out.1).c (by simp; omega) ints_of).mono ?_
          rintro e w9 ⟨rv7, rfl, r7, b9⟩
          obtain ⟨ao7, c7, rfl⟩ := r7.form
          have HF : Hid (Below w2.heap.size w2 w9 ∧ FnAt w9 w6.heap.size _ _ zp zv ∧ Row w9 _ (U32s (insd zp j t)) ∧ Row w9 _ (U32s zv)) := ⟨HQ8.out.1.trans (b9.mono t8), HQ8.out.2.1.later b9, HQ8.out.2.2.1.later b9, HQ8.out.2.2.2.later b9⟩
          have t9 : w2.heap.size ≤ w9.heap.size := Nat.le_trans t8 b9.size
          clear HQ8 r7 b9 t8 Hr
          simp only [List.length_map] at *
          go_wp2_with fail
          have hf2 := fn_new HF.out.2.2.1 HF.out.2.2.2 (.string s) (.int .u8 role) (.slice ao5 ss.length c5) (.int .u32 res) (.slice ao7 zc.length c7)
          have bz : Below w9.heap.size w9 (w9.alloc (.cells #[.string s, .int .u8 role, .slice (some ⟨w6.heap.size + 1, 0, none⟩) (zp.length + 1) (zp.length + 1), .slice ao5 ss.length c5, .int .u32 res, .slice ao6 zv.length c6, .slice ao7 zc.length c7] 36)) := (Below.refl _ _).alloc (Nat.le_refl _) _
          have hf1 := HF.out.2.1.later bz
          have hbz := HF.out.1.trans (bz.mono t9)
          have tz : w2.heap.size ≤ (w9.alloc (.cells #[.string s, .int .u8 role, .slice (some ⟨w6.heap.size + 1, 0, none⟩) (zp.length + 1) (zp.length + 1), .slice ao5 ss.length c5, .int .u32 res, .slice ao6 zv.length c6, .slice ao7 zc.length c7] 36)).heap.size := by simp; omega
          have il := insd_length zp j t hj
          refine (slot_int _ _ j rfl _ _ _ zv _ hf2 (by omega) (by omega) (by omega)).mono ?_
          rw [insd_at zp zv j t hj]
          rintro e w10 ⟨rfl, b10⟩
          have HG : Hid (FnAt w10 w9.heap.size _ _ (insd zp j t) zv ∧ FnAt w10 w6.heap.size _ _ zp zv ∧ Below w2.heap.size w2 w10) := ⟨hf2.later b10, hf1.later b10, hbz.trans (b10.mono tz)⟩
          have t10 : w2.heap.size ≤ w10.heap.size := Nat.le_trans tz b10.size
          have HI : Hid ((insd zp j t).length = zp.length + 1) := il
          clear hf2 bz hf1 hbz tz b10 HF il
          rcases hi with hi | ⟨hi0, hi⟩
          all_goals
            go_wp2_with fail
            go_ret
            exact ⟨rfl, HG.out.2.2⟩

end Go.Proofs.Qxb6626316a
