import Derived.Test.Qxb6626316aCopy
import Derived.Test.Qxb6626316aBy
import Derived.Test.Qxb6626316aSlot
namespace Go.Proofs.Qxb6626316a
open Go.RowKit

theorem strs_of {ss : List ByteArray} : ∀ x ∈ ss.map Value.string, ∃ u, x = .string u := fun x hx => by
  obtain ⟨u, _, rfl⟩ := List.mem_map.mp hx; exact ⟨u, rfl⟩
theorem ints_of {k : IntKind} {zs : List Int} : ∀ x ∈ zs.map (Value.int k), ∃ u, x = .int k u := fun x hx => by
  obtain ⟨u, _, rfl⟩ := List.mem_map.mp hx; exact ⟨u, rfl⟩

/-- what is known of the four slices that came in -/
structure Came (w : World) (vp vn vv vc : Value) (zp : List Int) (ss : List ByteArray) (zv zc : List Int) : Prop where
  p : Row w vp (U32s zp)
  n : Row w vn (ss.map Value.string)
  v : Row w vv (U32s zv)
  c : Row w vc (zc.map (Value.int .u8))

theorem Came.later {w w' : World} {vp vn vv vc : Value} {zp : List Int} {ss : List ByteArray} {zv zc : List Int} (h : Came w vp vn vv vc zp ss zv zc) (hb : Below w.heap.size w w') : Came w' vp vn vv vc zp ss zv zc :=
  ⟨h.p.later hb, h.n.later hb, h.v.later hb, h.c.later hb⟩

theorem filled_put {X : List Value} {x : Value} (z : Value) (n k : Nat) (h : X[k]? = some x) (h2 : k < n) : (filled X z n k).setIfInBounds k x = filled X z n (k + 1) := by
  obtain ⟨hk, rfl⟩ := List.getElem?_eq_some_iff.mp h
  exact filled_set X z n k hk h2

theorem X_left {zp zv : List Int} (j : Nat) (h : j < zp.length) : (U32s (zp ++ zv))[j]? = some (.int .u32 (zp.getD j 0)) := by
  rw [U32s, List.map_append, List.getElem?_append_left (by simpa using h)]
  simp [List.getD_eq_getElem?_getD, h]
theorem X_right {zp zv : List Int} (j : Nat) (h : j < zv.length) : (U32s (zp ++ zv))[zp.length + j]? = some (.int .u32 (zv.getD j 0)) := by
  rw [U32s, List.map_append, List.getElem?_append_right (by simp)]
  simp [List.getD_eq_getElem?_getD, h]

/-- the row 'all', once it is filled -/
def All (w : World) (B : Nat) (X : List Value) : Prop := ∀ j u, X[j]? = some u → w.cell? ⟨B, j, none⟩ = some u
theorem All.later {w w' : World} {B : Nat} {X : List Value} (h : All w B X) (hb : Below w.heap.size w w') : All w' B X := fun j u hj => cell_later hb (h j u hj)
theorem all_new (w : World) (X : List Value) (z : Value) (n : Nat) (hn : X.length = n) : All (w.alloc (.cells (filled X z n n) 29)) w.heap.size X := fun j u hj => by
  subst hn
  rw [World.cell?_alloc_at _ _ _ _ rfl, filled_full, List.getElem?_toArray]
  exact hj

theorem filled_take (X : List Value) (z : Value) (k : Nat) : filled X z k k = (X.take k).toArray := by simp [filled]
theorem X_all {zp zv : List Int} (j : Nat) (h : j < zp.length + zv.length) : (U32s (zp ++ zv))[j]? = some (.int .u32 ((zp ++ zv).getD j 0)) := by
  simp only [U32s, List.getElem?_map, List.getD_eq_getElem?_getD]
  rw [List.getElem?_eq_getElem (by simpa using h)]
  rfl
theorem make_diff (w : World) (X : List Value) (a b k D : Nat) (h : D ≤ 1000000000) (hD : k + D = a + b) : (Instr.makeSlice 28 (.int .i64 ((a : Int) + (b : Int) - (k : Int))) (.int .i64 ((a : Int) + (b : Int) - (k : Int)))).run Try.prog w = .ok (.slice (some ⟨w.heap.size, 0, none⟩) D D) (w.alloc (.cells (filled X (.int .u32 0) D 0) 29)) := by
  have := make28 w X D h
  rwa [show (D : Int) = (a : Int) + (b : Int) - (k : Int) by omega] at this

theorem make_sum (w : World) (X : List Value) (a b : Nat) (h : a + b ≤ 1000000000) : (Instr.makeSlice 28 (.int .i64 ((a : Int) + (b : Int))) (.int .i64 ((a : Int) + (b : Int)))).run Try.prog w = .ok (.slice (some ⟨w.heap.size, 0, none⟩) (a + b) (a + b)) (w.alloc (.cells (filled X (.int .u32 0) (a + b) 0) 29)) := by
  have := make28 w X (a + b) h
  rwa [Int.natCast_add] at this

/-- what a Function's box holds, as far as SlotType reads it -/
structure FnAt (w : World) (b : Nat) (vp vv : Value) (zp zv : List Int) : Prop where
  p : w.cell? ⟨b, 2, none⟩ = some vp
  v : w.cell? ⟨b, 5, none⟩ = some vv
  rp : Row w vp (U32s zp)
  rv : Row w vv (U32s zv)

theorem FnAt.later {w w' : World} {b : Nat} {vp vv : Value} {zp zv : List Int} (h : FnAt w b vp vv zp zv) (hb : Below w.heap.size w w') : FnAt w' b vp vv zp zv :=
  ⟨cell_later hb h.p, cell_later hb h.v, h.rp.later hb, h.rv.later hb⟩

theorem fn_new {w : World} {vp vv : Value} {zp zv : List Int} (hp : Row w vp (U32s zp)) (hv : Row w vv (U32s zv)) (x0 x1 x3 x4 x6 : Value) : FnAt (w.alloc (.cells #[x0, x1, vp, x3, x4, vv, x6] 36)) w.heap.size vp vv zp zv := by
  have hb : Below w.heap.size w (w.alloc (.cells #[x0, x1, vp, x3, x4, vv, x6] 36)) := (Below.refl _ _).alloc (Nat.le_refl _) _
  exact ⟨by simp [go_sem], by simp [go_sem], hp.later hb, hv.later hb⟩

theorem row_at_new {w : World} (X : List Value) (t n : Nat) (C : Array Value) (hC : C = X.toArray) (hn : n = X.length) : Row (w.alloc (.cells C t)) (.slice (some ⟨w.heap.size, 0, none⟩) n n) X := by
  subst hC hn
  exact row_new w X t

theorem U32s_take (zs : List Int) (k : Nat) : (U32s zs).take k = U32s (zs.take k) := by simp [U32s, List.map_take]
theorem U32s_drop (zs : List Int) (k : Nat) : (U32s zs).drop k = U32s (zs.drop k) := by simp [U32s, List.map_drop]

/-- the world once both cut rows are filled -/
theorem cut_facts {w6 : World} {zs : List Int} {vp vv : Value} {zp zv : List Int} (hp : Row w6 vp (U32s zp)) (hv : Row w6 vv (U32s zv)) (x0 x1 x3 x4 x6 : Value) (k D : Nat) (hkD : k + D = zs.length) :
    ∃ Wc, ((w6.alloc (.cells #[x0, x1, vp, x3, x4, vv, x6] 36)).alloc (.cells (filled (U32s zs) (.int .u32 0) k k) 29)).alloc (.cells (filled ((U32s zs).drop k) (.int .u32 0) D D) 29) = Wc ∧
      Below w6.heap.size w6 Wc ∧ w6.heap.size < Wc.heap.size ∧ FnAt Wc w6.heap.size vp vv zp zv ∧ Row Wc (.slice (some ⟨w6.heap.size + 1, 0, none⟩) k k) (U32s (zs.take k)) ∧ Row Wc (.slice (some ⟨w6.heap.size + 1 + 1, 0, none⟩) D D) (U32s (zs.drop k)) := by
  refine ⟨_, rfl, ?_, ?_, ?_, ?_, ?_⟩
  · exact (((Below.refl _ _).alloc (Nat.le_refl _) _).alloc (by simp) _).alloc (by simp; omega) _
  · simp; omega
  · refine (fn_new hp hv x0 x1 x3 x4 x6).later ?_
    exact ((Below.refl _ _).alloc (Nat.le_refl _) _).alloc (by simp) _
  · have := row_at_new (w := w6.alloc (.cells #[x0, x1, vp, x3, x4, vv, x6] 36)) (U32s (zs.take k)) 29 k (filled (U32s zs) (.int .u32 0) k k) (by rw [filled_take, U32s_take]) (by simp; omega)
    rw [World.size_alloc] at this
    exact this.later ((Below.refl _ _).alloc (Nat.le_refl _) _)
  · have hl : ((U32s zs).drop k).length = D := by simp; omega
    have := row_at_new (w := (w6.alloc (.cells #[x0, x1, vp, x3, x4, vv, x6] 36)).alloc (.cells (filled (U32s zs) (.int .u32 0) k k) 29)) (U32s (zs.drop k)) 29 D (filled ((U32s zs).drop k) (.int .u32 0) D D) (by rw [← hl, filled_full, U32s_drop]) (by rw [← U32s_drop, hl])
    rw [World.size_alloc, World.size_alloc] at this
    exact this

set_option maxRecDepth 100000 in
set_option maxHeartbeats 4000000 in
theorem cut_late (s : ByteArray) (role res : Int) (vp vn vv vc : Value) (zp : List Int) (ss : List ByteArray) (zv zc : List Int) (i k : Nat) (w : World)
    (hr : Came w vp vn vv vc zp ss zv zc) (hi : i < zp.length + zv.length) (hk : k ≤ zp.length + zv.length) :
    Calls Try.prog 3 #[.string s, .int .u8 role, vp, vn, .int .u32 res, vv, vc, .int .i64 i, .int .i64 k] w fun e w' => e = .returned (.bool true) ∧ Below w.heap.size w w' := by
  obtain ⟨ap, cp, rfl⟩ := hr.p.form
  obtain ⟨av, cv, rfl⟩ := hr.v.form
  obtain ⟨ac, cc, rfl⟩ := hr.c.form
  have Hr : Hid (Came w _ vn _ _ zp ss zv zc) := hr
  clear hr
  simp only [List.length_map] at *
  go_enter Try.func3, Try.ntmps3
  go_wp2_with fail
  refine (bytes5_any _ _ _ _ _ _ _ _ _ _ _ _ _ _ _ _ _ Hr.out.n strs_of).mono ?_
  rintro e w1 ⟨⟨b, rfl⟩, hw1⟩
  subst hw1
  cases b
  · go_wp2_with fail
    go_ret
    exact ⟨rfl, Below.refl _ _⟩
  go_wp2_with fail
  refine (big_any _ _ _ _ _ _ _ _ _ _ _ _ _ Hr.out.n strs_of).mono ?_
  rintro e w2 ⟨⟨b, rfl, hfit⟩, hw2⟩
  subst hw2
  cases b
  case true =>
    go_wp2_with fail
    go_ret
    exact ⟨rfl, Below.refl _ _⟩
  obtain ⟨f0, f1, f2, f3⟩ := hfit rfl
  clear hfit
  obtain ⟨X, hX⟩ : ∃ X, X = U32s (zp ++ zv) := ⟨_, rfl⟩
  have HX : Hid (X = U32s (zp ++ zv)) := hX
  have HL : Hid (X.length = zp.length + zv.length) := by rw [hX]; simp [Hid]
  clear hX
  have hmk := fun w => make_sum w X zp.length zv.length (by omega)
  go_wp2_with fail
  go_loopw [21] (fun a wr => ∃ m : Nat, m ≤ zp.length ∧ a = .int .i64 m ∧ wr = w2.alloc (.cells (filled X (.int .u32 0) (zp.length + zv.length) m) 29)) (fun a _ => zp.length - (intOf a).toNat)
  case atStart => exact ⟨0, Nat.zero_le _, rfl, rfl⟩
  case round =>
    obtain ⟨m, hm, rfl, rfl⟩ := hrel
    by_cases hlt : m < zp.length
    · obtain ⟨b, off, rfl, hb, hc⟩ := Hr.out.p.at (by simp; omega)
      have hcell := u32_at hc m hlt
      have hx : X[m]? = some (.int .u32 (zp.getD m 0)) := by rw [HX.out]; exact X_left m hlt
      obtain ⟨u, hu⟩ : ∃ u, zp.getD m 0 = u := ⟨_, rfl⟩
      rw [hu] at hcell hx
      have Hs : Hid ((filled X (.int .u32 0) (zp.length + zv.length) m).setIfInBounds m (.int .u32 u) = filled X (.int .u32 0) (zp.length + zv.length) (m + 1)) := filled_put _ _ _ hx (by omega)
      have hfa := filled_at X (.int .u32 0) (zp.length + zv.length) m (by have := HL.out; omega) (by omega)
      clear hc hu hx
      go_wp2_with fail
      go_roundw
      case rel => exact ⟨m + 1, by omega, by go_num, by rw [Hs.out]⟩
      case measure => simp [intOf]; omega
    · have hmn : m = zp.length := by omega
      subst hmn
      go_wp2_with fail
      go_loopw [22] (fun a wr => ∃ m : Nat, m ≤ zv.length ∧ a = .int .i64 m ∧ wr = w2.alloc (.cells (filled X (.int .u32 0) (zp.length + zv.length) (zp.length + m)) 29)) (fun a _ => zv.length - (intOf a).toNat)
      case atStart => exact ⟨0, Nat.zero_le _, rfl, rfl⟩
      case round =>
        obtain ⟨m, hm2, rfl, rfl⟩ := hrel
        by_cases hlt2 : m < zv.length
        · obtain ⟨b, off, rfl, hb, hc⟩ := Hr.out.v.at (by simp; omega)
          have hcell := u32_at hc m hlt2
          have hx : X[zp.length + m]? = some (.int .u32 (zv.getD m 0)) := by rw [HX.out]; exact X_right m hlt2
          obtain ⟨u, hu⟩ : ∃ u, zv.getD m 0 = u := ⟨_, rfl⟩
          rw [hu] at hcell hx
          have Hs : Hid ((filled X (.int .u32 0) (zp.length + zv.length) (zp.length + m)).setIfInBounds (zp.length + m) (.int .u32 u) = filled X (.int .u32 0) (zp.length + zv.length) (zp.length + m + 1)) := filled_put _ _ _ hx (by omega)
          have hfa := filled_at X (.int .u32 0) (zp.length + zv.length) (zp.length + m) (by have := HL.out; omega) (by omega)
          clear hc hu hx
          go_wp2_with fail
          go_roundw
          case rel => exact ⟨m + 1, by omega, by go_num, by rw [Hs.out]; rfl⟩
          case measure => simp [intOf]; omega
        · have hmn : m = zv.length := by omega
          subst hmn
          have hAll := all_new w2 X (.int .u32 0) (zp.length + zv.length) HL.out
          obtain ⟨Wa, hWa⟩ : ∃ Wa, w2.alloc (.cells (filled X (.int .u32 0) (zp.length + zv.length) (zp.length + zv.length)) 29) = Wa := ⟨_, rfl⟩
          have hBa : Below w2.heap.size w2 Wa := by rw [← hWa]; exact (Below.refl _ _).alloc (Nat.le_refl _) _
          have hSa : w2.heap.size < Wa.heap.size := by rw [← hWa]; simp
          rw [hWa] at hAll ⊢
          have HA : Hid (All Wa w2.heap.size X) := hAll
          have HBa : Hid (Below w2.heap.size w2 Wa) := hBa
          clear hWa hAll hBa hlt hlt2 hm hm2 hmk
          go_wp2_with fail
          refine (copy7_any _ _ _ (Hr.out.later HBa.out).p (by simp; omega) ints_of).mono ?_
          rintro e w3 ⟨rv1, rfl, r1, hb3⟩
          obtain ⟨ao1, c1, rfl⟩ := r1.form
          have R1 := r1; have HB3 := HBa.out.trans (hb3.mono (Nat.le_of_lt hSa)); have HA3 := HA.out.later hb3
          have hS3 : w2.heap.size < w3.heap.size := Nat.lt_of_lt_of_le hSa hb3.size
          have HR1 : Hid (Row w3 (.slice ao1 (U32s zp).length c1) (U32s zp) ∧ Below w2.heap.size w2 w3 ∧ All w3 w2.heap.size X) := ⟨R1, HB3, HA3⟩
          clear HBa HA r1 hb3 R1 HB3 HA3 hSa
          simp only [List.length_map] at *
          go_wp2_with fail
          refine (copy8_any _ _ _ (Hr.out.later HR1.out.2.1).n (by simp; omega) strs_of).mono ?_
          rintro e w4 ⟨rv2, rfl, r2, hb4⟩
          obtain ⟨ao2, c2, rfl⟩ := r2.form
          have hS4 : w2.heap.size < w4.heap.size := Nat.lt_of_lt_of_le hS3 hb4.size
          have HR2 : Hid (Row w4 (.slice ao1 zp.length c1) (U32s zp) ∧ Below w2.heap.size w2 w4 ∧ All w4 w2.heap.size X) := ⟨HR1.out.1.later hb4, HR1.out.2.1.trans (hb4.mono (Nat.le_of_lt hS3)), HR1.out.2.2.later hb4⟩
          clear HR1 r2 hb4 hS3
          simp only [List.length_map] at *
          go_wp2_with fail
          refine (copy7_any _ _ _ (Hr.out.later HR2.out.2.1).v (by simp; omega) ints_of).mono ?_
          rintro e w5 ⟨rv3, rfl, r3, hb5⟩
          obtain ⟨ao3, c3, rfl⟩ := r3.form
          have hS5 : w2.heap.size < w5.heap.size := Nat.lt_of_lt_of_le hS4 hb5.size
          have HR3 : Hid (Row w5 (.slice ao1 zp.length c1) (U32s zp) ∧ Row w5 (.slice ao3 (U32s zv).length c3) (U32s zv) ∧ Below w2.heap.size w2 w5 ∧ All w5 w2.heap.size X) := ⟨HR2.out.1.later hb5, r3, HR2.out.2.1.trans (hb5.mono (Nat.le_of_lt hS4)), HR2.out.2.2.later hb5⟩
          clear HR2 r3 hb5 hS4
          simp only [List.length_map] at *
          go_wp2_with fail
          refine (copy9_any _ _ _ (Hr.out.later HR3.out.2.2.1).c (by simp; omega) ints_of).mono ?_
          rintro e w6 ⟨rv4, rfl, r4, hb6⟩
          obtain ⟨ao4, c4, rfl⟩ := r4.form
          have hS6 : w2.heap.size < w6.heap.size := Nat.lt_of_lt_of_le hS5 hb6.size
          have HR4 : Hid (Row w6 (.slice ao1 zp.length c1) (U32s zp) ∧ Row w6 (.slice ao3 zv.length c3) (U32s zv) ∧ Below w2.heap.size w2 w6 ∧ All w6 w2.heap.size X) := ⟨HR3.out.1.later hb6, HR3.out.2.1.later hb6, HR3.out.2.2.1.trans (hb6.mono (Nat.le_of_lt hS5)), HR3.out.2.2.2.later hb6⟩
          clear HR3 r4 hb6 hS5
          simp only [List.length_map] at *
          obtain ⟨D, hD⟩ : ∃ D, k + D = zp.length + zv.length := ⟨zp.length + zv.length - k, by omega⟩
          have hD1 : D ≤ 1000000 := by omega
          have hmk := fun w => make28 w X k (by omega)
          have hmk2 := fun w => make_diff w (X.drop k) zp.length zv.length k D (by omega) hD
          have HD : Hid (k + D = zp.length + zv.length) := hD
          have hD2 : (k : Int) + (D : Int) ≤ (zp.length : Int) + (zv.length : Int) := by omega
          clear hD
          have hS7 : w2.heap.size < w6.heap.size + 1 := by omega
          have hS8 : w2.heap.size < w6.heap.size + 1 + 1 := by omega
          go_wp2_with fail
          go_loopw [25] (fun a wr => ∃ m : Nat, m ≤ k ∧ a = .int .i64 m ∧ wr = (w6.alloc (.cells #[.string s, .int .u8 role, .slice ao1 zp.length c1, .slice ao2 ss.length c2, .int .u32 res, .slice ao3 zv.length c3, .slice ao4 zc.length c4] 36)).alloc (.cells (filled X (.int .u32 0) k m) 29)) (fun a _ => k - (intOf a).toNat)
          case atStart => exact ⟨0, Nat.zero_le _, rfl, rfl⟩
          case round =>
            obtain ⟨m, hm, rfl, rfl⟩ := hrel
            by_cases hlt : m < k
            · have hx : X[m]? = some (.int .u32 ((zp ++ zv).getD m 0)) := by rw [HX.out]; exact X_all m (by omega)
              obtain ⟨u, hu⟩ : ∃ u, (zp ++ zv).getD m 0 = u := ⟨_, rfl⟩
              rw [hu] at hx
              have hcell := HR4.out.2.2.2 m _ hx
              have Hs : Hid ((filled X (.int .u32 0) k m).setIfInBounds m (.int .u32 u) = filled X (.int .u32 0) k (m + 1)) := filled_put _ _ _ hx (by omega)
              have hfa := filled_at X (.int .u32 0) k m (by have := HL.out; omega) (by omega)
              have hmi : (m : Int) < (zp.length : Int) + (zv.length : Int) := by omega
              clear hu hx
              go_wp2_with fail
              go_roundw
              case rel => exact ⟨m + 1, by omega, by go_num, by rw [Hs.out]⟩
              case measure => simp [intOf]; omega
            · have hmn : k = m := by omega
              subst hmn
              clear hm hlt
              go_wp2_with fail
              go_loopw [27] (fun a wr => ∃ m : Nat, m ≤ D ∧ a = .int .i64 ((k : Int) + (m : Int)) ∧ wr = ((w6.alloc (.cells #[.string s, .int .u8 role, .slice ao1 zp.length c1, .slice ao2 ss.length c2, .int .u32 res, .slice ao3 zv.length c3, .slice ao4 zc.length c4] 36)).alloc (.cells (filled X (.int .u32 0) k k) 29)).alloc (.cells (filled (X.drop k) (.int .u32 0) D m) 29)) (fun a _ => k + D - (intOf a).toNat)
              case atStart => exact ⟨0, Nat.zero_le _, by go_num, rfl⟩
              case round =>
                obtain ⟨m, hm, rfl, rfl⟩ := hrel
                by_cases hlt : m < D
                · have hx : X[k + m]? = some (.int .u32 ((zp ++ zv).getD (k + m) 0)) := by rw [HX.out]; exact X_all (k + m) (by have := HD.out; omega)
                  obtain ⟨u, hu⟩ : ∃ u, (zp ++ zv).getD (k + m) 0 = u := ⟨_, rfl⟩
                  rw [hu] at hx
                  have hcell := HR4.out.2.2.2 (k + m) _ hx
                  have Hs : Hid ((filled (X.drop k) (.int .u32 0) D m).setIfInBounds m (.int .u32 u) = filled (X.drop k) (.int .u32 0) D (m + 1)) := filled_put _ _ _ (by rw [List.getElem?_drop]; exact hx) hlt
                  have hfa := filled_at (X.drop k) (.int .u32 0) D m (by rw [List.length_drop]; have := HL.out; have := HD.out; omega) hlt
                  have hmi : (k : Int) + (m : Int) < (zp.length : Int) + (zv.length : Int) := by have := HD.out; omega
                  have hmj : (m : Int) < (D : Int) := by omega
                  clear hu hx
                  go_wp2_with fail
                  go_roundw
                  case rel => exact ⟨m + 1, by omega, by go_num, by rw [Hs.out]⟩
                  case measure => simp [intOf]; omega
                · have hmn : D = m := by omega
                  subst hmn
                  have hge : (zp.length : Int) + (zv.length : Int) ≤ (k : Int) + (D : Int) := by have := HD.out; omega
                  clear hm hlt
                  go_wp2_with fail
                  have hXz := HX.out
                  subst hXz
                  obtain ⟨Wc, hWc, bWc, sWc, fWc, pWc, vWc⟩ := cut_facts (zs := zp ++ zv) HR4.out.1 HR4.out.2.1 (.string s) (.int .u8 role) (.slice ao2 ss.length c2) (.int .u32 res) (.slice ao4 zc.length c4) k D (by rw [List.length_append]; exact HD.out)
                  rw [hWc]
                  have aWc := HR4.out.2.2.2.later bWc
                  have lWc := HR4.out.2.2.1.trans (bWc.mono (Nat.le_of_lt hS6))
                  have tWc : w2.heap.size < Wc.heap.size := by omega
                  clear hWc bWc HR4 hmk hmk2 hS7 hS8 HX HL hD1
                  refine (copy8_any _ _ _ (Hr.out.later lWc).n (by simp; omega) strs_of).mono ?_
                  rintro e w7 ⟨rv5, rfl, r5, b7⟩
                  obtain ⟨ao5, c5, rfl⟩ := r5.form
                  have HQ : Hid (All w7 w2.heap.size (U32s (zp ++ zv)) ∧ Below w2.heap.size w2 w7 ∧ FnAt w7 w6.heap.size _ _ zp zv ∧ Row w7 _ (U32s ((zp ++ zv).take k)) ∧ Row w7 _ (U32s ((zp ++ zv).drop k))) := ⟨aWc.later b7, lWc.trans (b7.mono (Nat.le_of_lt tWc)), fWc.later b7, pWc.later b7, vWc.later b7⟩
                  have t7 : w2.heap.size < w7.heap.size := Nat.lt_of_lt_of_le tWc b7.size
                  clear aWc lWc fWc pWc vWc r5 b7 tWc sWc
                  simp only [List.length_map] at *
                  go_wp2_with fail
                  refine (copy9_any _ _ _ (Hr.out.later HQ.out.2.1).c (by simp; omega) ints_of).mono ?_
                  rintro e w8 ⟨rv6, rfl, r6, b8⟩
                  obtain ⟨ao6, c6, rfl⟩ := r6.form
                  have t8 : w2.heap.size < w8.heap.size := Nat.lt_of_lt_of_le t7 b8.size
                  obtain ⟨u, hu⟩ : ∃ u, (zp ++ zv).getD i 0 = u := ⟨_, rfl⟩
                  have hcell : w8.cell? ⟨w2.heap.size, i, none⟩ = some (.int .u32 u) := by rw [← hu]; exact (HQ.out.1.later b8) i _ (X_all i hi)
                  have HF : Hid (Below w2.heap.size w2 w8 ∧ FnAt w8 w6.heap.size _ _ zp zv ∧ Row w8 _ (U32s ((zp ++ zv).take k)) ∧ Row w8 _ (U32s ((zp ++ zv).drop k))) := ⟨HQ.out.2.1.trans (b8.mono (Nat.le_of_lt t7)), HQ.out.2.2.1.later b8, HQ.out.2.2.2.1.later b8, HQ.out.2.2.2.2.later b8⟩
                  have HU : Hid ((zp ++ zv).getD i 0 = u) := hu
                  clear HQ r6 b8 t7 hu Hr
                  simp only [List.length_map] at *
                  have hiI : (i : Int) < (zp.length : Int) + (zv.length : Int) := by omega
                  go_wp2_with fail
                  have hf2 := fn_new HF.out.2.2.1 HF.out.2.2.2 (.string s) (.int .u8 role) (.slice ao5 ss.length c5) (.int .u32 res) (.slice ao6 zc.length c6)
                  have bz : Below w8.heap.size w8 (w8.alloc (.cells #[.string s, .int .u8 role, .slice (some ⟨w6.heap.size + 1, 0, none⟩) k k, .slice ao5 ss.length c5, .int .u32 res, .slice (some ⟨w6.heap.size + 1 + 1, 0, none⟩) D D, .slice ao6 zc.length c6] 36)) := (Below.refl _ _).alloc (Nat.le_refl _) _
                  have hf1 := HF.out.2.1.later bz
                  have hbz := HF.out.1.trans (bz.mono (Nat.le_of_lt t8))
                  have tz : w2.heap.size ≤ (w8.alloc (.cells #[.string s, .int .u8 role, .slice (some ⟨w6.heap.size + 1, 0, none⟩) k k, .slice ao5 ss.length c5, .int .u32 res, .slice (some ⟨w6.heap.size + 1 + 1, 0, none⟩) D D, .slice ao6 zc.length c6] 36)).heap.size := by simp; omega
                  refine (slot_any _ i _ _ zp zv _ hf1.p hf1.v hf1.rp hf1.rv hi (by omega) (by omega)).mono ?_
                  rw [HU.out]
                  rintro e w9 ⟨rfl, b9⟩
                  have HG : Hid (FnAt w9 w8.heap.size _ _ ((zp ++ zv).take k) ((zp ++ zv).drop k) ∧ Below w2.heap.size w2 w9) := ⟨hf2.later b9, hbz.trans (b9.mono tz)⟩
                  have t9 : w2.heap.size ≤ w9.heap.size := Nat.le_trans tz b9.size
                  clear hf2 bz hf1 hbz tz b9 HF
                  go_wp2_with fail
                  have hg := HG.out.1
                  refine (slot_any _ i _ _ ((zp ++ zv).take k) ((zp ++ zv).drop k) _ hg.p hg.v hg.rp hg.rv (by simp; omega) (by simp; omega) (by simp; omega)).mono ?_
                  rw [List.take_append_drop, HU.out]
                  rintro e w10 ⟨rfl, b10⟩
                  have hfin := HG.out.2.trans (b10.mono t9)
                  clear hg HG b10
                  go_wp2_with fail
                  go_ret
                  exact ⟨rfl, hfin⟩

end Go.Proofs.Qxb6626316a
