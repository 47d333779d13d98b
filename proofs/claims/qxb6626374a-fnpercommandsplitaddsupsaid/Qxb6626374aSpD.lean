import Derived.Test.Qxb6626374aSpB
import Derived.Test.Qxb6626374aSpC
namespace Go.Proofs.Qxb6626374a
open Go.RowKit Split

set_option maxRecDepth 100000 in
set_option maxHeartbeats 4000000 in
theorem split_zero (rep bk se : Int) (ao : Option Addr) (c : Nat) (w : World) :
    Calls Try.prog 3 #[.int .i64 rep, .int .i64 bk, .int .u64 se, .slice ao 0 c, .int .i64 0] w fun e w' => e = .returned (.bool true) ∧ Below w.heap.size w w' := by
  have Hr : Hid (RowC w (.slice ao 0 c) []) := ⟨ao, c, rfl, fun j hj => by simp at hj⟩
  go_enter Try.func3, Try.ntmps3
  go_wp2_with fail
  refine (bytes5_any _ _ _ _ _ _ _ _).mono ?_
  rintro e w1 ⟨⟨b, rfl⟩, hw1⟩
  subst hw1
  cases b
  · go_wp2_with fail
    go_ret
    exact ⟨rfl, Below.refl _ _⟩
  go_wp2_with fail
  refine wp_loop_rounds 1 ?_
  rw [rounds_succ]
  go_wp2_with fail
  refine (build_cap _ _ _ Hr.out (by simp)).mono ?_
  rintro e w2 ⟨ao2, rfl, -, hbel⟩
  simp only [List.length_nil]
  have HB : Hid (Below w1.heap.size w1 w2) := hbel
  have hsz := hbel.size
  clear hbel Hr
  have ho := ord00
  go_wp2_with fail
  refine wp_loop_rounds 1 ?_
  rw [rounds_succ]
  cases ao2 with
  | none =>
    go_wp2_with fail
    obtain ⟨Wb, hWb, bWb, sWb, ⟨x0, x1, x2, x3⟩, y0, y1, y2, y3⟩ := three_boxes (w := w2) (.int .i64 rep) (.int .i64 bk) (.int .u64 se) (.slice none 0 0) (.slice none 0 0) (.slice none 0 0)
    rw [hWb]
    clear hWb
    refine (per_zero _ _ _ _ _ _).mono ?_
    rintro e w3 ⟨he, hb3⟩
    have he' : e = .returned (.tuple #[.float .f64 0, .float .f64 0]) := he
    subst he'
    have HQ3 : Hid (Below w1.heap.size w1 w3) := HB.out.trans ((bWb.trans (hb3.mono (by omega))).mono hsz)
    replace x0 := cell_later hb3 x0
    replace x1 := cell_later hb3 x1
    replace x2 := cell_later hb3 x2
    replace x3 := cell_later hb3 x3
    replace y0 := cell_later hb3 y0
    replace y1 := cell_later hb3 y1
    replace y2 := cell_later hb3 y2
    replace y3 := cell_later hb3 y3
    have hsz3 : w2.heap.size + 1 + 1 < w3.heap.size := by have := hb3.size; omega
    clear he hb3 bWb sWb HB
    go_wp2_with fail
    refine (per_zero _ _ _ _ _ _).mono ?_
    rintro e w4 ⟨he, hb4⟩
    have he' : e = .returned (.tuple #[.float .f64 0, .float .f64 0]) := he
    subst he'
    have HQ4 : Hid (Below w1.heap.size w1 w4) := HQ3.out.trans (hb4.mono (by omega))
    replace y0 := cell_later hb4 y0
    replace y1 := cell_later hb4 y1
    replace y2 := cell_later hb4 y2
    replace y3 := cell_later hb4 y3
    have hsz4 : w2.heap.size + 1 + 1 < w4.heap.size := by have := hb4.size; omega
    clear he hb4 HQ3 x0 x1 x2 x3
    go_wp2_with fail
    refine (per_zero _ _ _ _ _ _).mono ?_
    rintro e w5 ⟨he, hb5⟩
    have he' : e = .returned (.tuple #[.float .f64 0, .float .f64 0]) := he
    subst he'
    have HQ5 : Hid (Below w1.heap.size w1 w5) := HQ4.out.trans (hb5.mono (by omega))
    clear he hb5 HQ4 y0 y1 y2 y3
    go_wp2_with fail
    go_ret
    exact ⟨rfl, HQ5.out⟩
  | some a =>
    go_wp2_with fail
    obtain ⟨Wb, hWb, bWb, sWb, ⟨x0, x1, x2, x3⟩, y0, y1, y2, y3⟩ := three_boxes (w := w2) (.int .i64 rep) (.int .i64 bk) (.int .u64 se) (.slice (some a) 0 0) (.slice (some a) 0 0) (.slice (some a) 0 0)
    rw [hWb]
    clear hWb
    refine (per_zero _ _ _ _ _ _).mono ?_
    rintro e w3 ⟨he, hb3⟩
    have he' : e = .returned (.tuple #[.float .f64 0, .float .f64 0]) := he
    subst he'
    have HQ3 : Hid (Below w1.heap.size w1 w3) := HB.out.trans ((bWb.trans (hb3.mono (by omega))).mono hsz)
    replace x0 := cell_later hb3 x0
    replace x1 := cell_later hb3 x1
    replace x2 := cell_later hb3 x2
    replace x3 := cell_later hb3 x3
    replace y0 := cell_later hb3 y0
    replace y1 := cell_later hb3 y1
    replace y2 := cell_later hb3 y2
    replace y3 := cell_later hb3 y3
    have hsz3 : w2.heap.size + 1 + 1 < w3.heap.size := by have := hb3.size; omega
    clear he hb3 bWb sWb HB
    go_wp2_with fail
    refine (per_zero _ _ _ _ _ _).mono ?_
    rintro e w4 ⟨he, hb4⟩
    have he' : e = .returned (.tuple #[.float .f64 0, .float .f64 0]) := he
    subst he'
    have HQ4 : Hid (Below w1.heap.size w1 w4) := HQ3.out.trans (hb4.mono (by omega))
    replace y0 := cell_later hb4 y0
    replace y1 := cell_later hb4 y1
    replace y2 := cell_later hb4 y2
    replace y3 := cell_later hb4 y3
    have hsz4 : w2.heap.size + 1 + 1 < w4.heap.size := by have := hb4.size; omega
    clear he hb4 HQ3 x0 x1 x2 x3
    go_wp2_with fail
    refine (per_zero _ _ _ _ _ _).mono ?_
    rintro e w5 ⟨he, hb5⟩
    have he' : e = .returned (.tuple #[.float .f64 0, .float .f64 0]) := he
    subst he'
    have HQ5 : Hid (Below w1.heap.size w1 w5) := HQ4.out.trans (hb5.mono (by omega))
    clear he hb5 HQ4 y0 y1 y2 y3
    go_wp2_with fail
    go_ret
    exact ⟨rfl, HQ5.out⟩

theorem split_any (rep bk se : Int) (v : Value) (cs : List Cmd) (kk : Int) (w : World) (h : RowC w v cs) :
    Calls Try.prog 3 #[.int .i64 rep, .int .i64 bk, .int .u64 se, v, .int .i64 kk] w fun e w' => e = .returned (.bool true) ∧ Below w.heap.size w w' := by
  by_cases hn : 4096 < cs.length
  · exact split_long rep bk se v cs kk w h hn
  by_cases ho : kk < 0 ∨ (0 ≤ kk ∧ (cs.length : Int) < kk)
  · exact split_out rep bk se v cs kk w h (by omega) ho
  obtain ⟨k, rfl⟩ : ∃ k : Nat, kk = k := ⟨kk.toNat, by omega⟩
  by_cases hz : cs.length = 0
  · obtain ⟨ao, c, rfl⟩ := h.form
    have hk : k = 0 := by omega
    subst hk
    rw [hz]
    exact split_zero rep bk se ao c w
  · exact split_late rep bk se v cs k (cs.length - k) w h (by omega) (by omega) (by omega)

end Go.Proofs.Qxb6626374a
