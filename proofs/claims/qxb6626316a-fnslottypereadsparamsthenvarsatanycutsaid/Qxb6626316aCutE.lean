import Derived.Test.Qxb6626316aCut
namespace Go.Proofs.Qxb6626316a
open Go.RowKit

set_option maxRecDepth 100000 in
set_option maxHeartbeats 2000000 in
theorem cut_early (s : ByteArray) (role res : Int) (vp vn vv vc : Value) (zp : List Int) (ss : List ByteArray) (zv zc : List Int) (i k : Int) (w : World)
    (hr : Came w vp vn vv vc zp ss zv zc) (h : i < 0 ∨ (0 ≤ i ∧ (zp.length : Int) + (zv.length : Int) ≤ i) ∨ (0 ≤ i ∧ i < (zp.length : Int) + (zv.length : Int) ∧ k < 0) ∨ (0 ≤ i ∧ i < (zp.length : Int) + (zv.length : Int) ∧ 0 ≤ k ∧ (zp.length : Int) + (zv.length : Int) < k)) :
    Calls Try.prog 3 #[.string s, .int .u8 role, vp, vn, .int .u32 res, vv, vc, .int .i64 i, .int .i64 k] w fun e w' => e = .returned (.bool true) ∧ Below w.heap.size w w' := by
  obtain ⟨ap, cp, rfl⟩ := hr.p.form
  obtain ⟨av, cv, rfl⟩ := hr.v.form
  obtain ⟨ac, cc, rfl⟩ := hr.c.form
  have Hr : Hid (Came w _ vn _ _ zp ss zv zc) := hr
  clear hr
  simp only [List.length_map] at *
  go_enter Try.func3, Try.ntmps3
  go_wp2_with fail
  refine (bytes5_any _ _ _ _ _ _ _ _ _ _ _ _ _ _ _ _ _ Hr.out.n strs_of).mono ?_
  rintro e w1 ⟨⟨b, rfl⟩, hw1⟩
  subst hw1
  cases b
  · go_wp2_with fail
    go_ret
    exact ⟨rfl, Below.refl _ _⟩
  go_wp2_with fail
  refine (big_any _ _ _ _ _ _ _ _ _ _ _ _ _ Hr.out.n strs_of).mono ?_
  rintro e w2 ⟨⟨b, rfl, hfit⟩, hw2⟩
  subst hw2
  cases b
  case true =>
    go_wp2_with fail
    go_ret
    exact ⟨rfl, Below.refl _ _⟩
  obtain ⟨f0, f1, f2, f3⟩ := hfit rfl
  clear hfit
  rcases h with h | ⟨h0, h⟩ | ⟨h0, h1, h⟩ | ⟨h0, h1, h2, h⟩
  all_goals
    go_wp2_with fail
    go_ret
    exact ⟨rfl, Below.refl _ _⟩

theorem cut_any (s : ByteArray) (role res : Int) (vp vn vv vc : Value) (zp : List Int) (ss : List ByteArray) (zv zc : List Int) (i k : Int) (w : World)
    (hr : Came w vp vn vv vc zp ss zv zc) :
    Calls Try.prog 3 #[.string s, .int .u8 role, vp, vn, .int .u32 res, vv, vc, .int .i64 i, .int .i64 k] w fun e w' => e = .returned (.bool true) ∧ Below w.heap.size w w' := by
  by_cases h : 0 ≤ i ∧ i < (zp.length : Int) + (zv.length : Int) ∧ 0 ≤ k ∧ k ≤ (zp.length : Int) + (zv.length : Int)
  · obtain ⟨h0, h1, h2, h3⟩ := h
    obtain ⟨m, rfl⟩ := Int.eq_ofNat_of_zero_le h0
    obtain ⟨n, rfl⟩ := Int.eq_ofNat_of_zero_le h2
    exact cut_late s role res vp vn vv vc zp ss zv zc m n w hr (by omega) (by omega)
  · exact cut_early s role res vp vn vv vc zp ss zv zc i k w hr (by omega)

end Go.Proofs.Qxb6626316a
