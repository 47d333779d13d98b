import Derived.Test.Qxb6626316aInsA
import Derived.Test.Qxb6626316aInsB
namespace Go.Proofs.Qxb6626316a
open Go.RowKit

set_option maxRecDepth 100000 in
set_option maxHeartbeats 2000000 in
theorem ins_early (s : ByteArray) (role res : Int) (vp vn vv vc : Value) (zp : List Int) (ss : List ByteArray) (zv zc : List Int) (i j t : Int) (w : World)
    (hr : Came w vp vn vv vc zp ss zv zc) (h : j < 0 ∨ (0 ≤ j ∧ (zp.length : Int) < j)) :
    Calls Try.prog 4 #[.string s, .int .u8 role, vp, vn, .int .u32 res, vv, vc, .int .i64 i, .int .i64 j, .int .u32 t] w fun e w' => e = .returned (.bool true) ∧ Below w.heap.size w w' := by
  obtain ⟨ap, cp, rfl⟩ := hr.p.form
  obtain ⟨av, cv, rfl⟩ := hr.v.form
  obtain ⟨ac, cc, rfl⟩ := hr.c.form
  have Hr : Hid (Came w _ vn _ _ zp ss zv zc) := hr
  clear hr
  simp only [List.length_map] at *
  go_enter Try.func4, Try.ntmps4
  go_wp2_with fail
  refine (bytes11_any _ _ _ _ _ _ _ _ _ _ _ _ _ _ _ _ _ _ Hr.out.n strs_of).mono ?_
  rintro e w1 ⟨⟨b, rfl⟩, hw1⟩
  subst hw1
  cases b
  · go_wp2_with fail
    go_ret
    exact ⟨rfl, Below.refl _ _⟩
  go_wp2_with fail
  refine (big_any _ _ _ _ _ _ _ _ _ _ _ _ _ Hr.out.n strs_of).mono ?_
  rintro e w2 ⟨⟨b, rfl, hfit⟩, hw2⟩
  subst hw2
  cases b
  case true =>
    go_wp2_with fail
    go_ret
    exact ⟨rfl, Below.refl _ _⟩
  obtain ⟨f0, f1, f2, f3⟩ := hfit rfl
  clear hfit
  rcases h with h | ⟨h0, h⟩
  all_goals
    go_wp2_with fail
    go_ret
    exact ⟨rfl, Below.refl _ _⟩

theorem ins_any (s : ByteArray) (role res : Int) (vp vn vv vc : Value) (zp : List Int) (ss : List ByteArray) (zv zc : List Int) (i j t : Int) (w : World)
    (hr : Came w vp vn vv vc zp ss zv zc) :
    Calls Try.prog 4 #[.string s, .int .u8 role, vp, vn, .int .u32 res, vv, vc, .int .i64 i, .int .i64 j, .int .u32 t] w fun e w' => e = .returned (.bool true) ∧ Below w.heap.size w w' := by
  by_cases hj : 0 ≤ j ∧ j ≤ (zp.length : Int)
  · obtain ⟨hj0, hj1⟩ := hj
    obtain ⟨n, rfl⟩ := Int.eq_ofNat_of_zero_le hj0
    by_cases h : 0 ≤ i ∧ i < (zp.length : Int) + (zv.length : Int)
    · obtain ⟨h0, h1⟩ := h
      obtain ⟨m, rfl⟩ := Int.eq_ofNat_of_zero_le h0
      by_cases h2 : m < n
      · exact ins_lo s role res vp vn vv vc zp ss zv zc m n t w hr (by omega) (by omega) h2
      · exact ins_hi s role res vp vn vv vc zp ss zv zc m n t w hr (by omega) (by omega) (by omega)
    · exact ins_out s role res vp vn vv vc zp ss zv zc i n t w hr (by omega) (by omega)
  · exact ins_early s role res vp vn vv vc zp ss zv zc i j t w hr (by omega)

end Go.Proofs.Qxb6626316a
