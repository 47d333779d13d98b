import Derived.Test.Qxb6625893aSp
import Derived.Test.Qxb6625893aBy
namespace Go.Proofs.Qxb6625893a
open Go.RowKit

/-- the plain law: a first part without the mark is read off what is put together with it -/
theorem cut_first {c : UInt8} : ∀ (x y r q : List UInt8), c ∉ x → c ∉ y → x ++ c :: r = y ++ c :: q → x = y ∧ r = q
  | [], [], r, q, _, _, h => ⟨rfl, by simpa using h⟩
  | [], b :: y, r, q, _, hy, h => by
      simp only [List.nil_append, List.cons_append, List.cons.injEq] at h
      exact absurd (by rw [h.1]; exact List.mem_cons_self) hy
  | a :: x, [], r, q, hx, _, h => by
      simp only [List.nil_append, List.cons_append, List.cons.injEq] at h
      exact absurd (by rw [← h.1]; exact List.mem_cons_self) hx
  | a :: x, b :: y, r, q, hx, hy, h => by
      simp only [List.cons_append, List.cons.injEq] at h
      obtain ⟨h1, h2⟩ := cut_first x y r q (fun m => hx (List.mem_cons_of_mem _ m)) (fun m => hy (List.mem_cons_of_mem _ m)) h.2
      exact ⟨by rw [h.1, h1], h2⟩

theorem app_data (a b : ByteArray) : (a ++ b).data.toList = a.data.toList ++ b.data.toList := by
  rw [ByteArray.data_append, Array.toList_append]

theorem pkg_data (h n m s : ByteArray) : (pkgS h n m s).data.toList = h.data.toList ++ 47 :: (n.data.toList ++ 47 :: (m.data.toList ++ 47 :: s.data.toList)) := by
  have e : slash.data.toList = [47] := rfl
  simp only [pkgS, protoS, app_data, e, List.append_assoc, List.cons_append, List.nil_append]

theorem noSl {a : ByteArray} (h : hasSl a = false) : (47 : UInt8) ∉ a.data.toList := by
  unfold hasSl at h
  rw [List.contains_eq_mem] at h
  simpa using h

theorem eqS_iff (p q : ByteArray) : eqS p q = true ↔ p.data.toList = q.data.toList := by
  unfold eqS
  rw [ByteArray.toList_eq, ByteArray.toList_eq, beq_iff_eq]

theorem tl_iff (p q : ByteArray) (b : Bool) : (p.toList == q.toList) = b ↔ eqS p q = b := Iff.rfl

theorem pkg_inj {h n m s h2 n2 m2 s2 : ByteArray} (a0 : hasSl h = false) (a1 : hasSl n = false) (a2 : hasSl m = false) (b0 : hasSl h2 = false) (b1 : hasSl n2 = false) (b2 : hasSl m2 = false)
    (e : eqS (pkgS h n m s) (pkgS h2 n2 m2 s2) = true) : eqS h h2 = true ∧ eqS n n2 = true ∧ eqS m m2 = true ∧ eqS s s2 = true := by
  rw [eqS_iff, pkg_data, pkg_data] at e
  obtain ⟨e0, e⟩ := cut_first _ _ _ _ (noSl a0) (noSl b0) e
  obtain ⟨e1, e⟩ := cut_first _ _ _ _ (noSl a1) (noSl b1) e
  obtain ⟨e2, e⟩ := cut_first _ _ _ _ (noSl a2) (noSl b2) e
  simp only [eqS_iff]
  exact ⟨e0, e1, e2, e⟩

theorem pkg_same {h n m s h2 n2 m2 s2 : ByteArray} (e0 : eqS h h2 = true) (e1 : eqS n n2 = true) (e2 : eqS m m2 = true) (e3 : eqS s s2 = true) : eqS (pkgS h n m s) (pkgS h2 n2 m2 s2) = true := by
  rw [eqS_iff] at *
  rw [pkg_data, pkg_data, e0, e1, e2, e3]

theorem eqS_symm (p q : ByteArray) : eqS p q = eqS q p := by
  rw [Bool.eq_iff_iff, eqS_iff, eqS_iff]
  exact eq_comm

set_option maxRecDepth 100000 in
set_option maxHeartbeats 1000000 in
theorem two_big0 (a0 a1 a2 a3 a4 a5 a6 a7 a8 a9 : ByteArray) (w : World) (w0 : a0.size ≤ maxLen) (w1 : a1.size ≤ maxLen) (w2 : a2.size ≤ maxLen) (w3 : a3.size ≤ maxLen) (w4 : a4.size ≤ maxLen) (w5 : a5.size ≤ maxLen) (w6 : a6.size ≤ maxLen) (w7 : a7.size ≤ maxLen) (w8 : a8.size ≤ maxLen) (w9 : a9.size ≤ maxLen)  (b0 : 65536 < a0.size) :
    Calls Try.prog 4 #[.string a0, .string a1, .string a2, .string a3, .string a4, .string a5, .string a6, .string a7, .string a8, .string a9] w fun e w' => e = .returned (.bool true) ∧ w' = w := by
  go_enter Try.func4, Try.ntmps4
  go_wp2_with fail
  refine (bytes10_any _ _ _ _ _ _ _ _ _ _ _ w0 w1 w2 w3 w4 w5 w6 w7 w8 w9).mono ?_
  rintro e w' ⟨b, rfl, hw⟩
  subst hw
  cases b
  · go_wp2_with fail
    go_ret
    exact ⟨rfl, rfl⟩
  clear w0 w1 w2 w3 w4 w5 w6 w7 w8 w9
  go_wp2_with fail
  all_goals
    go_ret
    exact ⟨rfl, rfl⟩

set_option maxRecDepth 100000 in
set_option maxHeartbeats 1000000 in
theorem two_big1 (a0 a1 a2 a3 a4 a5 a6 a7 a8 a9 : ByteArray) (w : World) (w0 : a0.size ≤ maxLen) (w1 : a1.size ≤ maxLen) (w2 : a2.size ≤ maxLen) (w3 : a3.size ≤ maxLen) (w4 : a4.size ≤ maxLen) (w5 : a5.size ≤ maxLen) (w6 : a6.size ≤ maxLen) (w7 : a7.size ≤ maxLen) (w8 : a8.size ≤ maxLen) (w9 : a9.size ≤ maxLen) (b0 : a0.size ≤ 65536) (b1 : 65536 < a1.size) :
    Calls Try.prog 4 #[.string a0, .string a1, .string a2, .string a3, .string a4, .string a5, .string a6, .string a7, .string a8, .string a9] w fun e w' => e = .returned (.bool true) ∧ w' = w := by
  go_enter Try.func4, Try.ntmps4
  go_wp2_with fail
  refine (bytes10_any _ _ _ _ _ _ _ _ _ _ _ w0 w1 w2 w3 w4 w5 w6 w7 w8 w9).mono ?_
  rintro e w' ⟨b, rfl, hw⟩
  subst hw
  cases b
  · go_wp2_with fail
    go_ret
    exact ⟨rfl, rfl⟩
  clear w0 w1 w2 w3 w4 w5 w6 w7 w8 w9
  go_wp2_with fail
  all_goals
    go_ret
    exact ⟨rfl, rfl⟩

set_option maxRecDepth 100000 in
set_option maxHeartbeats 1000000 in
theorem two_big2 (a0 a1 a2 a3 a4 a5 a6 a7 a8 a9 : ByteArray) (w : World) (w0 : a0.size ≤ maxLen) (w1 : a1.size ≤ maxLen) (w2 : a2.size ≤ maxLen) (w3 : a3.size ≤ maxLen) (w4 : a4.size ≤ maxLen) (w5 : a5.size ≤ maxLen) (w6 : a6.size ≤ maxLen) (w7 : a7.size ≤ maxLen) (w8 : a8.size ≤ maxLen) (w9 : a9.size ≤ maxLen) (b0 : a0.size ≤ 65536) (b1 : a1.size ≤ 65536) (b2 : 65536 < a2.size) :
    Calls Try.prog 4 #[.string a0, .string a1, .string a2, .string a3, .string a4, .string a5, .string a6, .string a7, .string a8, .string a9] w fun e w' => e = .returned (.bool true) ∧ w' = w := by
  go_enter Try.func4, Try.ntmps4
  go_wp2_with fail
  refine (bytes10_any _ _ _ _ _ _ _ _ _ _ _ w0 w1 w2 w3 w4 w5 w6 w7 w8 w9).mono ?_
  rintro e w' ⟨b, rfl, hw⟩
  subst hw
  cases b
  · go_wp2_with fail
    go_ret
    exact ⟨rfl, rfl⟩
  clear w0 w1 w2 w3 w4 w5 w6 w7 w8 w9
  go_wp2_with fail
  all_goals
    go_ret
    exact ⟨rfl, rfl⟩

set_option maxRecDepth 100000 in
set_option maxHeartbeats 1000000 in
theorem two_big3 (a0 a1 a2 a3 a4 a5 a6 a7 a8 a9 : ByteArray) (w : World) (w0 : a0.size ≤ maxLen) (w1 : a1.size ≤ maxLen) (w2 : a2.size ≤ maxLen) (w3 : a3.size ≤ maxLen) (w4 : a4.size ≤ maxLen) (w5 : a5.size ≤ maxLen) (w6 : a6.size ≤ maxLen) (w7 : a7.size ≤ maxLen) (w8 : a8.size ≤ maxLen) (w9 : a9.size ≤ maxLen) (b0 : a0.size ≤ 65536) (b1 : a1.size ≤ 65536) (b2 : a2.size ≤ 65536) (b3 : 65536 < a3.size) :
    Calls Try.prog 4 #[.string a0, .string a1, .string a2, .string a3, .string a4, .string a5, .string a6, .string a7, .string a8, .string a9] w fun e w' => e = .returned (.bool true) ∧ w' = w := by
  go_enter Try.func4, Try.ntmps4
  go_wp2_with fail
  refine (bytes10_any _ _ _ _ _ _ _ _ _ _ _ w0 w1 w2 w3 w4 w5 w6 w7 w8 w9).mono ?_
  rintro e w' ⟨b, rfl, hw⟩
  subst hw
  cases b
  · go_wp2_with fail
    go_ret
    exact ⟨rfl, rfl⟩
  clear w0 w1 w2 w3 w4 w5 w6 w7 w8 w9
  go_wp2_with fail
  all_goals
    go_ret
    exact ⟨rfl, rfl⟩

set_option maxRecDepth 100000 in
set_option maxHeartbeats 1000000 in
theorem two_big4 (a0 a1 a2 a3 a4 a5 a6 a7 a8 a9 : ByteArray) (w : World) (w0 : a0.size ≤ maxLen) (w1 : a1.size ≤ maxLen) (w2 : a2.size ≤ maxLen) (w3 : a3.size ≤ maxLen) (w4 : a4.size ≤ maxLen) (w5 : a5.size ≤ maxLen) (w6 : a6.size ≤ maxLen) (w7 : a7.size ≤ maxLen) (w8 : a8.size ≤ maxLen) (w9 : a9.size ≤ maxLen) (b0 : a0.size ≤ 65536) (b1 : a1.size ≤ 65536) (b2 : a2.size ≤ 65536) (b3 : a3.size ≤ 65536) (b4 : 65536 < a4.size) :
    Calls Try.prog 4 #[.string a0, .string a1, .string a2, .string a3, .string a4, .string a5, .string a6, .string a7, .string a8, .string a9] w fun e w' => e = .returned (.bool true) ∧ w' = w := by
  go_enter Try.func4, Try.ntmps4
  go_wp2_with fail
  refine (bytes10_any _ _ _ _ _ _ _ _ _ _ _ w0 w1 w2 w3 w4 w5 w6 w7 w8 w9).mono ?_
  rintro e w' ⟨b, rfl, hw⟩
  subst hw
  cases b
  · go_wp2_with fail
    go_ret
    exact ⟨rfl, rfl⟩
  clear w0 w1 w2 w3 w4 w5 w6 w7 w8 w9
  go_wp2_with fail
  all_goals
    go_ret
    exact ⟨rfl, rfl⟩

set_option maxRecDepth 100000 in
set_option maxHeartbeats 1000000 in
theorem two_big5 (a0 a1 a2 a3 a4 a5 a6 a7 a8 a9 : ByteArray) (w : World) (w0 : a0.size ≤ maxLen) (w1 : a1.size ≤ maxLen) (w2 : a2.size ≤ maxLen) (w3 : a3.size ≤ maxLen) (w4 : a4.size ≤ maxLen) (w5 : a5.size ≤ maxLen) (w6 : a6.size ≤ maxLen) (w7 : a7.size ≤ maxLen) (w8 : a8.size ≤ maxLen) (w9 : a9.size ≤ maxLen) (b0 : a0.size ≤ 65536) (b1 : a1.size ≤ 65536) (b2 : a2.size ≤ 65536) (b3 : a3.size ≤ 65536) (b4 : a4.size ≤ 65536) (b5 : 65536 < a5.size) :
    Calls Try.prog 4 #[.string a0, .string a1, .string a2, .string a3, .string a4, .string a5, .string a6, .string a7, .string a8, .string a9] w fun e w' => e = .returned (.bool true) ∧ w' = w := by
  go_enter Try.func4, Try.ntmps4
  go_wp2_with fail
  refine (bytes10_any _ _ _ _ _ _ _ _ _ _ _ w0 w1 w2 w3 w4 w5 w6 w7 w8 w9).mono ?_
  rintro e w' ⟨b, rfl, hw⟩
  subst hw
  cases b
  · go_wp2_with fail
    go_ret
    exact ⟨rfl, rfl⟩
  clear w0 w1 w2 w3 w4 w5 w6 w7 w8 w9
  go_wp2_with fail
  all_goals
    go_ret
    exact ⟨rfl, rfl⟩

set_option maxRecDepth 100000 in
set_option maxHeartbeats 1000000 in
theorem two_big6 (a0 a1 a2 a3 a4 a5 a6 a7 a8 a9 : ByteArray) (w : World) (w0 : a0.size ≤ maxLen) (w1 : a1.size ≤ maxLen) (w2 : a2.size ≤ maxLen) (w3 : a3.size ≤ maxLen) (w4 : a4.size ≤ maxLen) (w5 : a5.size ≤ maxLen) (w6 : a6.size ≤ maxLen) (w7 : a7.size ≤ maxLen) (w8 : a8.size ≤ maxLen) (w9 : a9.size ≤ maxLen) (b0 : a0.size ≤ 65536) (b1 : a1.size ≤ 65536) (b2 : a2.size ≤ 65536) (b3 : a3.size ≤ 65536) (b4 : a4.size ≤ 65536) (b5 : a5.size ≤ 65536) (b6 : 65536 < a6.size) :
    Calls Try.prog 4 #[.string a0, .string a1, .string a2, .string a3, .string a4, .string a5, .string a6, .string a7, .string a8, .string a9] w fun e w' => e = .returned (.bool true) ∧ w' = w := by
  go_enter Try.func4, Try.ntmps4
  go_wp2_with fail
  refine (bytes10_any _ _ _ _ _ _ _ _ _ _ _ w0 w1 w2 w3 w4 w5 w6 w7 w8 w9).mono ?_
  rintro e w' ⟨b, rfl, hw⟩
  subst hw
  cases b
  · go_wp2_with fail
    go_ret
    exact ⟨rfl, rfl⟩
  clear w0 w1 w2 w3 w4 w5 w6 w7 w8 w9
  go_wp2_with fail
  all_goals
    go_ret
    exact ⟨rfl, rfl⟩

set_option maxRecDepth 100000 in
set_option maxHeartbeats 1000000 in
theorem two_big7 (a0 a1 a2 a3 a4 a5 a6 a7 a8 a9 : ByteArray) (w : World) (w0 : a0.size ≤ maxLen) (w1 : a1.size ≤ maxLen) (w2 : a2.size ≤ maxLen) (w3 : a3.size ≤ maxLen) (w4 : a4.size ≤ maxLen) (w5 : a5.size ≤ maxLen) (w6 : a6.size ≤ maxLen) (w7 : a7.size ≤ maxLen) (w8 : a8.size ≤ maxLen) (w9 : a9.size ≤ maxLen) (b0 : a0.size ≤ 65536) (b1 : a1.size ≤ 65536) (b2 : a2.size ≤ 65536) (b3 : a3.size ≤ 65536) (b4 : a4.size ≤ 65536) (b5 : a5.size ≤ 65536) (b6 : a6.size ≤ 65536) (b7 : 65536 < a7.size) :
    Calls Try.prog 4 #[.string a0, .string a1, .string a2, .string a3, .string a4, .string a5, .string a6, .string a7, .string a8, .string a9] w fun e w' => e = .returned (.bool true) ∧ w' = w := by
  go_enter Try.func4, Try.ntmps4
  go_wp2_with fail
  refine (bytes10_any _ _ _ _ _ _ _ _ _ _ _ w0 w1 w2 w3 w4 w5 w6 w7 w8 w9).mono ?_
  rintro e w' ⟨b, rfl, hw⟩
  subst hw
  cases b
  · go_wp2_with fail
    go_ret
    exact ⟨rfl, rfl⟩
  clear w0 w1 w2 w3 w4 w5 w6 w7 w8 w9
  go_wp2_with fail
  all_goals
    go_ret
    exact ⟨rfl, rfl⟩

set_option maxRecDepth 100000 in
set_option maxHeartbeats 1000000 in
theorem two_big8 (a0 a1 a2 a3 a4 a5 a6 a7 a8 a9 : ByteArray) (w : World) (w0 : a0.size ≤ maxLen) (w1 : a1.size ≤ maxLen) (w2 : a2.size ≤ maxLen) (w3 : a3.size ≤ maxLen) (w4 : a4.size ≤ maxLen) (w5 : a5.size ≤ maxLen) (w6 : a6.size ≤ maxLen) (w7 : a7.size ≤ maxLen) (w8 : a8.size ≤ maxLen) (w9 : a9.size ≤ maxLen) (b0 : a0.size ≤ 65536) (b1 : a1.size ≤ 65536) (b2 : a2.size ≤ 65536) (b3 : a3.size ≤ 65536) (b4 : a4.size ≤ 65536) (b5 : a5.size ≤ 65536) (b6 : a6.size ≤ 65536) (b7 : a7.size ≤ 65536) (b8 : 65536 < a8.size) :
    Calls Try.prog 4 #[.string a0, .string a1, .string a2, .string a3, .string a4, .string a5, .string a6, .string a7, .string a8, .string a9] w fun e w' => e = .returned (.bool true) ∧ w' = w := by
  go_enter Try.func4, Try.ntmps4
  go_wp2_with fail
  refine (bytes10_any _ _ _ _ _ _ _ _ _ _ _ w0 w1 w2 w3 w4 w5 w6 w7 w8 w9).mono ?_
  rintro e w' ⟨b, rfl, hw⟩
  subst hw
  cases b
  · go_wp2_with fail
    go_ret
    exact ⟨rfl, rfl⟩
  clear w0 w1 w2 w3 w4 w5 w6 w7 w8 w9
  go_wp2_with fail
  all_goals
    go_ret
    exact ⟨rfl, rfl⟩

set_option maxRecDepth 100000 in
set_option maxHeartbeats 1000000 in
theorem two_big9 (a0 a1 a2 a3 a4 a5 a6 a7 a8 a9 : ByteArray) (w : World) (w0 : a0.size ≤ maxLen) (w1 : a1.size ≤ maxLen) (w2 : a2.size ≤ maxLen) (w3 : a3.size ≤ maxLen) (w4 : a4.size ≤ maxLen) (w5 : a5.size ≤ maxLen) (w6 : a6.size ≤ maxLen) (w7 : a7.size ≤ maxLen) (w8 : a8.size ≤ maxLen) (w9 : a9.size ≤ maxLen) (b0 : a0.size ≤ 65536) (b1 : a1.size ≤ 65536) (b2 : a2.size ≤ 65536) (b3 : a3.size ≤ 65536) (b4 : a4.size ≤ 65536) (b5 : a5.size ≤ 65536) (b6 : a6.size ≤ 65536) (b7 : a7.size ≤ 65536) (b8 : a8.size ≤ 65536) (b9 : 65536 < a9.size) :
    Calls Try.prog 4 #[.string a0, .string a1, .string a2, .string a3, .string a4, .string a5, .string a6, .string a7, .string a8, .string a9] w fun e w' => e = .returned (.bool true) ∧ w' = w := by
  go_enter Try.func4, Try.ntmps4
  go_wp2_with fail
  refine (bytes10_any _ _ _ _ _ _ _ _ _ _ _ w0 w1 w2 w3 w4 w5 w6 w7 w8 w9).mono ?_
  rintro e w' ⟨b, rfl, hw⟩
  subst hw
  cases b
  · go_wp2_with fail
    go_ret
    exact ⟨rfl, rfl⟩
  clear w0 w1 w2 w3 w4 w5 w6 w7 w8 w9
  go_wp2_with fail
  all_goals
    go_ret
    exact ⟨rfl, rfl⟩

end Go.Proofs.Qxb6625893a
