import Derived.Test.Qxb6625893aBy
namespace Go.Proofs.Qxb6625893a
open Go.RowKit

set_option maxRecDepth 100000 in
set_option maxHeartbeats 1000000 in
theorem one_big0 (a0 a1 a2 a3 a4 a5 a6 a7 : ByteArray) (w : World) (w0 : a0.size ≤ maxLen) (w1 : a1.size ≤ maxLen) (w2 : a2.size ≤ maxLen) (w3 : a3.size ≤ maxLen) (w4 : a4.size ≤ maxLen) (w5 : a5.size ≤ maxLen) (w6 : a6.size ≤ maxLen) (w7 : a7.size ≤ maxLen)  (b0 : 65536 < a0.size) :
    Calls Try.prog 3 #[.string a0, .string a1, .string a2, .string a3, .string a4, .string a5, .string a6, .string a7] w fun e w' => e = .returned (.bool true) ∧ w' = w := by
  go_enter Try.func3, Try.ntmps3
  go_wp2_with fail
  refine (bytes8_any _ _ _ _ _ _ _ _ _ w0 w1 w2 w3 w4 w5 w6 w7).mono ?_
  rintro e w' ⟨b, rfl, hw⟩
  subst hw
  clear w0 w1 w2 w3 w4 w5 w6 w7
  cases b
  · go_wp2_with fail
    go_ret
    exact ⟨rfl, rfl⟩
  go_wp2_with fail
  all_goals
    go_ret
    exact ⟨rfl, rfl⟩

set_option maxRecDepth 100000 in
set_option maxHeartbeats 1000000 in
theorem one_big1 (a0 a1 a2 a3 a4 a5 a6 a7 : ByteArray) (w : World) (w0 : a0.size ≤ maxLen) (w1 : a1.size ≤ maxLen) (w2 : a2.size ≤ maxLen) (w3 : a3.size ≤ maxLen) (w4 : a4.size ≤ maxLen) (w5 : a5.size ≤ maxLen) (w6 : a6.size ≤ maxLen) (w7 : a7.size ≤ maxLen) (b0 : a0.size ≤ 65536) (b1 : 65536 < a1.size) :
    Calls Try.prog 3 #[.string a0, .string a1, .string a2, .string a3, .string a4, .string a5, .string a6, .string a7] w fun e w' => e = .returned (.bool true) ∧ w' = w := by
  go_enter Try.func3, Try.ntmps3
  go_wp2_with fail
  refine (bytes8_any _ _ _ _ _ _ _ _ _ w0 w1 w2 w3 w4 w5 w6 w7).mono ?_
  rintro e w' ⟨b, rfl, hw⟩
  subst hw
  clear w0 w1 w2 w3 w4 w5 w6 w7
  cases b
  · go_wp2_with fail
    go_ret
    exact ⟨rfl, rfl⟩
  go_wp2_with fail
  all_goals
    go_ret
    exact ⟨rfl, rfl⟩

set_option maxRecDepth 100000 in
set_option maxHeartbeats 1000000 in
theorem one_big2 (a0 a1 a2 a3 a4 a5 a6 a7 : ByteArray) (w : World) (w0 : a0.size ≤ maxLen) (w1 : a1.size ≤ maxLen) (w2 : a2.size ≤ maxLen) (w3 : a3.size ≤ maxLen) (w4 : a4.size ≤ maxLen) (w5 : a5.size ≤ maxLen) (w6 : a6.size ≤ maxLen) (w7 : a7.size ≤ maxLen) (b0 : a0.size ≤ 65536) (b1 : a1.size ≤ 65536) (b2 : 65536 < a2.size) :
    Calls Try.prog 3 #[.string a0, .string a1, .string a2, .string a3, .string a4, .string a5, .string a6, .string a7] w fun e w' => e = .returned (.bool true) ∧ w' = w := by
  go_enter Try.func3, Try.ntmps3
  go_wp2_with fail
  refine (bytes8_any _ _ _ _ _ _ _ _ _ w0 w1 w2 w3 w4 w5 w6 w7).mono ?_
  rintro e w' ⟨b, rfl, hw⟩
  subst hw
  clear w0 w1 w2 w3 w4 w5 w6 w7
  cases b
  · go_wp2_with fail
    go_ret
    exact ⟨rfl, rfl⟩
  go_wp2_with fail
  all_goals
    go_ret
    exact ⟨rfl, rfl⟩

set_option maxRecDepth 100000 in
set_option maxHeartbeats 1000000 in
theorem one_big3 (a0 a1 a2 a3 a4 a5 a6 a7 : ByteArray) (w : World) (w0 : a0.size ≤ maxLen) (w1 : a1.size ≤ maxLen) (w2 : a2.size ≤ maxLen) (w3 : a3.size ≤ maxLen) (w4 : a4.size ≤ maxLen) (w5 : a5.size ≤ maxLen) (w6 : a6.size ≤ maxLen) (w7 : a7.size ≤ maxLen) (b0 : a0.size ≤ 65536) (b1 : a1.size ≤ 65536) (b2 : a2.size ≤ 65536) (b3 : 65536 < a3.size) :
    Calls Try.prog 3 #[.string a0, .string a1, .string a2, .string a3, .string a4, .string a5, .string a6, .string a7] w fun e w' => e = .returned (.bool true) ∧ w' = w := by
  go_enter Try.func3, Try.ntmps3
  go_wp2_with fail
  refine (bytes8_any _ _ _ _ _ _ _ _ _ w0 w1 w2 w3 w4 w5 w6 w7).mono ?_
  rintro e w' ⟨b, rfl, hw⟩
  subst hw
  clear w0 w1 w2 w3 w4 w5 w6 w7
  cases b
  · go_wp2_with fail
    go_ret
    exact ⟨rfl, rfl⟩
  go_wp2_with fail
  all_goals
    go_ret
    exact ⟨rfl, rfl⟩

set_option maxRecDepth 100000 in
set_option maxHeartbeats 1000000 in
theorem one_big4 (a0 a1 a2 a3 a4 a5 a6 a7 : ByteArray) (w : World) (w0 : a0.size ≤ maxLen) (w1 : a1.size ≤ maxLen) (w2 : a2.size ≤ maxLen) (w3 : a3.size ≤ maxLen) (w4 : a4.size ≤ maxLen) (w5 : a5.size ≤ maxLen) (w6 : a6.size ≤ maxLen) (w7 : a7.size ≤ maxLen) (b0 : a0.size ≤ 65536) (b1 : a1.size ≤ 65536) (b2 : a2.size ≤ 65536) (b3 : a3.size ≤ 65536) (b4 : 65536 < a4.size) :
    Calls Try.prog 3 #[.string a0, .string a1, .string a2, .string a3, .string a4, .string a5, .string a6, .string a7] w fun e w' => e = .returned (.bool true) ∧ w' = w := by
  go_enter Try.func3, Try.ntmps3
  go_wp2_with fail
  refine (bytes8_any _ _ _ _ _ _ _ _ _ w0 w1 w2 w3 w4 w5 w6 w7).mono ?_
  rintro e w' ⟨b, rfl, hw⟩
  subst hw
  clear w0 w1 w2 w3 w4 w5 w6 w7
  cases b
  · go_wp2_with fail
    go_ret
    exact ⟨rfl, rfl⟩
  go_wp2_with fail
  all_goals
    go_ret
    exact ⟨rfl, rfl⟩

set_option maxRecDepth 100000 in
set_option maxHeartbeats 1000000 in
theorem one_big5 (a0 a1 a2 a3 a4 a5 a6 a7 : ByteArray) (w : World) (w0 : a0.size ≤ maxLen) (w1 : a1.size ≤ maxLen) (w2 : a2.size ≤ maxLen) (w3 : a3.size ≤ maxLen) (w4 : a4.size ≤ maxLen) (w5 : a5.size ≤ maxLen) (w6 : a6.size ≤ maxLen) (w7 : a7.size ≤ maxLen) (b0 : a0.size ≤ 65536) (b1 : a1.size ≤ 65536) (b2 : a2.size ≤ 65536) (b3 : a3.size ≤ 65536) (b4 : a4.size ≤ 65536) (b5 : 65536 < a5.size) :
    Calls Try.prog 3 #[.string a0, .string a1, .string a2, .string a3, .string a4, .string a5, .string a6, .string a7] w fun e w' => e = .returned (.bool true) ∧ w' = w := by
  go_enter Try.func3, Try.ntmps3
  go_wp2_with fail
  refine (bytes8_any _ _ _ _ _ _ _ _ _ w0 w1 w2 w3 w4 w5 w6 w7).mono ?_
  rintro e w' ⟨b, rfl, hw⟩
  subst hw
  clear w0 w1 w2 w3 w4 w5 w6 w7
  cases b
  · go_wp2_with fail
    go_ret
    exact ⟨rfl, rfl⟩
  go_wp2_with fail
  all_goals
    go_ret
    exact ⟨rfl, rfl⟩

set_option maxRecDepth 100000 in
set_option maxHeartbeats 1000000 in
theorem one_big6 (a0 a1 a2 a3 a4 a5 a6 a7 : ByteArray) (w : World) (w0 : a0.size ≤ maxLen) (w1 : a1.size ≤ maxLen) (w2 : a2.size ≤ maxLen) (w3 : a3.size ≤ maxLen) (w4 : a4.size ≤ maxLen) (w5 : a5.size ≤ maxLen) (w6 : a6.size ≤ maxLen) (w7 : a7.size ≤ maxLen) (b0 : a0.size ≤ 65536) (b1 : a1.size ≤ 65536) (b2 : a2.size ≤ 65536) (b3 : a3.size ≤ 65536) (b4 : a4.size ≤ 65536) (b5 : a5.size ≤ 65536) (b6 : 65536 < a6.size) :
    Calls Try.prog 3 #[.string a0, .string a1, .string a2, .string a3, .string a4, .string a5, .string a6, .string a7] w fun e w' => e = .returned (.bool true) ∧ w' = w := by
  go_enter Try.func3, Try.ntmps3
  go_wp2_with fail
  refine (bytes8_any _ _ _ _ _ _ _ _ _ w0 w1 w2 w3 w4 w5 w6 w7).mono ?_
  rintro e w' ⟨b, rfl, hw⟩
  subst hw
  clear w0 w1 w2 w3 w4 w5 w6 w7
  cases b
  · go_wp2_with fail
    go_ret
    exact ⟨rfl, rfl⟩
  go_wp2_with fail
  all_goals
    go_ret
    exact ⟨rfl, rfl⟩

set_option maxRecDepth 100000 in
set_option maxHeartbeats 1000000 in
theorem one_big7 (a0 a1 a2 a3 a4 a5 a6 a7 : ByteArray) (w : World) (w0 : a0.size ≤ maxLen) (w1 : a1.size ≤ maxLen) (w2 : a2.size ≤ maxLen) (w3 : a3.size ≤ maxLen) (w4 : a4.size ≤ maxLen) (w5 : a5.size ≤ maxLen) (w6 : a6.size ≤ maxLen) (w7 : a7.size ≤ maxLen) (b0 : a0.size ≤ 65536) (b1 : a1.size ≤ 65536) (b2 : a2.size ≤ 65536) (b3 : a3.size ≤ 65536) (b4 : a4.size ≤ 65536) (b5 : a5.size ≤ 65536) (b6 : a6.size ≤ 65536) (b7 : 65536 < a7.size) :
    Calls Try.prog 3 #[.string a0, .string a1, .string a2, .string a3, .string a4, .string a5, .string a6, .string a7] w fun e w' => e = .returned (.bool true) ∧ w' = w := by
  go_enter Try.func3, Try.ntmps3
  go_wp2_with fail
  refine (bytes8_any _ _ _ _ _ _ _ _ _ w0 w1 w2 w3 w4 w5 w6 w7).mono ?_
  rintro e w' ⟨b, rfl, hw⟩
  subst hw
  clear w0 w1 w2 w3 w4 w5 w6 w7
  cases b
  · go_wp2_with fail
    go_ret
    exact ⟨rfl, rfl⟩
  go_wp2_with fail
  all_goals
    go_ret
    exact ⟨rfl, rfl⟩

end Go.Proofs.Qxb6625893a
