import Derived.Test.Qxb6625893aBy
namespace Go.Proofs.Qxb6625893a
open Go.RowKit

set_option maxRecDepth 100000 in
set_option maxHeartbeats 1000000 in
theorem two_sl0 (a0 a1 a2 a3 a4 a5 a6 a7 a8 a9 : ByteArray) (w : World) (w0 : a0.size ≤ maxLen) (w1 : a1.size ≤ maxLen) (w2 : a2.size ≤ maxLen) (w3 : a3.size ≤ maxLen) (w4 : a4.size ≤ maxLen) (w5 : a5.size ≤ maxLen) (w6 : a6.size ≤ maxLen) (w7 : a7.size ≤ maxLen) (w8 : a8.size ≤ maxLen) (w9 : a9.size ≤ maxLen) (b0 : a0.size ≤ 65536) (b1 : a1.size ≤ 65536) (b2 : a2.size ≤ 65536) (b3 : a3.size ≤ 65536) (b4 : a4.size ≤ 65536) (b5 : a5.size ≤ 65536) (b6 : a6.size ≤ 65536) (b7 : a7.size ≤ 65536) (b8 : a8.size ≤ 65536) (b9 : a9.size ≤ 65536)  (s0 : hasSl a0 = true) :
    Calls Try.prog 4 #[.string a0, .string a1, .string a2, .string a3, .string a4, .string a5, .string a6, .string a7, .string a8, .string a9] w fun e w' => e = .returned (.bool true) ∧ w' = w := by
  go_enter Try.func4, Try.ntmps4
  go_wp2_with fail
  refine (bytes10_any _ _ _ _ _ _ _ _ _ _ _ w0 w1 w2 w3 w4 w5 w6 w7 w8 w9).mono ?_
  rintro e w' ⟨b, rfl, hw⟩
  subst hw
  cases b
  · go_wp2_with fail
    go_ret
    exact ⟨rfl, rfl⟩
  go_wp2_with fail
  refine (slash_any _ _ w0).mono ?_
  rw [s0]
  rintro e ux ⟨rfl, hux⟩
  subst hux
  go_wp2_with fail
  all_goals
    go_ret
    exact ⟨rfl, rfl⟩

set_option maxRecDepth 100000 in
set_option maxHeartbeats 1000000 in
theorem two_sl1 (a0 a1 a2 a3 a4 a5 a6 a7 a8 a9 : ByteArray) (w : World) (w0 : a0.size ≤ maxLen) (w1 : a1.size ≤ maxLen) (w2 : a2.size ≤ maxLen) (w3 : a3.size ≤ maxLen) (w4 : a4.size ≤ maxLen) (w5 : a5.size ≤ maxLen) (w6 : a6.size ≤ maxLen) (w7 : a7.size ≤ maxLen) (w8 : a8.size ≤ maxLen) (w9 : a9.size ≤ maxLen) (b0 : a0.size ≤ 65536) (b1 : a1.size ≤ 65536) (b2 : a2.size ≤ 65536) (b3 : a3.size ≤ 65536) (b4 : a4.size ≤ 65536) (b5 : a5.size ≤ 65536) (b6 : a6.size ≤ 65536) (b7 : a7.size ≤ 65536) (b8 : a8.size ≤ 65536) (b9 : a9.size ≤ 65536) (s0 : hasSl a0 = false) (s1 : hasSl a1 = true) :
    Calls Try.prog 4 #[.string a0, .string a1, .string a2, .string a3, .string a4, .string a5, .string a6, .string a7, .string a8, .string a9] w fun e w' => e = .returned (.bool true) ∧ w' = w := by
  go_enter Try.func4, Try.ntmps4
  go_wp2_with fail
  refine (bytes10_any _ _ _ _ _ _ _ _ _ _ _ w0 w1 w2 w3 w4 w5 w6 w7 w8 w9).mono ?_
  rintro e w' ⟨b, rfl, hw⟩
  subst hw
  cases b
  · go_wp2_with fail
    go_ret
    exact ⟨rfl, rfl⟩
  go_wp2_with fail
  refine (slash_any _ _ w0).mono ?_
  rw [s0]
  rintro e ux ⟨rfl, hux⟩
  subst hux
  go_wp2_with fail
  refine (slash_any _ _ w1).mono ?_
  rw [s1]
  rintro e ux ⟨rfl, hux⟩
  subst hux
  go_wp2_with fail
  all_goals
    go_ret
    exact ⟨rfl, rfl⟩

set_option maxRecDepth 100000 in
set_option maxHeartbeats 1000000 in
theorem two_sl2 (a0 a1 a2 a3 a4 a5 a6 a7 a8 a9 : ByteArray) (w : World) (w0 : a0.size ≤ maxLen) (w1 : a1.size ≤ maxLen) (w2 : a2.size ≤ maxLen) (w3 : a3.size ≤ maxLen) (w4 : a4.size ≤ maxLen) (w5 : a5.size ≤ maxLen) (w6 : a6.size ≤ maxLen) (w7 : a7.size ≤ maxLen) (w8 : a8.size ≤ maxLen) (w9 : a9.size ≤ maxLen) (b0 : a0.size ≤ 65536) (b1 : a1.size ≤ 65536) (b2 : a2.size ≤ 65536) (b3 : a3.size ≤ 65536) (b4 : a4.size ≤ 65536) (b5 : a5.size ≤ 65536) (b6 : a6.size ≤ 65536) (b7 : a7.size ≤ 65536) (b8 : a8.size ≤ 65536) (b9 : a9.size ≤ 65536) (s0 : hasSl a0 = false) (s1 : hasSl a1 = false) (s2 : hasSl a2 = true) :
    Calls Try.prog 4 #[.string a0, .string a1, .string a2, .string a3, .string a4, .string a5, .string a6, .string a7, .string a8, .string a9] w fun e w' => e = .returned (.bool true) ∧ w' = w := by
  go_enter Try.func4, Try.ntmps4
  go_wp2_with fail
  refine (bytes10_any _ _ _ _ _ _ _ _ _ _ _ w0 w1 w2 w3 w4 w5 w6 w7 w8 w9).mono ?_
  rintro e w' ⟨b, rfl, hw⟩
  subst hw
  cases b
  · go_wp2_with fail
    go_ret
    exact ⟨rfl, rfl⟩
  go_wp2_with fail
  refine (slash_any _ _ w0).mono ?_
  rw [s0]
  rintro e ux ⟨rfl, hux⟩
  subst hux
  go_wp2_with fail
  refine (slash_any _ _ w1).mono ?_
  rw [s1]
  rintro e ux ⟨rfl, hux⟩
  subst hux
  go_wp2_with fail
  refine (slash_any _ _ w2).mono ?_
  rw [s2]
  rintro e ux ⟨rfl, hux⟩
  subst hux
  go_wp2_with fail
  all_goals
    go_ret
    exact ⟨rfl, rfl⟩

set_option maxRecDepth 100000 in
set_option maxHeartbeats 1000000 in
theorem two_sl3 (a0 a1 a2 a3 a4 a5 a6 a7 a8 a9 : ByteArray) (w : World) (w0 : a0.size ≤ maxLen) (w1 : a1.size ≤ maxLen) (w2 : a2.size ≤ maxLen) (w3 : a3.size ≤ maxLen) (w4 : a4.size ≤ maxLen) (w5 : a5.size ≤ maxLen) (w6 : a6.size ≤ maxLen) (w7 : a7.size ≤ maxLen) (w8 : a8.size ≤ maxLen) (w9 : a9.size ≤ maxLen) (b0 : a0.size ≤ 65536) (b1 : a1.size ≤ 65536) (b2 : a2.size ≤ 65536) (b3 : a3.size ≤ 65536) (b4 : a4.size ≤ 65536) (b5 : a5.size ≤ 65536) (b6 : a6.size ≤ 65536) (b7 : a7.size ≤ 65536) (b8 : a8.size ≤ 65536) (b9 : a9.size ≤ 65536) (s0 : hasSl a0 = false) (s1 : hasSl a1 = false) (s2 : hasSl a2 = false) (s3 : hasSl a3 = true) :
    Calls Try.prog 4 #[.string a0, .string a1, .string a2, .string a3, .string a4, .string a5, .string a6, .string a7, .string a8, .string a9] w fun e w' => e = .returned (.bool true) ∧ w' = w := by
  go_enter Try.func4, Try.ntmps4
  go_wp2_with fail
  refine (bytes10_any _ _ _ _ _ _ _ _ _ _ _ w0 w1 w2 w3 w4 w5 w6 w7 w8 w9).mono ?_
  rintro e w' ⟨b, rfl, hw⟩
  subst hw
  cases b
  · go_wp2_with fail
    go_ret
    exact ⟨rfl, rfl⟩
  go_wp2_with fail
  refine (slash_any _ _ w0).mono ?_
  rw [s0]
  rintro e ux ⟨rfl, hux⟩
  subst hux
  go_wp2_with fail
  refine (slash_any _ _ w1).mono ?_
  rw [s1]
  rintro e ux ⟨rfl, hux⟩
  subst hux
  go_wp2_with fail
  refine (slash_any _ _ w2).mono ?_
  rw [s2]
  rintro e ux ⟨rfl, hux⟩
  subst hux
  go_wp2_with fail
  refine (slash_any _ _ w3).mono ?_
  rw [s3]
  rintro e ux ⟨rfl, hux⟩
  subst hux
  go_wp2_with fail
  all_goals
    go_ret
    exact ⟨rfl, rfl⟩

set_option maxRecDepth 100000 in
set_option maxHeartbeats 1000000 in
theorem two_sl5 (a0 a1 a2 a3 a4 a5 a6 a7 a8 a9 : ByteArray) (w : World) (w0 : a0.size ≤ maxLen) (w1 : a1.size ≤ maxLen) (w2 : a2.size ≤ maxLen) (w3 : a3.size ≤ maxLen) (w4 : a4.size ≤ maxLen) (w5 : a5.size ≤ maxLen) (w6 : a6.size ≤ maxLen) (w7 : a7.size ≤ maxLen) (w8 : a8.size ≤ maxLen) (w9 : a9.size ≤ maxLen) (b0 : a0.size ≤ 65536) (b1 : a1.size ≤ 65536) (b2 : a2.size ≤ 65536) (b3 : a3.size ≤ 65536) (b4 : a4.size ≤ 65536) (b5 : a5.size ≤ 65536) (b6 : a6.size ≤ 65536) (b7 : a7.size ≤ 65536) (b8 : a8.size ≤ 65536) (b9 : a9.size ≤ 65536) (s0 : hasSl a0 = false) (s1 : hasSl a1 = false) (s2 : hasSl a2 = false) (s3 : hasSl a3 = false) (s5 : hasSl a5 = true) :
    Calls Try.prog 4 #[.string a0, .string a1, .string a2, .string a3, .string a4, .string a5, .string a6, .string a7, .string a8, .string a9] w fun e w' => e = .returned (.bool true) ∧ w' = w := by
  go_enter Try.func4, Try.ntmps4
  go_wp2_with fail
  refine (bytes10_any _ _ _ _ _ _ _ _ _ _ _ w0 w1 w2 w3 w4 w5 w6 w7 w8 w9).mono ?_
  rintro e w' ⟨b, rfl, hw⟩
  subst hw
  cases b
  · go_wp2_with fail
    go_ret
    exact ⟨rfl, rfl⟩
  go_wp2_with fail
  refine (slash_any _ _ w0).mono ?_
  rw [s0]
  rintro e ux ⟨rfl, hux⟩
  subst hux
  go_wp2_with fail
  refine (slash_any _ _ w1).mono ?_
  rw [s1]
  rintro e ux ⟨rfl, hux⟩
  subst hux
  go_wp2_with fail
  refine (slash_any _ _ w2).mono ?_
  rw [s2]
  rintro e ux ⟨rfl, hux⟩
  subst hux
  go_wp2_with fail
  refine (slash_any _ _ w3).mono ?_
  rw [s3]
  rintro e ux ⟨rfl, hux⟩
  subst hux
  go_wp2_with fail
  refine (slash_any _ _ w5).mono ?_
  rw [s5]
  rintro e ux ⟨rfl, hux⟩
  subst hux
  go_wp2_with fail
  all_goals
    go_ret
    exact ⟨rfl, rfl⟩

set_option maxRecDepth 100000 in
set_option maxHeartbeats 1000000 in
theorem two_sl6 (a0 a1 a2 a3 a4 a5 a6 a7 a8 a9 : ByteArray) (w : World) (w0 : a0.size ≤ maxLen) (w1 : a1.size ≤ maxLen) (w2 : a2.size ≤ maxLen) (w3 : a3.size ≤ maxLen) (w4 : a4.size ≤ maxLen) (w5 : a5.size ≤ maxLen) (w6 : a6.size ≤ maxLen) (w7 : a7.size ≤ maxLen) (w8 : a8.size ≤ maxLen) (w9 : a9.size ≤ maxLen) (b0 : a0.size ≤ 65536) (b1 : a1.size ≤ 65536) (b2 : a2.size ≤ 65536) (b3 : a3.size ≤ 65536) (b4 : a4.size ≤ 65536) (b5 : a5.size ≤ 65536) (b6 : a6.size ≤ 65536) (b7 : a7.size ≤ 65536) (b8 : a8.size ≤ 65536) (b9 : a9.size ≤ 65536) (s0 : hasSl a0 = false) (s1 : hasSl a1 = false) (s2 : hasSl a2 = false) (s3 : hasSl a3 = false) (s5 : hasSl a5 = false) (s6 : hasSl a6 = true) :
    Calls Try.prog 4 #[.string a0, .string a1, .string a2, .string a3, .string a4, .string a5, .string a6, .string a7, .string a8, .string a9] w fun e w' => e = .returned (.bool true) ∧ w' = w := by
  go_enter Try.func4, Try.ntmps4
  go_wp2_with fail
  refine (bytes10_any _ _ _ _ _ _ _ _ _ _ _ w0 w1 w2 w3 w4 w5 w6 w7 w8 w9).mono ?_
  rintro e w' ⟨b, rfl, hw⟩
  subst hw
  cases b
  · go_wp2_with fail
    go_ret
    exact ⟨rfl, rfl⟩
  go_wp2_with fail
  refine (slash_any _ _ w0).mono ?_
  rw [s0]
  rintro e ux ⟨rfl, hux⟩
  subst hux
  go_wp2_with fail
  refine (slash_any _ _ w1).mono ?_
  rw [s1]
  rintro e ux ⟨rfl, hux⟩
  subst hux
  go_wp2_with fail
  refine (slash_any _ _ w2).mono ?_
  rw [s2]
  rintro e ux ⟨rfl, hux⟩
  subst hux
  go_wp2_with fail
  refine (slash_any _ _ w3).mono ?_
  rw [s3]
  rintro e ux ⟨rfl, hux⟩
  subst hux
  go_wp2_with fail
  refine (slash_any _ _ w5).mono ?_
  rw [s5]
  rintro e ux ⟨rfl, hux⟩
  subst hux
  go_wp2_with fail
  refine (slash_any _ _ w6).mono ?_
  rw [s6]
  rintro e ux ⟨rfl, hux⟩
  subst hux
  go_wp2_with fail
  all_goals
    go_ret
    exact ⟨rfl, rfl⟩

set_option maxRecDepth 100000 in
set_option maxHeartbeats 1000000 in
theorem two_sl7 (a0 a1 a2 a3 a4 a5 a6 a7 a8 a9 : ByteArray) (w : World) (w0 : a0.size ≤ maxLen) (w1 : a1.size ≤ maxLen) (w2 : a2.size ≤ maxLen) (w3 : a3.size ≤ maxLen) (w4 : a4.size ≤ maxLen) (w5 : a5.size ≤ maxLen) (w6 : a6.size ≤ maxLen) (w7 : a7.size ≤ maxLen) (w8 : a8.size ≤ maxLen) (w9 : a9.size ≤ maxLen) (b0 : a0.size ≤ 65536) (b1 : a1.size ≤ 65536) (b2 : a2.size ≤ 65536) (b3 : a3.size ≤ 65536) (b4 : a4.size ≤ 65536) (b5 : a5.size ≤ 65536) (b6 : a6.size ≤ 65536) (b7 : a7.size ≤ 65536) (b8 : a8.size ≤ 65536) (b9 : a9.size ≤ 65536) (s0 : hasSl a0 = false) (s1 : hasSl a1 = false) (s2 : hasSl a2 = false) (s3 : hasSl a3 = false) (s5 : hasSl a5 = false) (s6 : hasSl a6 = false) (s7 : hasSl a7 = true) :
    Calls Try.prog 4 #[.string a0, .string a1, .string a2, .string a3, .string a4, .string a5, .string a6, .string a7, .string a8, .string a9] w fun e w' => e = .returned (.bool true) ∧ w' = w := by
  go_enter Try.func4, Try.ntmps4
  go_wp2_with fail
  refine (bytes10_any _ _ _ _ _ _ _ _ _ _ _ w0 w1 w2 w3 w4 w5 w6 w7 w8 w9).mono ?_
  rintro e w' ⟨b, rfl, hw⟩
  subst hw
  cases b
  · go_wp2_with fail
    go_ret
    exact ⟨rfl, rfl⟩
  go_wp2_with fail
  refine (slash_any _ _ w0).mono ?_
  rw [s0]
  rintro e ux ⟨rfl, hux⟩
  subst hux
  go_wp2_with fail
  refine (slash_any _ _ w1).mono ?_
  rw [s1]
  rintro e ux ⟨rfl, hux⟩
  subst hux
  go_wp2_with fail
  refine (slash_any _ _ w2).mono ?_
  rw [s2]
  rintro e ux ⟨rfl, hux⟩
  subst hux
  go_wp2_with fail
  refine (slash_any _ _ w3).mono ?_
  rw [s3]
  rintro e ux ⟨rfl, hux⟩
  subst hux
  go_wp2_with fail
  refine (slash_any _ _ w5).mono ?_
  rw [s5]
  rintro e ux ⟨rfl, hux⟩
  subst hux
  go_wp2_with fail
  refine (slash_any _ _ w6).mono ?_
  rw [s6]
  rintro e ux ⟨rfl, hux⟩
  subst hux
  go_wp2_with fail
  refine (slash_any _ _ w7).mono ?_
  rw [s7]
  rintro e ux ⟨rfl, hux⟩
  subst hux
  go_wp2_with fail
  all_goals
    go_ret
    exact ⟨rfl, rfl⟩

set_option maxRecDepth 100000 in
set_option maxHeartbeats 1000000 in
theorem two_sl8 (a0 a1 a2 a3 a4 a5 a6 a7 a8 a9 : ByteArray) (w : World) (w0 : a0.size ≤ maxLen) (w1 : a1.size ≤ maxLen) (w2 : a2.size ≤ maxLen) (w3 : a3.size ≤ maxLen) (w4 : a4.size ≤ maxLen) (w5 : a5.size ≤ maxLen) (w6 : a6.size ≤ maxLen) (w7 : a7.size ≤ maxLen) (w8 : a8.size ≤ maxLen) (w9 : a9.size ≤ maxLen) (b0 : a0.size ≤ 65536) (b1 : a1.size ≤ 65536) (b2 : a2.size ≤ 65536) (b3 : a3.size ≤ 65536) (b4 : a4.size ≤ 65536) (b5 : a5.size ≤ 65536) (b6 : a6.size ≤ 65536) (b7 : a7.size ≤ 65536) (b8 : a8.size ≤ 65536) (b9 : a9.size ≤ 65536) (s0 : hasSl a0 = false) (s1 : hasSl a1 = false) (s2 : hasSl a2 = false) (s3 : hasSl a3 = false) (s5 : hasSl a5 = false) (s6 : hasSl a6 = false) (s7 : hasSl a7 = false) (s8 : hasSl a8 = true) :
    Calls Try.prog 4 #[.string a0, .string a1, .string a2, .string a3, .string a4, .string a5, .string a6, .string a7, .string a8, .string a9] w fun e w' => e = .returned (.bool true) ∧ w' = w := by
  go_enter Try.func4, Try.ntmps4
  go_wp2_with fail
  refine (bytes10_any _ _ _ _ _ _ _ _ _ _ _ w0 w1 w2 w3 w4 w5 w6 w7 w8 w9).mono ?_
  rintro e w' ⟨b, rfl, hw⟩
  subst hw
  cases b
  · go_wp2_with fail
    go_ret
    exact ⟨rfl, rfl⟩
  go_wp2_with fail
  refine (slash_any _ _ w0).mono ?_
  rw [s0]
  rintro e ux ⟨rfl, hux⟩
  subst hux
  go_wp2_with fail
  refine (slash_any _ _ w1).mono ?_
  rw [s1]
  rintro e ux ⟨rfl, hux⟩
  subst hux
  go_wp2_with fail
  refine (slash_any _ _ w2).mono ?_
  rw [s2]
  rintro e ux ⟨rfl, hux⟩
  subst hux
  go_wp2_with fail
  refine (slash_any _ _ w3).mono ?_
  rw [s3]
  rintro e ux ⟨rfl, hux⟩
  subst hux
  go_wp2_with fail
  refine (slash_any _ _ w5).mono ?_
  rw [s5]
  rintro e ux ⟨rfl, hux⟩
  subst hux
  go_wp2_with fail
  refine (slash_any _ _ w6).mono ?_
  rw [s6]
  rintro e ux ⟨rfl, hux⟩
  subst hux
  go_wp2_with fail
  refine (slash_any _ _ w7).mono ?_
  rw [s7]
  rintro e ux ⟨rfl, hux⟩
  subst hux
  go_wp2_with fail
  refine (slash_any _ _ w8).mono ?_
  rw [s8]
  rintro e ux ⟨rfl, hux⟩
  subst hux
  go_wp2_with fail
  all_goals
    go_ret
    exact ⟨rfl, rfl⟩

end Go.Proofs.Qxb6625893a
