import Derived.Test.Qxb6626374aSpA
namespace Go.Proofs.Qxb6626374a
open Go.RowKit Split

set_option maxRecDepth 100000 in
set_option maxHeartbeats 1000000 in
theorem split_long (rep bk se : Int) (v : Value) (cs : List Cmd) (kk : Int) (w : World) (h : RowC w v cs) (hn : 4096 < cs.length) :
    Calls Try.prog 3 #[.int .i64 rep, .int .i64 bk, .int .u64 se, v, .int .i64 kk] w fun e w' => e = .returned (.bool true) ∧ Below w.heap.size w w' := by
  obtain ⟨ao, c, rfl⟩ := h.form
  clear h
  go_enter Try.func3, Try.ntmps3
  go_wp2_with fail
  refine (bytes5_any _ _ _ _ _ _ _ _).mono ?_
  rintro e w1 ⟨⟨b, rfl⟩, hw1⟩
  subst hw1
  cases b
  all_goals
    go_wp2_with fail
    go_ret
    exact ⟨rfl, Below.refl _ _⟩

set_option maxRecDepth 100000 in
set_option maxHeartbeats 4000000 in
theorem split_out (rep bk se : Int) (v : Value) (cs : List Cmd) (kk : Int) (w : World) (h : RowC w v cs) (hn : cs.length ≤ 4096) (ho : kk < 0 ∨ (0 ≤ kk ∧ (cs.length : Int) < kk)) :
    Calls Try.prog 3 #[.int .i64 rep, .int .i64 bk, .int .u64 se, v, .int .i64 kk] w fun e w' => e = .returned (.bool true) ∧ Below w.heap.size w w' := by
  obtain ⟨ao, c, rfl⟩ := h.form
  have Hr : Hid (RowC w (.slice ao cs.length c) cs) := h
  have HO : Hid (kk < 0 ∨ (0 ≤ kk ∧ (cs.length : Int) < kk)) := ho
  clear h ho
  go_enter Try.func3, Try.ntmps3
  go_wp2_with fail
  refine (bytes5_any _ _ _ _ _ _ _ _).mono ?_
  rintro e w1 ⟨⟨b, rfl⟩, hw1⟩
  subst hw1
  cases b
  · go_wp2_with fail
    go_ret
    exact ⟨rfl, Below.refl _ _⟩
  go_wp2_with fail
  go_loopw [11] (fun i wr => ∃ k : Nat, k ≤ cs.length ∧ i = .int .i64 k ∧ w1 = wr) (fun i _ => cs.length - (intOf i).toNat)
  case atStart => exact ⟨0, Nat.zero_le _, rfl, rfl⟩
  case round =>
    obtain ⟨k, hk, rfl, rfl⟩ := hrel
    by_cases hlt : k < cs.length
    · obtain ⟨b, off, rfl, hbl, hc⟩ := Hr.out.at (by omega)
      obtain ⟨⟨ix, ls, al, ms, bs⟩, hck⟩ : ∃ ck, ck = cs[k] := ⟨_, rfl⟩
      have hr := hc k hlt
      rw [← hck] at hr
      obtain ⟨r0, r1, r2, r3, r4⟩ := range5 hr
      simp only at r0 r1 r2 r3 r4
      clear hc hck hr
      go_wp2_with fail
      refine (range_any _ _).mono ?_
      rintro e w2 ⟨⟨b1, rfl, -⟩, hw2⟩
      subst hw2
      cases b1
      case true =>
        go_wp2_with fail
        go_ret
        exact ⟨rfl, Below.refl _ _⟩
      go_wp2_with fail
      refine (range_any _ _).mono ?_
      rintro e w3 ⟨⟨b2, rfl, -⟩, hw3⟩
      subst hw3
      cases b2
      case true =>
        go_wp2_with fail
        go_ret
        exact ⟨rfl, Below.refl _ _⟩
      go_wp2_with fail
      go_roundw
      case rel => exact ⟨k + 1, by omega, by go_num, trivial⟩
      case measure => simp [intOf]; omega
    · have hkn : k = cs.length := by omega
      subst hkn
      rcases HO.out with h | ⟨h0, h⟩
      all_goals
        go_wp2_with fail
        go_ret
        exact ⟨rfl, Below.refl _ _⟩

end Go.Proofs.Qxb6626374a
