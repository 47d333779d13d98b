import Derived.Test.Qxb6626222aMem
namespace Go.Proofs.Qxb6626222a
open Go.RowKit

/-- is x among zs? -/
def hasI (zs : List Int) (x : Int) : Bool := zs.contains x

theorem in_next {zs : List Int} {x : Int} (k : Nat) (h : k < zs.length) (hn : x ∉ zs.take k) (he : zs[k] ≠ x) : x ∉ zs.take (k + 1) := by
  rw [List.take_succ_eq_append_getElem h, List.mem_append, List.mem_singleton]
  rintro (h1 | h1)
  · exact hn h1
  · exact he h1.symm
theorem in_hit {zs : List Int} {x : Int} (k : Nat) (h : k < zs.length) (he : zs[k] = x) : hasI zs x = true := by
  rw [hasI, List.contains_eq_mem, decide_eq_true_eq, ← he]
  exact List.getElem_mem h
theorem in_end {zs : List Int} {x : Int} (k : Nat) (h : ¬ k < zs.length) (hn : x ∉ zs.take k) : hasI zs x = false := by
  rw [List.take_of_length_le (by omega)] at hn
  rw [hasI, List.contains_eq_mem, decide_eq_false_iff_not]
  exact hn

set_option maxHeartbeats 1000000 in
theorem holds_any (iv : Value) (zs : List Int) (x : Int) (w : World) (hr : Row w iv (zs.map (Value.int .i32))) (hn : zs.length ≤ 9223372036854775807) :
    Calls Try.prog 15 #[iv, .int .i32 x] w fun e w' => e = .returned (.bool (hasI zs x)) ∧ w' = w := by
  obtain ⟨ao, c, rfl⟩ := hr.form
  have Hr : Hid (Row w (.slice ao (zs.map (Value.int .i32)).length c) (zs.map (Value.int .i32))) := hr
  clear hr
  simp only [List.length_map] at *
  go_enter Try.func15, Try.ntmps15
  go_wp2
  go_loop [5] (fun i => ∃ k : Nat, k ≤ zs.length ∧ i = .int .i64 k ∧ Hid (x ∉ zs.take k)) (fun i => zs.length - (intOf i).toNat)
  case atStart => exact ⟨0, Nat.zero_le _, rfl, by simp [Hid]⟩
  case round =>
    obtain ⟨k, hk, rfl, hx⟩ := hrel
    by_cases hlt : k < zs.length
    · obtain ⟨b, off, rfl, hb, hc⟩ := Hr.out.at (by simp; omega)
      have hcell := Row.ints hc k hlt
      clear hc
      obtain ⟨u, hu⟩ : ∃ u, zs[k] = u := ⟨_, rfl⟩
      rw [hu] at hcell
      have HU : Hid (zs[k] = u) := hu
      clear hu
      cases he : (u == x)
      · go_wp2
        go_round
        case rel => exact ⟨k + 1, by omega, by go_num, in_next k hlt hx.out (by rw [HU.out]; simpa using he)⟩
        case measure => simp [intOf]; omega
      · go_wp2
        go_ret
        exact ⟨ret_bool (in_hit k hlt (by rw [HU.out]; simpa using he)).symm, rfl⟩
    · go_wp2
      go_ret
      exact ⟨ret_bool (in_end k hlt hx.out).symm, rfl⟩

/-- an index, or -1 -/
def IdxOf (e : Ending) (zs : List Int) (x : Int) : Prop := ∃ r : Int, e = .returned (.int .i64 r) ∧ decide (0 ≤ r) = hasI zs x

set_option maxHeartbeats 1000000 in
theorem index_any (iv : Value) (zs : List Int) (x : Int) (w : World) (hr : Row w iv (zs.map (Value.int .i32))) (hn : zs.length ≤ 9223372036854775807) :
    Calls Try.prog 17 #[iv, .int .i32 x] w fun e w' => IdxOf e zs x ∧ w' = w := by
  obtain ⟨ao, c, rfl⟩ := hr.form
  have Hr : Hid (Row w (.slice ao (zs.map (Value.int .i32)).length c) (zs.map (Value.int .i32))) := hr
  clear hr
  simp only [List.length_map] at *
  go_enter Try.func17, Try.ntmps17
  go_wp2
  go_loop [8] (fun i => ∃ k : Nat, k ≤ zs.length ∧ i = .int .i64 k ∧ Hid (x ∉ zs.take k)) (fun i => zs.length - (intOf i).toNat)
  case atStart => exact ⟨0, Nat.zero_le _, rfl, by simp [Hid]⟩
  case round =>
    obtain ⟨k, hk, rfl, hx⟩ := hrel
    by_cases hlt : k < zs.length
    · obtain ⟨b, off, rfl, hb, hc⟩ := Hr.out.at (by simp; omega)
      have hcell := Row.ints hc k hlt
      clear hc
      obtain ⟨u, hu⟩ : ∃ u, zs[k] = u := ⟨_, rfl⟩
      rw [hu] at hcell
      have HU : Hid (zs[k] = u) := hu
      clear hu
      cases he : (x == u)
      · go_wp2
        go_round
        case rel => exact ⟨k + 1, by omega, by go_num, in_next k hlt hx.out (by rw [HU.out]; simp at he; exact fun h => he h.symm)⟩
        case measure => simp [intOf]; omega
      · go_wp2
        go_ret
        exact ⟨⟨_, rfl, by rw [in_hit k hlt (by rw [HU.out]; simp at he; exact he.symm)]; simp⟩, rfl⟩
    · go_wp2
      go_ret
      exact ⟨⟨_, rfl, by rw [in_end k hlt hx.out]; simp⟩, rfl⟩

set_option maxHeartbeats 1000000 in
theorem contains_any (iv : Value) (zs : List Int) (x : Int) (w : World) (hr : Row w iv (zs.map (Value.int .i32))) (hn : zs.length ≤ 9223372036854775807) :
    Calls Try.prog 12 #[iv, .int .i32 x] w fun e w' => e = .returned (.bool (hasI zs x)) ∧ w' = w := by
  have Hr : Hid (Row w iv (zs.map (Value.int .i32))) := hr
  clear hr
  go_enter Try.func12, Try.ntmps12
  go_wp2_with fail
  refine (index_any _ _ _ _ Hr.out hn).mono ?_
  rintro e w1 ⟨⟨r, rfl, hr⟩, hw⟩
  subst hw
  have HR : Hid (decide (0 ≤ r) = hasI zs x) := hr
  clear hr
  go_wp2_with fail
  go_ret
  exact ⟨ret_bool HR.out, rfl⟩

end Go.Proofs.Qxb6626222a
