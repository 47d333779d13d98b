import Derived.Test.Qxb6626316aBase
namespace Go.Proofs.Qxb6626316a
open Go.RowKit

/-- a bool comes back -/
def SomeBool (e : Ending) : Prop := ∃ b, e = .returned (.bool b)

set_option maxRecDepth 100000 in
set_option maxHeartbeats 1000000 in
theorem bytes5_any (s : ByteArray) (role res : Int) (ap : Option Addr) (np cp : Nat) (vn : Value) (ns : List Value) (av : Option Addr) (nv cv : Nat) (ac : Option Addr) (nc cc : Nat) (i k : Int) (w : World)
    (hr : Row w vn ns) (h1 : ∀ x ∈ ns, ∃ u, x = .string u) :
    Calls Try.prog 5 #[.string s, .int .u8 role, .slice ap np cp, vn, .int .u32 res, .slice av nv cv, .slice ac nc cc, .int .i64 i, .int .i64 k] w fun e w' => SomeBool e ∧ w' = w := by
  obtain ⟨ao, c, rfl⟩ := hr.form
  by_cases hp : 0 < ns.length
  · obtain ⟨b, off, ha, hb, hc⟩ := hr.at hp
    subst ha
    have Hc : Hid (∀ k, k < ns.length → ∃ u, w.cell? ⟨b, off + k, none⟩ = some (.string u)) := fun k hk => by
      obtain ⟨u, hu⟩ := h1 _ (List.getElem_mem hk)
      exact ⟨u, by rw [← hu]; exact hc k hk⟩
    clear hc hr h1
    go_enter Try.func5, Try.ntmps5
    go_wp2
    all_goals first
      | (go_ret; exact ⟨⟨_, rfl⟩, rfl⟩)
      | skip
    go_loop [19, 20] (fun t i => ∃ (k : Nat) (z : Int), k ≤ ns.length ∧ i = .int .i64 k ∧ t = .int .i64 z) (fun _ i => ns.length - (intOf i).toNat)
    case atStart => exact ⟨0, _, Nat.zero_le _, rfl, rfl⟩
    case round =>
      obtain ⟨k, z, hk, rfl, rfl⟩ := hrel
      by_cases hlt : k < ns.length
      · obtain ⟨u, hcu⟩ := Hc.out k hlt
        go_wp2
        all_goals first
          | (go_ret; exact ⟨⟨_, rfl⟩, rfl⟩)
          | (go_round
             case rel => exact ⟨k + 1, _, by omega, by go_num, rfl⟩
             case measure => simp [intOf]; omega)
      · go_wp2
        all_goals
          go_ret
          exact ⟨⟨_, rfl⟩, rfl⟩
  · have hx : ns = [] := List.eq_nil_of_length_eq_zero (by omega)
    subst hx
    simp only [List.length_nil] at *
    go_enter Try.func5, Try.ntmps5
    go_wp2
    all_goals first
      | (go_ret; exact ⟨⟨_, rfl⟩, rfl⟩)
      | skip
    refine wp_loop_rounds 1 ?_
    rw [rounds_succ]
    go_wp2
    all_goals
      go_ret
      exact ⟨⟨_, rfl⟩, rfl⟩

set_option maxRecDepth 100000 in
set_option maxHeartbeats 1000000 in
theorem bytes11_any (s : ByteArray) (role res : Int) (ap : Option Addr) (np cp : Nat) (vn : Value) (ns : List Value) (av : Option Addr) (nv cv : Nat) (ac : Option Addr) (nc cc : Nat) (i j t : Int) (w : World)
    (hr : Row w vn ns) (h1 : ∀ x ∈ ns, ∃ u, x = .string u) :
    Calls Try.prog 11 #[.string s, .int .u8 role, .slice ap np cp, vn, .int .u32 res, .slice av nv cv, .slice ac nc cc, .int .i64 i, .int .i64 j, .int .u32 t] w fun e w' => SomeBool e ∧ w' = w := by
  obtain ⟨ao, c, rfl⟩ := hr.form
  by_cases hp : 0 < ns.length
  · obtain ⟨b, off, ha, hb, hc⟩ := hr.at hp
    subst ha
    have Hc : Hid (∀ k, k < ns.length → ∃ u, w.cell? ⟨b, off + k, none⟩ = some (.string u)) := fun k hk => by
      obtain ⟨u, hu⟩ := h1 _ (List.getElem_mem hk)
      exact ⟨u, by rw [← hu]; exact hc k hk⟩
    clear hc hr h1
    go_enter Try.func11, Try.ntmps11
    go_wp2
    all_goals first
      | (go_ret; exact ⟨⟨_, rfl⟩, rfl⟩)
      | skip
    go_loop [21, 22] (fun t i => ∃ (k : Nat) (z : Int), k ≤ ns.length ∧ i = .int .i64 k ∧ t = .int .i64 z) (fun _ i => ns.length - (intOf i).toNat)
    case atStart => exact ⟨0, _, Nat.zero_le _, rfl, rfl⟩
    case round =>
      obtain ⟨k, z, hk, rfl, rfl⟩ := hrel
      by_cases hlt : k < ns.length
      · obtain ⟨u, hcu⟩ := Hc.out k hlt
        go_wp2
        all_goals first
          | (go_ret; exact ⟨⟨_, rfl⟩, rfl⟩)
          | (go_round
             case rel => exact ⟨k + 1, _, by omega, by go_num, rfl⟩
             case measure => simp [intOf]; omega)
      · go_wp2
        all_goals
          go_ret
          exact ⟨⟨_, rfl⟩, rfl⟩
  · have hx : ns = [] := List.eq_nil_of_length_eq_zero (by omega)
    subst hx
    simp only [List.length_nil] at *
    go_enter Try.func11, Try.ntmps11
    go_wp2
    all_goals first
      | (go_ret; exact ⟨⟨_, rfl⟩, rfl⟩)
      | skip
    refine wp_loop_rounds 1 ?_
    rw [rounds_succ]
    go_wp2
    all_goals
      go_ret
      exact ⟨⟨_, rfl⟩, rfl⟩

/-- what a 'not too big' tells -/
def Fits (e : Ending) (np nn nv nc : Nat) : Prop := ∃ b, e = .returned (.bool b) ∧ (b = false → np ≤ 131072 ∧ nn ≤ 65536 ∧ nv ≤ 131072 ∧ nc ≤ 1048576)

set_option maxRecDepth 100000 in
set_option maxHeartbeats 1000000 in
theorem big_early (s : ByteArray) (ap : Option Addr) (np cp : Nat) (an : Option Addr) (nn cn : Nat) (av : Option Addr) (nv cv : Nat) (ac : Option Addr) (nc cc : Nat) (w : World)
    (h : ¬ (s.size ≤ 1048576 ∧ nc ≤ 1048576 ∧ np ≤ 131072 ∧ nv ≤ 131072 ∧ nn ≤ 65536)) :
    Calls Try.prog 6 #[.string s, .slice ap np cp, .slice an nn cn, .slice av nv cv, .slice ac nc cc] w fun e w' => Fits e np nn nv nc ∧ w' = w := by
  by_cases h0 : s.size ≤ 1048576
  · by_cases h1 : nc ≤ 1048576
    · by_cases h2 : np ≤ 131072
      · by_cases h3 : nv ≤ 131072
        · have h4 : 65536 < nn := by omega
          clear h
          go_enter Try.func6, Try.ntmps6
          go_wp2
          go_ret
          exact ⟨⟨true, rfl, fun h => by cases h⟩, rfl⟩
        · have h4 : 131072 < nv := by omega
          clear h h3
          go_enter Try.func6, Try.ntmps6
          go_wp2
          go_ret
          exact ⟨⟨true, rfl, fun h => by cases h⟩, rfl⟩
      · have h4 : 131072 < np := by omega
        clear h h2
        go_enter Try.func6, Try.ntmps6
        go_wp2
        go_ret
        exact ⟨⟨true, rfl, fun h => by cases h⟩, rfl⟩
    · have h4 : 1048576 < nc := by omega
      clear h h1
      go_enter Try.func6, Try.ntmps6
      go_wp2
      go_ret
      exact ⟨⟨true, rfl, fun h => by cases h⟩, rfl⟩
  · have h4 : 1048576 < s.size := by omega
    clear h h0
    go_enter Try.func6, Try.ntmps6
    go_wp2
    go_ret
    exact ⟨⟨true, rfl, fun h => by cases h⟩, rfl⟩

set_option maxRecDepth 100000 in
set_option maxHeartbeats 1000000 in
theorem big_late (s : ByteArray) (ap : Option Addr) (np cp : Nat) (vn : Value) (ns : List Value) (av : Option Addr) (nv cv : Nat) (ac : Option Addr) (nc cc : Nat) (w : World)
    (hr : Row w vn ns) (g1 : ∀ x ∈ ns, ∃ u, x = .string u) (h0 : s.size ≤ 1048576) (h1 : nc ≤ 1048576) (h2 : np ≤ 131072) (h3 : nv ≤ 131072) (h4 : ns.length ≤ 65536) :
    Calls Try.prog 6 #[.string s, .slice ap np cp, vn, .slice av nv cv, .slice ac nc cc] w fun e w' => SomeBool e ∧ w' = w := by
  obtain ⟨ao, c, rfl⟩ := hr.form
  by_cases hp : 0 < ns.length
  · obtain ⟨b, off, ha, hb, hc⟩ := hr.at hp
    subst ha
    have Hc : Hid (∀ k, k < ns.length → ∃ u, w.cell? ⟨b, off + k, none⟩ = some (.string u)) := fun k hk => by
      obtain ⟨u, hu⟩ := g1 _ (List.getElem_mem hk)
      exact ⟨u, by rw [← hu]; exact hc k hk⟩
    clear hc hr g1
    go_enter Try.func6, Try.ntmps6
    go_wp2
    all_goals first
      | (go_ret; exact ⟨⟨_, rfl⟩, rfl⟩)
      | skip
    go_loop [11, 12] (fun t i => ∃ (k : Nat) (z : Int), k ≤ ns.length ∧ i = .int .i64 k ∧ t = .int .i64 z) (fun _ i => ns.length - (intOf i).toNat)
    case atStart => exact ⟨0, _, Nat.zero_le _, rfl, rfl⟩
    case round =>
      obtain ⟨k, z, hk, rfl, rfl⟩ := hrel
      by_cases hlt : k < ns.length
      · obtain ⟨u, hcu⟩ := Hc.out k hlt
        go_wp2
        all_goals first
          | (go_ret; exact ⟨⟨_, rfl⟩, rfl⟩)
          | (go_round
             case rel => exact ⟨k + 1, _, by omega, by go_num, rfl⟩
             case measure => simp [intOf]; omega)
      · go_wp2
        all_goals
          go_ret
          exact ⟨⟨_, rfl⟩, rfl⟩
  · have hx : ns = [] := List.eq_nil_of_length_eq_zero (by omega)
    subst hx
    simp only [List.length_nil] at *
    go_enter Try.func6, Try.ntmps6
    go_wp2
    all_goals first
      | (go_ret; exact ⟨⟨_, rfl⟩, rfl⟩)
      | skip
    refine wp_loop_rounds 1 ?_
    rw [rounds_succ]
    go_wp2
    all_goals
      go_ret
      exact ⟨⟨_, rfl⟩, rfl⟩

theorem big_any (s : ByteArray) (ap : Option Addr) (np cp : Nat) (vn : Value) (ns : List Value) (av : Option Addr) (nv cv : Nat) (ac : Option Addr) (nc cc : Nat) (w : World)
    (hr : Row w vn ns) (g1 : ∀ x ∈ ns, ∃ u, x = .string u) :
    Calls Try.prog 6 #[.string s, .slice ap np cp, vn, .slice av nv cv, .slice ac nc cc] w fun e w' => Fits e np ns.length nv nc ∧ w' = w := by
  by_cases h : s.size ≤ 1048576 ∧ nc ≤ 1048576 ∧ np ≤ 131072 ∧ nv ≤ 131072 ∧ ns.length ≤ 65536
  · obtain ⟨h0, h1, h2, h3, h4⟩ := h
    exact (big_late s ap np cp vn ns av nv cv ac nc cc w hr g1 h0 h1 h2 h3 h4).mono fun e w' ⟨⟨b, hb⟩, hw⟩ => ⟨⟨b, hb, fun _ => ⟨h2, h4, h3, h1⟩⟩, hw⟩
  · obtain ⟨ao, c, rfl⟩ := hr.form
    exact big_early s ap np cp ao ns.length c av nv cv ac nc cc w h

end Go.Proofs.Qxb6626316a
