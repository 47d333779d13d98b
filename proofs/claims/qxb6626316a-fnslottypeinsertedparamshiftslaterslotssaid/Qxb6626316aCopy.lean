import Derived.Test.Qxb6626316aBase
namespace Go.Proofs.Qxb6626316a
open Go.RowKit

set_option maxHeartbeats 1000000 in
theorem copy7_any (v : Value) (xs : List Value) (w : World) (h : Row w v xs) (hn : xs.length ≤ 1000000000) (h1 : ∀ x ∈ xs, ∃ u, x = .int .u32 u) :
    Calls Try.prog 7 #[v] w fun e w' => ∃ rv, e = .returned rv ∧ Row w' rv xs ∧ Below w.heap.size w w' := by
  obtain ⟨ao, c, rfl⟩ := h.form
  have hmk := fun w => make28 w xs xs.length hn
  have heq := fun w (a : Option Addr) (n c : Nat) => Lib.run_eql_slice_nil (P := Try.prog) w 22 24 a n c 0 0 Try.underlying22
  cases ao with
  | none =>
    have hx : xs = [] := by
      rcases h with ⟨_, h⟩ | ⟨a, c, h, _⟩
      · exact h
      · simp at h
    subst hx
    go_enter Try.func7, Try.ntmps7
    go_wp2
    go_ret
    exact ⟨_, rfl, Or.inl ⟨rfl, rfl⟩, Below.refl _ _⟩
  | some a =>
    by_cases hp : 0 < xs.length
    · obtain ⟨b, off, ha, hb, hc⟩ := h.at hp
      cases ha
      have hcell : ∀ k, k < xs.length → ∃ u, w.cell? ⟨b, off + k, none⟩ = some (.int .u32 u) ∧ xs[k]? = some (.int .u32 u) := fun k hk => by
        obtain ⟨u, hu⟩ := h1 _ (List.getElem_mem hk)
        exact ⟨u, by rw [← hu]; exact hc k hk, by rw [← hu]; exact List.getElem?_eq_getElem hk⟩
      have Hc : Hid (∀ k, k < xs.length → ∃ u, w.cell? ⟨b, off + k, none⟩ = some (.int .u32 u) ∧ xs[k]? = some (.int .u32 u)) := hcell
      clear hc hcell h h1
      go_enter Try.func7, Try.ntmps7
      go_wp2
      go_loopw [4] (fun a wr => ∃ k : Nat, k ≤ xs.length ∧ a = .int .i64 k ∧ wr = w.alloc (.cells (filled xs (.int .u32 0) xs.length k) 29)) (fun a _ => xs.length - (intOf a).toNat)
      case atStart => exact ⟨0, Nat.zero_le _, rfl, rfl⟩
      case round =>
        obtain ⟨k, hk, rfl, rfl⟩ := hrel
        by_cases hlt : k < xs.length
        · obtain ⟨u, hcu, hxu⟩ := Hc.out k hlt
          have hfa := filled_at xs (.int .u32 0) xs.length k (by omega) hlt
          have Hs : Hid ((filled xs (.int .u32 0) xs.length k).setIfInBounds k (.int .u32 u) = filled xs (.int .u32 0) xs.length (k + 1)) := by
            have := filled_set xs (.int .u32 0) xs.length k hlt hlt
            rw [List.getElem?_eq_getElem hlt] at hxu
            rw [Option.some.inj hxu] at this
            exact this
          clear hxu
          go_wp2
          go_roundw
          case rel => exact ⟨k + 1, by omega, by go_num, by rw [Hs.out]⟩
          case measure => simp [intOf]; omega
        · have hkn : k = xs.length := by omega
          go_wp2
          go_ret
          subst hkn
          exact ⟨_, rfl, by rw [filled_full]; exact row_new _ _ _, (Below.refl _ _).alloc (Nat.le_refl _) _⟩
    · have hx : xs = [] := List.eq_nil_of_length_eq_zero (by omega)
      subst hx
      have hmk0 : ∀ w, (Instr.makeSlice 28 (.int .i64 0) (.int .i64 0)).run Try.prog w = .ok (.slice (some ⟨w.heap.size, 0, none⟩) 0 0) (w.alloc (.cells (filled [] (.int .u32 0) 0 0) 29)) := fun w => make28 w [] 0 (by omega)
      clear hmk
      simp only [List.length_nil] at *
      go_enter Try.func7, Try.ntmps7
      go_wp2
      refine wp_loop_rounds 1 ?_
      rw [rounds_succ]
      go_wp2
      go_ret
      exact ⟨_, rfl, Or.inr ⟨_, _, rfl, fun j hj => by simp at hj⟩, (Below.refl _ _).alloc (Nat.le_refl _) _⟩

set_option maxHeartbeats 1000000 in
theorem copy8_any (v : Value) (xs : List Value) (w : World) (h : Row w v xs) (hn : xs.length ≤ 1000000000) (h1 : ∀ x ∈ xs, ∃ u, x = .string u) :
    Calls Try.prog 8 #[v] w fun e w' => ∃ rv, e = .returned rv ∧ Row w' rv xs ∧ Below w.heap.size w w' := by
  obtain ⟨ao, c, rfl⟩ := h.form
  have hmk := fun w => make23 w xs xs.length hn
  have heq := fun w (a : Option Addr) (n c : Nat) => Lib.run_eql_slice_nil (P := Try.prog) w 23 9 a n c 0 0 Try.underlying23
  cases ao with
  | none =>
    have hx : xs = [] := by
      rcases h with ⟨_, h⟩ | ⟨a, c, h, _⟩
      · exact h
      · simp at h
    subst hx
    go_enter Try.func8, Try.ntmps8
    go_wp2
    go_ret
    exact ⟨_, rfl, Or.inl ⟨rfl, rfl⟩, Below.refl _ _⟩
  | some a =>
    by_cases hp : 0 < xs.length
    · obtain ⟨b, off, ha, hb, hc⟩ := h.at hp
      cases ha
      have hcell : ∀ k, k < xs.length → ∃ u, w.cell? ⟨b, off + k, none⟩ = some (.string u) ∧ xs[k]? = some (.string u) := fun k hk => by
        obtain ⟨u, hu⟩ := h1 _ (List.getElem_mem hk)
        exact ⟨u, by rw [← hu]; exact hc k hk, by rw [← hu]; exact List.getElem?_eq_getElem hk⟩
      have Hc : Hid (∀ k, k < xs.length → ∃ u, w.cell? ⟨b, off + k, none⟩ = some (.string u) ∧ xs[k]? = some (.string u)) := hcell
      clear hc hcell h h1
      go_enter Try.func8, Try.ntmps8
      go_wp2
      go_loopw [4] (fun a wr => ∃ k : Nat, k ≤ xs.length ∧ a = .int .i64 k ∧ wr = w.alloc (.cells (filled xs (.string ByteArray.empty) xs.length k) 9)) (fun a _ => xs.length - (intOf a).toNat)
      case atStart => exact ⟨0, Nat.zero_le _, rfl, rfl⟩
      case round =>
        obtain ⟨k, hk, rfl, rfl⟩ := hrel
        by_cases hlt : k < xs.length
        · obtain ⟨u, hcu, hxu⟩ := Hc.out k hlt
          have hfa := filled_at xs (.string ByteArray.empty) xs.length k (by omega) hlt
          have Hs : Hid ((filled xs (.string ByteArray.empty) xs.length k).setIfInBounds k (.string u) = filled xs (.string ByteArray.empty) xs.length (k + 1)) := by
            have := filled_set xs (.string ByteArray.empty) xs.length k hlt hlt
            rw [List.getElem?_eq_getElem hlt] at hxu
            rw [Option.some.inj hxu] at this
            exact this
          clear hxu
          go_wp2
          go_roundw
          case rel => exact ⟨k + 1, by omega, by go_num, by rw [Hs.out]⟩
          case measure => simp [intOf]; omega
        · have hkn : k = xs.length := by omega
          go_wp2
          go_ret
          subst hkn
          exact ⟨_, rfl, by rw [filled_full]; exact row_new _ _ _, (Below.refl _ _).alloc (Nat.le_refl _) _⟩
    · have hx : xs = [] := List.eq_nil_of_length_eq_zero (by omega)
      subst hx
      have hmk0 : ∀ w, (Instr.makeSlice 23 (.int .i64 0) (.int .i64 0)).run Try.prog w = .ok (.slice (some ⟨w.heap.size, 0, none⟩) 0 0) (w.alloc (.cells (filled [] (.string ByteArray.empty) 0 0) 9)) := fun w => make23 w [] 0 (by omega)
      clear hmk
      simp only [List.length_nil] at *
      go_enter Try.func8, Try.ntmps8
      go_wp2
      refine wp_loop_rounds 1 ?_
      rw [rounds_succ]
      go_wp2
      go_ret
      exact ⟨_, rfl, Or.inr ⟨_, _, rfl, fun j hj => by simp at hj⟩, (Below.refl _ _).alloc (Nat.le_refl _) _⟩

set_option maxHeartbeats 1000000 in
theorem copy9_any (v : Value) (xs : List Value) (w : World) (h : Row w v xs) (hn : xs.length ≤ 1000000000) (h1 : ∀ x ∈ xs, ∃ u, x = .int .u8 u) :
    Calls Try.prog 9 #[v] w fun e w' => ∃ rv, e = .returned rv ∧ Row w' rv xs ∧ Below w.heap.size w w' := by
  obtain ⟨ao, c, rfl⟩ := h.form
  have hmk := fun w => make25 w xs xs.length hn
  have heq := fun w (a : Option Addr) (n c : Nat) => Lib.run_eql_slice_nil (P := Try.prog) w 25 5 a n c 0 0 Try.underlying25
  cases ao with
  | none =>
    have hx : xs = [] := by
      rcases h with ⟨_, h⟩ | ⟨a, c, h, _⟩
      · exact h
      · simp at h
    subst hx
    go_enter Try.func9, Try.ntmps9
    go_wp2
    go_ret
    exact ⟨_, rfl, Or.inl ⟨rfl, rfl⟩, Below.refl _ _⟩
  | some a =>
    by_cases hp : 0 < xs.length
    · obtain ⟨b, off, ha, hb, hc⟩ := h.at hp
      cases ha
      have hcell : ∀ k, k < xs.length → ∃ u, w.cell? ⟨b, off + k, none⟩ = some (.int .u8 u) ∧ xs[k]? = some (.int .u8 u) := fun k hk => by
        obtain ⟨u, hu⟩ := h1 _ (List.getElem_mem hk)
        exact ⟨u, by rw [← hu]; exact hc k hk, by rw [← hu]; exact List.getElem?_eq_getElem hk⟩
      have Hc : Hid (∀ k, k < xs.length → ∃ u, w.cell? ⟨b, off + k, none⟩ = some (.int .u8 u) ∧ xs[k]? = some (.int .u8 u)) := hcell
      clear hc hcell h h1
      go_enter Try.func9, Try.ntmps9
      go_wp2
      go_loopw [4] (fun a wr => ∃ k : Nat, k ≤ xs.length ∧ a = .int .i64 k ∧ wr = w.alloc (.cells (filled xs (.int .u8 0) xs.length k) 5)) (fun a _ => xs.length - (intOf a).toNat)
      case atStart => exact ⟨0, Nat.zero_le _, rfl, rfl⟩
      case round =>
        obtain ⟨k, hk, rfl, rfl⟩ := hrel
        by_cases hlt : k < xs.length
        · obtain ⟨u, hcu, hxu⟩ := Hc.out k hlt
          have hfa := filled_at xs (.int .u8 0) xs.length k (by omega) hlt
          have Hs : Hid ((filled xs (.int .u8 0) xs.length k).setIfInBounds k (.int .u8 u) = filled xs (.int .u8 0) xs.length (k + 1)) := by
            have := filled_set xs (.int .u8 0) xs.length k hlt hlt
            rw [List.getElem?_eq_getElem hlt] at hxu
            rw [Option.some.inj hxu] at this
            exact this
          clear hxu
          go_wp2
          go_roundw
          case rel => exact ⟨k + 1, by omega, by go_num, by rw [Hs.out]⟩
          case measure => simp [intOf]; omega
        · have hkn : k = xs.length := by omega
          go_wp2
          go_ret
          subst hkn
          exact ⟨_, rfl, by rw [filled_full]; exact row_new _ _ _, (Below.refl _ _).alloc (Nat.le_refl _) _⟩
    · have hx : xs = [] := List.eq_nil_of_length_eq_zero (by omega)
      subst hx
      have hmk0 : ∀ w, (Instr.makeSlice 25 (.int .i64 0) (.int .i64 0)).run Try.prog w = .ok (.slice (some ⟨w.heap.size, 0, none⟩) 0 0) (w.alloc (.cells (filled [] (.int .u8 0) 0 0) 5)) := fun w => make25 w [] 0 (by omega)
      clear hmk
      simp only [List.length_nil] at *
      go_enter Try.func9, Try.ntmps9
      go_wp2
      refine wp_loop_rounds 1 ?_
      rw [rounds_succ]
      go_wp2
      go_ret
      exact ⟨_, rfl, Or.inr ⟨_, _, rfl, fun j hj => by simp at hj⟩, (Below.refl _ _).alloc (Nat.le_refl _) _⟩

end Go.Proofs.Qxb6626316a
