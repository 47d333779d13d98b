import Derived.Test.Qxb6625893aWk
namespace Go.Proofs.Qxb6625893a
open Go.RowKit

set_option maxHeartbeats 1000000 in
theorem bytes8_any (a0 a1 a2 a3 a4 a5 a6 a7 : ByteArray) (w : World) (w0 : a0.size ≤ maxLen) (w1 : a1.size ≤ maxLen) (w2 : a2.size ≤ maxLen) (w3 : a3.size ≤ maxLen) (w4 : a4.size ≤ maxLen) (w5 : a5.size ≤ maxLen) (w6 : a6.size ≤ maxLen) (w7 : a7.size ≤ maxLen) :
    Calls Try.prog 5 #[.string a0, .string a1, .string a2, .string a3, .string a4, .string a5, .string a6, .string a7] w fun e w' => ∃ b, e = .returned (.bool b) ∧ w' = w := by
  unfold maxLen at *
  go_enter Try.func5, Try.ntmps5
  go_wp2
  all_goals
    go_ret
    exact ⟨_, rfl, rfl⟩

set_option maxHeartbeats 1000000 in
theorem bytes10_any (a0 a1 a2 a3 a4 a5 a6 a7 a8 a9 : ByteArray) (w : World) (w0 : a0.size ≤ maxLen) (w1 : a1.size ≤ maxLen) (w2 : a2.size ≤ maxLen) (w3 : a3.size ≤ maxLen) (w4 : a4.size ≤ maxLen) (w5 : a5.size ≤ maxLen) (w6 : a6.size ≤ maxLen) (w7 : a7.size ≤ maxLen) (w8 : a8.size ≤ maxLen) (w9 : a9.size ≤ maxLen) :
    Calls Try.prog 8 #[.string a0, .string a1, .string a2, .string a3, .string a4, .string a5, .string a6, .string a7, .string a8, .string a9] w fun e w' => ∃ b, e = .returned (.bool b) ∧ w' = w := by
  unfold maxLen at *
  go_enter Try.func8, Try.ntmps8
  go_wp2
  all_goals
    go_ret
    exact ⟨_, rfl, rfl⟩

/-- does a list of bytes hold a '/'? -/
def hasSl (s : ByteArray) : Bool := s.data.toList.contains 47

theorem take_snoc (s : ByteArray) (k : Nat) (h : k < s.size) : s.data.toList.take (k + 1) = s.data.toList.take k ++ [s[k]] := by
  rw [List.take_succ_eq_append_getElem (by simpa using h)]; rfl

theorem u8_eq (c : UInt8) : ((c.toNat : Int) == 47) = (c == 47) := by
  rw [Bool.eq_iff_iff]
  simp only [beq_iff_eq]
  constructor
  · intro h; exact UInt8.toNat_inj.mp (by have : c.toNat = 47 := by omega
                                          simpa using this)
  · intro h; rw [h]; rfl
theorem sl_next (s : ByteArray) (k : Nat) (h : k < s.size) (hn : (s.data.toList.take k).contains 47 = false) (he : ((s[k].toNat : Int) == 47) = false) : (s.data.toList.take (k + 1)).contains 47 = false := by
  rw [take_snoc s k h, List.contains_eq_mem]
  rw [List.contains_eq_mem] at hn
  rw [u8_eq] at he
  simp only [decide_eq_false_iff_not, List.mem_append, List.mem_singleton, not_or] at hn ⊢
  exact ⟨hn, fun e => by simp [← e] at he⟩
theorem sl_hit (s : ByteArray) (k : Nat) (h : k < s.size) (he : ((s[k].toNat : Int) == 47) = true) : hasSl s = true := by
  rw [u8_eq] at he
  unfold hasSl
  rw [List.contains_eq_mem, decide_eq_true_eq]
  have : s[k] = 47 := by simpa using he
  rw [← this]
  exact List.getElem_mem (l := s.data.toList) (by simpa using h)
theorem sl_end (s : ByteArray) (k : Nat) (h : ¬ k < s.size) (hn : (s.data.toList.take k).contains 47 = false) : hasSl s = false := by
  unfold hasSl
  rwa [List.take_of_length_le (by rw [Array.length_toList]; exact Nat.le_of_not_lt h)] at hn

set_option maxHeartbeats 400000 in
theorem slash_any (s : ByteArray) (w : World) (hs : s.size ≤ maxLen) :
    Calls Try.prog 9 #[.string s] w fun e w' => e = .returned (.bool (hasSl s)) ∧ w' = w := by
  unfold maxLen at hs
  go_enter Try.func9, Try.ntmps9
  go_wp2
  go_loop [3] (fun i => ∃ k : Nat, k ≤ s.size ∧ i = .int .i64 k ∧ Hid ((s.data.toList.take k).contains 47 = false)) (fun i => s.size - (intOf i).toNat)
  case atStart => exact ⟨0, Nat.zero_le _, rfl, rfl⟩
  case round =>
    obtain ⟨k, hk, rfl, hn⟩ := hrel
    by_cases hlt : k < s.size
    · go_wp2
      · go_ret
        exact ⟨by rw [sl_hit s k hlt ‹_›]; rfl, rfl⟩
      · go_round
        case rel => exact ⟨k + 1, by omega, by go_num, sl_next s k hlt hn.out ‹_›⟩
        case measure => simp [intOf]; omega
    · go_wp2
      go_ret
      exact ⟨by rw [sl_end s k hlt hn.out]; rfl, rfl⟩

end Go.Proofs.Qxb6625893a
