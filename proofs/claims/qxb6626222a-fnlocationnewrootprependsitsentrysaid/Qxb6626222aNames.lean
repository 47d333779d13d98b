import Derived.Test.Qxb6626222aRows
import Derived.Test.Qxb6626222aShelf
import Derived.WalkKit
import Derived.WalkSpells
import Derived.WalkLawsBesides
namespace Go.Proofs.Qxb6626222a
open Go.RowKit

/-- a byte or rune that Ceph takes in a name -/
def okC (x : Int) : Bool := (decide (97 ≤ x) && decide (x ≤ 122)) || (decide (65 ≤ x) && decide (x ≤ 90)) || (decide (48 ≤ x) && decide (x ≤ 57)) || (x == 45) || (x == 95) || (x == 46)

theorem okC_no {x : Int} (h1 : ¬ (97 ≤ x ∧ x ≤ 122)) (h2 : ¬ (65 ≤ x ∧ x ≤ 90)) (h3 : ¬ (48 ≤ x ∧ x ≤ 57)) (h4 : x ≠ 45) (h5 : x ≠ 95) (h6 : x ≠ 46) : okC x = false := by
  simp [okC]; omega
theorem okC_yes {x : Int} (h : (97 ≤ x ∧ x ≤ 122) ∨ (65 ≤ x ∧ x ≤ 90) ∨ (48 ≤ x ∧ x ≤ 57) ∨ x = 45 ∨ x = 95 ∨ x = 46) : okC x = true := by
  simp [okC]; omega

theorem ret_bool {a b : Bool} (h : a = b) : Ending.returned (.bool a) = .returned (.bool b) := by rw [h]

set_option maxHeartbeats 1000000 in
theorem rune_any (x : Int) (w : World) :
    Calls Try.prog 21 #[.int .i32 x] w fun e w' => e = .returned (.bool (!okC x)) ∧ w' = w := by
  go_enter Try.func21, Try.ntmps21
  go_wp2
  all_goals
    go_ret
    refine ⟨ret_bool ?_, rfl⟩
    rw [Bool.eq_iff_iff]
    simp [okC]
    try omega

/-- a name that Ceph takes: not empty, each byte one of those -/
def okName (s : ByteArray) : Bool := decide (0 < s.size) && s.data.toList.all fun c => okC c.toNat

theorem take_snoc (s : ByteArray) (k : Nat) (h : k < s.size) : s.data.toList.take (k + 1) = s.data.toList.take k ++ [s[k]] := by
  rw [List.take_succ_eq_append_getElem (by simpa using h)]; rfl
theorem all_next (s : ByteArray) (k : Nat) (h : k < s.size) (ha : (s.data.toList.take k).all (fun c => okC c.toNat) = true) (hk : okC s[k].toNat = true) : (s.data.toList.take (k + 1)).all (fun c => okC c.toNat) = true := by
  rw [take_snoc s k h, List.all_append, ha]
  simp [hk]
theorem all_bad (s : ByteArray) (k : Nat) (h : k < s.size) (hk : okC s[k].toNat = false) : okName s = false := by
  unfold okName
  have : s.data.toList.all (fun c => okC c.toNat) = false := by
    rw [List.all_eq_false]
    exact ⟨s[k], List.getElem_mem (l := s.data.toList) (by simpa using h), by simp [hk]⟩
  rw [this, Bool.and_false]
theorem all_end (s : ByteArray) (k : Nat) (h : ¬ k < s.size) (h0 : 0 < s.size) (ha : (s.data.toList.take k).all (fun c => okC c.toNat) = true) : okName s = true := by
  rw [List.take_of_length_le (by rw [Array.length_toList]; exact Nat.le_of_not_lt h)] at ha
  simp [okName, h0, ha]

set_option maxHeartbeats 2000000 in
theorem valid_any (s : ByteArray) (w : World) (hs : s.size ≤ 9223372036854775807) :
    Calls Try.prog 10 #[.string s] w fun e w' => e = .returned (.bool (okName s)) ∧ w' = w := by
  by_cases h0 : 0 < s.size
  · have h1 : ((s.size : Int) == 0) = false := by rw [beq_eq_false_iff_ne]; omega
    go_enter Try.func10, Try.ntmps10
    go_wp2
    go_loop [3] (fun i => ∃ k : Nat, k ≤ s.size ∧ i = .int .i64 k ∧ Hid ((s.data.toList.take k).all (fun c => okC c.toNat) = true)) (fun i => s.size - (intOf i).toNat)
    case atStart => exact ⟨0, Nat.zero_le _, rfl, rfl⟩
    case round =>
      obtain ⟨k, hk, rfl, hn⟩ := hrel
      by_cases hlt : k < s.size
      · have hsplit : ((45 ≤ (s[k].toNat : Int) ∧ (s[k].toNat : Int) ≤ 45) ∨ (46 ≤ (s[k].toNat : Int) ∧ (s[k].toNat : Int) ≤ 46) ∨ (48 ≤ (s[k].toNat : Int) ∧ (s[k].toNat : Int) ≤ 57) ∨ (65 ≤ (s[k].toNat : Int) ∧ (s[k].toNat : Int) ≤ 90) ∨ (95 ≤ (s[k].toNat : Int) ∧ (s[k].toNat : Int) ≤ 95) ∨ (97 ≤ (s[k].toNat : Int) ∧ (s[k].toNat : Int) ≤ 122)) ∨
            ((0 ≤ (s[k].toNat : Int) ∧ (s[k].toNat : Int) ≤ 44) ∨ (47 ≤ (s[k].toNat : Int) ∧ (s[k].toNat : Int) ≤ 47) ∨ (58 ≤ (s[k].toNat : Int) ∧ (s[k].toNat : Int) ≤ 64) ∨ (91 ≤ (s[k].toNat : Int) ∧ (s[k].toNat : Int) ≤ 94) ∨ (96 ≤ (s[k].toNat : Int) ∧ (s[k].toNat : Int) ≤ 96) ∨ (123 ≤ (s[k].toNat : Int) ∧ (s[k].toNat : Int) ≤ 100000)) := by
          have := s[k].toNat_lt
          omega
        rcases hsplit with hs1 | hs1
        · have HO : Hid (okC (s[k].toNat : Int) = true) := okC_yes (by omega)
          rcases hs1 with ⟨q1, q2⟩ | ⟨q1, q2⟩ | ⟨q1, q2⟩ | ⟨q1, q2⟩ | ⟨q1, q2⟩ | ⟨q1, q2⟩
          all_goals
            cases b45 : ((s[k].toNat : Int) == 45) <;> cases b95 : ((s[k].toNat : Int) == 95) <;> cases b46 : ((s[k].toNat : Int) == 46) <;> first | (exfalso; simp only [beq_iff_eq, beq_eq_false_iff_ne] at b45 b95 b46; omega) | skip
          all_goals
            go_wp2
            go_round
            case rel => exact ⟨k + 1, by omega, by go_num, all_next s k hlt hn.out HO.out⟩
            case measure => simp [intOf]; omega
        · have HO : Hid (okC (s[k].toNat : Int) = false) := okC_no (by omega) (by omega) (by omega) (by omega) (by omega) (by omega)
          rcases hs1 with ⟨q1, q2⟩ | ⟨q1, q2⟩ | ⟨q1, q2⟩ | ⟨q1, q2⟩ | ⟨q1, q2⟩ | ⟨q1, q2⟩
          all_goals
            cases b45 : ((s[k].toNat : Int) == 45) <;> cases b95 : ((s[k].toNat : Int) == 95) <;> cases b46 : ((s[k].toNat : Int) == 46) <;> cases d57 : decide ((s[k].toNat : Int) ≤ 57) <;> cases d90 : decide ((s[k].toNat : Int) ≤ 90) <;> cases d122 : decide ((s[k].toNat : Int) ≤ 122) <;> first | (exfalso; simp only [beq_iff_eq, beq_eq_false_iff_ne, decide_eq_true_eq, decide_eq_false_iff_not] at b45 b95 b46 d57 d90 d122; omega) | skip
          all_goals
            go_wp2
            go_ret
            exact ⟨ret_bool (all_bad s k hlt HO.out).symm, rfl⟩
      · go_wp2
        go_ret
        exact ⟨ret_bool (all_end s k hlt h0 hn.out).symm, rfl⟩
  · go_enter Try.func10, Try.ntmps10
    have h2 : s.size = 0 := by omega
    go_wp2
    go_ret
    exact ⟨ret_bool (by simp [okName, h2]), rfl⟩

end Go.Proofs.Qxb6626222a
