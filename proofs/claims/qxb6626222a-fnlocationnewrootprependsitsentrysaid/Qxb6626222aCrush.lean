import Derived.Test.Qxb6626222aNames
namespace Go.Proofs.Qxb6626222a
open Go.RowKit

theorem decodeN_lo (n b0 b1 b2 b3 : Nat) (h : b0 < 128) : Lib.decodeN n b0 b1 b2 b3 = (b0, 1) := by simp [Lib.decodeN, h]

theorem decodeN_hi (n b0 b1 b2 b3 : Nat) (h : 128 ≤ b0) : 128 ≤ (Lib.decodeN n b0 b1 b2 b3).1 := by
  unfold Lib.decodeN
  repeat' split
  all_goals (simp only; omega)

theorem okC_hi {x : Int} (h : 128 ≤ x) : okC x = false := okC_no (by omega) (by omega) (by omega) (by omega) (by omega) (by omega)

theorem idx_iff (s : ByteArray) : ∀ (f pos : Nat), s.size ≤ pos + f → (0 ≤ Lib.idxFuncFrom (fun x => !okC (x : Int)) true s f pos ↔ ∃ j, pos ≤ j ∧ j < s.size ∧ okC ((s.get! j).toNat : Int) = false)
  | 0, pos, hp => by
    constructor
    · intro h; simp [Lib.idxFuncFrom] at h
    · rintro ⟨j, h1, h2, _⟩; omega
  | f + 1, pos, hp => by
    by_cases hlt : pos < s.size
    · have hd := Lib.decode_at s pos
      by_cases hb : (s.get! pos).toNat < 128
      · rw [decodeN_lo _ _ _ _ _ hb] at hd
        simp only [Lib.idxFuncFrom, hlt, if_true, hd]
        by_cases hok : okC ((s.get! pos).toNat : Int) = true
        · rw [if_neg (by simp [hok]), idx_iff s f (pos + 1) (by omega)]
          constructor
          · rintro ⟨j, h1, h2, h3⟩; exact ⟨j, by omega, h2, h3⟩
          · rintro ⟨j, h1, h2, h3⟩
            refine ⟨j, ?_, h2, h3⟩
            by_cases e : j = pos
            · subst e; rw [hok] at h3; simp at h3
            · omega
        · rw [if_pos (by simpa using hok)]
          exact ⟨fun _ => ⟨pos, Nat.le_refl _, hlt, by simpa using hok⟩, fun _ => by omega⟩
      · have h1 := decodeN_hi (s.size - pos) (s.get! pos).toNat (s.get! (pos + 1)).toNat (s.get! (pos + 2)).toNat (s.get! (pos + 3)).toNat (by omega)
        rw [← hd] at h1
        simp only [Lib.idxFuncFrom, hlt, if_true]
        rw [if_pos (by rw [okC_hi (by omega)]; rfl)]
        exact ⟨fun _ => ⟨pos, Nat.le_refl _, hlt, okC_hi (by omega)⟩, fun _ => by omega⟩
    · rw [Lib.idxFuncFrom_end _ _ _ _ _ hlt]
      constructor
      · intro h; omega
      · rintro ⟨j, h1, h2, _⟩; omega

theorem get_at (s : ByteArray) (j : Nat) (h : j < s.data.toList.length) : s.data.toList[j] = s.get! j := by
  have h' : j < s.data.size := by simpa using h
  show _ = s.data[j]!
  rw [getElem!_pos s.data j h']
  simp

theorem idx_all (s : ByteArray) : decide (0 ≤ Lib.idxFunc (fun x => !okC (x : Int)) true s) = !(s.data.toList.all fun c => okC c.toNat) := by
  rw [Bool.eq_iff_iff, decide_eq_true_eq, Lib.idxFunc, idx_iff s s.size 0 (by omega), Bool.not_eq_true', List.all_eq_false]
  constructor
  · rintro ⟨j, _, h2, h3⟩
    have hj : j < s.data.toList.length := by simpa using h2
    exact ⟨s.data.toList[j], List.getElem_mem hj, by rw [get_at s j hj, h3]; simp⟩
  · rintro ⟨c, hc, hn⟩
    obtain ⟨j, hj, rfl⟩ := List.getElem_of_mem hc
    exact ⟨j, Nat.zero_le _, by simpa using hj, by rw [get_at s j hj] at hn; simpa using hn⟩

theorem run_enter21 (args : Array Value) (w : World) : (callFunc 21 args).run Try.prog w = .ok (.enter 21 args) w := by
  kernel_rfl

set_option maxHeartbeats 1000000 in
theorem crush_any (s : ByteArray) (w : World) :
    Calls Try.prog 16 #[.string s] w fun e w' => e = .returned (.bool (okName s)) ∧ Below w.heap.size w w' := by
  have hcf : ∀ w, Calls Try.prog 20 #[.string s, .func (.func 21) #[] #[]] w fun e w' => e = .returned (.bool (!(s.data.toList.all fun c => okC c.toNat))) ∧ Below w.heap.size w w' := fun w => by
    rw [← idx_all]
    exact Try.strings_ContainsFunc_runes 21 #[] run_enter21 (fun x => !okC (x : Int)) s w (fun W x _ _ => (rune_any (x : Int) W).mono fun e w' h => ⟨h.1, 0, by rw [h.2]; rfl⟩)
  have HC : Hid (∀ w, Calls Try.prog 20 #[.string s, .func (.func 21) #[] #[]] w fun e w' => e = .returned (.bool (!(s.data.toList.all fun c => okC c.toNat))) ∧ Below w.heap.size w w') := hcf
  clear hcf
  by_cases h0 : 0 < s.size
  · have hne : (s.toList.isEmpty) = false := by
      rw [ByteArray.toList_eq, List.isEmpty_eq_false_iff, ← List.length_pos_iff, Array.length_toList]; exact h0
    obtain ⟨b, hb⟩ : ∃ b, (s.data.toList.all fun c => okC c.toNat) = b := ⟨_, rfl⟩
    have ho : okName s = b := by simp [okName, h0, hb]
    rw [ho]
    rw [hb] at HC
    clear hb ho
    go_enter Try.func16, Try.ntmps16
    go_wp2_with fail
    refine (HC.out _).mono ?_
    rintro e w1 ⟨rfl, hb⟩
    have HB : Hid (Below w.heap.size w w1) := hb
    clear hb HC
    go_wp2_with fail
    go_ret
    exact ⟨ret_bool (by simp), HB.out⟩
  · have hne : (s.toList.isEmpty) = true := by
      have : s.size = 0 := by omega
      rw [ByteArray.toList_eq, List.isEmpty_iff, ← List.length_eq_zero_iff, Array.length_toList]; exact this
    have ho : okName s = false := by simp [okName]; omega
    rw [ho]
    clear HC
    go_enter Try.func16, Try.ntmps16
    go_wp2_with fail
    go_ret
    exact ⟨rfl, Below.refl _ _⟩

end Go.Proofs.Qxb6626222a
