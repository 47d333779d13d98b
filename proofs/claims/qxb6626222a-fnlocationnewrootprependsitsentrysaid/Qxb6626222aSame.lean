import Derived.Test.Qxb6626222aMem
namespace Go.Proofs.Qxb6626222a
open Go.RowKit

theorem bel_drewN {B : Nat} {a w : World} (h : Below B a w) (n : Nat) : Below B a (w.drewN n) := h.trans ⟨rfl, rfl, rfl, Nat.le_refl _, fun _ _ => rfl⟩

/-- two lists of strings, are they the same? -/
def sameS (a b : List ByteArray) : Bool := decide (a = b)

theorem str_ne {s t : ByteArray} (h : (s.toList == t.toList) = false) : s ≠ t := by
  intro e; subst e; simp at h
theorem str_eq {s t : ByteArray} (h : (s.toList == t.toList) = true) : s = t := by
  rw [ByteArray.toList_eq, ByteArray.toList_eq, beq_iff_eq] at h
  exact ByteArray.ext (Array.toList_inj.mp h)
theorem Row.strs {w : World} {b off : Nat} {ss : List ByteArray} (hc : ∀ j (h : j < (ss.map Value.string).length), w.cell? ⟨b, off + j, none⟩ = some (ss.map Value.string)[j]) (j : Nat) (h : j < ss.length) :
    w.cell? ⟨b, off + j, none⟩ = some (.string ss[j]) := by
  rw [hc j (by simpa using h)]
  simp

theorem same_diff {a b : List ByteArray} (k : Nat) (h1 : k < a.length) (h2 : k < b.length) (h : a[k] ≠ b[k]) : sameS a b = false := by
  rw [sameS, decide_eq_false_iff_not]
  intro e; subst e; exact h rfl
theorem same_end {a b : List ByteArray} (hl : a.length = b.length) (h : a.take a.length = b.take a.length) : sameS a b = true := by
  rw [sameS, decide_eq_true_eq]
  rwa [List.take_length, hl, List.take_length] at h
theorem same_next {a b : List ByteArray} (k : Nat) (h1 : k < a.length) (h2 : k < b.length) (h : a.take k = b.take k) (he : a[k] = b[k]) : a.take (k + 1) = b.take (k + 1) := by
  rw [List.take_succ_eq_append_getElem h1, List.take_succ_eq_append_getElem h2, h, he]

set_option maxHeartbeats 4000000 in
theorem same_any (va vb : Value) (a b : List ByteArray) (w : World) (ha : Row w va (a.map Value.string)) (hb : Row w vb (b.map Value.string)) (hn : a.length ≤ 1000000) (hn2 : b.length ≤ 1000000) :
    Calls Try.prog 9 #[va, vb] w fun e w' => e = .returned (.bool (sameS a b)) ∧ Below w.heap.size w w' := by
  obtain ⟨ao, c, rfl⟩ := ha.form
  obtain ⟨ao', c', rfl⟩ := hb.form
  have HA : Hid (Row w (.slice ao (a.map Value.string).length c) (a.map Value.string)) := ha
  have HB : Hid (Row w (.slice ao' (b.map Value.string).length c') (b.map Value.string)) := hb
  clear ha hb
  simp only [List.length_map] at *
  by_cases hl : a.length = b.length
  · have hl' : ((a.length : Int) != (b.length : Int)) = false := by simp; omega
    have HL : Hid (a.length = b.length) := hl
    clear hl
    go_enter Try.func9, Try.ntmps9
    go_wp2_with fail
    go_loopw [5] (fun i wr => ∃ k : Nat, k ≤ a.length ∧ i = .int .i64 k ∧ Hid (a.take k = b.take k) ∧ Hid (Below w.heap.size w wr)) (fun i _ => a.length - (intOf i).toNat)
    case atStart => exact ⟨0, Nat.zero_le _, rfl, by simp [Hid], Below.refl _ _⟩
    case round =>
      obtain ⟨k, hk, rfl, hx, hbw⟩ := hrel
      by_cases hlt : k < a.length
      · have hlt2 : k < b.length := by have := HL.out; omega
        obtain ⟨b1, off1, rfl, hb1, hc1⟩ := (HA.out.later hbw.out).at (by simp; omega)
        obtain ⟨b2, off2, rfl, hb2, hc2⟩ := (HB.out.later hbw.out).at (by simp; omega)
        have hcell1 := Row.strs hc1 k hlt
        have hcell2 := Row.strs hc2 k hlt2
        clear hc1 hc2
        obtain ⟨s, hs⟩ : ∃ s, a[k] = s := ⟨_, rfl⟩
        obtain ⟨t, ht⟩ : ∃ t, b[k] = t := ⟨_, rfl⟩
        rw [hs] at hcell1
        rw [ht] at hcell2
        have HS : Hid (a[k] = s ∧ b[k] = t) := ⟨hs, ht⟩
        clear hs ht
        have hi1 : (k : Int) < (a.length : Int) := by omega
        have hi2 : (k : Int) < (b.length : Int) := by omega
        have hi0 : (0 : Int) ≤ (k : Int) := by omega
        cases hst : (s.toList == t.toList)
        · have HF : Hid (sameS a b = false) := same_diff k hlt hlt2 (by rw [HS.out.1, HS.out.2]; exact str_ne hst)
          go_wp2_with fail
          go_quiet (fail)
          go_wp2_with fail
          go_ret
          exact ⟨ret_bool HF.out.symm, bel_drewN hbw.out _⟩
        · have HF : Hid (a.take (k + 1) = b.take (k + 1)) := same_next k hlt hlt2 hx.out (by rw [HS.out.1, HS.out.2]; exact str_eq hst)
          go_wp2_with fail
          go_quiet (fail)
          go_wp2_with fail
          go_roundw
          case rel => exact ⟨k + 1, by omega, by go_num, HF, bel_drewN hbw.out _⟩
          case measure => simp [intOf]; omega
      · have hkn : k = a.length := by omega
        have HF : Hid (sameS a b = true) := same_end HL.out (by rw [hkn] at hx; exact hx.out)
        go_wp2_with fail
        go_ret
        exact ⟨ret_bool HF.out.symm, hbw.out⟩
  · have hl' : ((a.length : Int) != (b.length : Int)) = true := by simp; omega
    have HF : Hid (sameS a b = false) := by
      show sameS a b = false
      rw [sameS, decide_eq_false_iff_not]
      intro e; exact hl (by rw [e])
    clear hl
    go_enter Try.func9, Try.ntmps9
    go_wp2_with fail
    go_ret
    exact ⟨ret_bool HF.out.symm, Below.refl _ _⟩

end Go.Proofs.Qxb6626222a
