import Derived.Test.Qxb6626374aPer
import Derived.Deep.CutRange
namespace Go.Proofs.Qxb6626374a
open Go.RowKit

set_option maxHeartbeats 1000000 in
theorem build_cap (v : Value) (cs : List Cmd) (w : World) (h : RowC w v cs) (hn : cs.length ≤ 4096) :
    Calls Try.prog 7 #[v] w fun e w' => ∃ ao, e = .returned (.slice ao cs.length cs.length) ∧ RowC w' (.slice ao cs.length cs.length) cs ∧ Below w.heap.size w w' := by
  obtain ⟨ao, c, rfl⟩ := h.form
  have heq := fun w (a : Option Addr) (n c : Nat) => Lib.run_eql_slice_nil (P := Try.prog) w 23 27 a n c 0 0 Try.underlying23
  cases ao with
  | none =>
    have hx : cs = [] := by
      rcases Nat.eq_zero_or_pos cs.length with h0 | h0
      · exact List.eq_nil_of_length_eq_zero h0
      · obtain ⟨b, off, e, _⟩ := h.at h0
        cases e
    subst hx
    go_enter Try.func7, Try.ntmps7
    go_wp2
    go_ret
    exact ⟨_, rfl, ⟨none, 0, rfl, fun j hj => by simp at hj⟩, Below.refl _ _⟩
  | some a =>
    obtain ⟨C, hC, hmk⟩ := make28 w cs.length (by omega)
    have HC : Hid (C.size = cs.length * 5) := hC
    have Hh : Hid (RowC w (.slice (some a) cs.length c) cs) := h
    clear hC h
    go_enter Try.func7, Try.ntmps7
    go_wp2_with fail
    go_loopw [4] (fun i wr => ∃ k : Nat, k ≤ cs.length ∧ i = .int .i64 k ∧ Below w.heap.size w wr ∧ w.heap.size < wr.heap.size ∧ Filling wr w.heap.size cs.length k cs) (fun i _ => cs.length - (intOf i).toNat)
    case atStart => exact ⟨0, Nat.zero_le _, rfl, (Below.refl _ _).alloc (Nat.le_refl _) _, by simp, Filling.start HC.out⟩
    case round =>
      obtain ⟨k, hk, rfl, hb, hs, hf⟩ := hrel
      have HF : Hid (Below w.heap.size w wr ∧ Filling wr w.heap.size cs.length k cs) := ⟨hb, hf⟩
      clear hb hf
      by_cases hlt : k < cs.length
      · obtain ⟨b, off, ha, hbl, hc⟩ := (Hh.out.later HF.out.1).at (by omega)
        cases ha
        obtain ⟨⟨ix, ls, al, ms, bs⟩, hck⟩ : ∃ ck, ck = cs[k] := ⟨_, rfl⟩
        have Hck : Hid (⟨ix, ls, al, ms, bs⟩ = cs[k]) := hck
        have hr := hc k hlt
        rw [← hck] at hr
        obtain ⟨r0, r1, r2, r3, r4⟩ := range5 hr
        simp only at r0 r1 r2 r3 r4
        obtain ⟨o0, o1, o2, o3, o4, p0, p1, p2, p3, p4, f0, f1, f2, f3, f4⟩ := there5 (HF.out.2.there k hlt)
        clear hc hck hr
        go_wp2_with fail
        go_roundw
        case rel => 
          refine ⟨k + 1, by omega, by go_num, ?_⟩
          exact step_all HF.out.1 hs HF.out.2 hlt hlt ⟨ix, ls, al, ms, bs⟩ Hck.out _
        case measure => simp [intOf]; omega
      · have hkn : k = cs.length := by omega
        go_wp2_with fail
        go_ret
        subst hkn
        exact ⟨_, rfl, HF.out.2.row rfl hs _, HF.out.1⟩


namespace Split
theorem Small.step {cs : List Cmd} {k : Nat} (h : Small (cs.take k)) (hk : k < cs.length) (h1 : cs[k].ms.natAbs ≤ 68719476736) (h2 : cs[k].bs.natAbs ≤ 68719476736) : Small (cs.take (k + 1)) := by
  rw [List.take_succ_eq_append_getElem hk]
  refine h.append fun c hc => ?_
  rw [List.mem_singleton] at hc
  subst hc
  exact ⟨h1, h2⟩

theorem mean_pos {t : Int} {n : Nat} (h : 0 < n) : mean t n = avg t n := by unfold mean; rw [if_neg (by omega)]

theorem ord00 : FloatKind.f64.format.order 0 0 = some .eq := by decide


theorem RowC.front {w : World} {b off n c k : Nat} {cs : List Cmd} (h : RowC w (.slice (some ⟨b, off, none⟩) n c) cs) (hk : k ≤ cs.length) (c' : Nat) : RowC w (.slice (some ⟨b, off, none⟩) k c') (cs.take k) := by
  have hl : (cs.take k).length = k := by rw [List.length_take]; omega
  refine ⟨_, c', by rw [hl], fun j hj => ?_⟩
  rw [hl] at hj
  obtain ⟨b', off', e, h1, h2⟩ := h.at (by omega)
  cases e
  refine ⟨b, off, rfl, h1, ?_⟩
  rw [List.getElem_take]
  exact h2 j (by omega)

theorem RowC.back {w : World} {b off n c k : Nat} {cs : List Cmd} (h : RowC w (.slice (some ⟨b, off, none⟩) n c) cs) (D : Nat) (hk : k + D = cs.length) (c' : Nat) : RowC w (.slice (some ⟨b, off + k * 5, none⟩) D c') (cs.drop k) := by
  have hl : (cs.drop k).length = D := by rw [List.length_drop]; omega
  refine ⟨_, c', by rw [hl], fun j hj => ?_⟩
  rw [hl] at hj
  obtain ⟨b', off', e, h1, h2⟩ := h.at (by omega)
  cases e
  refine ⟨b, off + k * 5, rfl, h1, ?_⟩
  rw [List.getElem_drop]
  have := h2 (k + j) (by omega)
  rwa [show off + k * 5 + j * 5 = off + (k + j) * 5 by omega]

theorem part_ms {cs : List Cmd} (hS : Small cs) (hn : cs.length ≤ 4096) : ∃ r, floatBits .mul .f64 (mean (tot Cmd.ms cs) cs.length) (floatOfInt .f64 (cs.length : Int)) = some r ∧ RoundsTo r (tot Cmd.ms cs) := by
  by_cases hp : 0 < cs.length
  · rw [mean_pos hp]
    have := tot_ms hS
    exact part (by omega) (by omega) (by omega)
  · have : cs = [] := List.eq_nil_of_length_eq_zero (by omega)
    subst this
    exact ⟨0, part_zero⟩
theorem part_bs {cs : List Cmd} (hS : Small cs) (hn : cs.length ≤ 4096) : ∃ r, floatBits .mul .f64 (mean (tot Cmd.bs cs) cs.length) (floatOfInt .f64 (cs.length : Int)) = some r ∧ RoundsTo r (tot Cmd.bs cs) := by
  by_cases hp : 0 < cs.length
  · rw [mean_pos hp]
    have := tot_bs hS
    exact part (by omega) (by omega) (by omega)
  · have : cs = [] := List.eq_nil_of_length_eq_zero (by omega)
    subst this
    exact ⟨0, part_zero⟩

/-- the whole's averages -/
structure Whole (M B : Nat) (cs : List Cmd) : Prop where
  sm : FloatKind.f64.format.order M M = some .eq
  sb : FloatKind.f64.format.order B B = some .eq
  qm : floatBits .quo .f64 (floatOfInt .f64 (tot Cmd.ms cs)) (floatOfInt .f64 (cs.length : Int)) = some M
  qb : floatBits .quo .f64 (floatOfInt .f64 (tot Cmd.bs cs)) (floatOfInt .f64 (cs.length : Int)) = some B

theorem whole {cs : List Cmd} (hS : Small cs) (hp : 0 < cs.length) (hn : cs.length ≤ 4096) : Whole (mean (tot Cmd.ms cs) cs.length) (mean (tot Cmd.bs cs) cs.length) cs := by
  have s1 := tot_ms hS
  have s2 := tot_bs hS
  rw [mean_pos hp, mean_pos hp]
  obtain ⟨_, q1, -⟩ := avg_spec (t := tot Cmd.ms cs) (n := cs.length) (by omega) (by omega) (by omega)
  obtain ⟨_, q2, -⟩ := avg_spec (t := tot Cmd.bs cs) (n := cs.length) (by omega) (by omega) (by omega)
  exact ⟨avg_same (by omega) (by omega) (by omega), avg_same (by omega) (by omega) (by omega), q1, q2⟩

end Split

end Go.Proofs.Qxb6626374a
