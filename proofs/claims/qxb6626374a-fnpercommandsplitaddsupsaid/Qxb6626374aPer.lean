import Derived.Test.Qxb6626374aBuild
namespace Go.Proofs.Qxb6626374a
open Go.RowKit

/-- the total of a count -/
def tot (f : Cmd → Int) : List Cmd → Int
  | [] => 0
  | c :: r => f c + tot f r

theorem tot_append (f : Cmd → Int) (a b : List Cmd) : tot f (a ++ b) = tot f a + tot f b := by
  induction a with
  | nil => simp [tot]
  | cons c r ih => simp only [List.cons_append, tot, ih]; omega

theorem tot_take (f : Cmd → Int) (cs : List Cmd) (k : Nat) (h : k < cs.length) : tot f (cs.take (k + 1)) = tot f (cs.take k) + f cs[k] := by
  rw [List.take_succ_eq_append_getElem h, tot_append]
  simp [tot]

/-- each count is within 2^36 -/
def Small (cs : List Cmd) : Prop := ∀ c ∈ cs, c.ms.natAbs ≤ 68719476736 ∧ c.bs.natAbs ≤ 68719476736

theorem tot_ms {cs : List Cmd} (h : Small cs) : (tot Cmd.ms cs).natAbs ≤ cs.length * 68719476736 := by
  induction cs with
  | nil => simp [tot]
  | cons c r ih =>
    have h1 := (h c (by simp)).1
    have h2 := ih (fun x hx => h x (by simp [hx]))
    simp only [tot, List.length_cons]
    omega
theorem tot_bs {cs : List Cmd} (h : Small cs) : (tot Cmd.bs cs).natAbs ≤ cs.length * 68719476736 := by
  induction cs with
  | nil => simp [tot]
  | cons c r ih =>
    have h1 := (h c (by simp)).2
    have h2 := ih (fun x hx => h x (by simp [hx]))
    simp only [tot, List.length_cons]
    omega
theorem Small.take {cs : List Cmd} (h : Small cs) (k : Nat) : Small (cs.take k) := fun c hc => h c (List.mem_of_mem_take hc)
theorem Small.drop {cs : List Cmd} (h : Small cs) (k : Nat) : Small (cs.drop k) := fun c hc => h c (List.mem_of_mem_drop hc)
theorem Small.append {a b : List Cmd} (h : Small a) (k : Small b) : Small (a ++ b) := fun c hc => by
  rcases List.mem_append.1 hc with h' | h'
  · exact h c h'
  · exact k c h'

/-- what PerCommand answers -/
def mean (t : Int) (n : Nat) : Nat := if n = 0 then 0 else avg t n

/-- the two averages come back -/
def Means (e : Ending) (m b : Nat) : Prop := e = .returned (.tuple #[.float .f64 m, .float .f64 b])

set_option maxHeartbeats 1000000 in
theorem per_zero (r g s : Int) (a : Option Addr) (c : Nat) (w : World) :
    Calls Try.prog 8 #[.agg #[.int .i64 r, .int .i64 g, .int .u64 s, .slice a 0 c]] w fun e w' => Means e 0 0 ∧ Below w.heap.size w w' := by
  go_enter Try.func8, Try.ntmps8
  go_wp2_with fail
  go_ret2
  exact ⟨rfl, (Below.refl _ _).alloc (Nat.le_refl _) _⟩

set_option maxHeartbeats 1000000 in
theorem per_pos (r g s : Int) (v : Value) (cs : List Cmd) (w : World) (h : RowC w v cs) (hsm : Small cs) (hp : 0 < cs.length) (hn : cs.length ≤ 8192) :
    Calls Try.prog 8 #[.agg #[.int .i64 r, .int .i64 g, .int .u64 s, v]] w fun e w' => Means e (avg (tot Cmd.ms cs) cs.length) (avg (tot Cmd.bs cs) cs.length) ∧ Below w.heap.size w w' := by
  obtain ⟨ao, c, rfl⟩ := h.form
  obtain ⟨b, off, rfl, hbl, hc⟩ := h.at hp
  have Hc : Hid (∀ j (h : j < cs.length), w.rangeAt b (off + j * 5) cs[j].cells) := hc
  have Hsm : Hid (Small cs) := hsm
  have hne : ¬ cs.length = 0 := by omega
  clear hc h hsm
  go_enter Try.func8, Try.ntmps8
  go_wp2_with fail
  go_loopw [2, 3, 14] (fun m y i wr => ∃ k : Nat, k ≤ cs.length ∧ i = .int .i64 k ∧ m = .float .f64 (floatOfInt .f64 (tot Cmd.ms (cs.take k))) ∧ y = .float .f64 (floatOfInt .f64 (tot Cmd.bs (cs.take k))) ∧ Below w.heap.size w wr ∧ w.heap.size < wr.heap.size ∧ wr.cell? ⟨w.heap.size, 3, none⟩ = some (.slice (some ⟨b, off, none⟩) cs.length c)) (fun _ _ i _ => cs.length - (intOf i).toNat)
  case atStart => exact ⟨0, Nat.zero_le _, rfl, rfl, rfl, (Below.refl _ _).alloc (Nat.le_refl _) _, by simp, by simp [go_sem]⟩
  case round =>
    obtain ⟨k, hk, rfl, rfl, rfl, hb, hs, hcl⟩ := hrel
    have HB : Hid (Below w.heap.size w wr) := hb
    by_cases hlt : k < cs.length
    · have hr := range_later hb (Hc.out k hlt)
      have t1 := tot_take Cmd.ms cs k hlt
      have t2 := tot_take Cmd.bs cs k hlt
      have s1 := tot_ms (Hsm.out.take k)
      have s2 := tot_bs (Hsm.out.take k)
      have s3 := Hsm.out cs[k] (List.getElem_mem hlt)
      have hbl2 : b < wr.heap.size := Nat.lt_of_lt_of_le hbl hb.size
      rw [List.length_take] at s1 s2
      clear hb
      generalize hck : cs[k] = ck at *
      obtain ⟨ix, ls, al, ms, bs⟩ := ck
      simp only at s3 t1 t2
      obtain ⟨r0, r1, r2, r3, r4⟩ := range5 hr
      simp only at r0 r1 r2 r3 r4
      generalize tot Cmd.ms (cs.take k) = tm at *
      generalize tot Cmd.bs (cs.take k) = tb at *
      have a1 := fun w => run_float_arith (P := Try.prog) w .add 33 .f64 _ _ _ (addN (a := tm) (b := ms) (by omega) (by omega))
      have a2 := fun w => run_float_arith (P := Try.prog) w .add 33 .f64 _ _ _ (addN (a := tb) (b := bs) (by omega) (by omega))
      unfold N at a1 a2
      have T : Hid (tot Cmd.ms (cs.take (k + 1)) = tm + ms ∧ tot Cmd.bs (cs.take (k + 1)) = tb + bs) := ⟨t1, t2⟩
      clear hr t1 t2 s1 s2 s3 hck
      go_wp2_with fail
      go_roundw
      case rel =>
        exact ⟨k + 1, by omega, by go_num, by rw [T.out.1], by rw [T.out.2], HB.out.alloc (by omega) _, by simp; omega, by rw [World.cell?_alloc_lt _ _ _ hs]; exact hcl⟩
      case measure => simp [intOf]; omega
    · have hkn : k = cs.length := by omega
      subst hkn
      rw [List.take_length]
      have s1 := tot_ms Hsm.out
      have s2 := tot_bs Hsm.out
      obtain ⟨_, q1, -⟩ := avg_spec (t := tot Cmd.ms cs) (n := cs.length) (by omega) (by omega) (by omega)
      obtain ⟨_, q2, -⟩ := avg_spec (t := tot Cmd.bs cs) (n := cs.length) (by omega) (by omega) (by omega)
      have a1 := fun w => run_float_arith (P := Try.prog) w .quo 33 .f64 _ _ _ q1
      have a2 := fun w => run_float_arith (P := Try.prog) w .quo 33 .f64 _ _ _ q2
      unfold N at a1 a2
      clear q1 q2 s1 s2
      go_wp2_with fail
      go_ret2
      exact ⟨rfl, HB.out⟩

theorem per_any (r g s : Int) (v : Value) (cs : List Cmd) (w : World) (h : RowC w v cs) (hsm : Small cs) (hn : cs.length ≤ 8192) :
    Calls Try.prog 8 #[.agg #[.int .i64 r, .int .i64 g, .int .u64 s, v]] w fun e w' => Means e (mean (tot Cmd.ms cs) cs.length) (mean (tot Cmd.bs cs) cs.length) ∧ Below w.heap.size w w' := by
  by_cases hp : cs.length = 0
  · obtain ⟨ao, c, rfl⟩ := h.form
    rw [hp]
    exact per_zero r g s ao c w
  · unfold mean
    rw [if_neg hp, if_neg hp]
    exact per_pos r g s v cs w h hsm (by omega) hn

set_option maxHeartbeats 1000000 in
theorem round_any (x : Nat) (T : Int) (w : World) (h : RoundsTo x T) :
    Calls Try.prog 9 #[.float .f64 x] w fun e w' => e = .returned (.int .i64 T) ∧ w' = w := by
  obtain ⟨τ, δ, h1, h2, h3, h4⟩ := h
  have c1 := fun w => run_convert_float_int (P := Try.prog) w 33 2 .f64 .i64 x τ (by kernel_rfl) Try.underlying2 h1
  have c2 := fun w => run_float_arith (P := Try.prog) w .sub 33 .f64 _ _ _ h2
  unfold N at c2
  have HT : Hid (_ = T) := h4
  clear h1 h2 h4
  cases g1 : (Ieee.double.order δ half == some .gt || Ieee.double.order δ half == some .eq)
  · cases g2 : (Ieee.double.order δ nhalf == some .lt || Ieee.double.order δ nhalf == some .eq)
    · have e := HT.out
      rw [g1, g2] at e
      simp only [Bool.false_eq_true, if_false] at e
      subst e
      clear HT
      have g1' : (FloatKind.f64.format.order δ 4602678819172646912 == some .gt || FloatKind.f64.format.order δ 4602678819172646912 == some .eq) = false := g1
      have g2' : (FloatKind.f64.format.order δ 13826050856027422720 == some .lt || FloatKind.f64.format.order δ 13826050856027422720 == some .eq) = false := g2
      clear g1 g2
      go_enter Try.func9, Try.ntmps9
      go_wp2_with fail
      go_ret
      exact ⟨rfl, rfl⟩
    · have e := HT.out
      rw [g1, g2] at e
      simp only [Bool.false_eq_true, if_false, if_true] at e
      subst e
      clear HT
      have g1' : (FloatKind.f64.format.order δ 4602678819172646912 == some .gt || FloatKind.f64.format.order δ 4602678819172646912 == some .eq) = false := g1
      have g2' : (FloatKind.f64.format.order δ 13826050856027422720 == some .lt || FloatKind.f64.format.order δ 13826050856027422720 == some .eq) = true := g2
      clear g1 g2
      go_enter Try.func9, Try.ntmps9
      go_wp2_with fail
      go_ret
      exact ⟨rfl, rfl⟩
  · have e := HT.out
    rw [g1] at e
    simp only [if_true] at e
    subst e
    clear HT
    have g1' : (FloatKind.f64.format.order δ 4602678819172646912 == some .gt || FloatKind.f64.format.order δ 4602678819172646912 == some .eq) = true := g1
    clear g1
    go_enter Try.func9, Try.ntmps9
    go_wp2_with fail
    go_ret
    exact ⟨rfl, rfl⟩

end Go.Proofs.Qxb6626374a
