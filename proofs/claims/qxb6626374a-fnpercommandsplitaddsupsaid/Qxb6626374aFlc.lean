/- Plain laws of double precision, ended: averages of whole numbers and what they round to. -/
import Derived.Test.Qxb6626374aFlb
namespace Go.Proofs.Qxb6626374a
open Ieee

/-- float64 of a whole number -/
def N (n : Int) : Nat := floatOfInt .f64 n

theorem N_eq (t : Int) : N t = double.nearest (decide (t < 0)) t.natAbs (-((0 : Nat) : Int)) := rfl

theorem N_val {t : Int} (h : t.natAbs < 2 ^ 52) : Val (N t) (decide (t < 0)) t.natAbs 0 := by
  rw [N_eq]
  exact nearest_exact _ (by omega) (by omega) (by omega)

theorem N_zero : N 0 = 0 := rfl

theorem addN {a b : Int} (ha : a.natAbs < 2 ^ 52) (hb : b.natAbs < 2 ^ 52) : floatBits .add .f64 (N a) (N b) = some (N (a + b)) := by
  have h := sum_val (c := a + b) (N_val ha) (N_val hb) (by rw [sgn_natAbs, sgn_natAbs])
  refine Eq.trans h ?_
  rw [N_eq]
  congr 2
  by_cases h0 : a + b = 0
  · rw [if_pos h0, h0]
    by_cases h1 : a < 0
    · have : ¬ b < 0 := by omega
      simp [this]
    · simp [h1]
  · rw [if_neg h0]

/-- the average: t over n -/
def avg (t n : Int) : Nat := (double.div (N t) (N n)).getD 0

theorem avg_spec {t n : Int} (hn : 0 < n) (hn2 : n.natAbs < 2 ^ 50) (ht : t.natAbs < 2 ^ 50) :
    ∃ d, floatBits .quo .f64 (N t) (N n) = some (avg t n) ∧ Val (avg t n) (decide (t < 0)) (rhe (t.natAbs * 2 ^ d) n.natAbs) d ∧
      1 ≤ d ∧ d ≤ 200 ∧ (t ≠ 0 → 2 ^ 52 * n.natAbs ≤ t.natAbs * 2 ^ d ∧ t.natAbs * 2 ^ d < 2 ^ 53 * n.natAbs) := by
  have vn := N_val (t := n) (by omega)
  rw [decide_eq_false (show ¬ n < 0 by omega)] at vn
  have vt := N_val (t := t) (by omega)
  by_cases h0 : t = 0
  · subst h0
    have e := div_zero_val vt vn (by omega)
    have ea : avg 0 n = double.nearest false 0 0 := by unfold avg; rw [e]; rfl
    refine ⟨1, ?_, ?_, by omega, by omega, fun h => absurd rfl h⟩
    · rw [ea]; exact e
    · rw [ea]
      have r0 : rhe (Int.natAbs 0 * 2 ^ 1) n.natAbs = 0 := by
        have := rhe_le (a := Int.natAbs 0 * 2 ^ 1) (b := n.natAbs) (c := 0) (by omega) (by simp)
        omega
      rw [r0]
      exact ValD.scale (nearest_exact false (c := 0) (d := 0) (by decide) (by decide) (by decide)) rfl
  · obtain ⟨r, d, h1, h2, h3, h4, h5, h6⟩ := div_val vt vn (by omega) (by omega) (by omega)
    have ea : avg t n = r := by unfold avg; rw [h1]; rfl
    refine ⟨d, ?_, ?_, h3, h4, fun _ => ⟨h5, h6⟩⟩
    · rw [ea]; exact h1
    · rw [ea]; exact h2

theorem cmp_self (a : Int) : compare a a = .eq := by rw [cmp_spec]; simp

theorem order_self {x : Nat} {s : Bool} {a d : Nat} (h : Val x s a d) : double.order x x = some .eq := by
  rw [order_val h h, cmp_self]

theorem avg_double {t n : Int} (hn : 0 < n) (hn2 : n.natAbs < 2 ^ 49) (ht : t.natAbs < 2 ^ 49) :
    double.order (avg t n) (avg (2 * t) (2 * n)) = some .eq := by
  obtain ⟨d, -, h2, h3, h4, h5⟩ := avg_spec hn (by omega) (show t.natAbs < 2 ^ 50 by omega)
  obtain ⟨d', -, k2, k3, k4, k5⟩ := avg_spec (t := 2 * t) (n := 2 * n) (by omega) (by omega) (by omega)
  rw [order_val h2 k2]
  have e1 : (2 * t).natAbs = 2 * t.natAbs := by omega
  have e2 : (2 * n).natAbs = 2 * n.natAbs := by omega
  have e3 : decide (2 * t < 0) = decide (t < 0) := decide_eq_decide.2 (by omega)
  rw [e1, e2] at k5
  rw [e1, e2, e3]
  have er : rhe (2 * t.natAbs * 2 ^ d') (2 * n.natAbs) = rhe (t.natAbs * 2 ^ d') n.natAbs := by
    rw [Nat.mul_assoc, rhe_mul (by decide)]
  rw [er]
  by_cases h0 : t = 0
  · subst h0
    have r0 : ∀ e, rhe (Int.natAbs 0 * 2 ^ e) n.natAbs = 0 := fun e => by
      have := rhe_le (a := Int.natAbs 0 * 2 ^ e) (b := n.natAbs) (c := 0) (by omega) (by simp)
      omega
    rw [r0, r0, Nat.zero_mul, Nat.zero_mul, cmp_self]
  · obtain ⟨a1, a2⟩ := h5 h0
    obtain ⟨b1, b2⟩ := k5 (by omega)
    rw [Nat.mul_assoc] at b1 b2
    have ed : d = d' := by
      rcases Nat.lt_trichotomy d d' with h | h | h
      · have : 2 ^ (d + 1) ≤ 2 ^ d' := Nat.pow_le_pow_right (by decide) h
        have := Nat.mul_le_mul_left t.natAbs this
        rw [Nat.pow_succ, ← Nat.mul_assoc] at this
        omega
      · exact h
      · have : 2 ^ (d' + 1) ≤ 2 ^ d := Nat.pow_le_pow_right (by decide) h
        have := Nat.mul_le_mul_left t.natAbs this
        rw [Nat.pow_succ, ← Nat.mul_assoc] at this
        omega
    subst ed
    rw [cmp_self]

theorem avg_same {t n : Int} (hn : 0 < n) (hn2 : n.natAbs < 2 ^ 50) (ht : t.natAbs < 2 ^ 50) :
    double.order (avg t n) (avg t n) = some .eq := by
  obtain ⟨d, -, h2, -, -, -⟩ := avg_spec hn hn2 ht
  exact order_self h2

theorem not_gt_of_le {a b : Int} (h : a ≤ b) : compare a b ≠ .gt := by
  rw [cmp_spec]
  split
  · intro h; cases h
  · split
    · intro h; cases h
    · omega

theorem nat_mul_le {a b c d : Nat} (h : a * b ≤ c) : a * d * b ≤ c * d := by
  rw [Nat.mul_right_comm]; exact Nat.mul_le_mul_right d h
theorem nat_le_mul {a b c d : Nat} (h : c ≤ a * b) : c * d ≤ a * d * b := by
  rw [Nat.mul_right_comm]; exact Nat.mul_le_mul_right d h

theorem avg_lo {lo t n : Int} (hn : 0 < n) (hn2 : n.natAbs < 2 ^ 50) (ht : t.natAbs < 2 ^ 50) (hlo : lo.natAbs < 2 ^ 50)
    (h : lo * n ≤ t) : double.order (N lo) (avg t n) ≠ some .gt := by
  obtain ⟨d, -, h2, -, -, -⟩ := avg_spec hn hn2 ht
  rw [order_val (N_val (by omega)) h2]
  intro he
  refine not_gt_of_le ?_ (Option.some.inj he)
  rw [Nat.pow_zero, Nat.mul_one]
  have hab : (lo * n).natAbs = lo.natAbs * n.natAbs := Int.natAbs_mul ..
  have hp : 0 < n.natAbs := by omega
  by_cases h0 : t < 0
  · have hl : lo < 0 := by
      rcases Int.lt_or_le lo 0 with h' | h'
      · exact h'
      · have := Int.mul_nonneg h' (show 0 ≤ n by omega); omega
    have := rhe_le (c := lo.natAbs * 2 ^ d) hp (nat_le_mul (d := 2 ^ d) (show t.natAbs ≤ lo.natAbs * n.natAbs by omega))
    rw [decide_eq_true h0, decide_eq_true hl]
    unfold sgn
    simp only [if_true]
    omega
  · rw [decide_eq_false h0]
    by_cases hl : lo < 0
    · rw [decide_eq_true hl]
      unfold sgn
      simp only [if_true, Bool.false_eq_true, if_false]
      omega
    · have hpos := Int.mul_nonneg (show 0 ≤ lo by omega) (show 0 ≤ n by omega)
      have := rhe_ge (c := lo.natAbs * 2 ^ d) hp (nat_mul_le (d := 2 ^ d) (show lo.natAbs * n.natAbs ≤ t.natAbs by omega))
      rw [decide_eq_false hl]
      unfold sgn
      simp only [Bool.false_eq_true, if_false]
      omega

theorem avg_hi {hi t n : Int} (hn : 0 < n) (hn2 : n.natAbs < 2 ^ 50) (ht : t.natAbs < 2 ^ 50) (hhi : hi.natAbs < 2 ^ 50)
    (h : t ≤ hi * n) : double.order (avg t n) (N hi) ≠ some .gt := by
  obtain ⟨d, -, h2, -, -, -⟩ := avg_spec hn hn2 ht
  rw [order_val h2 (N_val (by omega))]
  intro he
  refine not_gt_of_le ?_ (Option.some.inj he)
  rw [Nat.pow_zero, Nat.mul_one]
  have hab : (hi * n).natAbs = hi.natAbs * n.natAbs := Int.natAbs_mul ..
  have hp : 0 < n.natAbs := by omega
  by_cases h0 : hi < 0
  · have hl : hi * n < 0 := Int.mul_neg_of_neg_of_pos h0 hn
    have := rhe_ge (c := hi.natAbs * 2 ^ d) hp (nat_mul_le (d := 2 ^ d) (show hi.natAbs * n.natAbs ≤ t.natAbs by omega))
    rw [decide_eq_true h0, decide_eq_true (show t < 0 by omega)]
    unfold sgn
    simp only [if_true]
    omega
  · rw [decide_eq_false h0]
    by_cases hl : t < 0
    · rw [decide_eq_true hl]
      unfold sgn
      simp only [if_true, Bool.false_eq_true, if_false]
      omega
    · have := rhe_le (c := hi.natAbs * 2 ^ d) hp (nat_le_mul (d := 2 ^ d) (show t.natAbs ≤ hi.natAbs * n.natAbs by omega))
      rw [decide_eq_false hl]
      unfold sgn
      simp only [Bool.false_eq_true, if_false]
      omega

/-- 0.5 and -0.5 -/
def half : Nat := 4602678819172646912
def nhalf : Nat := 13826050856027422720

theorem half_val : Val half false 1 1 := ⟨4503599627370496, 53, by decide, by decide, by decide, by decide⟩
theorem nhalf_val : Val nhalf true 1 1 := ⟨4503599627370496, 53, by decide, by decide, by decide, by decide⟩

/-- What the program's rounding asks of x on its way to the whole number T. -/
def RoundsTo (x : Nat) (T : Int) : Prop :=
  ∃ τ δ, floatToIntVal .f64 x .i64 = some τ ∧ floatBits .sub .f64 x (N τ) = some δ ∧ τ.natAbs < 2 ^ 52 ∧
    (if (double.order δ half == some .gt || double.order δ half == some .eq) then τ + 1
     else if (double.order δ nhalf == some .lt || double.order δ nhalf == some .eq) then τ - 1 else τ) = T

theorem sgn_neg (s : Bool) (a : Nat) : sgn (!s) a = - sgn s a := by
  unfold sgn; cases s <;> simp

theorem sgn_abs (s : Bool) (a : Nat) : (sgn s a).natAbs = a := by
  unfold sgn; cases s
  · exact Int.natAbs_natCast a
  · exact (Int.natAbs_neg _).trans (Int.natAbs_natCast a)

theorem sgn_sign (s t : Bool) (a : Nat) : sgn (if sgn s a = 0 then t else decide (sgn s a < 0)) a = sgn s a := by
  by_cases h : sgn s a = 0
  · rw [if_pos h, h]
    have : a = 0 := by have := sgn_abs s a; rw [h] at this; exact this.symm
    subst this
    cases t <;> rfl
  · rw [if_neg h]
    have := sgn_natAbs (sgn s a)
    rwa [sgn_abs] at this

theorem roundsTo {x : Nat} {s : Bool} {K D T : Nat} (hx : Val x s K D) (hT : T < 2 ^ 50) (hK : K % 2 ^ D < 2 ^ 53) (hD : D ≤ 900)
    (h1 : 2 * K < 2 * (T * 2 ^ D) + 2 ^ D) (h2 : 2 * (T * 2 ^ D) < 2 * K + 2 ^ D) : RoundsTo x (sgn s T) := by
  have p := Nat.two_pow_pos D
  have e := Nat.div_add_mod K (2 ^ D)
  have hr := Nat.mod_lt K p
  have hi := toInt_val hx
  -- the whole part
  have hq : K / 2 ^ D ≤ T := by
    apply Nat.le_of_lt_succ
    rw [Nat.div_lt_iff_lt_mul p, Nat.succ_mul]
    omega
  generalize K / 2 ^ D = τ at *
  have hτ : (sgn s τ).natAbs = τ := sgn_abs s τ
  have hin : floatToIntVal .f64 x .i64 = some (sgn s τ) := by
    unfold floatToIntVal
    have hi' : (FloatKind.f64.decode x).toInt .zero = some (sgn s τ) := hi
    rw [hi']
    have hm : IntKind.i64.min = -9223372036854775808 := rfl
    have hM : IntKind.i64.max = 9223372036854775807 := rfl
    simp only [hm, hM]
    rw [if_pos ⟨by omega, by omega⟩]
  have vτ := N_val (t := sgn s τ) (by omega)
  have vτD : ValD (double.read (N (sgn s τ))) (decide (sgn s τ < 0)) ((sgn s τ).natAbs * 2 ^ D) D :=
    ValD.scale vτ (by simp)
  have hdiff : sgn s K + sgn (!decide (sgn s τ < 0)) ((sgn s τ).natAbs * 2 ^ D) = sgn s (K % 2 ^ D) := by
    rw [sgn_neg, sgn_mul, sgn_natAbs, ← sgn_mul]
    unfold sgn
    cases s
    · simp only [Bool.false_eq_true, if_false]
      rw [Nat.mul_comm τ]; omega
    · simp only [if_true]
      rw [Nat.mul_comm τ]; omega
  have hs := sum_val hx (opposite_val vτD) hdiff
  have hab : (sgn s (K % 2 ^ D)).natAbs = K % 2 ^ D := sgn_abs s _
  rw [hab] at hs
  have vδ := nearest_exact (if sgn s (K % 2 ^ D) = 0 then (s && !decide (sgn s τ < 0)) else decide (sgn s (K % 2 ^ D) < 0)) (c := K % 2 ^ D) (d := D) hK
    (Nat.lt_of_lt_of_le hr (Nat.pow_le_pow_right (by decide) (by omega))) hD
  refine ⟨sgn s τ, _, hin, hs, by omega, ?_⟩
  rw [order_val vδ half_val, order_val vδ nhalf_val, sgn_mul, sgn_sign]
  clear vδ hs hab hdiff vτD vτ hin hτ hi hx hK
  have ht1 : 2 ^ D ≤ 2 * (K % 2 ^ D) → T = τ + 1 := by
    intro h
    have a1 : τ * 2 ^ D < T * 2 ^ D := by rw [Nat.mul_comm τ]; omega
    have a2 : T * 2 ^ D < (τ + 2) * 2 ^ D := by rw [Nat.add_mul, Nat.mul_comm τ]; omega
    have := Nat.lt_of_mul_lt_mul_right a1
    have := Nat.lt_of_mul_lt_mul_right a2
    omega
  have ht2 : 2 * (K % 2 ^ D) < 2 ^ D → T = τ := by
    intro h
    have a2 : T * 2 ^ D < (τ + 1) * 2 ^ D := by rw [Nat.add_mul, Nat.mul_comm τ]; omega
    have := Nat.lt_of_mul_lt_mul_right a2
    omega
  generalize K % 2 ^ D = ρ at *
  rw [Nat.one_mul, Nat.pow_one]
  generalize 2 ^ D = P at *
  clear e h1 h2
  cases s
  · rcases Nat.lt_or_ge (2 * ρ) P with h | h
    · have c1 : compare (sgn false ρ * ((2 : Nat) : Int)) (sgn false P) = .lt := by
        rw [cmp_spec, if_pos]; unfold sgn; simp only [Bool.false_eq_true, if_false]; omega
      have c2 : compare (sgn false ρ * ((2 : Nat) : Int)) (sgn true P) = .gt := by
        rw [cmp_spec, if_neg, if_neg] <;> (unfold sgn; simp only [Bool.false_eq_true, if_false, if_true]; omega)
      rw [c1, c2, ht2 h]; rfl
    · have c1 : compare (sgn false ρ * ((2 : Nat) : Int)) (sgn false P) ≠ .lt := by
        rw [cmp_spec, if_neg]
        · split <;> decide
        · unfold sgn; simp only [Bool.false_eq_true, if_false]; omega
      rw [ht1 h]
      cases hc : compare (sgn false ρ * ((2 : Nat) : Int)) (sgn false P)
      · exact absurd hc c1
      · unfold sgn; simp
      · unfold sgn; simp
  · have c1 : compare (sgn true ρ * ((2 : Nat) : Int)) (sgn false P) = .lt := by
      rw [cmp_spec, if_pos]; unfold sgn; simp only [Bool.false_eq_true, if_false, if_true]; omega
    rw [c1]
    rcases Nat.lt_or_ge (2 * ρ) P with h | h
    · have c2 : compare (sgn true ρ * ((2 : Nat) : Int)) (sgn true P) = .gt := by
        rw [cmp_spec, if_neg, if_neg] <;> (unfold sgn; simp only [if_true]; omega)
      rw [c2, ht2 h]; rfl
    · have c2 : compare (sgn true ρ * ((2 : Nat) : Int)) (sgn true P) ≠ .gt := by
        apply not_gt_of_le
        unfold sgn; simp only [if_true]; omega
      rw [ht1 h]
      cases hc : compare (sgn true ρ * ((2 : Nat) : Int)) (sgn true P)
      · unfold sgn; simp; omega
      · unfold sgn; simp; omega
      · exact absurd hc c2

/-- the average of t over n, times n, rounds to t -/
theorem part {t n : Int} (hn : 0 < n) (hn2 : n.natAbs < 2 ^ 50) (ht : t.natAbs < 2 ^ 49) :
    ∃ r, floatBits .mul .f64 (avg t n) (N n) = some r ∧ RoundsTo r t := by
  obtain ⟨d, -, h2, h3, h4, h5⟩ := avg_spec (t := t) hn hn2 (by omega)
  have vn := N_val (t := n) (by omega)
  rw [decide_eq_false (show ¬ n < 0 by omega)] at vn
  by_cases h0 : t = 0
  · subst h0
    have r0 : rhe (Int.natAbs 0 * 2 ^ d) n.natAbs = 0 := by
      have := rhe_le (a := Int.natAbs 0 * 2 ^ d) (b := n.natAbs) (c := 0) (by omega) (by simp)
      omega
    rw [r0] at h2
    refine ⟨_, mul_zero_val h2 vn, ?_⟩
    exact roundsTo (s := false) (K := 0) (D := 0) (T := 0) (nearest_exact false (c := 0) (d := 0) (by decide) (by decide) (by decide)) (by decide) (by decide) (by decide) (by decide) (by decide)
  · obtain ⟨a1, a2⟩ := h5 h0
    have hp : 0 < n.natAbs := by omega
    have hk1 := rhe_ge hp a1
    have hk2 := rhe_le hp (Nat.le_of_lt a2)
    have hnear := rhe_near (a := t.natAbs * 2 ^ d) hp
    generalize rhe (t.natAbs * 2 ^ d) n.natAbs = k at *
    have hT : t.natAbs * 2 ^ d < 2 ^ 49 * 2 ^ d := Nat.mul_lt_mul_of_pos_right ht (Nat.two_pow_pos d)
    have hT1 : 1 * 2 ^ d ≤ t.natAbs * 2 ^ d := Nat.mul_le_mul_right _ (by omega)
    have hkn : 2 ^ 52 * n.natAbs ≤ k * n.natAbs := Nat.mul_le_mul_right _ hk1
    obtain ⟨r, D, m1, m2, m3, m4, m5, m6⟩ := mul_val h2 vn (by omega) hp (by omega) (by omega)
    refine ⟨r, m1, ?_⟩
    have hn3 := rhe_near (a := k * n.natAbs * 2 ^ D) (Nat.two_pow_pos d)
    have pD := Nat.two_pow_pos D
    have pd := Nat.two_pow_pos d
    have hK2 := rhe_le (c := 2 ^ 53) pd (Nat.le_of_lt m6)
    generalize rhe (k * n.natAbs * 2 ^ D) (2 ^ d) = K at *
    have q2 : 2 * 2 ^ d ≤ 2 ^ D * 2 ^ d := Nat.mul_le_mul_right _ (by
      have : 2 ^ 1 ≤ 2 ^ D := Nat.pow_le_pow_right (by decide) m3
      omega)
    have z1 : 2 ^ D * (2 * (k * n.natAbs)) ≤ 2 ^ D * (2 * (t.natAbs * 2 ^ d) + n.natAbs) := Nat.mul_le_mul_left _ hnear.1
    have z2 : 2 ^ D * (2 * (t.natAbs * 2 ^ d)) ≤ 2 ^ D * (2 * (k * n.natAbs) + n.natAbs) := Nat.mul_le_mul_left _ hnear.2
    have z3 : 2 ^ D * (8 * n.natAbs) ≤ 2 ^ D * 2 ^ d := Nat.mul_le_mul_left _ (by omega)
    have e1 : k * n.natAbs * 2 ^ D = 2 ^ D * (k * n.natAbs) := Nat.mul_comm ..
    have e2 : ∀ y, 2 ^ D * (2 * y) = 2 * (2 ^ D * y) := fun y => Nat.mul_left_comm ..
    have e3 : 2 ^ D * (8 * n.natAbs) = 8 * (2 ^ D * n.natAbs) := Nat.mul_left_comm ..
    rw [e1] at hn3
    rw [Nat.mul_add, e2, e2] at z1 z2
    rw [e3] at z3
    have e4 : t.natAbs * 2 ^ D * 2 ^ d = 2 ^ D * (t.natAbs * 2 ^ d) := by rw [Nat.mul_comm t.natAbs, Nat.mul_assoc]
    have g1 : 2 * K < 2 * (t.natAbs * 2 ^ D) + 2 ^ D := by
      apply Nat.lt_of_mul_lt_mul_right (a := 2 ^ d)
      rw [Nat.add_mul, Nat.mul_assoc, Nat.mul_assoc, e4]
      omega
    have g2 : 2 * (t.natAbs * 2 ^ D) < 2 * K + 2 ^ D := by
      apply Nat.lt_of_mul_lt_mul_right (a := 2 ^ d)
      rw [Nat.add_mul, Nat.mul_assoc 2 (t.natAbs * 2 ^ D), Nat.mul_assoc 2 K, e4]
      omega
    have g3 : 2 ^ D < 2 ^ 54 := by
      have : 1 * 2 ^ D ≤ t.natAbs * 2 ^ D := Nat.mul_le_mul_right _ (by omega)
      omega
    have g4 : 2 ^ D ≤ 2 ^ 53 := Nat.pow_le_pow_right (by decide) (by
      have := (Nat.pow_lt_pow_iff_right (a := 2) (by decide)).1 g3
      omega)
    have hr := roundsTo m2 (by omega) (Nat.lt_of_lt_of_le (Nat.mod_lt K pD) g4) (by omega) g1 g2
    rwa [sgn_natAbs] at hr

theorem part_zero : floatBits .mul .f64 0 (N 0) = some 0 ∧ RoundsTo 0 0 := by
  refine ⟨by decide, ?_⟩
  exact roundsTo (x := 0) (s := false) (K := 0) (D := 0) (T := 0) (nearest_exact false (c := 0) (d := 0) (by decide) (by decide) (by decide)) (by decide) (by decide) (by decide) (by decide) (by decide)

end Go.Proofs.Qxb6626374a
