/- Plain laws of double precision, continued: scale, sums, quotients, products, order. -/
import Derived.Test.Qxb6626374aFl
namespace Go.Proofs.Qxb6626374a
open Ieee

theorem log2_cross {m c d q : Nat} (hm : m ≠ 0) (hc : c ≠ 0) (h : m * 2 ^ d = c * 2 ^ q) : m.log2 + d = c.log2 + q := by
  have a := log2_bounds hm
  have b := log2_bounds hc
  have h1 : 2 ^ (m.log2 + d) < 2 ^ (c.log2 + 1 + q) := by
    rw [Nat.pow_add, Nat.pow_add _ _ q]
    calc 2 ^ m.log2 * 2 ^ d ≤ m * 2 ^ d := Nat.mul_le_mul_right _ a.1
      _ = c * 2 ^ q := h
      _ < _ := Nat.mul_lt_mul_of_pos_right b.2 (Nat.two_pow_pos q)
  have h2 : 2 ^ (c.log2 + q) < 2 ^ (m.log2 + 1 + d) := by
    rw [Nat.pow_add, Nat.pow_add _ _ d]
    calc 2 ^ c.log2 * 2 ^ q ≤ c * 2 ^ q := Nat.mul_le_mul_right _ b.1
      _ = m * 2 ^ d := h.symm
      _ < _ := Nat.mul_lt_mul_of_pos_right a.2 (Nat.two_pow_pos d)
  have b1 := (Nat.pow_lt_pow_iff_right (a := 2) (by decide)).1 h1
  have b2 := (Nat.pow_lt_pow_iff_right (a := 2) (by decide)).1 h2
  omega

theorem nearest_scale (neg : Bool) {m c d q : Nat} (h : m * 2 ^ d = c * 2 ^ q) :
    double.nearest neg m (-(q : Int)) = double.nearest neg c (-(d : Int)) := by
  rcases Nat.eq_zero_or_pos m with hm | hm
  · subst hm
    have hc : c = 0 := by
      rw [Nat.zero_mul] at h
      rcases Nat.mul_eq_zero.1 h.symm with h | h
      · exact h
      · exact absurd h (Nat.ne_of_gt (Nat.two_pow_pos q))
    subst hc
    unfold Format.nearest
    rw [if_pos rfl, if_pos rfl]
  · have hc : c ≠ 0 := by
      rintro rfl
      have := Nat.mul_pos hm (Nat.two_pow_pos d)
      omega
    have hl := log2_cross (by omega) hc h
    unfold Format.nearest
    rw [if_neg (by omega), if_neg hc]
    simp only [cut_even, Nat.shiftLeft_eq]
    have e : -(q : Int) + m.log2 = -(d : Int) + c.log2 := by omega
    rw [e]
    generalize max (-(d : Int) + c.log2 - double.fractionBits) double.leastPlace = L
    have hk : rhe (m * 2 ^ (-(q : Int) - L).toNat) (2 ^ (L - -(q : Int)).toNat) = rhe (c * 2 ^ (-(d : Int) - L).toNat) (2 ^ (L - -(d : Int)).toNat) := by
      apply rhe_cross (Nat.two_pow_pos _) (Nat.two_pow_pos _)
      apply Nat.eq_of_mul_eq_mul_right (Nat.two_pow_pos q)
      rw [Nat.mul_assoc, Nat.mul_assoc, Nat.mul_assoc, Nat.mul_assoc, ← Nat.pow_add, ← Nat.pow_add, ← Nat.pow_add, ← Nat.pow_add]
      have e1 : (-(q : Int) - L).toNat + ((L - -(d : Int)).toNat + q) = d + ((-(d : Int) - L).toNat + (L - -(q : Int)).toNat) := by omega
      rw [e1, Nat.pow_add, ← Nat.mul_assoc, h, Nat.mul_assoc, ← Nat.pow_add]
      congr 2
      omega
    rw [hk]

theorem rhe_exact {k b : Nat} (hb : 0 < b) : rhe (k * b) b = k :=
  Nat.le_antisymm (rhe_le hb (Nat.le_refl _)) (rhe_ge hb (Nat.le_refl _))

theorem ValD.scale {D : Datum} {s : Bool} {a d b e : Nat} (h : ValD D s a d) (hab : a * 2 ^ e = b * 2 ^ d) : ValD D s b e := by
  obtain ⟨m, q, h1, h2, h3, h4⟩ := h
  refine ⟨m, q, h1, ?_, h3, h4⟩
  apply Nat.eq_of_mul_eq_mul_right (Nat.two_pow_pos d)
  calc m * 2 ^ e * 2 ^ d = m * 2 ^ d * 2 ^ e := by rw [Nat.mul_right_comm]
    _ = a * 2 ^ e * 2 ^ q := by rw [h2, Nat.mul_right_comm]
    _ = b * 2 ^ q * 2 ^ d := by rw [hab, Nat.mul_right_comm]

theorem zero_val {k : Nat} (neg : Bool) (d : Nat) (hk : k ≤ 1074) : ValD (.number neg 0 (-(k : Int))) neg 0 d :=
  ⟨0, k, rfl, by rw [Nat.zero_mul, Nat.zero_mul], hk, .inl rfl⟩

theorem nearest_exact (neg : Bool) {c d : Nat} (h1 : c < 2 ^ 53) (h2 : c < 2 ^ (52 + d)) (hd : d ≤ 900) :
    Val (double.nearest neg c (-(d : Int))) neg c d := by
  rcases Nat.eq_zero_or_pos c with hc | hc
  · subst hc
    unfold Format.nearest Val
    rw [if_pos rfl, read_word neg (by decide), if_pos (by decide)]
    exact zero_val (k := 1074) neg d (Nat.le_refl _)
  · have hl := log2_bounds (n := c) (by omega)
    have l1 : c.log2 < 53 := (Nat.pow_lt_pow_iff_right (a := 2) (by decide)).1 (Nat.lt_of_le_of_lt hl.1 h1)
    have l2 : c.log2 < 52 + d := (Nat.pow_lt_pow_iff_right (a := 2) (by decide)).1 (Nat.lt_of_le_of_lt hl.1 h2)
    obtain ⟨j, hj⟩ : ∃ j, c.log2 + j = 52 := ⟨52 - c.log2, by omega⟩
    have b1 : 2 ^ 52 * 2 ^ d ≤ c * 2 ^ (d + j) := by
      rw [← hj, Nat.pow_add, Nat.pow_add, Nat.mul_comm (2 ^ d), Nat.mul_assoc]
      exact Nat.mul_le_mul_right _ hl.1
    have b2 : c * 2 ^ (d + j) < 2 ^ 53 * 2 ^ d := by
      have : (53 : Nat) = c.log2 + 1 + j := by omega
      rw [this, Nat.pow_add _ (c.log2 + 1) j, Nat.pow_add, Nat.mul_comm (2 ^ d), Nat.mul_assoc]
      exact Nat.mul_lt_mul_of_pos_right hl.2 (Nat.mul_pos (Nat.two_pow_pos _) (Nat.two_pow_pos _))
    have v := nearest_val neg b1 b2 (by omega) (by omega)
    have e : c * 2 ^ (d + j) = c * 2 ^ j * 2 ^ d := by rw [Nat.pow_add, Nat.mul_comm (2 ^ d), Nat.mul_assoc]
    rw [e, rhe_exact (Nat.two_pow_pos d)] at v
    exact ValD.scale v (by rw [Nat.mul_assoc, ← Nat.pow_add, Nat.add_comm j])

def sgn (s : Bool) (a : Nat) : Int := if s then -(a : Int) else a

theorem signed_eq (s : Bool) (m j : Nat) : signed s m j = sgn s (m * 2 ^ j) := by
  unfold signed sgn; rw [Nat.shiftLeft_eq]

theorem sgn_mul (s : Bool) (a c : Nat) : sgn s (a * c) = sgn s a * (c : Int) := by
  unfold sgn
  cases s
  · simp
  · simp [Int.neg_mul]

theorem cmp_spec (a b : Int) : compare a b = if a < b then .lt else if a = b then .eq else .gt := rfl

theorem compare_mul {a b c : Int} (hc : 0 < c) : compare (a * c) (b * c) = compare a b := by
  rw [cmp_spec, cmp_spec]
  have h1 : a * c < b * c ↔ a < b := Int.mul_lt_mul_right hc
  have h2 : a * c = b * c ↔ a = b := ⟨fun h => Int.eq_of_mul_eq_mul_right (by omega) h, fun h => by rw [h]⟩
  simp only [h1, h2]

theorem pow_cast_pos (n : Nat) : 0 < (((2 ^ n : Nat)) : Int) := by
  have := Nat.two_pow_pos n; omega

/-- Two numbers over one denominator. -/
theorem joint {s t : Bool} {m n q r a b d e : Nat} (hm : m * 2 ^ d = a * 2 ^ q) (hn : n * 2 ^ e = b * 2 ^ r) :
    ∃ Q : Nat, min (-(q : Int)) (-(r : Int)) = -(Q : Int) ∧
      signed s m (-(q : Int) - -(Q : Int)).toNat * ((2 ^ (d + e) : Nat) : Int) = sgn s (a * 2 ^ e) * ((2 ^ Q : Nat) : Int) ∧
      signed t n (-(r : Int) - -(Q : Int)).toNat * ((2 ^ (d + e) : Nat) : Int) = sgn t (b * 2 ^ d) * ((2 ^ Q : Nat) : Int) := by
  refine ⟨max q r, by omega, ?_, ?_⟩
  · rw [signed_eq, ← sgn_mul, ← sgn_mul]
    congr 1
    have : (-(q : Int) - -((max q r : Nat) : Int)).toNat = max q r - q := by omega
    rw [this]
    calc m * 2 ^ (max q r - q) * 2 ^ (d + e) = m * 2 ^ d * (2 ^ (max q r - q) * 2 ^ e) := by rw [Nat.pow_add]; grind
      _ = a * 2 ^ e * (2 ^ q * 2 ^ (max q r - q)) := by rw [hm]; grind
      _ = _ := by rw [← Nat.pow_add]; congr 2; omega
  · rw [signed_eq, ← sgn_mul, ← sgn_mul]
    congr 1
    have : (-(r : Int) - -((max q r : Nat) : Int)).toNat = max q r - r := by omega
    rw [this]
    calc n * 2 ^ (max q r - r) * 2 ^ (d + e) = n * 2 ^ e * (2 ^ (max q r - r) * 2 ^ d) := by rw [Nat.pow_add]; grind
      _ = b * 2 ^ d * (2 ^ r * 2 ^ (max q r - r)) := by rw [hn]; grind
      _ = _ := by rw [← Nat.pow_add]; congr 2; omega

theorem order_val {x y : Nat} {s t : Bool} {a b d e : Nat} (hx : Val x s a d) (hy : Val y t b e) :
    double.order x y = some (compare (sgn s (a * 2 ^ e)) (sgn t (b * 2 ^ d))) := by
  obtain ⟨m, q, h1, h2, -, -⟩ := hx
  obtain ⟨n, r, k1, k2, -, -⟩ := hy
  obtain ⟨Q, e1, e2, e3⟩ := joint (s := s) (t := t) h2 k2
  unfold Format.order Datum.order
  rw [h1, k1]
  simp only [e1]
  congr 1
  rw [← compare_mul (pow_cast_pos (d + e)), e2, e3, compare_mul (pow_cast_pos Q)]

theorem sgn_natAbs (c : Int) : sgn (decide (c < 0)) c.natAbs = c := by
  unfold sgn
  by_cases h : c < 0
  · rw [decide_eq_true h]; simp; omega
  · rw [decide_eq_false h]; simp; omega

/-- a sum over one denominator, not rounded yet -/
theorem sum_val {X Y : Datum} {s t : Bool} {a b d : Nat} {c : Int} (hx : ValD X s a d) (hy : ValD Y t b d)
    (hc : sgn s a + sgn t b = c) :
    (X.sum Y).map double.write = some (double.nearest (if c = 0 then s && t else decide (c < 0)) c.natAbs (-(d : Int))) := by
  obtain ⟨m, q, h1, h2, -, -⟩ := hx
  obtain ⟨n, r, k1, k2, -, -⟩ := hy
  obtain ⟨Q, e1, e2, e3⟩ := joint (s := s) (t := t) h2 k2
  subst h1 k1
  unfold Datum.sum
  simp only [e1, Option.map_some, Format.write]
  generalize signed s m (-(q : Int) - -(Q : Int)).toNat = u at *
  generalize signed t n (-(r : Int) - -(Q : Int)).toNat = v at *
  have hsum : (u + v) * ((2 ^ d : Nat) : Int) = c * ((2 ^ Q : Nat) : Int) := by
    have hp := pow_cast_pos d
    apply Int.eq_of_mul_eq_mul_right (a := ((2 ^ d : Nat) : Int)) (by omega)
    have e4 : ((2 ^ (d + d) : Nat) : Int) = ((2 ^ d : Nat) : Int) * ((2 ^ d : Nat) : Int) := by rw [Nat.pow_add, Int.natCast_mul]
    rw [e4, sgn_mul] at e2 e3
    rw [← hc]
    grind
  have p1 := pow_cast_pos d
  have p2 := pow_cast_pos Q
  have z : u + v = 0 ↔ c = 0 := by
    constructor
    · intro h; rw [h, Int.zero_mul] at hsum
      rcases Int.mul_eq_zero.1 hsum.symm with h | h
      · exact h
      · omega
    · intro h; rw [h, Int.zero_mul] at hsum
      rcases Int.mul_eq_zero.1 hsum with h | h
      · exact h
      · omega
  have l : u + v < 0 ↔ c < 0 := by
    have l1 : (u + v) * ((2 ^ d : Nat) : Int) < 0 * ((2 ^ d : Nat) : Int) ↔ u + v < 0 := Int.mul_lt_mul_right p1
    have l2 : c * ((2 ^ Q : Nat) : Int) < 0 * ((2 ^ Q : Nat) : Int) ↔ c < 0 := Int.mul_lt_mul_right p2
    rw [Int.zero_mul] at l1 l2
    rw [← l1, ← l2, hsum]
  have hn : (u + v).natAbs * 2 ^ d = c.natAbs * 2 ^ Q := by
    have := congrArg Int.natAbs hsum
    rwa [Int.natAbs_mul, Int.natAbs_mul, Int.natAbs_natCast, Int.natAbs_natCast] at this
  congr 1
  rw [nearest_scale _ hn]
  congr 1
  by_cases h0 : c = 0
  · rw [if_pos h0, if_pos (z.2 h0)]
  · rw [if_neg h0, if_neg (fun h => h0 (z.1 h))]
    exact decide_eq_decide.2 l

theorem opposite_val {Y : Datum} {t : Bool} {b d : Nat} (h : ValD Y t b d) : ValD Y.opposite (!t) b d := by
  obtain ⟨m, q, rfl, h2, h3, h4⟩ := h
  exact ⟨m, q, rfl, h2, h3, h4⟩

theorem toInt_val {x : Nat} {s : Bool} {a d : Nat} (hx : Val x s a d) :
    (double.read x).toInt .zero = some (sgn s (a / 2 ^ d)) := by
  obtain ⟨m, q, h1, h2, -, -⟩ := hx
  unfold Datum.toInt
  rw [h1]
  unfold Datum.integral
  simp only [cut_zero, signed_eq, Nat.shiftLeft_eq, Nat.pow_zero, Nat.mul_one]
  have e1 : (-(q : Int)).toNat = 0 := by omega
  have e2 : (- -(q : Int)).toNat = q := by omega
  rw [e1, e2, Nat.pow_zero, Nat.mul_one]
  congr 2
  rw [← Nat.mul_div_mul_right m (2 ^ q) (Nat.two_pow_pos d), h2, Nat.mul_comm (2 ^ q), Nat.mul_div_mul_right _ _ (Nat.two_pow_pos q)]

theorem Val.whole {x : Nat} {s : Bool} {a : Nat} (h : Val x s a 0) (ha : 0 < a) :
    ∃ q : Nat, double.read x = .number s (a * 2 ^ q) (-(q : Int)) ∧ q ≤ 52 ∧ 4503599627370496 ≤ a * 2 ^ q ∧ a * 2 ^ q < 9007199254740992 := by
  obtain ⟨m, q, h1, h2, h3, h4⟩ := h
  rw [Nat.pow_zero, Nat.mul_one] at h2
  subst h2
  have : 0 < a * 2 ^ q := Nat.mul_pos ha (Nat.two_pow_pos q)
  rcases h4 with h4 | h4
  · omega
  · refine ⟨q, h1, ?_, h4.1, h4.2⟩
    have hq : 2 ^ q < 2 ^ 53 := by
      have : 1 * 2 ^ q ≤ a * 2 ^ q := Nat.mul_le_mul_right _ ha
      have : (2 : Nat) ^ 53 = 9007199254740992 := rfl
      omega
    have := (Nat.pow_lt_pow_iff_right (a := 2) (by decide)).1 hq
    omega

theorem log2_full {m : Nat} (h1 : 4503599627370496 ≤ m) (h2 : m < 9007199254740992) : m.log2 = 52 := by
  have hl := log2_bounds (n := m) (by omega)
  have a1 : 2 ^ m.log2 < 2 ^ 53 := Nat.lt_of_le_of_lt hl.1 h2
  have a2 : 2 ^ 52 < 2 ^ (m.log2 + 1) := Nat.lt_of_le_of_lt h1 hl.2
  have b1 := (Nat.pow_lt_pow_iff_right (a := 2) (by decide)).1 a1
  have b2 := (Nat.pow_lt_pow_iff_right (a := 2) (by decide)).1 a2
  omega

/-- a quotient of whole numbers -/
theorem div_val {x y : Nat} {s : Bool} {a b : Nat} (hx : Val x s a 0) (hy : Val y false b 0) (ha : 0 < a) (hb : 0 < b)
    (hab : a < 2 ^ 51 * b) :
    ∃ r d, double.div x y = some r ∧ Val r s (rhe (a * 2 ^ d) b) d ∧ 1 ≤ d ∧ d ≤ 200 ∧ 2 ^ 52 * b ≤ a * 2 ^ d ∧ a * 2 ^ d < 2 ^ 53 * b := by
  obtain ⟨q, h1, h2, h3, h4⟩ := hx.whole ha
  obtain ⟨r, k1, k2, k3, k4⟩ := hy.whole hb
  unfold Format.div
  rw [h1, k1]
  unfold Datum.quotient
  have hdig : double.fractionBits + 2 = 54 := rfl
  simp only [hdig, log2_full h3 h4, log2_full k3 k4, Nat.shiftLeft_eq]
  rw [if_neg (by omega)]
  simp only [Option.map_some, Format.write, Bool.xor_false]
  rw [show 54 + 52 - 52 = 54 from rfl]
  have hst := fun g hg => rhe_sticky (A := a * 2 ^ q * 2 ^ 54) (B := b * 2 ^ r) (g := g) (by omega) hg
  have hu := Nat.div_add_mod (a * 2 ^ q * 2 ^ 54) (b * 2 ^ r)
  have hv := Nat.mod_lt (a * 2 ^ q * 2 ^ 54) (show 0 < b * 2 ^ r by omega)
  have hs1 := toNat_le_one (a * 2 ^ q * 2 ^ 54 % (b * 2 ^ r) != 0)
  have hu1 : 2 ^ 53 ≤ a * 2 ^ q * 2 ^ 54 / (b * 2 ^ r) := by
    rw [Nat.le_div_iff_mul_le (by omega)]; omega
  have hu2 : a * 2 ^ q * 2 ^ 54 / (b * 2 ^ r) < 2 ^ 55 := by
    rw [Nat.div_lt_iff_lt_mul (by omega)]; omega
  generalize (a * 2 ^ q * 2 ^ 54 % (b * 2 ^ r) != 0).toNat = σ at *
  generalize hU : a * 2 ^ q * 2 ^ 54 / (b * 2 ^ r) = u at *
  generalize a * 2 ^ q * 2 ^ 54 % (b * 2 ^ r) = v at *
  have he : ∃ e g, 2 ^ e = 4 * g ∧ 0 < g ∧ e ≤ 3 ∧ 2 ^ 51 * (4 * g) ≤ u ∧ u < 2 ^ 52 * (4 * g) := by
    rcases Nat.lt_or_ge u (2 ^ 54) with h | h
    · exact ⟨2, 1, rfl, by decide, by decide, by omega, by omega⟩
    · exact ⟨3, 2, rfl, by decide, by decide, by omega, by omega⟩
  obtain ⟨e, g, eg, g0, e3, u1, u2⟩ := he
  obtain ⟨d, hd⟩ : ∃ d, q + 55 = r + d + e := ⟨q + 55 - r - e, by omega⟩
  have hpl : (-(q : Int) - -(r : Int) - ((54 : Nat) : Int) - 1) = -((d + e : Nat) : Int) := by omega
  rw [hpl]
  have hbig : a * 2 ^ d * (2 ^ r * 2 ^ e) = 2 * (a * 2 ^ q * 2 ^ 54) := by
    have : 2 ^ d * (2 ^ r * 2 ^ e) = 2 ^ q * 2 ^ 55 := by
      rw [← Nat.pow_add, ← Nat.pow_add, ← Nat.pow_add]; congr 1; omega
    rw [Nat.mul_assoc, this, ← Nat.mul_assoc]
    omega
  have l1 : 2 ^ 52 * b ≤ a * 2 ^ d := by
    apply Nat.le_of_mul_le_mul_right (c := 2 ^ r * 2 ^ e) _ (Nat.mul_pos (Nat.two_pow_pos r) (Nat.two_pow_pos e))
    have : b * 2 ^ r * (2 ^ 51 * (4 * g)) ≤ b * 2 ^ r * u := Nat.mul_le_mul_left _ u1
    rw [hbig, eg]
    grind
  have l2 : a * 2 ^ d < 2 ^ 53 * b := by
    apply Nat.lt_of_mul_lt_mul_right (a := 2 ^ r * 2 ^ e)
    have : b * 2 ^ r * (u + 1) ≤ b * 2 ^ r * (2 ^ 52 * (4 * g)) := Nat.mul_le_mul_left _ u2
    rw [hbig, eg]
    grind
  have hd1 : 1 ≤ d := by
    rcases Nat.eq_zero_or_pos d with h | h
    · subst h; omega
    · exact h
  have m1 : 2 ^ 52 * 2 ^ (d + e) ≤ (2 * u + σ) * 2 ^ d := by
    rw [Nat.pow_add, eg]
    have := Nat.mul_le_mul_right (2 ^ d) (show 2 ^ 52 * (4 * g) ≤ 2 * u + σ by omega)
    grind
  have m2 : (2 * u + σ) * 2 ^ d < 2 ^ 53 * 2 ^ (d + e) := by
    rw [Nat.pow_add, eg]
    have := Nat.mul_lt_mul_of_pos_right (show 2 * u + σ < 2 ^ 53 * (4 * g) by omega) (Nat.two_pow_pos d)
    grind
  have v := nearest_val s m1 m2 hd1 (by omega)
  refine ⟨_, d, rfl, ?_, hd1, by omega, l1, l2⟩
  have e1 : rhe ((2 * u + σ) * 2 ^ d) (2 ^ (d + e)) = rhe (a * 2 ^ d) b := by
    rw [rhe_cross (a' := 2 * u + σ) (b' := 4 * g) (Nat.two_pow_pos _) (by omega) (by rw [← eg, Nat.mul_assoc, ← Nat.pow_add]), hst g g0]
    apply rhe_cross (Nat.mul_pos (by omega) (by omega)) hb
    rw [← hbig, eg]
    grind
  rw [e1] at v
  exact v

/-- nought over a whole number -/
theorem div_zero_val {x y : Nat} {b : Nat} (hx : Val x false 0 0) (hy : Val y false b 0) (hb : 0 < b) :
    double.div x y = some (double.nearest false 0 0) := by
  obtain ⟨m, q, h1, h2, -, -⟩ := hx
  obtain ⟨r, k1, k2, k3, k4⟩ := hy.whole hb
  have hm : m = 0 := by simpa using h2
  subst hm
  unfold Format.div
  rw [h1, k1]
  unfold Datum.quotient
  simp only [Nat.shiftLeft_eq, Nat.zero_mul]
  rw [if_neg (by omega)]
  simp [Format.write, Format.nearest]

/-- a product with a whole number -/
theorem mul_val {x y : Nat} {s : Bool} {a d b : Nat} (hx : Val x s a d) (hy : Val y false b 0) (ha : 0 < a) (hb : 0 < b)
    (hab : a * b < 2 ^ 51 * 2 ^ d) (hbig : 2 ^ d ≤ a * b * 2 ^ 100) :
    ∃ r D, double.mul x y = some r ∧ Val r s (rhe (a * b * 2 ^ D) (2 ^ d)) D ∧ 1 ≤ D ∧ D ≤ 200 ∧
      2 ^ 52 * 2 ^ d ≤ a * b * 2 ^ D ∧ a * b * 2 ^ D < 2 ^ 53 * 2 ^ d := by
  obtain ⟨m, q, h1, h2, -, h4⟩ := hx
  obtain ⟨r, k1, k2, k3, k4⟩ := hy.whole hb
  have hm : 4503599627370496 ≤ m ∧ m < 9007199254740992 := by
    rcases h4 with h4 | h4
    · subst h4
      have := Nat.mul_pos ha (Nat.two_pow_pos q)
      omega
    · exact h4
  unfold Format.mul
  rw [h1, k1]
  unfold Datum.product
  simp only [Option.map_some, Format.write, Bool.xor_false]
  have hpl : -(q : Int) + -(r : Int) = -((q + r : Nat) : Int) := by omega
  rw [hpl]
  have hprod : m * (b * 2 ^ r) * 2 ^ d = a * b * 2 ^ (q + r) := by rw [Nat.pow_add]; grind
  have hM : m * (b * 2 ^ r) ≠ 0 := Nat.ne_of_gt (Nat.mul_pos (by omega) (by omega))
  generalize m * (b * 2 ^ r) = M at *
  have hlc := log2_cross (d := d) (q := q + r) hM (Nat.ne_of_gt (Nat.mul_pos ha hb)) hprod
  have hl := log2_bounds (Nat.ne_of_gt (Nat.mul_pos ha hb))
  have t1 : (a * b).log2 < 51 + d := by
    apply (Nat.pow_lt_pow_iff_right (a := 2) (by decide)).1
    rw [Nat.pow_add]
    exact Nat.lt_of_le_of_lt hl.1 hab
  have t2 : d < (a * b).log2 + 1 + 100 := by
    apply (Nat.pow_lt_pow_iff_right (a := 2) (by decide)).1
    rw [Nat.pow_add _ _ 100]
    exact Nat.lt_of_le_of_lt hbig (Nat.mul_lt_mul_of_pos_right hl.2 (by decide))
  obtain ⟨D, hD⟩ : ∃ D, (a * b).log2 + D = 52 + d := ⟨52 + d - (a * b).log2, by omega⟩
  have l1 : 2 ^ 52 * 2 ^ d ≤ a * b * 2 ^ D := by
    rw [← Nat.pow_add, ← hD, Nat.pow_add]
    exact Nat.mul_le_mul_right _ hl.1
  have l2 : a * b * 2 ^ D < 2 ^ 53 * 2 ^ d := by
    have : 2 ^ 53 * 2 ^ d = 2 ^ ((a * b).log2 + 1) * 2 ^ D := by
      rw [← Nat.pow_add, ← Nat.pow_add]; congr 1; omega
    rw [this]
    exact Nat.mul_lt_mul_of_pos_right hl.2 (Nat.two_pow_pos D)
  have e0 : M * 2 ^ D * 2 ^ d = a * b * 2 ^ D * 2 ^ (q + r) := by rw [Nat.mul_right_comm, hprod, Nat.mul_right_comm]
  have m1 : 2 ^ 52 * 2 ^ (q + r) ≤ M * 2 ^ D := by
    apply Nat.le_of_mul_le_mul_right (c := 2 ^ d) _ (Nat.two_pow_pos d)
    have := Nat.mul_le_mul_right (2 ^ (q + r)) l1
    rw [e0, Nat.mul_right_comm]
    exact this
  have m2 : M * 2 ^ D < 2 ^ 53 * 2 ^ (q + r) := by
    apply Nat.lt_of_mul_lt_mul_right (a := 2 ^ d)
    have := Nat.mul_lt_mul_of_pos_right l2 (Nat.two_pow_pos (q + r))
    rw [e0, Nat.mul_right_comm (2 ^ 53)]
    exact this
  have v := nearest_val s m1 m2 (by omega) (by omega)
  refine ⟨_, D, rfl, ?_, by omega, by omega, l1, l2⟩
  have e1 : rhe (M * 2 ^ D) (2 ^ (q + r)) = rhe (a * b * 2 ^ D) (2 ^ d) := by
    exact rhe_cross (Nat.two_pow_pos _) (Nat.two_pow_pos _) e0
  rw [e1] at v
  exact v

theorem mul_zero_val {x y : Nat} {d b : Nat} (hx : Val x false 0 d) (hy : Val y false b 0) :
    double.mul x y = some (double.nearest false 0 0) := by
  obtain ⟨m, q, h1, h2, -, -⟩ := hx
  obtain ⟨n, r, k1, k2, -, -⟩ := hy
  have hm : m = 0 := by
    rw [Nat.zero_mul] at h2
    rcases Nat.mul_eq_zero.1 h2 with h | h
    · exact h
    · exact absurd h (Nat.ne_of_gt (Nat.two_pow_pos d))
  subst hm
  unfold Format.mul
  rw [h1, k1]
  unfold Datum.product
  simp [Format.write, Format.nearest]

end Go.Proofs.Qxb6626374a
