/- Plain laws of double precision: no Go in sight. -/
import Derived.Laws.FloatArith
namespace Go.Proofs.Qxb6626374a
open Ieee

/-- a / b to the nearest whole number, ties to even. -/
def rhe (a b : Nat) : Nat := a / b + (decide (b < 2 * (a % b)) || (b == 2 * (a % b) && a / b % 2 == 1)).toNat

theorem rhe_ge {a b c : Nat} (hb : 0 < b) (h : c * b ≤ a) : c ≤ rhe a b :=
  Nat.le_trans ((Nat.le_div_iff_mul_le hb).2 h) (Nat.le_add_right _ _)

theorem toNat_le_one (b : Bool) : b.toNat ≤ 1 := by cases b <;> decide

theorem rhe_le {a b c : Nat} (hb : 0 < b) (h : a ≤ c * b) : rhe a b ≤ c := by
  have hq : a / b ≤ c := Nat.div_le_of_le_mul (by rw [Nat.mul_comm]; exact h)
  have e := Nat.div_add_mod a b
  rcases Nat.lt_or_ge (a / b) c with hl | hg
  · have := toNat_le_one (decide (b < 2 * (a % b)) || (b == 2 * (a % b) && a / b % 2 == 1))
    unfold rhe; omega
  · have hc : a / b = c := Nat.le_antisymm hq hg
    have hr : a % b = 0 := by
      rw [hc, Nat.mul_comm] at e; omega
    unfold rhe
    rw [hr]
    have h1 : decide (b < 2 * 0) = false := by simp
    have h2 : (b == 2 * 0) = false := by simp; omega
    rw [h1, h2]; simp; omega

theorem rhe_near {a b : Nat} (hb : 0 < b) : 2 * (rhe a b * b) ≤ 2 * a + b ∧ 2 * a ≤ 2 * (rhe a b * b) + b := by
  have e := Nat.div_add_mod a b
  have hr := Nat.mod_lt a hb
  unfold rhe
  generalize a / b = q at *
  generalize a % b = r at *
  rw [Nat.mul_comm] at e
  cases h : (decide (b < 2 * r) || (b == 2 * r && q % 2 == 1))
  · simp at h
    simp only [Bool.toNat_false, Nat.add_zero]
    omega
  · simp at h
    simp only [Bool.toNat_true, Nat.add_mul, Nat.one_mul]
    omega

theorem rhe_mul {a b c : Nat} (hc : 0 < c) : rhe (c * a) (c * b) = rhe a b := by
  unfold rhe
  rw [Nat.mul_div_mul_left _ _ hc, Nat.mul_mod_mul_left]
  have h1 : decide (c * b < 2 * (c * (a % b))) = decide (b < 2 * (a % b)) := by
    rw [Nat.mul_left_comm 2 c]
    exact decide_eq_decide.2 (Nat.mul_lt_mul_left hc)
  have h2 : (c * b == 2 * (c * (a % b))) = (b == 2 * (a % b)) := by
    rw [Nat.mul_left_comm 2 c]
    rw [Bool.eq_iff_iff]; simp only [beq_iff_eq]
    exact Nat.mul_right_inj (by omega)
  rw [h1, h2]

theorem rhe_cross {a b a' b' : Nat} (hb : 0 < b) (hb' : 0 < b') (h : a * b' = a' * b) : rhe a b = rhe a' b' := by
  rw [← rhe_mul (a := a) (b := b) hb', ← rhe_mul (a := a') (b := b') hb, Nat.mul_comm b' a, h, Nat.mul_comm a' b, Nat.mul_comm b' b]

/-- a last digit that tells only of a remainder rounds like the remainder. -/
theorem rhe_sticky {A B g : Nat} (hB : 0 < B) (hg : 0 < g) :
    rhe (2 * (A / B) + (A % B != 0).toNat) (4 * g) = rhe (2 * A) (B * (4 * g)) := by
  have e := Nat.div_add_mod A B
  have hv := Nat.mod_lt A hB
  generalize A / B = u at *
  generalize A % B = v at *
  have eu := Nat.div_add_mod u (2 * g)
  have hR := Nat.mod_lt u (show 0 < 2 * g by omega)
  generalize u / (2 * g) = Q at *
  generalize u % (2 * g) = R at *
  have hs : (v != 0).toNat ≤ 1 := toNat_le_one _
  have hs1 : (v != 0).toNat = 1 ↔ v ≠ 0 := by cases v <;> simp
  generalize (v != 0).toNat = s at *
  have hRB : B * (R + 1) ≤ B * (2 * g) := Nat.mul_le_mul_left B hR
  have a1 : 2 * u + s = 4 * g * Q + (2 * R + s) := by grind
  have a2 : 2 * A = B * (4 * g) * Q + (B * (2 * R) + 2 * v) := by grind
  have l1 : 2 * R + s < 4 * g := by omega
  have l2 : B * (2 * R) + 2 * v < B * (4 * g) := by grind
  have d1 : (2 * u + s) / (4 * g) = Q := by rw [a1, Nat.mul_add_div (by omega), Nat.div_eq_of_lt l1, Nat.add_zero]
  have m1 : (2 * u + s) % (4 * g) = 2 * R + s := by rw [a1, Nat.mul_add_mod, Nat.mod_eq_of_lt l1]
  have hp : 0 < B * (4 * g) := Nat.mul_pos hB (by omega)
  have d2 : 2 * A / (B * (4 * g)) = Q := by rw [a2, Nat.mul_add_div hp, Nat.div_eq_of_lt l2, Nat.add_zero]
  have m2 : 2 * A % (B * (4 * g)) = B * (2 * R) + 2 * v := by rw [a2, Nat.mul_add_mod, Nat.mod_eq_of_lt l2]
  unfold rhe
  rw [d1, m1, d2, m2]
  have k1 : decide (4 * g < 2 * (2 * R + s)) = decide (B * (4 * g) < 2 * (B * (2 * R) + 2 * v)) := by
    apply decide_eq_decide.2
    rcases Nat.lt_trichotomy g R with h | h | h
    · have := Nat.mul_le_mul_left B h
      constructor
      · intro _; grind
      · intro _; omega
    · subst h
      constructor
      · intro h'; have : v ≠ 0 := hs1.1 (by omega); grind
      · intro h'
        have hv0 : v ≠ 0 := by rintro rfl; grind
        have := hs1.2 hv0; omega
    · have := Nat.mul_le_mul_left B h
      constructor
      · intro _; omega
      · intro _; exfalso; grind
  have k2 : (4 * g == 2 * (2 * R + s)) = (B * (4 * g) == 2 * (B * (2 * R) + 2 * v)) := by
    rw [Bool.eq_iff_iff]; simp only [beq_iff_eq]
    rcases Nat.lt_trichotomy g R with h | h | h
    · have := Nat.mul_le_mul_left B h
      constructor
      · intro _; omega
      · intro _; exfalso; grind
    · subst h
      constructor
      · intro h'
        have hv0 : v = 0 := by
          rcases Nat.eq_zero_or_pos v with h0 | h0
          · exact h0
          · have := hs1.2 (by omega); omega
        subst hv0; grind
      · intro h'
        have hv0 : v = 0 := by grind
        have : s ≠ 1 := fun hh => hs1.1 hh hv0
        omega
    · have := Nat.mul_le_mul_left B h
      constructor
      · intro _; omega
      · intro _; exfalso; grind
  rw [k1, k2]

theorem log2_bounds {n : Nat} (h : n ≠ 0) : 2 ^ n.log2 ≤ n ∧ n < 2 ^ (n.log2 + 1) := ⟨Nat.log2_self_le h, Nat.lt_log2_self⟩

theorem lt2_log2 (n : Nat) : 2 * n < 2 ^ (n.log2 + 2) := by
  rcases Nat.eq_zero_or_pos n with h | h
  · subst h; decide
  · have := (log2_bounds (n := n) (by omega)).2
    have e : 2 ^ (n.log2 + 2) = 2 * 2 ^ (n.log2 + 1) := by rw [Nat.pow_succ _ (n.log2 + 1), Nat.mul_comm]
    omega

theorem cut_even (neg : Bool) (n drop : Nat) : Toward.even.cut neg n drop = rhe n (2 ^ drop) := by
  unfold Toward.cut rhe
  simp only [Nat.one_shiftLeft]
  rcases Nat.le_total drop (n.log2 + 2) with h | h
  · rw [Nat.min_eq_left h]
  · rw [Nat.min_eq_right h]
    have h1 := lt2_log2 n
    have h2 : 2 ^ (n.log2 + 2) ≤ 2 ^ drop := Nat.pow_le_pow_right (by decide) h
    have e1 : n / 2 ^ (n.log2 + 2) = 0 := Nat.div_eq_of_lt (by omega)
    have e2 : n / 2 ^ drop = 0 := Nat.div_eq_of_lt (by omega)
    have e3 : n % 2 ^ (n.log2 + 2) = n := Nat.mod_eq_of_lt (by omega)
    have e4 : n % 2 ^ drop = n := Nat.mod_eq_of_lt (by omega)
    rw [e1, e2, e3, e4]
    have f1 : decide (2 ^ (n.log2 + 2) < 2 * n) = false := decide_eq_false (by omega)
    have f2 : decide (2 ^ drop < 2 * n) = false := decide_eq_false (by omega)
    rw [f1, f2]
    simp

theorem cut_zero (neg : Bool) (n drop : Nat) : Toward.zero.cut neg n drop = n / 2 ^ drop := by
  unfold Toward.cut
  simp only [Nat.one_shiftLeft]
  rcases Nat.le_total drop (n.log2 + 2) with h | h
  · rw [Nat.min_eq_left h]
    rfl
  · rw [Nat.min_eq_right h]
    have h1 := lt2_log2 n
    have h2 : 2 ^ (n.log2 + 2) ≤ 2 ^ drop := Nat.pow_le_pow_right (by decide) h
    have e1 : n / 2 ^ (n.log2 + 2) = 0 := Nat.div_eq_of_lt (by omega)
    have e2 : n / 2 ^ drop = 0 := Nat.div_eq_of_lt (by omega)
    rw [e1, e2]
    rfl

theorem two52 : (2:Nat) ^ 52 = 4503599627370496 := rfl
theorem binade_eq : double.binade = 4503599627370496 := rfl
theorem infRung_eq : double.infRung = 2047 * 4503599627370496 := by decide
theorem signWeight_eq : double.signWeight = 2048 * 4503599627370496 := by decide
theorem leastPlace_eq : double.leastPlace = -1074 := by decide

theorem read_word (neg : Bool) {rung : Nat} (h : rung < 2048 * 4503599627370496) :
    double.read (double.word neg rung) =
      (if rung < 4503599627370496 then .number neg rung (-1074)
      else if rung < 2047 * 4503599627370496 then
        .number neg (4503599627370496 + rung % 4503599627370496) (-1074 + (rung / 4503599627370496 - 1 : Nat))
      else if rung = 2047 * 4503599627370496 then .infinity neg
      else .nan neg (rung - 2047 * 4503599627370496)) := by
  unfold Format.read
  simp only [binade_eq, infRung_eq, signWeight_eq, leastPlace_eq]
  have e1 : (double.word neg rung / (2048 * 4503599627370496) % 2 == 1) = neg := by
    unfold Format.word
    rw [signWeight_eq]
    cases neg
    · simp; omega
    · simp; omega
  have e2 : double.word neg rung % (2048 * 4503599627370496) = rung := by
    unfold Format.word
    rw [signWeight_eq]
    cases neg
    · simp; omega
    · simp; omega
  rw [e1, e2]

/-- The datum is the number a / 2 ^ d, negated if neg, with a full significand if it is not zero. -/
def ValD (D : Datum) (neg : Bool) (a d : Nat) : Prop :=
  ∃ m q : Nat, D = .number neg m (-(q : Int)) ∧ m * 2 ^ d = a * 2 ^ q ∧ q ≤ 1074 ∧
    (m = 0 ∨ (4503599627370496 ≤ m ∧ m < 9007199254740992))

/-- The word x is the number a / 2 ^ d, negated if neg. -/
def Val (x : Nat) (neg : Bool) (a d : Nat) : Prop := ValD (double.read x) neg a d

theorem rung_val (neg : Bool) {k d : Nat} (h1 : 4503599627370496 ≤ k) (h2 : k ≤ 9007199254740992) (hd1 : 1 ≤ d) (hd : d ≤ 1000) :
    Val (double.word neg (min ((1074 - d) * 4503599627370496 + k) double.infRung)) neg k d := by
  rw [infRung_eq, Nat.min_eq_left (by omega)]
  unfold Val ValD
  rw [read_word neg (by omega), if_neg (by omega), if_pos (by omega)]
  rcases Nat.lt_or_ge k 9007199254740992 with h | h
  · refine ⟨k, d, ?_, rfl, by omega, .inr ⟨h1, h⟩⟩
    have e1 : ((1074 - d) * 4503599627370496 + k) % 4503599627370496 = k - 4503599627370496 := by omega
    have e2 : ((1074 - d) * 4503599627370496 + k) / 4503599627370496 = 1075 - d := by omega
    have e3 : 4503599627370496 + (k - 4503599627370496) = k := by omega
    have e4 : -1074 + ((1075 - d - 1 : Nat) : Int) = -(d : Int) := by omega
    rw [e1, e2, e3, e4]
  · have hk : k = 9007199254740992 := by omega
    subst hk
    refine ⟨4503599627370496, d - 1, ?_, ?_, by omega, .inr (by decide)⟩
    · have e1 : ((1074 - d) * 4503599627370496 + 9007199254740992) % 4503599627370496 = 0 := by omega
      have e2 : ((1074 - d) * 4503599627370496 + 9007199254740992) / 4503599627370496 = 1076 - d := by omega
      have e4 : -1074 + ((1076 - d - 1 : Nat) : Int) = -((d - 1 : Nat) : Int) := by omega
      rw [e1, e2, e4, Nat.add_zero]
    · obtain ⟨c, rfl⟩ : ∃ c, d = c + 1 := ⟨d - 1, by omega⟩
      rw [Nat.add_sub_cancel, Nat.pow_succ]
      omega

/-- nearest, of a number in the middle of the range. -/
theorem nearest_val (neg : Bool) {m q d : Nat} (h1 : 2 ^ 52 * 2 ^ q ≤ m * 2 ^ d) (h2 : m * 2 ^ d < 2 ^ 53 * 2 ^ q)
    (hd1 : 1 ≤ d) (hd : d ≤ 1000) : Val (double.nearest neg m (-(q : Int))) neg (rhe (m * 2 ^ d) (2 ^ q)) d := by
  have hm : m ≠ 0 := by
    rintro rfl
    have : 0 < 2 ^ 52 * 2 ^ q := Nat.mul_pos (by decide) (Nat.two_pow_pos q)
    omega
  have hl := log2_bounds hm
  have hlog : m.log2 + d = 52 + q := by
    have a1 : 2 ^ (m.log2 + d) < 2 ^ (53 + q) := by
      rw [Nat.pow_add, Nat.pow_add]
      exact Nat.lt_of_le_of_lt (Nat.mul_le_mul_right _ hl.1) h2
    have a2 : 2 ^ (52 + q) < 2 ^ (m.log2 + 1 + d) := by
      rw [Nat.pow_add _ 52, Nat.pow_add _ (m.log2 + 1)]
      exact Nat.lt_of_le_of_lt h1 (Nat.mul_lt_mul_of_pos_right hl.2 (Nat.two_pow_pos d))
    have b1 := (Nat.pow_lt_pow_iff_right (a := 2) (by decide)).1 a1
    have b2 := (Nat.pow_lt_pow_iff_right (a := 2) (by decide)).1 a2
    omega
  have hlast : max (-(q : Int) + m.log2 - double.fractionBits) (-1074) = -(d : Int) := by
    have : (double.fractionBits : Int) = 52 := rfl
    rw [this]
    omega
  unfold Format.nearest
  rw [if_neg hm]
  simp only [cut_even, leastPlace_eq, Nat.shiftLeft_eq, binade_eq]
  rw [hlast]
  have hk : rhe (m * 2 ^ (-(q : Int) - -(d : Int)).toNat) (2 ^ (-(d : Int) - -(q : Int)).toNat) = rhe (m * 2 ^ d) (2 ^ q) := by
    apply rhe_cross (Nat.two_pow_pos _) (Nat.two_pow_pos _)
    rw [Nat.mul_assoc, Nat.mul_assoc, ← Nat.pow_add, ← Nat.pow_add]
    congr 2
    omega
  have e : (-(d : Int) - -1074).toNat = 1074 - d := by omega
  rw [hk, e]
  have q0 := Nat.two_pow_pos q
  exact rung_val neg (rhe_ge q0 h1) (rhe_le q0 (Nat.le_of_lt h2)) hd1 hd

end Go.Proofs.Qxb6626374a
