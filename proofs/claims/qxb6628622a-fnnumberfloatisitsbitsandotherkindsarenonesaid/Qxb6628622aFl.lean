import Derived.Test.Qxb6628622aNum
namespace Go.Proofs.Qxb6628622a
open Ieee

/-! The doubles, as words. -/
theorem d_sign : double.signWeight = 9223372036854775808 := by decide
theorem d_binade : double.binade = 4503599627370496 := by decide
theorem d_inf : double.infRung = 9218868437227405312 := by decide
theorem d_least : double.leastPlace = -1074 := by decide
theorem d_frac : double.fractionBits = 52 := rfl

/-- The word of m * 2 ^ (E - 1074). -/
def wd (m E : Nat) : Nat := E * 4503599627370496 + m
/-- A significand and an exponent that a word bears. -/
def Can (m E : Nat) : Prop := (E = 0 ∧ m < 4503599627370496) ∨ (4503599627370496 ≤ m ∧ m < 9007199254740992 ∧ E ≤ 2045)

theorem wd_lt {m E : Nat} (h : Can m E) : wd m E < 9218868437227405312 := by
  unfold wd; rcases h with ⟨rfl, h⟩ | ⟨h1, h2, h3⟩ <;> omega

theorem read_wd {m E : Nat} (h : Can m E) : double.read (wd m E) = .number false m ((E : Int) - 1074) := by
  have hl := wd_lt h
  unfold Format.read
  rw [d_sign, d_binade, d_inf, d_least]
  have e1 : wd m E / 9223372036854775808 % 2 = 0 := by omega
  have e2 : wd m E % 9223372036854775808 = wd m E := by omega
  simp only [e1, e2]
  unfold wd at hl ⊢
  rcases h with ⟨rfl, h⟩ | ⟨h1, h2, h3⟩
  · rw [if_pos (by omega)]
    simp
  · rw [if_neg (by omega), if_pos hl]
    have e3 : (E * 4503599627370496 + m) % 4503599627370496 = m - 4503599627370496 := by omega
    have e4 : (E * 4503599627370496 + m) / 4503599627370496 = E + 1 := by omega
    rw [e3, e4, show 4503599627370496 + (m - 4503599627370496) = m from by omega, show (-1074 : Int) + ((E + 1 - 1 : Nat) : Int) = (E : Int) - 1074 from by omega]
    rfl

theorem log2_mul (m t : Nat) (hm : m ≠ 0) : (m * 2 ^ t).log2 = m.log2 + t := by
  have hp : 0 < 2 ^ t := Nat.two_pow_pos t
  rw [Nat.log2_eq_iff (by exact Nat.mul_ne_zero hm (by omega))]
  obtain ⟨h1, h2⟩ := (Nat.log2_eq_iff hm).1 rfl
  constructor
  · rw [Nat.pow_add]; exact Nat.mul_le_mul_right _ h1
  · rw [show m.log2 + t + 1 = (m.log2 + 1) + t from by omega, Nat.pow_add]
    exact Nat.mul_lt_mul_of_pos_right h2 hp

theorem cut_exact (neg : Bool) (m t : Nat) (hm : m ≠ 0) : Toward.even.cut neg (m * 2 ^ t) t = m := by
  have hp : 0 < 2 ^ t := Nat.two_pow_pos t
  unfold Toward.cut
  rw [log2_mul m t hm, show min t (m.log2 + t + 2) = t from by omega, Nat.one_shiftLeft]
  simp only [Nat.mul_div_cancel _ hp, Nat.mul_mod_left]
  rw [show decide (2 ^ t < 2 * 0) = false from by simp, show ((2 : Nat) ^ t == 2 * 0) = false from by rw [beq_eq_false_iff_ne]; omega]
  simp

theorem log2_norm {m : Nat} (h1 : 4503599627370496 ≤ m) (h2 : m < 9007199254740992) : m.log2 = 52 := (Nat.log2_eq_iff (by omega)).2 ⟨by omega, by omega⟩
theorem log2_small {m : Nat} (h0 : m ≠ 0) (h2 : m < 4503599627370496) : m.log2 < 52 := by
  rw [Nat.log2_lt h0]; omega

theorem min_inf {m E : Nat} (h : Can m E) : min (E * 4503599627370496 + m) 9218868437227405312 = wd m E := by
  have := wd_lt h
  unfold wd at this ⊢
  omega

/-- What is written of an exact number, given with digits to spare. -/
theorem nearest_down (neg : Bool) (m E t : Nat) (h : Can m E) (hm : m ≠ 0) (place : Int) (hp : place = (E : Int) - 1074 - t) : double.nearest neg (m * 2 ^ t) place = double.word neg (wd m E) := by
  subst hp
  have hp : 0 < 2 ^ t := Nat.two_pow_pos t
  unfold Format.nearest
  rw [if_neg (Nat.mul_ne_zero hm (by omega)), d_least, d_inf, d_binade, d_frac, log2_mul m t hm]
  have hlast : max ((E : Int) - 1074 - t + ((m.log2 + t : Nat) : Int) - ((52 : Nat) : Int)) (-1074) = (E : Int) - 1074 := by
    rcases h with ⟨rfl, h⟩ | ⟨h1, h2, h3⟩
    · have := log2_small hm h
      omega
    · rw [log2_norm h1 h2]; omega
  simp only [hlast]
  rw [show ((E : Int) - 1074 - t - ((E : Int) - 1074)).toNat = 0 from by omega, show ((E : Int) - 1074 - ((E : Int) - 1074 - t)).toNat = t from by omega, Nat.shiftLeft_zero, cut_exact neg m t hm, show ((E : Int) - 1074 - -1074).toNat = E from by omega, min_inf h]

/-- The same, given with digits too few. -/
theorem nearest_up (neg : Bool) (m0 s E : Nat) (h1 : 4503599627370496 ≤ m0 * 2 ^ s) (h2 : m0 * 2 ^ s < 9007199254740992) (h3 : E ≤ 2045) (place : Int) (hp : place = (E : Int) - 1074 + s) : double.nearest neg m0 place = double.word neg (wd (m0 * 2 ^ s) E) := by
  subst hp
  have hm : m0 ≠ 0 := by rintro rfl; simp at h1
  have hl : m0.log2 + s = 52 := by rw [← log2_mul m0 s hm]; exact log2_norm h1 h2
  unfold Format.nearest
  rw [if_neg hm, d_least, d_inf, d_binade, d_frac]
  have hlast : max ((E : Int) - 1074 + s + (m0.log2 : Int) - ((52 : Nat) : Int)) (-1074) = (E : Int) - 1074 := by omega
  simp only [hlast]
  have hc := cut_exact neg (m0 * 2 ^ s) 0 (by omega)
  rw [Nat.pow_zero, Nat.mul_one] at hc
  rw [show ((E : Int) - 1074 + s - ((E : Int) - 1074)).toNat = s from by omega, show ((E : Int) - 1074 - ((E : Int) - 1074 + s)).toNat = 0 from by omega, Nat.shiftLeft_eq, hc, show ((E : Int) - 1074 - -1074).toNat = E from by omega, min_inf (.inr ⟨h1, h2, h3⟩)]

theorem word_false (r : Nat) : double.word false r = r := rfl

/-- A product that is a double. -/
theorem mul_wd {m1 E1 m2 E2 m E t : Nat} (h1 : Can m1 E1) (h2 : Can m2 E2) (h : Can m E) (hm : m ≠ 0) (he : m1 * m2 = m * 2 ^ t) (hE : (E1 : Int) + E2 - 2148 = E - 1074 - t) : double.mul (wd m1 E1) (wd m2 E2) = some (wd m E) := by
  unfold Format.mul
  rw [read_wd h1, read_wd h2]
  show some (double.nearest (false ^^ false) (m1 * m2) ((E1 : Int) - 1074 + ((E2 : Int) - 1074))) = _
  rw [he, nearest_down (false ^^ false) m E t h hm _ (by omega)]
  rfl

/-- The word of 2 ^ (n - 1074). -/
def p2 (n : Nat) : Nat := if 52 ≤ n then wd 4503599627370496 (n - 52) else wd (2 ^ n) 0

theorem pow_lt52 {n : Nat} (h : n < 52) : 2 ^ n < 4503599627370496 := by
  have := Nat.pow_lt_pow_right (a := 2) (by omega) h
  omega

theorem p2_low {n : Nat} (h : n ≤ 52) : p2 n = wd (2 ^ n) 0 := by
  unfold p2
  by_cases h' : 52 ≤ n
  · rw [if_pos h', show n = 52 from by omega]
  · rw [if_neg h']
theorem can_low {n : Nat} (h : n ≤ 52) : Can (2 ^ n) 0 := by
  by_cases h' : 52 ≤ n
  · rw [show n = 52 from by omega]; exact .inr ⟨by decide, by decide, by decide⟩
  · exact .inl ⟨rfl, pow_lt52 (by omega)⟩
theorem can_high {n : Nat} (h : n ≤ 2097) : Can 4503599627370496 (n - 52) := .inr ⟨by omega, by omega, by omega⟩

theorem p2_double (n : Nat) (h0 : 52 ≤ n) (h : n < 2097) : double.mul (p2 n) 4611686018427387904 = some (p2 (n + 1)) := by
  unfold p2
  rw [if_pos h0, if_pos (by omega)]
  exact mul_wd (m2 := 4503599627370496) (E2 := 1023) (t := 52) (can_high (by omega)) (.inr ⟨by omega, by omega, by omega⟩) (can_high (by omega)) (by omega) (by decide) (by omega)

theorem p2_half (n : Nat) (h0 : 0 < n) (h : n ≤ 2097) : double.mul (p2 n) 4602678819172646912 = some (p2 (n - 1)) := by
  by_cases h' : 52 < n
  · unfold p2
    rw [if_pos (by omega), if_pos (by omega)]
    exact mul_wd (m2 := 4503599627370496) (E2 := 1021) (t := 52) (can_high (by omega)) (.inr ⟨by omega, by omega, by omega⟩) (can_high (by omega)) (by omega) (by decide) (by omega)
  · rw [p2_low (by omega), p2_low (by omega)]
    refine mul_wd (m2 := 4503599627370496) (E2 := 1021) (t := 53) (can_low (by omega)) (.inr ⟨by omega, by omega, by omega⟩) (can_low (by omega)) (by have := Nat.two_pow_pos (n - 1); omega) ?_ (by omega)
    rw [show (4503599627370496 : Nat) = 2 ^ 52 from by decide, ← Nat.pow_add, ← Nat.pow_add]
    congr 1; omega

/-- A significand times a power of two. -/
theorem scale (m n : Nat) (h1 : 4503599627370496 ≤ m) (h2 : m < 9007199254740992) (hn : n ≤ 2045) : double.mul (wd m 1074) (p2 n) = some (wd m n) := by
  have hc : Can m 1074 := .inr ⟨h1, h2, by omega⟩
  have hr : Can m n := .inr ⟨h1, h2, hn⟩
  by_cases h : 52 ≤ n
  · unfold p2
    rw [if_pos h]
    exact mul_wd (t := 52) hc (can_high (by omega)) hr (by omega) (by omega) (by omega)
  · rw [p2_low (by omega)]
    exact mul_wd (t := n) hc (can_low (by omega)) hr (by omega) rfl (by omega)

/-- float64 of a whole number below 2 ^ 53, as a word. -/
theorem near_norm (m : Nat) (h1 : 4503599627370496 ≤ m) (h2 : m < 9007199254740992) : double.nearest false m 0 = wd m 1074 := by
  have := nearest_up false m 0 1074 (by simpa using h1) (by simpa using h2) (by omega) 0 (by omega)
  simpa [word_false] using this

/-- A subnormal. -/
theorem scale_low (m : Nat) (h0 : m ≠ 0) (h2 : m < 4503599627370496) : double.mul (double.nearest false m 0) (p2 0) = some m := by
  have hl := log2_small h0 h2
  obtain ⟨g1, g2⟩ := (Nat.log2_eq_iff h0).1 rfl
  have e52 : (4503599627370496 : Nat) = 2 ^ m.log2 * 2 ^ (52 - m.log2) := by rw [← Nat.pow_add, show m.log2 + (52 - m.log2) = 52 from by omega]
  have e53 : (9007199254740992 : Nat) = 2 ^ (m.log2 + 1) * 2 ^ (52 - m.log2) := by rw [← Nat.pow_add, show m.log2 + 1 + (52 - m.log2) = 53 from by omega]
  have k1 : 4503599627370496 ≤ m * 2 ^ (52 - m.log2) := by rw [e52]; exact Nat.mul_le_mul_right _ g1
  have k2 : m * 2 ^ (52 - m.log2) < 9007199254740992 := by rw [e53]; exact Nat.mul_lt_mul_of_pos_right g2 (Nat.two_pow_pos _)
  rw [nearest_up false m (52 - m.log2) (1074 - (52 - m.log2)) k1 k2 (by omega) 0 (by omega), word_false]
  have := mul_wd (m1 := m * 2 ^ (52 - m.log2)) (E1 := 1074 - (52 - m.log2)) (m2 := 2 ^ 0) (E2 := 0) (m := m) (E := 0) (t := 52 - m.log2) (.inr ⟨k1, k2, by omega⟩) (can_low (by omega)) (.inl ⟨rfl, h2⟩) h0 (by simp) (by omega)
  rw [p2_low (by omega), this]
  simp [wd]

theorem scale_zero : double.mul (double.nearest false 0 0) (p2 0) = some 0 := by decide +kernel
end Go.Proofs.Qxb6628622a
