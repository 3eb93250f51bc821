import Derived.Test.Qxb6628622aPow
import Derived.Laws.BitsAllLaws
namespace Go.Proofs.Qxb6628622a
open Ieee

/-- float64 of a whole number. -/
theorem ofInt_nat (n : Nat) : floatOfInt .f64 (n : Int) = double.nearest false n 0 := by
  show double.nearest (decide ((n : Int) < 0)) ((n : Int).natAbs) 0 = _
  rw [show decide ((n : Int) < 0) = false from by simp, Int.natAbs_natCast]
theorem ofInt_neg (n : Nat) (h : n ≠ 0) : floatOfInt .f64 (-(n : Int)) = double.nearest true n 0 := by
  show double.nearest (decide (-(n : Int) < 0)) ((-(n : Int)).natAbs) 0 = _
  rw [show decide (-(n : Int) < 0) = true from by simp; omega, Int.natAbs_neg, Int.natAbs_natCast]

/-- Does the number go up? -/
def goesUp (b s : Nat) : Bool := decide (2 ^ s < 2 * (b % 2 ^ s)) || (2 ^ s == 2 * (b % 2 ^ s) && b / 2 ^ s % 2 == 1)

theorem quo_norm {b s : Nat} (hl : b.log2 = s + 52) (hb : b ≠ 0) : 4503599627370496 ≤ b / 2 ^ s ∧ b / 2 ^ s < 9007199254740992 := by
  obtain ⟨g1, g2⟩ := (Nat.log2_eq_iff hb).1 hl
  have hp : 0 < 2 ^ s := Nat.two_pow_pos s
  constructor
  · rw [Nat.le_div_iff_mul_le hp, show (4503599627370496 : Nat) = 2 ^ 52 from by decide, ← Nat.pow_add, Nat.add_comm]; exact g1
  · rw [Nat.div_lt_iff_lt_mul hp, show (9007199254740992 : Nat) = 2 ^ 53 from by decide, ← Nat.pow_add, show 53 + s = s + 52 + 1 from by omega]; exact g2

theorem near_form {b s : Nat} (h11 : s ≤ 11) (hl : b.log2 = s + 52) (hb : b ≠ 0) (neg : Bool) : double.nearest neg b 0 = double.word neg ((s + 1074) * 4503599627370496 + (b / 2 ^ s + (goesUp b s).toNat)) := by
  obtain ⟨k1, k2⟩ := quo_norm hl hb
  unfold Format.nearest
  rw [if_neg hb, d_least, d_inf, d_binade, d_frac, hl]
  have hlast : max ((0 : Int) + ((s + 52 : Nat) : Int) - ((52 : Nat) : Int)) (-1074) = (s : Int) := by omega
  simp only [hlast]
  rw [show ((0 : Int) - (s : Int)).toNat = 0 from by omega, show ((s : Int) - 0).toNat = s from by omega, show ((s : Int) - -1074).toNat = s + 1074 from by omega, Nat.shiftLeft_zero]
  have hc : Toward.even.cut neg b s = b / 2 ^ s + (goesUp b s).toNat := by
    unfold Toward.cut goesUp
    rw [hl, show min s (s + 52 + 2) = s from by omega, Nat.one_shiftLeft]
  rw [hc]
  have : (goesUp b s).toNat ≤ 1 := by cases goesUp b s <;> simp
  rw [Nat.min_eq_left (by omega)]

theorem mul_stay {b s : Nat} (h11 : s ≤ 11) (hl : b.log2 = s + 52) (hb : b ≠ 0) (hg : goesUp b s = false) : double.mul (double.nearest false (b / 2 ^ s) 0) (p2 (s + 1074)) = some (double.nearest false b 0) := by
  obtain ⟨k1, k2⟩ := quo_norm hl hb
  rw [near_norm _ k1 k2, near_form h11 hl hb, hg, scale _ _ k1 k2 (by omega)]
  rfl
theorem mul_up {b s : Nat} (h11 : s ≤ 11) (hl : b.log2 = s + 52) (hb : b ≠ 0) (hg : goesUp b s = true) (ht : b / 2 ^ s + 1 ≠ 9007199254740992) : double.mul (double.nearest false (b / 2 ^ s + 1) 0) (p2 (s + 1074)) = some (double.nearest false b 0) := by
  obtain ⟨k1, k2⟩ := quo_norm hl hb
  rw [near_norm _ (by omega) (by omega), near_form h11 hl hb, hg, scale _ _ (by omega) (by omega) (by omega)]
  rfl
theorem mul_top {b s : Nat} (h11 : s ≤ 11) (hl : b.log2 = s + 52) (hb : b ≠ 0) (hg : goesUp b s = true) (ht : b / 2 ^ s + 1 = 9007199254740992) : double.mul (double.nearest false 4503599627370496 0) (p2 (s + 1 + 1074)) = some (double.nearest false b 0) := by
  rw [near_norm _ (by omega) (by omega), near_form h11 hl hb, hg, scale _ _ (by omega) (by omega) (by omega)]
  show some (wd 4503599627370496 (s + 1 + 1074)) = some ((s + 1074) * 4503599627370496 + (b / 2 ^ s + 1))
  rw [ht]
  unfold wd
  exact congrArg some (by omega)

theorem log2_of {b j : Nat} (h0 : b / 2 ^ j = 0) (h1 : ∀ i, i < j → b / 2 ^ i ≠ 0) (hj : 53 < j) : b.log2 = (j - 53) + 52 ∧ b ≠ 0 := by
  have hb : b ≠ 0 := fun e => h1 0 (by omega) (by simp [e])
  have g2 : b < 2 ^ j := by
    rcases Nat.div_eq_zero_iff.1 h0 with h | h
    · have := Nat.two_pow_pos j; omega
    · exact h
  have g1 : 2 ^ (j - 1) ≤ b := by
    have := h1 (j - 1) (by omega)
    exact Nat.le_of_not_lt fun h => this (Nat.div_eq_of_lt h)
  exact ⟨(Nat.log2_eq_iff hb).2 ⟨by rw [show j - 53 + 52 = j - 1 from by omega]; exact g1, by rw [show j - 53 + 52 + 1 = j from by omega]; exact g2⟩, hb⟩

/-- The masks that the Go text uses. -/
theorem pow_u64 (s : Nat) (h : s ≤ 11) : IntKind.u64.wrap ((2 : Int) ^ s) = ((2 ^ s : Nat) : Int) := by
  have hp : 2 ^ s ≤ 2 ^ 11 := Nat.pow_le_pow_right (by omega) h
  have key : ∀ q : Nat, q ≤ 2048 → IntKind.u64.wrap (q : Int) = (q : Int) := fun q hq => by rw [IntKind.wrap_u64]; omega
  rw [show ((2 : Int) ^ s) = ((2 ^ s : Nat) : Int) from by simp]
  exact key _ hp
theorem mask_u64 (b s : Nat) (hb : b < 18446744073709551616) (h : s ≤ 11) : bits .and .u64 (b : Int) (IntKind.u64.wrap (IntKind.u64.wrap ((2 : Int) ^ s) - 1)) = ((b % 2 ^ s : Nat) : Int) := by
  have hp : 2 ^ s ≤ 2 ^ 11 := Nat.pow_le_pow_right (by omega) h
  have h1 : 1 ≤ 2 ^ s := Nat.two_pow_pos s
  have key : ∀ q : Nat, 1 ≤ q → q ≤ 2048 → IntKind.u64.wrap ((q : Int) - 1) = ((q - 1 : Nat) : Int) := fun q h hq => by rw [IntKind.wrap_u64]; omega
  rw [pow_u64 s h, key _ h1 hp, u64_and_nat b _ hb (by omega), Nat.and_two_pow_sub_one_eq_mod]
theorem quo_u64 (b s : Nat) : (b : Int) / 2 ^ s = ((b / 2 ^ s : Nat) : Int) := by simp
end Go.Proofs.Qxb6628622a
