import Derived.Test.Qxb6628622aNear
namespace Go.Proofs.Qxb6628622a
open Go.RowKit

theorem cut_neg (n d : Nat) : Ieee.Toward.even.cut true n d = Ieee.Toward.even.cut false n d := by simp [Ieee.Toward.cut]
/-- The sign is the word's first bit: the rest of the nearest word does not know it. -/
theorem nearest_rung (m : Nat) (p : Int) : ∃ r, r ≤ 9218868437227405312 ∧ ∀ neg, Ieee.double.nearest neg m p = Ieee.double.word neg r := by
  refine ⟨Ieee.double.nearest false m p, ?_, fun neg => ?_⟩
  · unfold Ieee.Format.nearest
    split
    · rw [word_false]; omega
    · dsimp only
      rw [word_false, d_inf]; exact Nat.min_le_right _ _
  · cases neg
    · exact (word_false _).symm
    · unfold Ieee.Format.nearest
      by_cases h : m = 0
      · rw [if_pos h, if_pos h, word_false]
      · rw [if_neg h, if_neg h]
        dsimp only
        rw [word_false, cut_neg]

theorem word_true (r : Nat) : Ieee.double.word true r = 9223372036854775808 + r := by
  show Ieee.double.signWeight + r = _
  rw [d_sign]

theorem xor_top (r : Nat) (h : r < 9223372036854775808) : r ^^^ 9223372036854775808 = 9223372036854775808 + r := by
  have e : (9223372036854775808 : Nat) = 2 ^ 63 := by decide
  have h1 := Nat.two_pow_add_eq_or_of_lt (i := 63) (b := r) (by omega) 1
  rw [Nat.mul_one] at h1
  rw [e, h1]
  apply Nat.eq_of_testBit_eq
  intro i
  rw [Nat.testBit_xor, Nat.testBit_or, Nat.testBit_two_pow]
  by_cases hi : 63 = i
  · subst hi
    have : r.testBit 63 = false := Nat.testBit_lt_two_pow (by omega)
    simp [this]
  · simp [hi]

theorem negFloat_nearest (m : Nat) : Op.negFloat .f64 (Ieee.double.nearest false m 0) = Ieee.double.nearest true m 0 := by
  obtain ⟨r, hr, h⟩ := nearest_rung m 0
  rw [h, h, word_false, word_true]
  exact xor_top r (by omega)

theorem not_nan (neg : Bool) (r : Nat) (hr : r ≤ 9218868437227405312) : (Ieee.double.read (Ieee.double.word neg r)).isNaN = false := by
  have e : Ieee.double.word neg r % 9223372036854775808 = r := by
    cases neg
    · rw [word_false]; omega
    · rw [word_true]; omega
  unfold Ieee.Format.read
  rw [d_sign, d_binade, d_inf, e]
  dsimp only
  split
  · rfl
  · split
    · rfl
    · rw [if_pos (by omega)]; rfl

theorem order_self (x : Nat) (h : (Ieee.double.read x).isNaN = false) : Ieee.double.order x x = some .eq := by
  unfold Ieee.Format.order
  generalize Ieee.double.read x = d at *
  cases d with
  | number s m p => simp [Ieee.Datum.order]
  | infinity s => simp [Ieee.Datum.order]
  | nan s f => cases h

theorem order_near (neg : Bool) (m : Nat) : Ieee.double.order (Ieee.double.nearest neg m 0) (Ieee.double.nearest neg m 0) = some .eq := by
  obtain ⟨r, hr, h⟩ := nearest_rung m 0
  rw [h]
  exact order_self _ (not_nan neg r hr)

end Go.Proofs.Qxb6628622a
