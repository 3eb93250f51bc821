import Derived.Test.Qxb6628622aOf
namespace Go.Proofs.Qxb6628622a
open Go.RowKit

theorem order_word (x : Nat) (h : x % 9223372036854775808 ≤ 9218868437227405312) (hx : x < 18446744073709551616) : FloatKind.f64.format.order x x = some .eq := by
  have e : x = Ieee.double.word (decide (9223372036854775808 ≤ x)) (x % 9223372036854775808) := by
    by_cases hs : 9223372036854775808 ≤ x
    · rw [decide_eq_true hs, word_true]; omega
    · rw [decide_eq_false hs, word_false]; omega
  have := order_self x (by rw [e]; exact not_nan _ _ h)
  exact this

theorem order_nan (x : Nat) (h : 9218868437227405312 < x % 9223372036854775808) : FloatKind.f64.format.order x x = none := by
  have hr : ∃ s f, Ieee.double.read x = .nan s f := by
    unfold Ieee.Format.read
    rw [d_sign, d_binade, d_inf]
    dsimp only
    rw [if_neg (by omega), if_neg (by omega), if_neg (by omega)]
    exact ⟨_, _, rfl⟩
  obtain ⟨s, f, hr⟩ := hr
  show Ieee.Datum.order (Ieee.double.read x) (Ieee.double.read x) = none
  rw [hr]; rfl

theorem read_zero : Ieee.double.read 0 = .number false 0 (-1074) := by decide +kernel

theorem signed_ne (s : Bool) (m k : Nat) (h : m ≠ 0) : Ieee.signed s m k ≠ 0 := by
  have : 0 < m <<< k := by rw [Nat.shiftLeft_eq]; exact Nat.mul_pos (by omega) (Nat.two_pow_pos k)
  unfold Ieee.signed
  split <;> omega
theorem signed_zero (k : Nat) : Ieee.signed false 0 k = 0 := by simp [Ieee.signed]

theorem order_zero (x : Nat) (h0 : x % 9223372036854775808 ≠ 0) (h : x % 9223372036854775808 ≤ 9218868437227405312) : (FloatKind.f64.format.order x 0 == some .eq) = false := by
  rw [beq_eq_false_iff_ne]
  show Ieee.Datum.order (Ieee.double.read x) (Ieee.double.read 0) ≠ some .eq
  rw [read_zero]
  have hr : (∃ s m i, m ≠ 0 ∧ Ieee.double.read x = .number s m i) ∨ ∃ s, Ieee.double.read x = .infinity s := by
    unfold Ieee.Format.read
    rw [d_sign, d_binade, d_inf]
    dsimp only
    split
    · exact .inl ⟨_, _, _, h0, rfl⟩
    · split
      · exact .inl ⟨_, _, _, by omega, rfl⟩
      · rw [if_pos (by omega)]
        exact .inr ⟨_, rfl⟩
  rcases hr with ⟨s, m, i, hm, hr⟩ | ⟨s, hr⟩
  · rw [hr]
    intro e
    simp only [Ieee.Datum.order, signed_zero, Option.some.injEq] at e
    have hne := signed_ne s m (i - min i (-1074)).toNat hm
    exact hne (by simpa using e)
  · rw [hr]
    cases s <;> simp [Ieee.Datum.order]

theorem xor_word (b : Nat) (hb : b < 18446744073709551616) : (b ^^^ 9223372036854775808) % 9223372036854775808 = b % 9223372036854775808 ∧ b ^^^ 9223372036854775808 < 18446744073709551616 := by
  by_cases hs : 9223372036854775808 ≤ b
  · have e := xor_top (b - 9223372036854775808) (by omega)
    have : b ^^^ 9223372036854775808 = b - 9223372036854775808 := by
      rw [show b = 9223372036854775808 + (b - 9223372036854775808) from by omega, ← e, Nat.xor_assoc, Nat.xor_self, Nat.xor_zero, e]
      omega
    omega
  · have e := xor_top b (by omega)
    omega

theorem xor_u64 (b : Nat) (hb : b < 18446744073709551616) : bits .xor .u64 (b : Int) 9223372036854775808 = ((b ^^^ 9223372036854775808 : Nat) : Int) := by
  rw [show (9223372036854775808 : Int) = ((9223372036854775808 : Nat) : Int) from rfl, u64_xor_nat _ _ hb (by decide)]

theorem negFloat_word (b : Nat) : Op.negFloat .f64 b = b ^^^ 9223372036854775808 := rfl

set_option maxHeartbeats 400000 in
theorem bytes_small (t b : Int) (s : ByteArray) (h : ¬ 1048576 < (s.size : Int)) (w : World) : Calls Try.prog 8 #[.int .u8 t, .int .u64 b, .string s] w fun e w' => e = .returned (.bool true) ∧ w' = w := by
  go_enter Try.func8, Try.ntmps8
  go_wp2
  go_ret
  exact ⟨rfl, rfl⟩
set_option maxHeartbeats 400000 in
theorem bytes_big (t b : Int) (s : ByteArray) (h : 1048576 < (s.size : Int)) (w : World) : Calls Try.prog 8 #[.int .u8 t, .int .u64 b, .string s] w fun e w' => e = .returned (.bool false) ∧ w' = w := by
  go_enter Try.func8, Try.ntmps8
  go_wp2
  go_ret
  exact ⟨rfl, rfl⟩

set_option maxHeartbeats 800000 in
/-- A string too long: nothing is asked. -/
theorem kinds_big (t b : Int) (s : ByteArray) (h : 1048576 < (s.size : Int)) (w : World) : Calls Try.prog 4 #[.int .u8 t, .int .u64 b, .string s] w fun e w' => e = .returned (.bool true) ∧ Below w.heap.size w w' := by
  go_enter Try.func4, Try.ntmps4
  go_wp2_with fail
  refine (bytes_big t b s h w).mono ?_
  rintro e w1 ⟨rfl, rfl⟩
  go_wp2_with fail
  go_ret
  exact ⟨rfl, Below.refl _ _⟩

set_option maxHeartbeats 800000 in
/-- A kind that is none of the three. -/
theorem kinds_none (t b : Int) (s : ByteArray) (h : ¬ 1048576 < (s.size : Int)) (h1 : t ≠ 1) (h2 : t ≠ 2) (h3 : t ≠ 3) (w : World) : Calls Try.prog 4 #[.int .u8 t, .int .u64 b, .string s] w fun e w' => e = .returned (.bool true) ∧ Below w.heap.size w w' := by
  have k1 : (t == 1) = false := beq_eq_false_iff_ne.2 h1
  have k2 : (t == 2) = false := beq_eq_false_iff_ne.2 h2
  have k3 : (t == 3) = false := beq_eq_false_iff_ne.2 h3
  have HN : Hid (∀ w, Calls Try.prog 6 #[.agg #[.int .u8 t, .int .u64 b, .string s]] w fun e w' => e = .returned (.tuple #[.float .f64 0, .bool false]) ∧ Below w.heap.size w w') := fun w => num0 t b s w h1 h2 h3
  have O : FloatKind.f64.format.order 0 0 = some .eq := order_word 0 (by decide) (by decide)
  clear h1 h2 h3
  go_enter Try.func4, Try.ntmps4
  go_wp2_with fail
  refine (bytes_small t b s (by omega) w).mono ?_
  rintro e w1 ⟨rfl, rfl⟩
  go_wp2_with fail
  refine (new_any _ _ _ _).mono ?_
  rintro e w2 ⟨rfl, hb2⟩
  go_wp2_with fail
  refine (HN.out _).mono ?_
  rintro e w3 ⟨rfl, hb3⟩
  go_wp2_with fail
  go_ret
  exact ⟨rfl, below2 hb2 hb3⟩
end Go.Proofs.Qxb6628622a
