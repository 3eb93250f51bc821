import Derived.Test.Qxb6628622aKin2
namespace Go.Proofs.Qxb6628622a
open Go.RowKit

theorem run_quo (x y r : Nat) (h : Ieee.double.div x y = some r) (w : World) : (binOp .quo 23 (.float .f64 x) (.float .f64 y)).run Try.prog w = .ok (.float .f64 r) w := run_float_arith w .quo 23 .f64 x y r h
theorem div_plus : Ieee.double.div 4607182418800017408 0 = some 9218868437227405312 := by decide +kernel
theorem div_minus : Ieee.double.div 4607182418800017408 9223372036854775808 = some 18442240474082181120 := by decide +kernel
theorem order_plus : Ieee.double.order 9218868437227405312 0 = some .gt := by decide +kernel
theorem order_minus : Ieee.double.order 18442240474082181120 0 = some .lt := by decide +kernel
theorem order_z : Ieee.double.order 9223372036854775808 0 = some .eq := by decide +kernel

/-- What is known of a zero and of the other one. -/
structure Zero (b g : Nat) (S : Bool) (I J : Nat) : Prop where
  exp : bits .and .u64 ((b : Int) / 4503599627370496) 2047 = 0
  frac : bits .and .u64 (b : Int) 4503599627370495 = 0
  flip : bits .xor .u64 (b : Int) 9223372036854775808 = (g : Int)
  same : FloatKind.f64.format.order b b = some .eq
  sameG : FloatKind.f64.format.order g g = some .eq
  neg : ∀ w, (Op.unary UnOp.neg (.float .f64 b)).run Try.prog w = .ok (.float .f64 g) w
  nought : FloatKind.f64.format.order b 0 = some .eq
  divB : ∀ w, (binOp .quo 23 (.float .f64 4607182418800017408) (.float .f64 b)).run Try.prog w = .ok (.float .f64 I) w
  divG : ∀ w, (binOp .quo 23 (.float .f64 4607182418800017408) (.float .f64 g)).run Try.prog w = .ok (.float .f64 J) w
  ordB : FloatKind.f64.format.order I 0 = some (if S then .lt else .gt)
  ordG : FloatKind.f64.format.order J 0 = some (if S then .gt else .lt)
  sign : ((b : Int) / 9223372036854775808 == 1) = S
  decode : ∀ w, Calls Try.prog 9 #[.int .u64 b] w fun e w' => e = .returned (.float .f64 b) ∧ w' = w

theorem zero_plus : Zero 0 9223372036854775808 false 9218868437227405312 18442240474082181120 where
  exp := exp_u64 0 (by decide)
  frac := frac_u64 0 (by decide)
  flip := xor_u64 0 (by decide)
  same := order_word 0 (by decide) (by decide)
  sameG := order_word _ (by decide) (by decide)
  neg := run_negF 0 _ (negFloat_word 0)
  nought := order_word 0 (by decide) (by decide)
  divB := run_quo _ _ _ div_plus
  divG := run_quo _ _ _ div_minus
  ordB := order_plus
  ordG := order_minus
  sign := by decide
  decode := fun w => of_any 0 (by decide) (by decide) w
theorem zero_minus : Zero 9223372036854775808 0 true 18442240474082181120 9218868437227405312 where
  exp := exp_u64 9223372036854775808 (by decide)
  frac := frac_u64 9223372036854775808 (by decide)
  flip := xor_u64 9223372036854775808 (by decide)
  same := order_word _ (by decide) (by decide)
  sameG := order_word 0 (by decide) (by decide)
  neg := run_negF 9223372036854775808 _ (negFloat_word 9223372036854775808)
  nought := order_z
  divB := run_quo _ _ _ div_minus
  divG := run_quo _ _ _ div_plus
  ordB := order_minus
  ordG := order_plus
  sign := by decide
  decode := fun w => of_any 9223372036854775808 (by decide) (by decide) w

set_option maxHeartbeats 1600000 in
theorem kinds_zero (b g : Nat) (S : Bool) (I J : Nat) (Z : Zero b g S I J) (s : ByteArray) (h : ¬ 1048576 < (s.size : Int)) (w : World) : Calls Try.prog 4 #[.int .u8 1, .int .u64 b, .string s] w fun e w' => e = .returned (.bool true) ∧ Below w.heap.size w w' := by
  have H1 : Hid (∀ (b : Nat) w, Calls Try.prog 6 #[.agg #[.int .u8 1, .int .u64 (b : Int), .string s]] w fun e w' => e = .returned (.tuple #[.float .f64 b, .bool true]) ∧ Below w.heap.size w w') := fun b w => num1 b s w
  have G1 := Z.exp
  have G3 := Z.frac
  have X1 := Z.flip
  have O1 := Z.same
  have O2 := Z.sameG
  have O3 := Z.nought
  have O4 := Z.neg
  have D1 := Z.divB
  have D2 := Z.divG
  have O5 := Z.ordB
  have O6 := Z.ordG
  have k5 := Z.sign
  have HO : Hid _ := Z.decode
  clear Z
  cases S with
  | false =>
    simp only [Bool.false_eq_true, if_false] at O5 O6
    go_enter Try.func4, Try.ntmps4
    go_wp2_with fail
    refine (bytes_small 1 b s (by omega) w).mono ?_
    rintro e w1 ⟨rfl, rfl⟩
    go_wp2_with fail
    refine (new_any _ _ _ _).mono ?_
    rintro e w2 ⟨rfl, hb2⟩
    go_wp2_with fail
    refine (H1.out _ _).mono ?_
    rintro e w3 ⟨rfl, hb3⟩
    go_wp2_with fail
    refine (new_any _ _ _ _).mono ?_
    rintro e w4 ⟨rfl, hb4⟩
    go_wp2_with fail
    refine (H1.out _ _).mono ?_
    rintro e w5 ⟨rfl, hb5⟩
    go_wp2_with fail
    refine (HO.out _).mono ?_
    rintro e w6 ⟨rfl, rfl⟩
    go_wp2_with fail
    go_ret
    exact ⟨rfl, below4 hb2 hb3 hb4 hb5⟩
  | true =>
    simp only [if_true] at O5 O6
    go_enter Try.func4, Try.ntmps4
    go_wp2_with fail
    refine (bytes_small 1 b s (by omega) w).mono ?_
    rintro e w1 ⟨rfl, rfl⟩
    go_wp2_with fail
    refine (new_any _ _ _ _).mono ?_
    rintro e w2 ⟨rfl, hb2⟩
    go_wp2_with fail
    refine (H1.out _ _).mono ?_
    rintro e w3 ⟨rfl, hb3⟩
    go_wp2_with fail
    refine (new_any _ _ _ _).mono ?_
    rintro e w4 ⟨rfl, hb4⟩
    go_wp2_with fail
    refine (H1.out _ _).mono ?_
    rintro e w5 ⟨rfl, hb5⟩
    go_wp2_with fail
    refine (HO.out _).mono ?_
    rintro e w6 ⟨rfl, rfl⟩
    go_wp2_with fail
    go_ret
    exact ⟨rfl, below4 hb2 hb3 hb4 hb5⟩

/-- The law, whatever the kind, the bits and the string. -/
theorem kinds_any (t : Int) (b : Nat) (s : ByteArray) (hb : b < 18446744073709551616) (w : World) : Calls Try.prog 4 #[.int .u8 t, .int .u64 b, .string s] w fun e w' => e = .returned (.bool true) ∧ Below w.heap.size w w' := by
  by_cases h : 1048576 < (s.size : Int)
  · exact kinds_big t b s h w
  by_cases h1 : t = 1
  · subst h1
    by_cases hn : b % 9223372036854775808 ≤ 9218868437227405312
    · by_cases h0 : b % 9223372036854775808 = 0
      · by_cases hs : b = 0
        · subst hs
          exact kinds_zero 0 _ _ _ _ zero_plus s h w
        · obtain rfl : b = 9223372036854775808 := by omega
          exact kinds_zero 9223372036854775808 _ _ _ _ zero_minus s h w
      · exact kinds_float b s h hb hn h0 w
    · exact kinds_nan b s h hb (by omega) w
  by_cases h2 : t = 2
  · by_cases h63 : b < 9223372036854775808
    · exact kinds_two b s h h63 w t h2
    · exact kinds_neg b s h hb (by omega) w t h2
  by_cases h3 : t = 3
  · subst h3
    exact kinds_three b s h hb w
  exact kinds_none t b s h h1 h2 h3 w
end Go.Proofs.Qxb6628622a
