import Derived.Test.Qxb6628622aKinds
namespace Go.Proofs.Qxb6628622a
open Go.RowKit

/-- Is it below 2 ^ 63? (A name of its own: the walk does not look behind it.) -/
structure Low (b : Nat) (r : Bool) : Prop where
  out : decide ((b : Int) < 9223372036854775808) = r

set_option maxHeartbeats 1600000 in
/-- An unsigned. -/
theorem kinds_three (b : Nat) (s : ByteArray) (h : ¬ 1048576 < (s.size : Int)) (hb : b < 18446744073709551616) (w : World) : Calls Try.prog 4 #[.int .u8 3, .int .u64 b, .string s] w fun e w' => e = .returned (.bool true) ∧ Below w.heap.size w w' := by
  have O2 : FloatKind.f64.format.order (Ieee.double.nearest false b 0) (Ieee.double.nearest false b 0) = some .eq := order_near false b
  have HN : Hid (∀ w, Calls Try.prog 7 #[.int .u64 b] w fun e w' => e = .returned (.float .f64 (Ieee.double.nearest false b 0)) ∧ w' = w) := fun w => near_any b hb w
  have H3 : Hid (∀ s w, Calls Try.prog 6 #[.agg #[.int .u8 3, .int .u64 (b : Int), .string s]] w fun e w' => e = .returned (.tuple #[.float .f64 (Ieee.double.nearest false b 0), .bool true]) ∧ Below w.heap.size w w') := fun s w => by
    have := num3 b s w
    rw [ofInt_nat] at this
    exact this
  generalize Ieee.double.nearest false b 0 = N at *
  go_enter Try.func4, Try.ntmps4
  go_wp2_with fail
  refine (bytes_small 3 b s (by omega) w).mono ?_
  rintro e w1 ⟨rfl, rfl⟩
  go_wp2_with fail
  refine (new_any _ _ _ _).mono ?_
  rintro e w2 ⟨rfl, hb2⟩
  go_wp2_with fail
  refine (H3.out _ _).mono ?_
  rintro e w3 ⟨rfl, hb3⟩
  go_wp2_with fail
  refine (new_any _ _ _ _).mono ?_
  rintro e w4 ⟨rfl, hb4⟩
  go_wp2_with fail
  refine (H3.out _ _).mono ?_
  rintro e w5 ⟨rfl, hb5⟩
  go_wp2_with fail
  refine (HN.out _).mono ?_
  rintro e w6 ⟨rfl, rfl⟩
  go_wp2_with fail
  go_ret
  exact ⟨rfl, below4 hb2 hb3 hb4 hb5⟩

set_option maxHeartbeats 1600000 in
/-- An integer, from nought on. -/
theorem kinds_two (b : Nat) (s : ByteArray) (h : ¬ 1048576 < (s.size : Int)) (hb : b < 9223372036854775808) (w : World) (t : Int) (ht : t = 2) : Calls Try.prog 4 #[.int .u8 t, .int .u64 b, .string s] w fun e w' => e = .returned (.bool true) ∧ Below w.heap.size w w' := by
  have hd : decide ((b : Int) < 9223372036854775808) = true := decide_eq_true (by omega)
  have O2 : FloatKind.f64.format.order (Ieee.double.nearest false b 0) (Ieee.double.nearest false b 0) = some .eq := order_near false b
  have HN : Hid (∀ w, Calls Try.prog 7 #[.int .u64 b] w fun e w' => e = .returned (.float .f64 (Ieee.double.nearest false b 0)) ∧ w' = w) := fun w => near_any b (by omega) w
  have H3 : Hid (∀ s w, Calls Try.prog 6 #[.agg #[.int .u8 t, .int .u64 (b : Int), .string s]] w fun e w' => e = .returned (.tuple #[.float .f64 (Ieee.double.nearest false b 0), .bool true]) ∧ Below w.heap.size w w') := fun s w => by
    have := num2 b s w
    rw [← ht] at this
    rw [IntWalk.wrap64_in _ (by omega), ofInt_nat] at this
    exact this
  generalize Ieee.double.nearest false b 0 = N at *
  clear hb
  have k1 : (t == 1) = false := by rw [ht]; rfl
  have k2 : (t == 2) = true := by rw [ht]; rfl
  have k3 : (t == 3) = false := by rw [ht]; rfl
  clear ht
  have HD : Low b true := ⟨hd⟩
  clear hd
  go_enter Try.func4, Try.ntmps4
  go_wp2_with fail
  refine (bytes_small t b s (by omega) w).mono ?_
  rintro e w1 ⟨rfl, rfl⟩
  go_wp2_with fail
  refine (new_any _ _ _ _).mono ?_
  rintro e w2 ⟨rfl, hb2⟩
  go_wp2_with fail
  refine (H3.out _ _).mono ?_
  rintro e w3 ⟨rfl, hb3⟩
  go_wp2_with fail
  refine (new_any _ _ _ _).mono ?_
  rintro e w4 ⟨rfl, hb4⟩
  go_wp2_with fail
  refine (H3.out _ _).mono ?_
  rintro e w5 ⟨rfl, hb5⟩
  clear h
  have hd := HD.out
  clear HD
  go_wp2_with fail
  refine (HN.out _).mono ?_
  rintro e w6 ⟨rfl, rfl⟩
  go_wp2_with fail
  go_ret
  exact ⟨rfl, below4 hb2 hb3 hb4 hb5⟩

set_option maxHeartbeats 1600000 in
/-- An integer below nought. -/
theorem kinds_neg (b : Nat) (s : ByteArray) (h : ¬ 1048576 < (s.size : Int)) (hb : b < 18446744073709551616) (h63 : 9223372036854775808 ≤ b) (w : World) (t : Int) (ht : t = 2) : Calls Try.prog 4 #[.int .u8 t, .int .u64 b, .string s] w fun e w' => e = .returned (.bool true) ∧ Below w.heap.size w w' := by
  have hd : decide ((b : Int) < 9223372036854775808) = false := decide_eq_false (by omega)
  obtain ⟨c, hc⟩ : ∃ c, c = 18446744073709551616 - b := ⟨_, rfl⟩
  have hw : IntKind.u64.wrap (-(b : Int)) = (c : Int) := by rw [IntKind.wrap_u64]; omega
  have H2 : Hid (∀ s w, Calls Try.prog 6 #[.agg #[.int .u8 t, .int .u64 (b : Int), .string s]] w fun e w' => e = .returned (.tuple #[.float .f64 (Ieee.double.nearest true c 0), .bool true]) ∧ Below w.heap.size w w') := fun s w => by
    have := num2 b s w
    rw [← ht] at this
    rw [show wrap64 (b : Int) = -(c : Int) from by unfold wrap64; omega, ofInt_neg c (by omega)] at this
    exact this
  have HN : Hid (∀ w, Calls Try.prog 7 #[.int .u64 c] w fun e w' => e = .returned (.float .f64 (Ieee.double.nearest false c 0)) ∧ w' = w) := fun w => near_any c (by omega) w
  have O3 : FloatKind.f64.format.order (Ieee.double.nearest true c 0) (Ieee.double.nearest true c 0) = some .eq := order_near true c
  have O4 := run_negF _ _ (negFloat_nearest c)
  generalize Ieee.double.nearest true c 0 = M at *
  generalize Ieee.double.nearest false c 0 = K at *
  have HC : Hid _ := hc
  clear hc h63 hb
  have k1 : (t == 1) = false := by rw [ht]; rfl
  have k2 : (t == 2) = true := by rw [ht]; rfl
  have k3 : (t == 3) = false := by rw [ht]; rfl
  clear ht
  have HD : Low b false := ⟨hd⟩
  clear hd
  go_enter Try.func4, Try.ntmps4
  go_wp2_with fail
  refine (bytes_small t b s (by omega) w).mono ?_
  rintro e w1 ⟨rfl, rfl⟩
  go_wp2_with fail
  refine (new_any _ _ _ _).mono ?_
  rintro e w2 ⟨rfl, hb2⟩
  go_wp2_with fail
  refine (H2.out _ _).mono ?_
  rintro e w3 ⟨rfl, hb3⟩
  go_wp2_with fail
  refine (new_any _ _ _ _).mono ?_
  rintro e w4 ⟨rfl, hb4⟩
  go_wp2_with fail
  refine (H2.out _ _).mono ?_
  rintro e w5 ⟨rfl, hb5⟩
  clear h
  have hd := HD.out
  clear HD
  go_wp2_with fail
  refine (HN.out _).mono ?_
  rintro e w6 ⟨rfl, rfl⟩
  go_wp2_with fail
  go_ret
  exact ⟨rfl, below4 hb2 hb3 hb4 hb5⟩

set_option maxHeartbeats 1600000 in
/-- A NaN. -/
theorem kinds_nan (b : Nat) (s : ByteArray) (h : ¬ 1048576 < (s.size : Int)) (hb : b < 18446744073709551616) (hn : 9218868437227405312 < b % 9223372036854775808) (w : World) : Calls Try.prog 4 #[.int .u8 1, .int .u64 b, .string s] w fun e w' => e = .returned (.bool true) ∧ Below w.heap.size w w' := by
  have G1 := exp_u64 b hb
  have G3 := frac_u64 b hb
  have k1 : ((b / 4503599627370496 % 2048 : Nat) : Int) = 2047 := by omega
  have k2 : (((b % 4503599627370496 : Nat) : Int) != 0) = true := bne_iff_ne.2 (by omega)
  rw [k1] at G1
  generalize b % 4503599627370496 = F at *
  have X1 := xor_u64 b hb
  obtain ⟨x1, x2⟩ := xor_word b hb
  have O1 := order_nan b hn
  have O2 := order_nan _ (x1 ▸ hn)
  generalize b ^^^ 9223372036854775808 = g at *
  have H1 : Hid (∀ (b : Nat) w, Calls Try.prog 6 #[.agg #[.int .u8 1, .int .u64 (b : Int), .string s]] w fun e w' => e = .returned (.tuple #[.float .f64 b, .bool true]) ∧ Below w.heap.size w w') := fun b w => num1 b s w
  clear k1 x1 x2 hn hb
  go_enter Try.func4, Try.ntmps4
  go_wp2_with fail
  refine (bytes_small 1 b s (by omega) w).mono ?_
  rintro e w1 ⟨rfl, rfl⟩
  go_wp2_with fail
  refine (new_any _ _ _ _).mono ?_
  rintro e w2 ⟨rfl, hb2⟩
  go_wp2_with fail
  refine (H1.out _ _).mono ?_
  rintro e w3 ⟨rfl, hb3⟩
  go_wp2_with fail
  refine (new_any _ _ _ _).mono ?_
  rintro e w4 ⟨rfl, hb4⟩
  go_wp2_with fail
  refine (H1.out _ _).mono ?_
  rintro e w5 ⟨rfl, hb5⟩
  go_wp2_with fail
  go_ret
  exact ⟨rfl, below4 hb2 hb3 hb4 hb5⟩

set_option maxHeartbeats 1600000 in
/-- A float that is neither a NaN nor a zero. -/
theorem kinds_float (b : Nat) (s : ByteArray) (h : ¬ 1048576 < (s.size : Int)) (hb : b < 18446744073709551616) (hn : b % 9223372036854775808 ≤ 9218868437227405312) (h0 : b % 9223372036854775808 ≠ 0) (w : World) : Calls Try.prog 4 #[.int .u8 1, .int .u64 b, .string s] w fun e w' => e = .returned (.bool true) ∧ Below w.heap.size w w' := by
  have G1 := exp_u64 b hb
  have G3 := frac_u64 b hb
  have k2 : ((((b / 4503599627370496 % 2048 : Nat) : Int) == 2047) && (((b % 4503599627370496 : Nat) : Int) != 0)) = false := by
    by_cases e : b / 4503599627370496 % 2048 = 2047
    · rw [show b % 4503599627370496 = 0 from by omega]; simp
    · rw [show (((b / 4503599627370496 % 2048 : Nat) : Int) == 2047) = false from beq_eq_false_iff_ne.2 (by omega)]; rfl
  generalize b / 4503599627370496 % 2048 = E at *
  generalize b % 4503599627370496 = F at *
  have X1 := xor_u64 b hb
  obtain ⟨x1, x2⟩ := xor_word b hb
  have O1 := order_word b hn hb
  have O2 := order_word _ (x1 ▸ hn) x2
  have O3 := order_zero b h0 hn
  have O4 := run_negF b _ (negFloat_word b)
  have HO : Hid (∀ w, Calls Try.prog 9 #[.int .u64 b] w fun e w' => e = .returned (.float .f64 b) ∧ w' = w) := fun w => of_any b hb hn w
  generalize b ^^^ 9223372036854775808 = g at *
  have H1 : Hid (∀ (b : Nat) w, Calls Try.prog 6 #[.agg #[.int .u8 1, .int .u64 (b : Int), .string s]] w fun e w' => e = .returned (.tuple #[.float .f64 b, .bool true]) ∧ Below w.heap.size w w') := fun b w => num1 b s w
  clear x1 x2 hn hb h0
  by_cases hE : (E : Int) = 2047
  · have k3 : (((F : Nat) : Int) != 0) = false := by rw [hE] at k2; simpa using k2
    clear k2
    go_enter Try.func4, Try.ntmps4
    go_wp2_with fail
    refine (bytes_small 1 b s (by omega) w).mono ?_
    rintro e w1 ⟨rfl, rfl⟩
    go_wp2_with fail
    refine (new_any _ _ _ _).mono ?_
    rintro e w2 ⟨rfl, hb2⟩
    go_wp2_with fail
    refine (H1.out _ _).mono ?_
    rintro e w3 ⟨rfl, hb3⟩
    go_wp2_with fail
    refine (new_any _ _ _ _).mono ?_
    rintro e w4 ⟨rfl, hb4⟩
    go_wp2_with fail
    refine (H1.out _ _).mono ?_
    rintro e w5 ⟨rfl, hb5⟩
    go_wp2_with fail
    refine (HO.out _).mono ?_
    rintro e w6 ⟨rfl, rfl⟩
    go_wp2_with fail
    go_ret
    exact ⟨rfl, below4 hb2 hb3 hb4 hb5⟩
  · have k3 : ((E : Int) == 2047) = false := beq_eq_false_iff_ne.2 hE
    clear k2 hE
    go_enter Try.func4, Try.ntmps4
    go_wp2_with fail
    refine (bytes_small 1 b s (by omega) w).mono ?_
    rintro e w1 ⟨rfl, rfl⟩
    go_wp2_with fail
    refine (new_any _ _ _ _).mono ?_
    rintro e w2 ⟨rfl, hb2⟩
    go_wp2_with fail
    refine (H1.out _ _).mono ?_
    rintro e w3 ⟨rfl, hb3⟩
    go_wp2_with fail
    refine (new_any _ _ _ _).mono ?_
    rintro e w4 ⟨rfl, hb4⟩
    go_wp2_with fail
    refine (H1.out _ _).mono ?_
    rintro e w5 ⟨rfl, hb5⟩
    go_wp2_with fail
    refine (HO.out _).mono ?_
    rintro e w6 ⟨rfl, rfl⟩
    go_wp2_with fail
    go_ret
    exact ⟨rfl, below4 hb2 hb3 hb4 hb5⟩
end Go.Proofs.Qxb6628622a
