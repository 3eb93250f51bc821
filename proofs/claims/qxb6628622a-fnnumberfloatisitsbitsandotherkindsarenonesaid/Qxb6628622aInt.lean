import Derived.Test.Qxb6628622aOrd
namespace Go.Proofs.Qxb6628622a
open Go.RowKit

theorem run_negF (x r : Nat) (h : Op.negFloat .f64 x = r) (w : World) : (Op.unary UnOp.neg (.float .f64 x)).run Try.prog w = .ok (.float .f64 r) w := by
  rw [← h]; rfl
theorem below2 {w0 w1 w2 : World} (h1 : Below w0.heap.size w0 w1) (h2 : Below w1.heap.size w1 w2) : Below w0.heap.size w0 w2 := h1.trans (h2.mono h1.size)
theorem below4 {w0 w1 w2 w3 w4 : World} (h1 : Below w0.heap.size w0 w1) (h2 : Below w1.heap.size w1 w2) (h3 : Below w2.heap.size w2 w3) (h4 : Below w3.heap.size w3 w4) : Below w0.heap.size w0 w4 := below2 (below2 (below2 h1 h2) h3) h4

set_option maxHeartbeats 1600000 in
theorem int_walk (b : Nat) (hb : b < 18446744073709551616) (w : World) : Calls Try.prog 3 #[.int .u64 b] w fun e w' => e = .returned (.bool true) ∧ Below w.heap.size w w' := by
  have O2 : FloatKind.f64.format.order (Ieee.double.nearest false b 0) (Ieee.double.nearest false b 0) = some .eq := order_near false b
  have HN : Hid (∀ w, Calls Try.prog 7 #[.int .u64 b] w fun e w' => e = .returned (.float .f64 (Ieee.double.nearest false b 0)) ∧ w' = w) := fun w => near_any b hb w
  have H3 : Hid (∀ s w, Calls Try.prog 6 #[.agg #[.int .u8 3, .int .u64 (b : Int), .string s]] w fun e w' => e = .returned (.tuple #[.float .f64 (Ieee.double.nearest false b 0), .bool true]) ∧ Below w.heap.size w w') := fun s w => by
    have := num3 b s w
    rw [ofInt_nat] at this
    exact this
  have HP : Hid (b < 9223372036854775808 → ∀ s w, Calls Try.prog 6 #[.agg #[.int .u8 2, .int .u64 (b : Int), .string s]] w fun e w' => e = .returned (.tuple #[.float .f64 (Ieee.double.nearest false b 0), .bool true]) ∧ Below w.heap.size w w') := fun h s w => by
    have := num2 b s w
    rw [IntWalk.wrap64_in _ (by omega), ofInt_nat] at this
    exact this
  generalize Ieee.double.nearest false b 0 = N at *
  go_enter Try.func3, Try.ntmps3
  go_wp2_with fail
  refine (new_any _ _ _ _).mono ?_
  rintro e w1 ⟨rfl, hb1⟩
  go_wp2_with fail
  refine (H3.out _ _).mono ?_
  rintro e w2 ⟨rfl, hb2⟩
  go_wp2_with fail
  refine (new_any _ _ _ _).mono ?_
  rintro e w3 ⟨rfl, hb3⟩
  by_cases h63 : b < 9223372036854775808
  · have h63' : decide ((b : Int) < 9223372036854775808) = true := decide_eq_true (by omega)
    go_wp2_with fail
    refine (HP.out h63 _ _).mono ?_
    rintro e w4 ⟨rfl, hb4⟩
    clear h63
    go_wp2_with fail
    refine (HN.out _).mono ?_
    rintro e w5 ⟨rfl, rfl⟩
    go_wp2_with fail
    go_ret
    exact ⟨rfl, below4 hb1 hb2 hb3 hb4⟩
  · have h63' : decide ((b : Int) < 9223372036854775808) = false := decide_eq_false (by omega)
    obtain ⟨c, hc⟩ : ∃ c, c = 18446744073709551616 - b := ⟨_, rfl⟩
    have hw : IntKind.u64.wrap (-(b : Int)) = (c : Int) := by rw [IntKind.wrap_u64]; omega
    have H2 : Hid (∀ s w, Calls Try.prog 6 #[.agg #[.int .u8 2, .int .u64 (b : Int), .string s]] w fun e w' => e = .returned (.tuple #[.float .f64 (Ieee.double.nearest true c 0), .bool true]) ∧ Below w.heap.size w w') := fun s w => by
      have := num2 b s w
      rw [show wrap64 (b : Int) = -(c : Int) from by unfold wrap64; omega, ofInt_neg c (by omega)] at this
      exact this
    have H3' : Hid (∀ s w, Calls Try.prog 6 #[.agg #[.int .u8 3, .int .u64 (c : Int), .string s]] w fun e w' => e = .returned (.tuple #[.float .f64 (Ieee.double.nearest false c 0), .bool true]) ∧ Below w.heap.size w w') := fun s w => by
      have := num3 c s w
      rw [ofInt_nat] at this
      exact this
    have O3 : FloatKind.f64.format.order (Ieee.double.nearest true c 0) (Ieee.double.nearest true c 0) = some .eq := order_near true c
    have O4 := run_negF _ _ (negFloat_nearest c)
    generalize Ieee.double.nearest true c 0 = M at *
    generalize Ieee.double.nearest false c 0 = K at *
    have HC : Hid _ := hc
    clear hc h63
    go_wp2_with fail
    refine (H2.out _ _).mono ?_
    rintro e w4 ⟨rfl, hb4⟩
    go_wp2_with fail
    refine (HN.out _).mono ?_
    rintro e w5 ⟨rfl, rfl⟩
    go_wp2_with fail
    refine (new_any _ _ _ _).mono ?_
    rintro e w6 ⟨rfl, hb6⟩
    go_wp2_with fail
    refine (H3'.out _ _).mono ?_
    rintro e w7 ⟨rfl, hb7⟩
    go_wp2_with fail
    go_ret
    exact ⟨rfl, below4 hb1 hb2 hb3 (below2 hb4 (below2 hb6 hb7))⟩
end Go.Proofs.Qxb6628622a
