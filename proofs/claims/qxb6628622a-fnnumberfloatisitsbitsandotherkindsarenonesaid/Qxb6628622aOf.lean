import Derived.Test.Qxb6628622aInt
namespace Go.Proofs.Qxb6628622a
open Go.RowKit

theorem exp_u64 (b : Nat) (hb : b < 18446744073709551616) : bits .and .u64 ((b : Int) / 4503599627370496) 2047 = ((b / 4503599627370496 % 2048 : Nat) : Int) := by
  rw [show (b : Int) / 4503599627370496 = ((b / 4503599627370496 : Nat) : Int) from by omega, show (2047 : Int) = ((2 ^ 11 - 1 : Nat) : Int) from rfl, u64_and_nat _ _ (by omega) (by decide), Nat.and_two_pow_sub_one_eq_mod]
theorem frac_u64 (b : Nat) (hb : b < 18446744073709551616) : bits .and .u64 (b : Int) 4503599627370495 = ((b % 4503599627370496 : Nat) : Int) := by
  rw [show (4503599627370495 : Int) = ((2 ^ 52 - 1 : Nat) : Int) from rfl, u64_and_nat _ _ hb (by decide), Nat.and_two_pow_sub_one_eq_mod]
theorem or_u64 (f : Nat) (hf : f < 4503599627370496) : bits .or .u64 (f : Int) 4503599627370496 = (f : Int) + 4503599627370496 := by
  have h1 := Nat.two_pow_add_eq_or_of_lt (i := 52) (b := f) (by omega) 1
  rw [Nat.mul_one] at h1
  rw [show (4503599627370496 : Int) = ((2 ^ 52 : Nat) : Int) from rfl, u64_or_nat _ _ (by omega) (by decide), Nat.or_comm, ← h1]
  omega

theorem inf_mul : Ieee.double.mul 9214871658872686752 9214871658872686752 = some 9218868437227405312 := by decide +kernel

set_option maxHeartbeats 1600000 in
/-- zzFloatOfBits: its bits, where they are no NaN's. -/
theorem of_any (b : Nat) (hb : b < 18446744073709551616) (hn : b % 9223372036854775808 ≤ 9218868437227405312) (w : World) : Calls Try.prog 9 #[.int .u64 b] w fun e w' => e = .returned (.float .f64 b) ∧ w' = w := by
  have G1 := exp_u64 b hb
  have G3 := frac_u64 b hb
  have G4 := or_u64 (b % 4503599627370496) (by omega)
  have hE : b / 4503599627370496 % 2048 < 2048 := by omega
  have hF : b % 4503599627370496 < 4503599627370496 := by omega
  have hLE : b % 9223372036854775808 = b / 4503599627370496 % 2048 * 4503599627370496 + b % 4503599627370496 := by omega
  have hL : b % 9223372036854775808 < 9223372036854775808 := by omega
  have hbL : b = b / 9223372036854775808 * 9223372036854775808 + b % 9223372036854775808 := by omega
  have hq : b / 9223372036854775808 < 2 := by omega
  generalize b / 4503599627370496 % 2048 = E at *
  generalize b % 4503599627370496 = F at *
  generalize b % 9223372036854775808 = L at *
  have G2 : wrap64 (E : Int) = (E : Int) := IntWalk.wrap64_in _ (by omega)
  go_enter Try.func9, Try.ntmps9
  by_cases h1 : E = 2047
  · have k1 : ((E : Int) == 2047) = true := beq_iff_eq.2 (by omega)
    have hm := run_mul 9214871658872686752 9214871658872686752 L (by rw [inf_mul, show L = 9218868437227405312 from by omega])
    have HLE : Hid _ := hLE
    have HBL : Hid _ := hbL
    clear h1 hLE hbL
    by_cases hS : b / 9223372036854775808 = 1
    · have hS' : ((b : Int) / 9223372036854775808 == 1) = true := beq_iff_eq.2 (by omega)
      have O4 := run_negF L b (by rw [show b = 9223372036854775808 + L from by have := HBL.out; omega]; exact xor_top L (by omega))
      have HS : Hid _ := hS
      clear hS
      go_wp2_with fail
      go_ret
      exact ⟨rfl, rfl⟩
    · have hS' : ((b : Int) / 9223372036854775808 == 1) = false := beq_eq_false_iff_ne.2 (by omega)
      have HS : Hid (L = b) := by show _ = _; have := HBL.out; omega
      clear hS
      go_wp2_with fail
      go_ret
      exact ⟨by rw [← HS.out]; rfl, rfl⟩
  · have k1 : ((E : Int) == 2047) = false := beq_eq_false_iff_ne.2 (by omega)
    by_cases h0 : E = 0
    · have k2 : ((E : Int) != 0) = false := by rw [h0]; rfl
      have hLF : L = F := by omega
      have hm := run_mul (floatOfInt .f64 (F : Int)) (p2 0) L (by
        rw [ofInt_nat, hLF]
        show Ieee.double.mul (Ieee.double.nearest false F 0) (p2 0) = some F
        by_cases hz : F = 0
        · rw [hz]; exact scale_zero
        · exact scale_low F hz hF)
      have HLE : Hid _ := hLE
      have HBL : Hid _ := hbL
      clear h1 h0 hLE hbL hLF
      by_cases hS : b / 9223372036854775808 = 1
      · have hS' : ((b : Int) / 9223372036854775808 == 1) = true := beq_iff_eq.2 (by omega)
        have O4 := run_negF L b (by rw [show b = 9223372036854775808 + L from by have := HBL.out; omega]; exact xor_top L (by omega))
        have HS : Hid _ := hS
        clear hS
        go_wp2_with fail
        refine (pow_any (-1074) (by omega) (by omega) _).mono ?_
        rintro e w1 ⟨rfl, rfl⟩
        go_wp2_with fail
        go_ret
        exact ⟨rfl, rfl⟩
      · have hS' : ((b : Int) / 9223372036854775808 == 1) = false := beq_eq_false_iff_ne.2 (by omega)
        have HS : Hid (L = b) := by show _ = _; have := HBL.out; omega
        clear hS
        go_wp2_with fail
        refine (pow_any (-1074) (by omega) (by omega) _).mono ?_
        rintro e w1 ⟨rfl, rfl⟩
        go_wp2_with fail
        go_ret
        exact ⟨by rw [← HS.out]; rfl, rfl⟩
    · have k2 : ((E : Int) != 0) = true := bne_iff_ne.2 (by omega)
      have hE1 : 1 ≤ E := by omega
      have hm := run_mul (floatOfInt .f64 ((F : Int) + 4503599627370496)) (p2 ((E : Int) - 1075 + 1074).toNat) L (by
        rw [show (F : Int) + 4503599627370496 = ((F + 4503599627370496 : Nat) : Int) from by omega, ofInt_nat, near_norm _ (by omega) (by omega), show ((E : Int) - 1075 + 1074).toNat = E - 1 from by omega, scale _ _ (by omega) (by omega) (by omega)]
        unfold wd
        exact congrArg some (by omega))
      have HLE : Hid _ := hLE
      have HBL : Hid _ := hbL
      clear h1 h0 hLE hbL
      by_cases hS : b / 9223372036854775808 = 1
      · have hS' : ((b : Int) / 9223372036854775808 == 1) = true := beq_iff_eq.2 (by omega)
        have O4 := run_negF L b (by rw [show b = 9223372036854775808 + L from by have := HBL.out; omega]; exact xor_top L (by omega))
        have HS : Hid _ := hS
        clear hS
        go_wp2_with fail
        refine (pow_any ((E : Int) - 1075) (by omega) (by omega) _).mono ?_
        rintro e w1 ⟨rfl, rfl⟩
        go_wp2_with fail
        go_ret
        exact ⟨rfl, rfl⟩
      · have hS' : ((b : Int) / 9223372036854775808 == 1) = false := beq_eq_false_iff_ne.2 (by omega)
        have HS : Hid (L = b) := by show _ = _; have := HBL.out; omega
        clear hS
        go_wp2_with fail
        refine (pow_any ((E : Int) - 1075) (by omega) (by omega) _).mono ?_
        rintro e w1 ⟨rfl, rfl⟩
        go_wp2_with fail
        go_ret
        exact ⟨by rw [← HS.out]; rfl, rfl⟩
end Go.Proofs.Qxb6628622a
