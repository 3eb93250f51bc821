import Derived.Test.Qxb6628622aRound
import Derived.WalkSmall
namespace Go.Proofs.Qxb6628622a
open Go.RowKit

set_option maxHeartbeats 1600000 in
/-- zzNearestFloat: the word that the model's own conversion gives. -/
theorem near_any (b : Nat) (hb : b < 18446744073709551616) (w : World) : Calls Try.prog 7 #[.int .u64 b] w fun e w' => e = .returned (.float .f64 (Ieee.double.nearest false b 0)) ∧ w' = w := by
  go_enter Try.func7, Try.ntmps7
  go_wp2_with fail
  go_loop [3, 4] (fun n x => ∃ j : Nat, n = .int .i64 j ∧ j ≤ 64 ∧ x = .int .u64 ((b / 2 ^ j : Nat) : Int) ∧ ∀ i, i < j → b / 2 ^ i ≠ 0) (fun _ x => (intOf x).toNat)
  case atStart => exact ⟨0, rfl, by omega, by simp, fun i hi => by omega⟩
  case round =>
    obtain ⟨j, rfl, hj, rfl, hi⟩ := hrel
    have HI : Hid _ := hi
    clear hi
    by_cases h0 : b / 2 ^ j = 0
    · have h0' : (((b / 2 ^ j : Nat) : Int) != 0) = false := by rw [h0]; rfl
      have HZ : Hid (b / 2 ^ j = 0) := h0
      clear h0
      by_cases h53 : j ≤ 53
      · have hd : decide ((j : Int) ≤ 53) = true := by simp; omega
        clear HZ
        generalize b / 2 ^ j = q at *
        go_wp2_with fail
        go_ret
        exact ⟨by rw [← ofInt_nat]; rfl, rfl⟩
      · have hd : decide ((j : Int) ≤ 53) = false := by simp; omega
        have hs : j - 53 ≤ 11 := by omega
        obtain ⟨hlog, hb0⟩ := log2_of HZ.out HI.out (by omega)
        have F1 := mask_u64 b (j - 53) hb hs
        have F2 := pow_u64 (j - 53 - 1) (by omega)
        have F3 := quo_u64 b (j - 53)
        obtain ⟨k1, k2⟩ := quo_norm hlog hb0
        have MS : Hid _ := mul_stay hs hlog hb0
        have MU : Hid _ := mul_up hs hlog hb0
        have MT : Hid _ := mul_top hs hlog hb0
        have HG : Hid (goesUp b (j - 53) = (decide (2 ^ (j - 53 - 1) < b % 2 ^ (j - 53)) || (b % 2 ^ (j - 53) == 2 ^ (j - 53 - 1) && b / 2 ^ (j - 53) % 2 == 1))) := by
          show _ = _
          unfold goesUp
          have e : 2 ^ (j - 53) = 2 * 2 ^ (j - 53 - 1) := by
            rw [show j - 53 = j - 53 - 1 + 1 from by omega, Nat.pow_succ, show j - 53 - 1 + 1 - 1 = j - 53 - 1 from by omega]; omega
          generalize b / 2 ^ (j - 53) % 2 = o
          generalize b % 2 ^ (j - 53) = r
          rw [e]
          generalize 2 ^ (j - 53 - 1) = h
          rw [Bool.eq_iff_iff]
          simp
          omega
        generalize goesUp b (j - 53) = up at *
        generalize b / 2 ^ (j - 53) = m at *
        generalize b % 2 ^ (j - 53) = r at *
        generalize 2 ^ (j - 53 - 1) = h at *
        have F4 := and_one_u64 (m : Int) (by omega) (by omega)
        have F5 : IntKind.u64.wrap ((m : Int) + 1) = (m : Int) + 1 := by rw [IntKind.wrap_u64]; omega
        clear hlog hb0 HI HZ
        generalize b / 2 ^ j = q at *
        have hmn : ((m : Int) == 9007199254740992) = false := beq_eq_false_iff_ne.2 (by omega)
        by_cases hA : (h : Int) < (r : Int)
        · have hup : up = true := by rw [HG.out, show decide (h < r) = true from decide_eq_true (by omega)]; rfl
          by_cases hT : m + 1 = 9007199254740992
          · have hT' : ((m : Int) + 1 == 9007199254740992) = true := beq_iff_eq.2 (by omega)
            have HM : Hid _ := MT.out hup hT
            clear hup hT
            have hm := run_mul (floatOfInt .f64 4503599627370496) (p2 ((j : Int) - 53 + 1 + 1074).toNat) _ (by rw [show (4503599627370496 : Int) = ((4503599627370496 : Nat) : Int) from rfl, ofInt_nat, show ((j : Int) - 53 + 1 + 1074).toNat = j - 53 + 1 + 1074 from by omega]; exact HM.out)
            go_wp2_with fail
            refine (pow_any ((j : Int) - 53 + 1) (by omega) (by omega) _).mono ?_
            rintro e w1 ⟨rfl, rfl⟩
            go_wp2_with fail
            go_ret
            exact ⟨rfl, rfl⟩
          · have hT' : ((m : Int) + 1 == 9007199254740992) = false := beq_eq_false_iff_ne.2 (by omega)
            have HM : Hid _ := MU.out hup hT
            clear hup hT
            have hm := run_mul (floatOfInt .f64 ((m : Int) + 1)) (p2 ((j : Int) - 53 + 1074).toNat) _ (by rw [show (m : Int) + 1 = ((m + 1 : Nat) : Int) from by omega, ofInt_nat, show ((j : Int) - 53 + 1074).toNat = j - 53 + 1074 from by omega]; exact HM.out)
            go_wp2_with fail
            refine (pow_any ((j : Int) - 53) (by omega) (by omega) _).mono ?_
            rintro e w1 ⟨rfl, rfl⟩
            go_wp2_with fail
            go_ret
            exact ⟨rfl, rfl⟩
        · by_cases hB : (r : Int) = (h : Int)
          · by_cases hO : m % 2 = 1
            · have hO' : ((m : Int) % 2 == 1) = true := beq_iff_eq.2 (by omega)
              have hup : up = true := by rw [HG.out, show decide (h < r) = false from decide_eq_false (by omega), show (r == h) = true from beq_iff_eq.2 (by omega), show (m % 2 == 1) = true from beq_iff_eq.2 hO]; rfl
              by_cases hT : m + 1 = 9007199254740992
              · have hT' : ((m : Int) + 1 == 9007199254740992) = true := beq_iff_eq.2 (by omega)
                have HM : Hid _ := MT.out hup hT
                clear hup hT
                have hm := run_mul (floatOfInt .f64 4503599627370496) (p2 ((j : Int) - 53 + 1 + 1074).toNat) _ (by rw [show (4503599627370496 : Int) = ((4503599627370496 : Nat) : Int) from rfl, ofInt_nat, show ((j : Int) - 53 + 1 + 1074).toNat = j - 53 + 1 + 1074 from by omega]; exact HM.out)
                go_wp2_with fail
                refine (pow_any ((j : Int) - 53 + 1) (by omega) (by omega) _).mono ?_
                rintro e w1 ⟨rfl, rfl⟩
                go_wp2_with fail
                go_ret
                exact ⟨rfl, rfl⟩
              · have hT' : ((m : Int) + 1 == 9007199254740992) = false := beq_eq_false_iff_ne.2 (by omega)
                have HM : Hid _ := MU.out hup hT
                clear hup hT
                have hm := run_mul (floatOfInt .f64 ((m : Int) + 1)) (p2 ((j : Int) - 53 + 1074).toNat) _ (by rw [show (m : Int) + 1 = ((m + 1 : Nat) : Int) from by omega, ofInt_nat, show ((j : Int) - 53 + 1074).toNat = j - 53 + 1074 from by omega]; exact HM.out)
                go_wp2_with fail
                refine (pow_any ((j : Int) - 53) (by omega) (by omega) _).mono ?_
                rintro e w1 ⟨rfl, rfl⟩
                go_wp2_with fail
                go_ret
                exact ⟨rfl, rfl⟩
            · have hO' : ((m : Int) % 2 == 1) = false := beq_eq_false_iff_ne.2 (by omega)
              have hup : up = false := by rw [HG.out, show decide (h < r) = false from decide_eq_false (by omega), show (m % 2 == 1) = false from beq_eq_false_iff_ne.2 hO, Bool.and_false]; rfl
              have HM : Hid _ := MS.out hup
              clear hup
              have hm := run_mul (floatOfInt .f64 (m : Int)) (p2 ((j : Int) - 53 + 1074).toNat) _ (by rw [ofInt_nat, show ((j : Int) - 53 + 1074).toNat = j - 53 + 1074 from by omega]; exact HM.out)
              go_wp2_with fail
              refine (pow_any ((j : Int) - 53) (by omega) (by omega) _).mono ?_
              rintro e w1 ⟨rfl, rfl⟩
              go_wp2_with fail
              go_ret
              exact ⟨rfl, rfl⟩
          · have hup : up = false := by rw [HG.out, show decide (h < r) = false from decide_eq_false (by omega), show (r == h) = false from beq_eq_false_iff_ne.2 (by omega)]; rfl
            have HM : Hid _ := MS.out hup
            clear hup
            have hm := run_mul (floatOfInt .f64 (m : Int)) (p2 ((j : Int) - 53 + 1074).toNat) _ (by rw [ofInt_nat, show ((j : Int) - 53 + 1074).toNat = j - 53 + 1074 from by omega]; exact HM.out)
            go_wp2_with fail
            refine (pow_any ((j : Int) - 53) (by omega) (by omega) _).mono ?_
            rintro e w1 ⟨rfl, rfl⟩
            go_wp2_with fail
            go_ret
            exact ⟨rfl, rfl⟩
    · have h0' : (((b / 2 ^ j : Nat) : Int) != 0) = true := bne_iff_ne.2 fun e => h0 (Int.ofNat_eq_zero.1 e)
      have hj63 : j < 64 := by
        refine Nat.lt_of_not_le fun h => h0 (Nat.div_eq_of_lt (Nat.lt_of_lt_of_le hb ?_))
        have := Nat.pow_le_pow_right (n := 2) (by omega) h
        omega
      have HN : Hid (b / 2 ^ (j + 1) = b / 2 ^ j / 2) := by
        show _ = _
        rw [Nat.pow_succ, Nat.div_div_eq_div_mul]
      have HQ : Hid (b / 2 ^ j ≠ 0) := h0
      have hqp : 0 < b / 2 ^ j := Nat.pos_of_ne_zero h0
      clear h0
      have HE : Hid (∀ i, i < j + 1 → b / 2 ^ i ≠ 0) := fun i hi => by
        rcases (by omega : i < j ∨ i = j) with h | rfl
        · exact HI.out i h
        · exact HQ.out
      clear HI HQ
      generalize b / 2 ^ j = q at *
      go_wp2_with fail
      go_round
      case rel => exact ⟨j + 1, by go_num, by omega, by rw [HN.out]; simp, HE.out⟩
      case measure => simp [intOf]; omega
end Go.Proofs.Qxb6628622a
