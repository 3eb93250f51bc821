import Derived.Test.Qxb6628622aFl
namespace Go.Proofs.Qxb6628622a
open Go.RowKit

theorem run_mul (x y r : Nat) (h : Ieee.double.mul x y = some r) (w : World) : (binOp .mul 23 (.float .f64 x) (.float .f64 y)).run Try.prog w = .ok (.float .f64 r) w := run_float_arith w .mul 23 .f64 x y r h

set_option maxHeartbeats 800000 in
/-- zzPow2: the word of 2 ^ k. -/
theorem pow_any (k : Int) (h1 : -1074 ≤ k) (h2 : k ≤ 1023) (w : World) : Calls Try.prog 11 #[.int .i64 k] w fun e w' => e = .returned (.float .f64 (p2 (k + 1074).toNat)) ∧ w' = w := by
  go_enter Try.func11, Try.ntmps11
  go_wp2_with fail
  go_loop [0, 3] (fun c p => ∃ j : Int, c = .int .i64 j ∧ j ≤ k ∧ (0 ≤ j ∨ j = k) ∧ p = .float .f64 (p2 (k - j + 1074).toNat)) (fun c _ => (intOf c).toNat)
  case atStart => exact ⟨k, rfl, Int.le_refl _, .inr rfl, by rw [Int.sub_self]; rfl⟩
  case round =>
    obtain ⟨j, rfl, hj, hj0, rfl⟩ := hrel
    by_cases hp : 0 < j
    · have hm := run_mul _ _ _ (p2_double (k - j + 1074).toNat (by omega) (by omega))
      go_wp2_with fail
      go_round
      case rel => exact ⟨j - 1, by go_num, by omega, .inl (by omega), by rw [show (k - (j - 1) + 1074).toNat = (k - j + 1074).toNat + 1 from by omega]⟩
      case measure => simp [intOf]; omega
    · go_wp2_with fail
      go_loop [0, 3] (fun c p => ∃ j : Int, c = .int .i64 j ∧ j ≤ 0 ∧ k ≤ 1023 + j ∧ p = .float .f64 (p2 (k - j + 1074).toNat)) (fun c _ => (-(intOf c)).toNat)
      case atStart => exact ⟨j, rfl, by omega, by omega, rfl⟩
      case round =>
        obtain ⟨i, rfl, hi, hi2, rfl⟩ := hrel
        by_cases hn : i < 0
        · have hm := run_mul _ _ _ (p2_half (k - i + 1074).toNat (by omega) (by omega))
          go_wp2_with fail
          go_round
          case rel => exact ⟨i + 1, by go_num, by omega, by omega, by rw [show (k - (i + 1) + 1074).toNat = (k - i + 1074).toNat - 1 from by omega]⟩
          case measure => simp [intOf]; omega
        · have hi0 : i = 0 := by omega
          subst hi0
          go_wp2_with fail
          go_ret
          exact ⟨by simp, rfl⟩
end Go.Proofs.Qxb6628622a
