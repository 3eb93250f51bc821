import Derived.Test.Qxb6628622aRows
import Derived.WalkKit
import Derived.WalkSpells
import Derived.WalkLawsBesides
import Derived.Laws.FloatArith
namespace Go.Proofs.Qxb6628622a
open Go.RowKit

theorem run_bits (b : Int) (w : World) : (callFunc 10 #[.int .u64 b]).run Try.prog w = .ok (.value (.float .f64 b.toNat)) w := by
  rw [run_callFunc_extern Try.func10 (by kernel_rfl) (by kernel_rfl) (by kernel_rfl) (e := Extern.MathFloatBits.float64frombits) (by kernel_rfl)]
  rfl

set_option maxHeartbeats 400000 in
theorem new_any (t b : Int) (s : ByteArray) (w : World) : Calls Try.prog 5 #[.int .u8 t, .int .u64 b, .string s] w fun e w' => e = .returned (.agg #[.int .u8 t, .int .u64 b, .string s]) ∧ Below w.heap.size w w' := by
  go_enter Try.func5, Try.ntmps5
  go_wp2
  exact bodyPost_ret (v := .agg #[.int .u8 t, .int .u64 b, .string s]) (by simp [results, Try.results5, go_sem]) rfl ⟨rfl, (Below.refl _ w).alloc (Nat.le_refl _) _⟩

set_option maxHeartbeats 400000 in
theorem num3 (b : Int) (s : ByteArray) (w : World) : Calls Try.prog 6 #[.agg #[.int .u8 3, .int .u64 b, .string s]] w fun e w' => e = .returned (.tuple #[.float .f64 (floatOfInt .f64 b), .bool true]) ∧ Below w.heap.size w w' := by
  go_enter Try.func6, Try.ntmps6
  go_wp2
  go_ret2
  exact ⟨rfl, (Below.refl _ w).alloc (Nat.le_refl _) _⟩

set_option maxHeartbeats 400000 in
theorem num2 (b : Int) (s : ByteArray) (w : World) : Calls Try.prog 6 #[.agg #[.int .u8 2, .int .u64 b, .string s]] w fun e w' => e = .returned (.tuple #[.float .f64 (floatOfInt .f64 (wrap64 b)), .bool true]) ∧ Below w.heap.size w w' := by
  go_enter Try.func6, Try.ntmps6
  go_wp2
  go_ret2
  exact ⟨rfl, (Below.refl _ w).alloc (Nat.le_refl _) _⟩

set_option maxHeartbeats 400000 in
theorem num1 (b : Int) (s : ByteArray) (w : World) : Calls Try.prog 6 #[.agg #[.int .u8 1, .int .u64 b, .string s]] w fun e w' => e = .returned (.tuple #[.float .f64 b.toNat, .bool true]) ∧ Below w.heap.size w w' := by
  have hx := fun w => run_bits b w
  go_enter Try.func6, Try.ntmps6
  go_wp2
  go_ret2
  exact ⟨rfl, (Below.refl _ w).alloc (Nat.le_refl _) _⟩

set_option maxHeartbeats 400000 in
theorem num0 (t b : Int) (s : ByteArray) (w : World) (h1 : t ≠ 1) (h2 : t ≠ 2) (h3 : t ≠ 3) : Calls Try.prog 6 #[.agg #[.int .u8 t, .int .u64 b, .string s]] w fun e w' => e = .returned (.tuple #[.float .f64 0, .bool false]) ∧ Below w.heap.size w w' := by
  have k1 : (t == 1) = false := beq_eq_false_iff_ne.2 h1
  have k2 : (t == 2) = false := beq_eq_false_iff_ne.2 h2
  have k3 : (t == 3) = false := beq_eq_false_iff_ne.2 h3
  clear h1 h2 h3
  go_enter Try.func6, Try.ntmps6
  go_wp2
  go_ret2
  exact ⟨rfl, (Below.refl _ w).alloc (Nat.le_refl _) _⟩
end Go.Proofs.Qxb6628622a
