import Derived.Test.Qxb6628583aCnt
namespace Go.Proofs.Qxb6628583a
open Go.RowKit Go.Maps

/-! A slice of no elements, wherever it points. -/
set_option maxHeartbeats 400000 in
theorem big_zero (a : Option Addr) (cap : Nat) (w : World) : Calls Try.prog 6 #[.slice a 0 cap] w fun e w' => e = .returned (.bool false) ∧ w' = w := by
  go_enter Try.func6, Try.ntmps6
  go_wp2
  go_loop [4] (fun i => i = .int .i64 0) (fun _ => 0)
  case atStart => rfl
  case round =>
    obtain rfl := hrel
    go_wp2
    go_ret
    exact ⟨rfl, rfl⟩

set_option maxHeartbeats 400000 in
theorem bytes1_zero (a : Option Addr) (cap : Nat) (w : World) : Calls Try.prog 5 #[.slice a 0 cap] w fun e w' => e = .returned (.bool true) ∧ w' = w := by
  go_enter Try.func5, Try.ntmps5
  go_wp2
  go_loop [4] (fun i => i = .int .i64 0) (fun _ => 0)
  case atStart => rfl
  case round =>
    obtain rfl := hrel
    go_wp2
    go_ret
    exact ⟨rfl, rfl⟩

set_option maxHeartbeats 400000 in
theorem bytes2_zero (a : Option Addr) (cap : Nat) (k : Int) (w : World) : Calls Try.prog 14 #[.slice a 0 cap, .int .i64 k] w fun e w' => e = .returned (.bool true) ∧ w' = w := by
  go_enter Try.func14, Try.ntmps14
  go_wp2
  go_loop [6] (fun i => i = .int .i64 0) (fun _ => 0)
  case atStart => rfl
  case round =>
    obtain rfl := hrel
    go_wp2
    go_ret
    exact ⟨rfl, rfl⟩

set_option maxHeartbeats 400000 in
theorem to_zero (a : Option Addr) (cap : Nat) (w : World) : Calls Try.prog 8 #[.slice a 0 cap] w fun e w' => e = .returned (.slice (some ⟨w.heap.size, 0, none⟩) 0 0) ∧ w.heap.size < w'.heap.size ∧ Below w.heap.size w w' := by
  obtain ⟨i0, hi, hz0, hz1, hz2⟩ := info_parts info44
  go_enter Try.func8, Try.ntmps8
  go_wp2_with (first
    | (at_make; go_must (refine wpList_make_full _ rfl _ _ 28 rfl w.heap.size 44 i0 (.agg #[.string ⟨#[]⟩, .string ⟨#[]⟩, .string ⟨#[]⟩, .string ⟨#[]⟩]) 4 Try.underlying28 hi hz0 hz1 .i64 .i64 _ _ 0 rfl rfl rfl rfl (by omega) (by decide) (Nat.le_refl _) ?_); intro w1 hown1 hgrow1))
  clear hi hz0 hz1 hz2
  have hz : w.heap.size < w1.heap.size := (hown1.lt w.heap.size rfl).2
  have hB : Below w.heap.size w w1 := ⟨hgrow1.os, hgrow1.tape, hgrow1.output, hgrow1.size, fun j hj => hgrow1.block j hj (by simp)⟩
  clear hown1 hgrow1
  go_loop [4] (fun i => i = .int .i64 0) (fun _ => 0)
  case atStart => rfl
  case round =>
    obtain rfl := hrel
    go_wp2
    go_ret
    exact ⟨rfl, hz, hB⟩

set_option maxHeartbeats 400000 in
theorem counts_zero (a : Option Addr) (cap : Nat) (w : World) : Calls Try.prog 3 #[.slice a 0 cap] w fun e w' => e = .returned (.bool true) ∧ Below w.heap.size w w' := by
  go_enter Try.func3, Try.ntmps3
  go_wp2_with fail
  refine (bytes1_zero a cap w).mono ?_
  rintro e w1 ⟨rfl, rfl⟩
  go_wp2_with fail
  refine (big_zero a cap _).mono ?_
  rintro e w2 ⟨rfl, rfl⟩
  go_wp2_with fail
  refine (to_zero a cap _).mono ?_
  rintro e w3 ⟨rfl, hz3, hb3⟩
  go_wp2_with fail
  refine (new_any w2.heap.size 0 0 [] _ (by simp) (fun i hi => by simp at hi) (fun p hp => by cases hp) hz3).mono ?_
  rintro e w4 ⟨mv, rfl, hm4, ha4, hb4⟩
  have HM4 : Hid (MapAt w4 mv (3 * ([] : List Sp).length) (keysOf [])) := hm4
  have hz4 := hb4.size
  clear hm4
  go_wp2_with fail
  have hbw : Below w2.heap.size w2 (w4.alloc (.cells #[.map mv] 26)) := (hb3.trans (hb4.mono (by omega))).alloc (by omega) _
  have hM0 : Hid (MapAt (w4.alloc (.cells #[.map mv] 26)) mv (3 * ([] : List Sp).length) (keysOf [])) := MapAt.in_below HM4.out ((Below.refl _ w4).alloc (Nat.le_refl _) _)
  have hm0 : (w4.alloc (.cells #[.map mv] 26)).cell? ⟨w4.heap.size, 0, none⟩ = some (.map mv) := by
    rw [cell_of_row _ w4.heap.size 0 #[.map mv] 26 (0, 0) (heap_alloc_new w4 _)]; rfl
  obtain ⟨bm, hbm⟩ : ∃ bm, bm = w4.heap.size := ⟨_, rfl⟩
  rw [← hbm] at hm0 ⊢
  obtain ⟨W0, hW0⟩ : ∃ W0, W0 = w4.alloc (.cells #[.map mv] 26) := ⟨_, rfl⟩
  rw [← hW0] at hbw hM0 hm0 ⊢
  clear hbm hW0 HM4 hb3 hb4 ha4 hz4 hz3
  go_loop [4, 5] (fun d i => i = .int .i64 0 ∧ d = .int .i64 0) (fun _ _ => 0)
  case atStart => exact ⟨rfl, rfl⟩
  case round =>
    obtain ⟨rfl, rfl⟩ := hrel
    go_wp2_with fail
    refine (len_any mv _ (keysOf []) _ hM0.out).mono ?_
    rintro e w7 ⟨rfl, hb7⟩
    go_wp2_with fail
    go_ret
    exact ⟨by first | rfl | simp [keysOf, distinct], keepB hbw hb7⟩
end Go.Proofs.Qxb6628583a
