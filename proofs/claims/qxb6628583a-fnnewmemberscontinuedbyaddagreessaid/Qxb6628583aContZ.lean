import Derived.Test.Qxb6628583aCont
namespace Go.Proofs.Qxb6628583a
open Go.RowKit Go.Maps

set_option maxHeartbeats 400000 in
/-- More than 4096 spenders: nothing is asked. -/
theorem cont_many (b off cap : Nat) (xs : List Sp) (kk : Int) (w : World) (hxs : xs.length ≤ maxLen) (hbig : 4096 < (xs.length : Int)) (hcells : RowAt w b off xs) :
    Calls Try.prog 4 #[.slice (some ⟨b, off, none⟩) xs.length cap, .int .i64 kk] w fun e w' => e = .returned (.bool true) ∧ Below w.heap.size w w' := by
  have HB : Hid _ := bytes2_any b off cap xs kk w hxs hcells
  clear hcells
  go_enter Try.func4, Try.ntmps4
  go_wp2_with fail
  refine Calls.mono HB.out ?_
  rintro e w1 ⟨⟨r, rfl⟩, rfl⟩
  cases r with
  | false =>
    go_wp2_with fail
    go_ret
    exact ⟨rfl, Below.refl _ _⟩
  | true =>
    go_wp2_with fail
    go_ret
    exact ⟨rfl, Below.refl _ _⟩

set_option maxRecDepth 100000 in
set_option maxHeartbeats 4000000 in
/-- No spender at all. -/
theorem cont_zero (a : Option Addr) (cap : Nat) (kk : Int) (w : World) : Calls Try.prog 4 #[.slice a 0 cap, .int .i64 kk] w fun e w' => e = .returned (.bool true) ∧ Below w.heap.size w w' := by
  go_enter Try.func4, Try.ntmps4
  go_wp2_with fail
  refine (bytes2_zero a cap kk w).mono ?_
  rintro e w1 ⟨rfl, rfl⟩
  go_wp2_with fail
  refine (big_zero a cap _).mono ?_
  rintro e w2 ⟨rfl, rfl⟩
  by_cases h1 : kk < 0
  · go_wp2_with fail
    go_ret
    exact ⟨rfl, Below.refl _ _⟩
  by_cases h2 : kk > 0
  · go_wp2_with fail
    go_ret
    exact ⟨rfl, Below.refl _ _⟩
  obtain rfl : kk = 0 := by omega
  go_wp2_with fail
  refine (to_zero a cap _).mono ?_
  rintro e w3 ⟨rfl, hz3, hb3⟩
  go_wp2_with fail
  refine (new_any w2.heap.size 0 0 [] _ (by simp) (fun i hi => by simp at hi) (fun p hp => by cases hp) hz3).mono ?_
  rintro e w4 ⟨mw, rfl, hm4, ha4, hb4⟩
  have HM4 : Hid (MapAt w4 mw 0 (keysOf [])) := hm4
  have hz4 := hb4.size
  clear hm4
  have hbw : Below w2.heap.size w2 (w4.alloc (.cells #[.map mw] 26)) := (hb3.trans (hb4.mono (by omega))).alloc (by omega) _
  have hM0 : Hid (MapAt (w4.alloc (.cells #[.map mw] 26)) mw 0 (keysOf [])) := MapAt.in_below HM4.out ((Below.refl _ w4).alloc (Nat.le_refl _) _)
  have hm0 : (w4.alloc (.cells #[.map mw] 26)).cell? ⟨w4.heap.size, 0, none⟩ = some (.map mw) := by
    rw [cell_of_row _ w4.heap.size 0 #[.map mw] 26 (0, 0) (heap_alloc_new w4 _)]; rfl
  have hz0 : w2.heap.size < (w4.alloc (.cells #[.map mw] 26)).heap.size := by simp; omega
  go_wp2_with fail
  obtain ⟨bw, hbw'⟩ : ∃ bw, bw = w4.heap.size := ⟨_, rfl⟩
  rw [← hbw'] at hm0 ⊢
  obtain ⟨W0, hW0⟩ : ∃ W0, W0 = w4.alloc (.cells #[.map mw] 26) := ⟨_, rfl⟩
  rw [← hW0] at hbw hM0 hm0 hz0 ⊢
  clear hbw' hW0 HM4 hb3 hb4 ha4 hz4 hz3
  refine (new_any w2.heap.size 0 0 [] _ (by simp) (fun i hi => by simp at hi) (fun p hp => by cases hp) hz0).mono ?_
  rintro e w5 ⟨mv, rfl, hm5, ha5, hb5⟩
  have HM5 : Hid (MapAt w5 mv 0 (keysOf [])) := hm5
  have hz5 := hb5.size
  clear hm5
  have hc5 : (w5.alloc (.cells #[.map mv] 26)).cell? ⟨w5.heap.size, 0, none⟩ = some (.map mv) := by
    rw [cell_of_row _ w5.heap.size 0 #[.map mv] 26 (0, 0) (heap_alloc_new w5 _)]; rfl
  have hb5' : Below W0.heap.size W0 (w5.alloc (.cells #[.map mv] 26)) := hb5.alloc (by omega) _
  have HM5' : Hid (MapAt (w5.alloc (.cells #[.map mv] 26)) mv 0 (keysOf [])) := MapAt.in_below HM5.out ((Below.refl _ w5).alloc (Nat.le_refl _) _)
  have HLN : Hid (∀ w mv n, MapAt w mv n (keysOf []) → Calls Try.prog 13 #[.agg #[.map mv]] w fun e w' => e = .returned (.int .i64 0) ∧ Below w.heap.size w w') := fun w mv n h => len_any mv n _ w h
  go_wp2_with fail
  refine (HLN.out _ mv 0 HM5'.out).mono ?_
  rintro e w6 ⟨rfl, hb6⟩
  have hpc : w6.cell? ⟨w5.heap.size, 0, none⟩ = some (.map mv) := keepC hb6 hc5
  have hwc : w6.cell? ⟨bw, 0, none⟩ = some (.map mw) := keepC hb6 (keepC hb5' hm0)
  have HM : Hid (MapAt w6 mv 0 (keysOf [])) := MapAt.in_below HM5'.out hb6
  have HMW : Hid (MapAt w6 mw 0 (keysOf [])) := (MapAt.in_below hM0.out hb5').in_below hb6
  have hbel : Below w2.heap.size w2 w6 := keepB (keepB hbw hb5') hb6
  generalize w5.heap.size = pm at *
  clear HM5 HM5' hc5 ha5 hb5 hb5' hz5 hb6 hm0 hM0 hbw
  go_wp2_with fail
  go_loop [8, 9] (fun g i => g = .int .i64 0 ∧ i = .int .i64 0) (fun _ _ => 0)
  case atStart => exact ⟨rfl, rfl⟩
  case round =>
    obtain ⟨rfl, rfl⟩ := hrel
    go_wp2_with fail
    go_loop [15] (fun i => i = .int .i64 0) (fun _ => 0)
    case atStart => rfl
    case round =>
      obtain rfl := hrel
      go_wp2_with fail
      go_region_held (fun w' => w'.cell? ⟨pm, 0, none⟩ = some (.map mv) ∧ w'.cell? ⟨bw, 0, none⟩ = some (.map mw) ∧ Below w6.heap.size w6 w')
        (first | exact ⟨hpc, hwc, (Below.refl _ _).drew⟩ | exact keep2 (by assumption) hb7)
        (first
          | (go_at_call 13; refine (HLN.out _ mv _ (by exact mapAt2 HM.out (by assumption))).mono ?_; rintro e w7 ⟨rfl, hb7⟩)
          | (go_at_call 13; refine (HLN.out _ mw _ (by exact mapAt2 HMW.out (by assumption))).mono ?_; rintro e w7 ⟨rfl, hb7⟩))
      all_goals
        rename_i hS6
        have hbw6 := hS6.2.2
        clear hS6
        go_wp2_with fail
        go_ret
        exact ⟨by simp, keepB hbel hbw6⟩
end Go.Proofs.Qxb6628583a
