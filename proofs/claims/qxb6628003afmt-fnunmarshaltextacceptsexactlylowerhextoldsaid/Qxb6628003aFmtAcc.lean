import Derived.Test.Qxb6628003aFmtLow
import Derived.Deep.RegionHeld
namespace Go.Proofs.Qxb6628003aFmt
open Go.RowKit Go.Extern.Stop Go.Stop Go.Extern Go.Lib

set_option maxHeartbeats 400000 in
theorem bytes_yes (a : Option Addr) (len cap : Nat) (l : List UInt8) (w : World) (h : ¬ 1048576 < (len : Int)) :
    Calls Tryf.prog 7 #[.slice a len cap, .agg (bcells l)] w fun e w' => e = .returned (.bool true) ∧ Below w.heap.size w w' := by
  go_enter Tryf.func7, Tryf.ntmps7
  go_wp2
  go_ret
  exact ⟨rfl, (Below.refl _ w).alloc (Nat.le_refl _) _⟩

set_option maxHeartbeats 400000 in
theorem bytes_no (a : Option Addr) (len cap : Nat) (l : List UInt8) (w : World) (h : 1048576 < (len : Int)) :
    Calls Tryf.prog 7 #[.slice a len cap, .agg (bcells l)] w fun e w' => e = .returned (.bool false) ∧ Below w.heap.size w w' := by
  go_enter Tryf.func7, Tryf.ntmps7
  go_wp2
  go_ret
  exact ⟨rfl, (Below.refl _ w).alloc (Nat.le_refl _) _⟩

set_option maxHeartbeats 400000 in
theorem acc_big (a : Option Addr) (len cap : Nat) (lb : List UInt8) (w : World) (hlb : lb.length = 32) (h : 1048576 < (len : Int)) :
    Calls Tryf.prog 4 #[.slice a len cap, .agg (bcells lb)] w fun e w' => e = .returned (.bool true) ∧ Below w.heap.size w w' := by
  have B := arr32_bcells lb hlb
  go_enter Tryf.func4, Tryf.ntmps4
  go_wp2_with (first
    | (refine wpList_load_row rfl 22 _ rfl w.heap.size rfl 22 (bcells lb) (0, 0) _ (heap_alloc_last w _) Tryf.underlying22 rfl (by rw [B.1]; exact size22) ?_))
  refine (bytes_no a len cap lb _ h).mono ?_
  rintro e w1 ⟨rfl, hb1⟩
  go_wp2_with fail
  go_ret
  exact ⟨rfl, ((Below.refl _ w).alloc (Nat.le_refl _) _).trans (hb1.mono (by simp))⟩

set_option maxHeartbeats 800000 in
theorem acc_no (F : Interp) (a : Option Addr) (len cap : Nat) (l lb : List UInt8) (S : ByteArray) (ev : Value) (w : World) (hF : F.answers w.tape) (hE : w.cell? ⟨0, 0, none⟩ = some ev) (hlb : lb.length = 32) (h : ¬ 1048576 < (len : Int))
    (hcv : ∀ w', Below w.heap.size w w' → (convert 28 9 (.slice a len cap)).run Tryf.prog w' = .ok (.string S) w') (hS : S.data.toList = l)
    (hlow : ∀ w', Below w.heap.size w w' → Calls Tryf.prog 8 #[.slice a len cap] w' fun e w'' => e = .returned (.bool (isLow l)) ∧ w'' = w') (hno : isLow l = false) :
    Calls Tryf.prog 4 #[.slice a len cap, .agg (bcells lb)] w fun e w' => e = .returned (.bool true) ∧ Below w.heap.size w w' := by
  have B := arr32_bcells lb hlb
  have heq := equal23 lb hlb
  have hgl : 0 < w.heap.size := World.block_lt_of_cell? w ⟨0, 0, none⟩ hE
  have HCV : Hid _ := hcv
  rw [hno] at hlow
  have HL : Hid _ := hlow
  have HS : Hid (isLow S.data.toList = false) := by rw [hS]; exact hno
  clear hcv hlow hS hno
  go_enter Tryf.func4, Tryf.ntmps4
  go_wp2_with (first
    | (refine wpList_load_row rfl 22 _ rfl w.heap.size rfl 22 (bcells lb) (0, 0) _ (heap_alloc_last w _) Tryf.underlying22 rfl (by rw [B.1]; exact size22) ?_))
  refine (bytes_yes a len cap lb _ (by omega)).mono ?_
  rintro e w1 ⟨rfl, hb1⟩
  have g0 : w1.heap[w.heap.size]? = some (.cells (bcells lb) 22 (0, 0)) := by
    rw [hb1.block _ (by simp)]; exact heap_alloc_last w _
  have hB1 : Below w.heap.size w w1 := ((Below.refl _ w).alloc (Nat.le_refl _) _).trans (hb1.mono (by simp))
  have hz1 : w.heap.size < w1.heap.size := by have := hb1.size; simp at this; omega
  clear hb1
  go_wp2_with (first
    | (refine wpList_load_row rfl 22 _ rfl w.heap.size rfl 22 (bcells lb) (0, 0) _ g0 Tryf.underlying22 rfl (by rw [B.1]; exact size22) ?_)
    | (refine wpList_store_row rfl 23 _ _ rfl w1.heap.size (bcells lb) rfl rfl 23 _ (heap_alloc_last w1 _) (by rw [B.1]; exact size23) (by rw [B.1]; rfl) B.2 ?_; rw [World.setRow_alloc_new]))
  have hB2 : Below w.heap.size w (w1.alloc (.cells (bcells lb) 23)) := hB1.alloc (by omega) _
  refine (unm_no F _ S ev _ w1.heap.size (by rw [hB2.tape]; exact hF) (by rw [hB2.cell hgl]; exact hE) HS.out (HCV.out _ hB2)).mono ?_
  rintro e w3 ⟨⟨x, rfl⟩, hb3⟩
  have hB3 : Below w.heap.size w w3 := hB2.trans (hb3.mono (by simp; omega))
  have k0 : w3.heap[w.heap.size]? = some (.cells (bcells lb) 22 (0, 0)) := by
    rw [hb3.block _ (by simp; omega)]; exact heap_past _ _ _ hz1 g0
  have k1 : w3.heap[w1.heap.size]? = some (.cells (bcells lb) 23 (0, 0)) := by
    rw [hb3.block _ (by simp)]; exact heap_alloc_last w1 _
  clear hb3 hB2 g0
  go_wp2_with fail
  refine Calls.mono (HL.out _ hB3) ?_
  rintro e w4 ⟨rfl, rfl⟩
  go_wp2_with (first
    | (refine wpList_load_row_g rfl 23 _ rfl w1.heap.size rfl 23 (bcells lb) (0, 0) _ k1 Tryf.underlying23 rfl (by rw [B.1]; exact size23) ?_)
    | (refine wpList_load_row_g rfl 22 _ rfl w.heap.size rfl 22 (bcells lb) (0, 0) _ k0 Tryf.underlying22 rfl (by rw [B.1]; exact size22) ?_))
  go_ret
  exact ⟨rfl, hB3⟩

theorem keepS {w W W' : World} {b : Nat} {cs : List Value} (h : W.rangeAt b 0 cs ∧ Below w.heap.size w W ∧ b < W.heap.size) (hb : Below W.heap.size W W') : W'.rangeAt b 0 cs ∧ Below w.heap.size w W' ∧ b < W'.heap.size :=
  ⟨fun j v hv => by rw [hb.cell h.2.2]; exact h.1 j v hv, h.2.1.trans (hb.mono h.2.1.size), Nat.lt_of_lt_of_le h.2.2 hb.size⟩

set_option maxHeartbeats 800000 in
theorem acc_yes (a : Option Addr) (len cap : Nat) (l lb d : List UInt8) (S : ByteArray) (ev : Value) (w : World) (hE : w.cell? ⟨0, 0, none⟩ = some ev) (hlb : lb.length = 32) (h : ¬ 1048576 < (len : Int))
    (hcv : ∀ w', Below w.heap.size w w' → (convert 28 9 (.slice a len cap)).run Tryf.prog w' = .ok (.string S) w') (hS : S.data.toList = l)
    (hlow : ∀ w', Below w.heap.size w w' → Calls Tryf.prog 8 #[.slice a len cap] w' fun e w'' => e = .returned (.bool (isLow l)) ∧ w'' = w') (hyes : isLow l = true) (hd : d.length = 32) (hdl : Hx.encode d = l) :
    Calls Tryf.prog 4 #[.slice a len cap, .agg (bcells lb)] w fun e w' => e = .returned (.bool true) ∧ Below w.heap.size w w' := by
  have B := arr32_bcells lb hlb
  have D := arr32_bcells d hd
  have hgl : 0 < w.heap.size := World.block_lt_of_cell? w ⟨0, 0, none⟩ hE
  have HCV : Hid _ := hcv
  rw [hyes] at hlow
  have HL : Hid _ := hlow
  have HS : Hid (S.data.toList = Hx.encode d) := by show _ = _; rw [hS, hdl]
  clear hcv hlow hS hyes hdl
  go_enter Tryf.func4, Tryf.ntmps4
  go_wp2_with (first
    | (refine wpList_load_row rfl 22 _ rfl w.heap.size rfl 22 (bcells lb) (0, 0) _ (heap_alloc_last w _) Tryf.underlying22 rfl (by rw [B.1]; exact size22) ?_))
  refine (bytes_yes a len cap lb _ (by omega)).mono ?_
  rintro e w1 ⟨rfl, hb1⟩
  have g0 : w1.heap[w.heap.size]? = some (.cells (bcells lb) 22 (0, 0)) := by
    rw [hb1.block _ (by simp)]; exact heap_alloc_last w _
  have hB1 : Below w.heap.size w w1 := ((Below.refl _ w).alloc (Nat.le_refl _) _).trans (hb1.mono (by simp))
  have hz1 : w.heap.size < w1.heap.size := by have := hb1.size; simp at this; omega
  clear hb1
  go_wp2_with (first
    | (refine wpList_load_row rfl 22 _ rfl w.heap.size rfl 22 (bcells lb) (0, 0) _ g0 Tryf.underlying22 rfl (by rw [B.1]; exact size22) ?_)
    | (refine wpList_store_row rfl 23 _ _ rfl w1.heap.size (bcells lb) rfl rfl 23 _ (heap_alloc_last w1 _) (by rw [B.1]; exact size23) (by rw [B.1]; rfl) B.2 ?_; rw [World.setRow_alloc_new]))
  have hB2 : Below w.heap.size w (w1.alloc (.cells (bcells lb) 23)) := hB1.alloc (by omega) _
  refine (unm_yes _ S ev _ w1.heap.size (bcells lb) (by rw [hB2.cell hgl]; exact hE) d hd HS.out (HCV.out _ hB2) (heap_alloc_last w1 _) B).mono ?_
  rintro e w3 ⟨rfl, w2, hb2, rfl⟩
  have hB3 : Below w.heap.size w (w2.setRow w1.heap.size (bcells d)) := below_setRow (hB2.trans (hb2.mono (by simp; omega))) (by omega) _
  have k1 : (w2.setRow w1.heap.size (bcells d)).heap[w1.heap.size]? = some (.cells (bcells d) 23 (0, 0)) :=
    setRow_heap w2 w1.heap.size (bcells lb) (bcells d) 23 (0, 0) (by rw [hb2.block _ (by simp)]; exact heap_alloc_last w1 _)
  generalize w2.setRow w1.heap.size (bcells d) = w4 at *
  clear hb2 hB2 g0
  go_wp2_with fail
  refine Calls.mono (HL.out _ hB3) ?_
  rintro e w5 ⟨rfl, rfl⟩
  clear HL
  go_wp2_with fail
  have hr4 : w5.rangeAt w1.heap.size 0 (d.map fun b => Value.int .u8 (b.toNat : Int)) := fun j v hv => by
    rw [Nat.zero_add, cell_of_row w5 w1.heap.size j (bcells d) 23 (0, 0) k1]
    simpa [bcells] using hv
  have hu23 := Tryf.underlying23
  have hi23 : (Tryf.prog.info? 23).map (·.size) = some (d.map fun b => Value.int .u8 (b.toNat : Int)).length := by rw [List.length_map, hd]; exact size23
  have hz4 : w1.heap.size < w5.heap.size := by
    rcases Nat.lt_or_ge w1.heap.size w5.heap.size with h | h
    · exact h
    · rw [Array.getElem?_eq_none h] at k1; cases k1
  have hEq : ((⟨(Hx.encode d).toArray⟩ : ByteArray).toList == S.toList) = true := by
    rw [ByteArray.toList_eq, ByteArray.toList_eq, HS.out]; simp
  have hcv := HCV.out
  clear HCV HS hE
  have hstr := fun w => string_any d w hd
  have HSTR : Hid _ := hstr
  clear hstr
  generalize (⟨(Hx.encode d).toArray⟩ : ByteArray) = E at *
  go_region_held (fun w' => w'.rangeAt w1.heap.size 0 (d.map fun b => Value.int .u8 (b.toNat : Int)) ∧ Below w.heap.size w w' ∧ w1.heap.size < w'.heap.size)
    (first | exact ⟨(World.rangeAt_drew _ _ _ _).2 hr4, hB3.drew, hz4⟩ | (refine keepS ?_ hb6; assumption))
    (first | (go_at_call 5; refine Calls.mono (HSTR.out _) ?_; rintro e w6 ⟨rfl, hb6⟩))
  rename_i hS6
  go_wp2
  go_ret
  exact ⟨rfl, hS6.2.1⟩
end Go.Proofs.Qxb6628003aFmt
