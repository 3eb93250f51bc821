import Derived.Test.Qxb6628003aFmtRows
import Derived.Test.Qxb6628003aFmtFacts
import Derived.Test.Qxb6628003aFmtShelf
import Derived.WalkKit
import Derived.WalkSpells
import Derived.WalkLawsBesides
import Derived.Deep.MidRow
import Derived.Deep.WholeRow
import Derived.Laws.CopyOwn
import Derived.Laws.ResultCell
namespace Go.Proofs.Qxb6628003aFmt
open Go.RowKit Go.Extern.Stop Go.Stop Go.Extern Go.Lib
attribute [local go_sem] Tryf.call15 Tryf.guard Tryf.fmt0 Tryf.fmt0r Tryf.fmt1 Tryf.fmt1r Tryf.op3_100 Tryf.op3_100w Tryf.ptr46 Tryf.elem46 Tryf.isError46

/-- The cells of an array of bytes. -/
def bcells (l : List UInt8) : Array Value := (l.map fun b => Value.int .u8 (b.toNat : Int)).toArray
def zlit : Array Value := #[.int .u8 0, .int .u8 0, .int .u8 0, .int .u8 0, .int .u8 0, .int .u8 0, .int .u8 0, .int .u8 0, .int .u8 0, .int .u8 0, .int .u8 0, .int .u8 0, .int .u8 0, .int .u8 0, .int .u8 0, .int .u8 0, .int .u8 0, .int .u8 0, .int .u8 0, .int .u8 0, .int .u8 0, .int .u8 0, .int .u8 0, .int .u8 0, .int .u8 0, .int .u8 0, .int .u8 0, .int .u8 0, .int .u8 0, .int .u8 0, .int .u8 0, .int .u8 0]

theorem zlit_eq : zlit = bcells (List.replicate 32 0) := by rfl

theorem bcells_at (l : List UInt8) (i : Nat) (h : i < l.length) : (bcells l)[i]? = some (.int .u8 ((l[i]'h).toNat : Int)) := by
  simp [bcells, h]
theorem bcells_size (l : List UInt8) : (bcells l).size = l.length := by simp [bcells]
theorem bcells_one (l : List UInt8) : (bcells l).all (·.oneCell') = true := by
  unfold bcells
  refine all_oneCell_toArray ?_
  intro v hv
  obtain ⟨b, _, rfl⟩ := List.mem_map.1 hv
  rfl

/-- An array of 32 cells of one value each. -/
def Arr32 (z : Array Value) : Prop := z.size = 32 ∧ z.all (·.oneCell') = true
theorem arr32_bcells (l : List UInt8) (hl : l.length = 32) : Arr32 (bcells l) := ⟨by rw [bcells_size, hl], bcells_one l⟩
theorem arr32_zlit : Arr32 zlit := by rw [zlit_eq]; exact arr32_bcells _ (by simp)

theorem size23 : (Tryf.prog.info? 23).map (·.size) = some 32 := by kernel_rfl
theorem size22 : (Tryf.prog.info? 22).map (·.size) = some 32 := by kernel_rfl

set_option maxHeartbeats 400000 in
theorem string_any (l : List UInt8) (w : World) (hl : l.length = 32) :
    Calls Tryf.prog 5 #[.agg (bcells l)] w fun e w' => e = .returned (.string ⟨(Hx.encode l).toArray⟩) ∧ Below w.heap.size w w' := by
  have hc : ∀ i (h : i < l.length), (w.alloc (.cells (bcells l) 23)).cell? ⟨w.heap.size, 0 + i, none⟩ = some (.int .u8 ((l[i]'h).toNat : Int)) := fun i h => by
    rw [cell_of_row _ w.heap.size (0 + i) (bcells l) 23 (0, 0) (heap_alloc_last w _), Nat.zero_add, bcells_at l i h]
  have hS := Tryf.hex_EncodeToString_bytes w.heap.size 0 32 l (w.alloc (.cells (bcells l) 23)) hc (by simp) (by omega)
  rw [hl] at hS
  have HS : Hid _ := hS
  clear hS hc
  go_enter Tryf.func5, Tryf.ntmps5
  go_wp2_with fail
  refine Calls.mono HS.out ?_
  rintro e w' ⟨rfl, hb⟩
  go_wp2_with fail
  go_ret
  exact ⟨rfl, ((Below.refl _ w).alloc (Nat.le_refl _) _).trans (hb.mono (by simp))⟩

def text0 : ByteArray := ⟨#[100, 105, 103, 101, 115, 116, 58, 32, 37, 100, 32, 98, 121, 116, 101, 115, 44, 32, 119, 97, 110, 116, 32, 37, 100, 32, 108, 111, 119, 101, 114, 99, 97, 115, 101, 32, 104, 101, 120, 32, 100, 105, 103, 105, 116, 115]⟩
def text1 : ByteArray := ⟨#[100, 105, 103, 101, 115, 116, 58, 32, 110, 111, 116, 32, 37, 100, 32, 108, 111, 119, 101, 114, 99, 97, 115, 101, 32, 104, 101, 120, 32, 100, 105, 103, 105, 116, 115]⟩

set_option maxHeartbeats 400000 in
theorem errorf0 (F : Interp) (n : Int) (b : Nat) (w : World) (hF : F.answers w.tape) (h0 : w.cell? ⟨b, 0, none⟩ = some (.iface 3 (.int .i64 n))) (h1 : w.cell? ⟨b, 1, none⟩ = some (.iface 3 (.int .i64 64))) :
    Calls Tryf.prog 13 #[.string ⟨#[100, 105, 103, 101, 115, 116, 58, 32, 37, 100, 32, 98, 121, 116, 101, 115, 44, 32, 119, 97, 110, 116, 32, 37, 100, 32, 108, 111, 119, 101, 114, 99, 97, 115, 101, 32, 104, 101, 120, 32, 100, 105, 103, 105, 116, 115]⟩, .slice (some ⟨b, 0, none⟩) 2 2] w fun e w' => ∃ x, e = .returned (.iface 46 x) ∧ Below w.heap.size w w' := by
  have hF' := answers_open hF
  go_enter Tryf.func13, Tryf.ntmps13
  go_wp2
  go_ret
  exact ⟨_, rfl, ((Below.refl _ w).alloc (Nat.le_refl _) _).drew⟩

set_option maxHeartbeats 400000 in
theorem errorf1 (F : Interp) (b : Nat) (w : World) (hF : F.answers w.tape) (h0 : w.cell? ⟨b, 0, none⟩ = some (.iface 3 (.int .i64 64))) :
    Calls Tryf.prog 13 #[.string ⟨#[100, 105, 103, 101, 115, 116, 58, 32, 110, 111, 116, 32, 37, 100, 32, 108, 111, 119, 101, 114, 99, 97, 115, 101, 32, 104, 101, 120, 32, 100, 105, 103, 105, 116, 115]⟩, .slice (some ⟨b, 0, none⟩) 1 1] w fun e w' => ∃ x, e = .returned (.iface 46 x) ∧ Below w.heap.size w w' := by
  have hF' := answers_open hF
  go_enter Tryf.func13, Tryf.ntmps13
  go_wp2
  go_ret
  exact ⟨_, rfl, ((Below.refl _ w).alloc (Nat.le_refl _) _).drew⟩

set_option maxHeartbeats 400000 in
theorem parse_len (F : Interp) (s : ByteArray) (w : World) (hF : F.answers w.tape) (hs : ((s.size : Int) != 64) = true) :
    Calls Tryf.prog 10 #[.string s] w fun e w' => ∃ z x, Arr32 z ∧ e = .returned (.tuple #[.agg z, .iface 46 x]) ∧ Below w.heap.size w w' := by
  obtain ⟨Z, hZ⟩ : ∃ Z, Z = zlit := ⟨_, rfl⟩
  have hZ1 : Arr32 Z := by rw [hZ]; exact arr32_zlit
  unfold zlit at hZ
  have HZ : Hid _ := hZ
  clear hZ
  go_enter Tryf.func10, Tryf.ntmps10
  go_wp2_with fail
  rw [← HZ.out]
  clear HZ
  refine (errorf0 F s.size _ _ (by exact hF) (by go_simp) (by go_simp)).mono ?_
  rintro e w1 ⟨x, rfl, hb⟩
  have hg : w1.heap[w.heap.size]? = some (.cells Z 23 (0, 0)) := by
    rw [hb.block _ (by simp; omega), Below.heap_alloc _ _ _ (by simp; omega), Below.heap_alloc _ _ _ (by simp)]
    exact heap_alloc_last w _
  have hB : Below w.heap.size w w1 := (((Below.refl _ w).alloc (Nat.le_refl _) _).alloc (by simp) _ |>.alloc (by simp; omega) _).trans (hb.mono (by simp; omega))
  clear hb
  go_wp2_with (refine wpList_store_row rfl 23 _ _ rfl w.heap.size Z rfl rfl 23 Z hg (by rw [hZ1.1]; exact size23) rfl hZ1.2 ?_)
  refine bodyPost_ret (v := .tuple #[.agg Z, .iface 46 x]) ?_ rfl ⟨Z, x, hZ1, rfl, below_setRow hB (Nat.le_refl _) Z⟩
  rw [results_cell_tmp Tryf.results10]
  have hg2 := setRow_heap w1 w.heap.size Z Z 23 (0, 0) hg
  have hl := run_loadVar_row (P := Tryf.prog) (w1.setRow w.heap.size Z) w.heap.size 23 23 Z (0, 0) _ hg2 Tryf.underlying23 rfl (by rw [hZ1.1]; exact size23)
  show ((loadVar 23 ⟨w.heap.size, 0, none⟩).run Tryf.prog _).andThen _ = _
  rw [hl]
  rfl

end Go.Proofs.Qxb6628003aFmt
