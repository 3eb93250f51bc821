import Derived.Test.Qxb6628003aFmtUnm
import Derived.ChangeKeysEq
namespace Go.Proofs.Qxb6628003aFmt
open Go.RowKit Go.Extern.Stop Go.Stop Go.Extern Go.Lib

theorem info5s : (Tryf.prog.info? 5).isSome = true := by kernel_rfl
theorem info5 : ∃ i, Tryf.prog.info? 5 = some i := Option.isSome_iff_exists.1 info5s
theorem cells5 : Tryf.prog.cellsOf 5 = 1 := by kernel_rfl

theorem part5 (l : List UInt8) (i : Nat) (h : i < l.length) (w : World) : (part 5 (bcells l) (i * 1)).run Tryf.prog w = .ok (.int .u8 ((l[i]'h).toNat : Int)) w := by
  have hb := bcells_at l i h
  simp [part, Tryf.isAgg5, hb]

theorem eqItems_same (l : List UInt8) (d : Nat) (w : World) : ∀ is : List Nat, (∀ i ∈ is, i < l.length) → (Op.eqItems (d + 1) 5 1 (bcells l) (bcells l) is).run Tryf.prog w = .ok true w
  | [], _ => by simp [Op.eqItems]
  | i :: is, h => by
    have hi := h i (by simp)
    have ih := eqItems_same l d w is (fun j hj => h j (by simp [hj]))
    have e := run_equalIn_int (P := Tryf.prog) w d 5 .u8 .u8 ((l[i]'hi).toNat : Int) ((l[i]'hi).toNat : Int) Tryf.underlying5
    simp only [Op.eqItems, Sem.run_bind, part5 l i hi w, Result.andThen_ok, e]
    simpa using ih

theorem equal23 (l : List UInt8) (hl : l.length = 32) (w : World) : (Op.equalIn 10000 23 (.agg (bcells l)) (.agg (bcells l))).run Tryf.prog w = .ok true w := by
  obtain ⟨i, hi⟩ := info5
  rw [run_equalIn_array w 9999 (n := 32) (e := 5) (bcells l) (bcells l) Tryf.underlying23 hi, cells5]
  exact eqItems_same l 9998 w _ (fun i hi => by rw [hl]; exact List.mem_range.1 hi)

theorem setRow_new_at (W : World) (n : Nat) (c c' : Array Value) (t : TypeId) (hn : n = W.heap.size) : (W.alloc (.cells c t)).setRow n c' = W.alloc (.cells c' t) := by
  subst hn; exact World.setRow_alloc_new W c c' t
theorem heap_last_at (W : World) (n : Nat) (o : Obj) (hn : n = W.heap.size) : (W.alloc o).heap[n]? = some o := by
  subst hn; exact heap_alloc_last W o
theorem heap_past (W : World) (n : Nat) (o : Obj) {x : Option Obj} (hn : n < W.heap.size) (h : W.heap[n]? = x) : (W.alloc o).heap[n]? = x := by
  rw [Below.heap_alloc _ _ _ hn]; exact h

theorem strOfNums_numsOf (s : ByteArray) : strOfNums (Hx.numsOf s) = s := by
  have h : (strOfNums (Hx.numsOf s)).data.toList = s.data.toList := by
    rw [strOfNums_data]
    exact Hx.bytesOf_numsOf s
  have h2 : (strOfNums (Hx.numsOf s)).data = s.data := Array.toList_inj.1 h
  cases s
  exact congrArg ByteArray.mk h2

/-- '[]byte(s)', turned back into a string. -/
theorem convert_back (w1 : World) (S : ByteArray) (cap : Nat) (hS : S.size = 64) :
    (convert 28 9 (.slice (some ⟨w1.heap.size, 0, none⟩) 64 cap)).run Tryf.prog (w1.alloc (.cells (bytesRow S cap) 5 ((bytesRow S cap).size, (bytesRow S cap).size + 1))).drew
      = .ok (.string S) (w1.alloc (.cells (bytesRow S cap) 5 ((bytesRow S cap).size, (bytesRow S cap).size + 1))).drew := by
  have h := run_convert_bytes_arg (P := Tryf.prog) (w1.alloc (.cells (bytesRow S cap) 5 ((bytesRow S cap).size, (bytesRow S cap).size + 1))).drew 28 5 Tryf.underlying28 Tryf.underlying5 w1.heap.size 0 64 cap (Hx.numsOf S) (by rw [Hx.numsOf_length, hS])
    (fun i hi => by
      show (w1.alloc _).cell? _ = _
      rw [Nat.zero_add, World.cell?_alloc_mark, bytesRow_at S _ i (by show i < S.size; rw [hS]; exact hi), Hx.numsOf_at S i (by show i < S.size; rw [hS]; exact hi)]) 9 Tryf.underlying9
  rw [h, strOfNums_numsOf]

set_option maxHeartbeats 400000 in
theorem reads_walk (la lb : List UInt8) (ev : Value) (w : World) (hla : la.length = 32) (hlb : lb.length = 32) (hE : w.cell? ⟨0, 0, none⟩ = some ev) :
    Calls Tryf.prog 3 #[.agg (bcells la), .agg (bcells lb)] w fun e w' => e = .returned (.bool true) ∧ Below w.heap.size w w' := by
  have A := arr32_bcells la hla
  have B := arr32_bcells lb hlb
  have heq := equal23 la hla
  have hgl : 0 < w.heap.size := World.block_lt_of_cell? w ⟨0, 0, none⟩ hE
  go_enter Tryf.func3, Tryf.ntmps3
  go_wp2_with (first
    | (refine wpList_load_row rfl 22 _ rfl (w.heap.size + 1) rfl 22 (bcells lb) (0, 0) _ ?_ Tryf.underlying22 rfl (by rw [B.1]; exact size22) ?_; (exact heap_last_at _ _ _ (by simp)))
    | (refine wpList_store_row rfl 23 _ _ rfl (w.heap.size + 1 + 1) (bcells lb) rfl rfl 23 _ (heap_last_at _ _ _ (by simp)) (by rw [B.1]; exact size23) (by rw [B.1]; rfl) B.2 ?_; rw [setRow_new_at _ _ _ _ _ (by simp)])
    | (refine wpList_load_row rfl 22 _ rfl w.heap.size rfl 22 (bcells la) (0, 0) _ ?_ Tryf.underlying22 rfl (by rw [A.1]; exact size22) ?_; (exact heap_past _ _ _ (by simp; omega) (heap_past _ _ _ (by simp) (heap_alloc_last w _)))))
  refine (string_any la _ hla).mono ?_
  rintro e w1 ⟨rfl, hb1⟩
  have hz1 := hb1.size
  have g0 : w1.heap[w.heap.size]? = some (.cells (bcells la) 22 (0, 0)) := by
    rw [hb1.block _ (by simp; omega)]
    exact heap_past _ _ _ (by simp; omega) (heap_past _ _ _ (by simp) (heap_alloc_last w _))
  have g2 : w1.heap[w.heap.size + 1 + 1]? = some (.cells (bcells lb) 23 (0, 0)) := by
    rw [hb1.block _ (by simp)]
    exact heap_last_at _ _ _ (by simp)
  have hB : Below w.heap.size w w1 := ((((Below.refl _ w).alloc (Nat.le_refl _) _).alloc (by simp) _).alloc (by simp; omega) _).trans (hb1.mono (by simp; omega))
  have hE1 : w1.cell? ⟨0, 0, none⟩ = some ev := by rw [hB.cell hgl]; exact hE
  simp at hz1
  clear hb1 hE
  have hS : (⟨(Hx.encode la).toArray⟩ : ByteArray).size = 64 := by simp [ByteArray.size, Hx.encode_length, hla]
  have hSd : (⟨(Hx.encode la).toArray⟩ : ByteArray).data.toList = Hx.encode la := rfl
  generalize (⟨(Hx.encode la).toArray⟩ : ByteArray) = S at *
  have hcv := fun w => run_bytes_of_string (P := Tryf.prog) w 9 28 5 S Tryf.underlying9 Tryf.underlying28 Tryf.underlying5
  have HSd : Hid _ := hSd
  clear hSd
  go_wp2_with fail
  clear hcv
  generalize grownCap w1 64 0 5 = cap
  refine (unm_yes _ S ev _ (w.heap.size + 1 + 1) (bcells lb) ?_ la hla HSd.out (convert_back w1 S cap hS) ?_ B).mono ?_
  · show (w1.alloc _).cell? _ = _
    rw [World.cell?_alloc_lt _ _ _ (World.block_lt_of_cell? w1 _ hE1)]; exact hE1
  · exact heap_past _ _ _ (by omega) g2
  rintro e w3 ⟨rfl, w2, hb2, rfl⟩
  have k0 : w2.heap[w.heap.size]? = some (.cells (bcells la) 22 (0, 0)) := by
    rw [hb2.block _ (by simp; omega)]
    exact heap_past _ _ _ (by omega) g0
  have k2 : w2.heap[w.heap.size + 1 + 1]? = some (.cells (bcells lb) 23 (0, 0)) := by
    rw [hb2.block _ (by simp; omega)]
    exact heap_past _ _ _ (by omega) g2
  have hB2 : Below w.heap.size w w2 := ((hB.alloc (by omega) _).drew).trans (hb2.mono (by simp; omega))
  have m0 : (w2.setRow (w.heap.size + 1 + 1) (bcells la)).heap[w.heap.size]? = some (.cells (bcells la) 22 (0, 0)) := by
    rw [setRow_other _ _ _ _ (by omega)]; exact k0
  have m2 := setRow_heap w2 (w.heap.size + 1 + 1) (bcells lb) (bcells la) 23 (0, 0) k2
  have hB3 : Below w.heap.size w (w2.setRow (w.heap.size + 1 + 1) (bcells la)) := below_setRow hB2 (by omega) _
  generalize w2.setRow (w.heap.size + 1 + 1) (bcells la) = w4 at *
  clear hb2 k0 k2 hB2 g0 g2 hE1 hz1
  go_wp2_with (first
    | (refine wpList_load_row rfl 23 _ rfl (w.heap.size + 1 + 1) rfl 23 (bcells la) (0, 0) _ m2 Tryf.underlying23 rfl (by rw [A.1]; exact size23) ?_)
    | (refine wpList_load_row rfl 22 _ rfl w.heap.size rfl 22 (bcells la) (0, 0) _ m0 Tryf.underlying22 rfl (by rw [A.1]; exact size22) ?_))
  go_ret
  exact ⟨rfl, hB3⟩

end Go.Proofs.Qxb6628003aFmt
