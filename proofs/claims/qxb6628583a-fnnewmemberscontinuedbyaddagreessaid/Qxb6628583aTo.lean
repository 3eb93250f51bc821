import Derived.Test.Qxb6628583aNew
import Derived.BigRegion
import Derived.Laws.CopyOwn
namespace Go.Proofs.Qxb6628583a
open Go.RowKit Go.Maps

theorem info44 : (Try.prog.info? 44).map (fun i => (i.zero, i.size, i.bytes)) = some (some (.agg #[.string ⟨#[]⟩, .string ⟨#[]⟩, .string ⟨#[]⟩, .string ⟨#[]⟩]), 4, 64) := by kernel_rfl

/-- What holds at the head of round k of zzToSpenders: the new row's first k elements are laid. -/
structure ToRel (w wr : World) (xs : List Sp) (k : Nat) : Prop where
  row : ∃ C, wr.heap[w.heap.size]? = some (.cells C 44 (0, 0)) ∧ C.size = xs.length * 4
  done : RowAt wr w.heap.size 0 (xs.take k)
  below : Below w.heap.size w wr

theorem set_four (wr : World) (g i : Nat) (C : Array Value) (v0 v1 v2 v3 : Value) (hC : wr.heap[g]? = some (.cells C 44 (0, 0))) :
    ((((wr.setCell ⟨g, i, none⟩ v0).setCell ⟨g, i + 1, none⟩ v1).setCell ⟨g, i + 2, none⟩ v2).setCell ⟨g, i + 3, none⟩ v3) = wr.setRow g ((((C.setIfInBounds i v0).setIfInBounds (i + 1) v1).setIfInBounds (i + 2) v2).setIfInBounds (i + 3) v3) := by
  rw [setCell_eq_setRow wr g i C 44 (0, 0) v0 hC]
  have h1 := setRow_heap wr g C (C.setIfInBounds i v0) 44 (0, 0) hC
  rw [setCell_eq_setRow _ g (i + 1) _ 44 (0, 0) v1 h1, setRow_setRow]
  have h2 := setRow_heap wr g C ((C.setIfInBounds i v0).setIfInBounds (i + 1) v1) 44 (0, 0) hC
  rw [setCell_eq_setRow _ g (i + 2) _ 44 (0, 0) v2 h2, setRow_setRow]
  have h3 := setRow_heap wr g C (((C.setIfInBounds i v0).setIfInBounds (i + 1) v1).setIfInBounds (i + 2) v2) 44 (0, 0) hC
  rw [setCell_eq_setRow _ g (i + 3) _ 44 (0, 0) v3 h3, setRow_setRow]

theorem to_next {w wr : World} {xs : List Sp} {k : Nat} (hR : ToRel w wr xs k) (hlt : k < xs.length) :
    ToRel w ((((wr.setCell ⟨w.heap.size, k * 4, none⟩ (.string xs[k].o)).setCell ⟨w.heap.size, k * 4 + 1, none⟩ (.string xs[k].t)).setCell ⟨w.heap.size, k * 4 + 2, none⟩ (.string xs[k].a)).setCell ⟨w.heap.size, k * 4 + 3, none⟩ (.string xs[k].s)).drew xs (k + 1) := by
  obtain ⟨C, hC, hCs⟩ := hR.row
  rw [set_four wr w.heap.size (k * 4) C _ _ _ _ hC]
  have hh := setRow_heap wr w.heap.size C ((((C.setIfInBounds (k * 4) (.string xs[k].o)).setIfInBounds (k * 4 + 1) (.string xs[k].t)).setIfInBounds (k * 4 + 2) (.string xs[k].a)).setIfInBounds (k * 4 + 3) (.string xs[k].s)) 44 (0, 0) hC
  have hcell : ∀ j, (wr.setRow w.heap.size ((((C.setIfInBounds (k * 4) (.string xs[k].o)).setIfInBounds (k * 4 + 1) (.string xs[k].t)).setIfInBounds (k * 4 + 2) (.string xs[k].a)).setIfInBounds (k * 4 + 3) (.string xs[k].s))).drew.cell? ⟨w.heap.size, j, none⟩ = ((((C.setIfInBounds (k * 4) (.string xs[k].o)).setIfInBounds (k * 4 + 1) (.string xs[k].t)).setIfInBounds (k * 4 + 2) (.string xs[k].a)).setIfInBounds (k * 4 + 3) (.string xs[k].s))[j]? := fun j =>
    cell_setRow_same wr w.heap.size j C _ 44 (0, 0) hC
  have hold : ∀ j v, wr.cell? ⟨w.heap.size, j, none⟩ = some v → C[j]? = some v := fun j v h => by
    rw [cell_of_row wr w.heap.size j C 44 (0, 0) hC] at h; exact h
  refine ⟨⟨_, hh, by simpa using hCs⟩, ?_, ?_⟩
  · intro i hi
    have hi' : i < k + 1 := by rw [List.length_take] at hi; omega
    simp only [Nat.zero_add, hcell]
    rw [List.getElem_take]
    by_cases e : i = k
    · subst e
      refine ⟨?_, ?_, ?_, ?_⟩
      · rw [Array.getElem?_setIfInBounds_ne (by omega), Array.getElem?_setIfInBounds_ne (by omega), Array.getElem?_setIfInBounds_ne (by omega), Array.getElem?_setIfInBounds_self_of_lt (by omega)]
      · rw [Array.getElem?_setIfInBounds_ne (by omega), Array.getElem?_setIfInBounds_ne (by omega), Array.getElem?_setIfInBounds_self_of_lt (by simp; omega)]
      · rw [Array.getElem?_setIfInBounds_ne (by omega), Array.getElem?_setIfInBounds_self_of_lt (by simp; omega)]
      · rw [Array.getElem?_setIfInBounds_self_of_lt (by simp; omega)]
    · have hik : i < (xs.take k).length := by rw [List.length_take]; omega
      obtain ⟨h0, h1, h2, h3⟩ := hR.done i hik
      rw [List.getElem_take] at h0 h1 h2 h3
      simp only [Nat.zero_add] at h0 h1 h2 h3
      refine ⟨?_, ?_, ?_, ?_⟩
      · rw [Array.getElem?_setIfInBounds_ne (by omega), Array.getElem?_setIfInBounds_ne (by omega), Array.getElem?_setIfInBounds_ne (by omega), Array.getElem?_setIfInBounds_ne (by omega)]; exact hold _ _ h0
      · rw [Array.getElem?_setIfInBounds_ne (by omega), Array.getElem?_setIfInBounds_ne (by omega), Array.getElem?_setIfInBounds_ne (by omega), Array.getElem?_setIfInBounds_ne (by omega)]; exact hold _ _ h1
      · rw [Array.getElem?_setIfInBounds_ne (by omega), Array.getElem?_setIfInBounds_ne (by omega), Array.getElem?_setIfInBounds_ne (by omega), Array.getElem?_setIfInBounds_ne (by omega)]; exact hold _ _ h2
      · rw [Array.getElem?_setIfInBounds_ne (by omega), Array.getElem?_setIfInBounds_ne (by omega), Array.getElem?_setIfInBounds_ne (by omega), Array.getElem?_setIfInBounds_ne (by omega)]; exact hold _ _ h3
  · exact (below_setRow hR.below (Nat.le_refl _) _).drew

set_option maxHeartbeats 1000000 in
theorem to_any (b off cap : Nat) (xs : List Sp) (w : World) (hxs : xs.length ≤ 4096) (hcells : RowAt w b off xs) (hb : b < w.heap.size) :
    Calls Try.prog 8 #[.slice (some ⟨b, off, none⟩) xs.length cap] w fun e w' => e = .returned (.slice (some ⟨w.heap.size, 0, none⟩) xs.length xs.length) ∧ RowAt w' w.heap.size 0 xs ∧ w.heap.size < w'.heap.size ∧ Below w.heap.size w w' := by
  have HC : Hid (RowAt w b off xs) := hcells
  clear hcells
  obtain ⟨i0, hi, hz0, hz1, hz2⟩ := info_parts info44
  go_enter Try.func8, Try.ntmps8
  go_wp2_with (first
    | (at_make; go_must (refine wpList_make_full _ rfl _ _ 28 rfl w.heap.size 44 i0 (.agg #[.string ⟨#[]⟩, .string ⟨#[]⟩, .string ⟨#[]⟩, .string ⟨#[]⟩]) 4 Try.underlying28 hi hz0 hz1 .i64 .i64 _ _ xs.length rfl rfl rfl rfl (by rw [hz2]; omega) (by unfold maxLen; omega) (Nat.le_refl _) ?_); intro w1 hown1 hgrow1))
  clear hi hz0 hz1 hz2
  have hstart : ToRel w w1 xs 0 := by
    refine ⟨?_, fun i hi => by simp at hi, hgrow1.os, hgrow1.tape, hgrow1.output, hgrow1.size, fun j hj => hgrow1.block j hj (by simp)⟩
    rcases hown1.2 with ⟨h, _⟩ | ⟨g, c, cur, h, _, h2, _, _, h3, _⟩
    · cases h
    · injection h with h1 h4 h5
      injection h1 with h1
      injection h1 with h1
      subst h1; subst h5
      exact ⟨cur, h2, h3⟩
  clear hown1 hgrow1
  go_loopw [4] (fun i wr => ∃ k : Nat, k ≤ xs.length ∧ i = .int .i64 k ∧ ToRel w wr xs k) (fun i _ => xs.length - (intOf i).toNat)
  case atStart => exact ⟨0, Nat.zero_le _, rfl, hstart⟩
  case round =>
    obtain ⟨k, hk, rfl, hR⟩ := hrel
    obtain ⟨C, hC, hCs⟩ := hR.row
    have hgs : w.heap.size < wr.heap.size := (Array.getElem?_eq_some_iff.1 hC).1
    by_cases hlt : k < xs.length
    · have hRA : RowAt wr b off xs := HC.out.kept (hR.below.block b hb)
      obtain ⟨c0, c1, c2, c3⟩ := hRA k hlt
      have d0 : wr.cell? ⟨w.heap.size, k * 4, none⟩ = some (C[k * 4]'(by omega)) := by simp [World.cell?, hC]
      have d1 : wr.cell? ⟨w.heap.size, k * 4 + 1, none⟩ = some (C[k * 4 + 1]'(by omega)) := by simp [World.cell?, hC]
      have d2 : wr.cell? ⟨w.heap.size, k * 4 + 2, none⟩ = some (C[k * 4 + 2]'(by omega)) := by simp [World.cell?, hC]
      have d3 : wr.cell? ⟨w.heap.size, k * 4 + 3, none⟩ = some (C[k * 4 + 3]'(by omega)) := by simp [World.cell?, hC]
      have f0 : ∀ j, wr.frozen? ⟨w.heap.size, j, none⟩ = false := fun j => by simp [World.frozen?, hC]
      have hN := to_next hR hlt
      generalize xs[k] = p at *
      have HN : Hid _ := hN
      clear hRA hN
      generalize C[k * 4] = x0 at *
      generalize C[k * 4 + 1] = x1 at *
      generalize C[k * 4 + 2] = x2 at *
      generalize C[k * 4 + 3] = x3 at *
      have HCC : Hid _ := hC
      clear hC
      go_wp2_with fail
      go_region
      go_wp2_with fail
      go_roundw
      case rel => exact ⟨k + 1, by omega, by go_num, HN.out⟩
      case measure => simp [intOf]; omega
    · have hd := hR.done
      rw [List.take_of_length_le (by omega)] at hd
      have HD : Hid (RowAt wr w.heap.size 0 xs) := hd
      clear hd
      go_wp2_with fail
      go_ret
      exact ⟨rfl, HD.out, hgs, hR.below⟩
end Go.Proofs.Qxb6628583a
