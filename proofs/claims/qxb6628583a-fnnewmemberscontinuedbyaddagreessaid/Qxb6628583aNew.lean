import Derived.Test.Qxb6628583aAdd3
namespace Go.Proofs.Qxb6628583a
open Go.RowKit Go.Maps

/-- A spender. -/
structure Sp where
  o : ByteArray
  t : ByteArray
  a : ByteArray
  s : ByteArray

/-- Every name is a string that Go can hold. -/
def Sp.ok (p : Sp) : Prop := p.o.size ≤ maxLen ∧ p.t.size ≤ maxLen ∧ p.a.size ≤ maxLen ∧ p.s.size ≤ maxLen

/-- The keys that the spenders' scopes count under, the last first. -/
def keysOf (xs : List Sp) : List Lit := xs.foldl (fun ks p => keysTo p.o p.t p.a 3 ++ ks) []
theorem keysOf_snoc (xs : List Sp) (p : Sp) : keysOf (xs ++ [p]) = keysTo p.o p.t p.a 3 ++ keysOf xs := by simp [keysOf, List.foldl_append]
theorem keysOf_take (xs : List Sp) (k : Nat) (h : k < xs.length) : keysOf (xs.take (k + 1)) = keysTo xs[k].o xs[k].t xs[k].a 3 ++ keysOf (xs.take k) := by
  rw [List.take_succ_eq_append_getElem h, keysOf_snoc]
theorem keysOf_fold_len : ∀ (xs : List Sp) (ks : List Lit), (xs.foldl (fun ks p => keysTo p.o p.t p.a 3 ++ ks) ks).length = ks.length + 3 * xs.length
  | [], ks => by simp
  | p :: r, ks => by
    rw [List.foldl_cons, keysOf_fold_len r]
    simp [keysTo]
    omega
theorem keysOf_len (xs : List Sp) : (keysOf xs).length = 3 * xs.length := by
  have := keysOf_fold_len xs []
  simpa only [keysOf, List.length_nil, Nat.zero_add] using this

/-- The cells of the spenders in a row. -/
def RowAt (w : World) (b off : Nat) (xs : List Sp) : Prop :=
  ∀ i (h : i < xs.length), w.cell? ⟨b, off + i * 4, none⟩ = some (.string (xs[i]'h).o) ∧ w.cell? ⟨b, off + i * 4 + 1, none⟩ = some (.string (xs[i]'h).t) ∧ w.cell? ⟨b, off + i * 4 + 2, none⟩ = some (.string (xs[i]'h).a) ∧ w.cell? ⟨b, off + i * 4 + 3, none⟩ = some (.string (xs[i]'h).s)

theorem RowAt.kept {w w' : World} {b off : Nat} {xs : List Sp} (h : RowAt w b off xs) (hb : w'.heap[b]? = w.heap[b]?) : RowAt w' b off xs := fun i hi => by
  obtain ⟨h0, h1, h2, h3⟩ := h i hi
  exact ⟨(World.cell?_of_block hb).trans h0, (World.cell?_of_block (a := ⟨b, off + i * 4 + 1, none⟩) hb).trans h1, (World.cell?_of_block (a := ⟨b, off + i * 4 + 2, none⟩) hb).trans h2, (World.cell?_of_block (a := ⟨b, off + i * 4 + 3, none⟩) hb).trans h3⟩

/-- add, whatever the map was. -/
theorem add_any (pm : Nat) (mv : Option Nat) (n : Nat) (ks : List Lit) (o t a s : ByteArray) (w : World) (hpm : w.heap[pm]? = some (.cells #[.map mv] 26 (0, 0))) (hm : MapAt w mv n ks)
    (hn : n ≤ 1000000) (hkl : ks.length ≤ 1000000) (ho : o.size ≤ maxLen) (ht : t.size ≤ maxLen) (ha : a.size ≤ maxLen) :
    Calls Try.prog 16 #[.pointer (some ⟨pm, 0, none⟩), .agg #[.string o, .string t, .string a, .string s]] w fun e w' => ∃ v B, e = .returned v ∧ (mv = some B ∨ (mv = none ∧ w.heap.size ≤ B)) ∧ AddPost w w' pm B n ks o t a v := by
  obtain ⟨hK, hm⟩ := hm
  rcases hm with ⟨rfl, rfl⟩ | ⟨B, rfl, hown⟩
  · refine (add_nil pm (w.heap.size + 1) 0 [] o t a s w hpm rfl rfl rfl ho ht ha).mono ?_
    rintro e w' ⟨v, rfl, hp⟩
    exact ⟨v, _, rfl, Or.inr ⟨rfl, by omega⟩, hp.ptr, hp.own.mono (by omega), hp.row, hp.kept⟩
  · refine (add_some pm B n ks o t a s w hpm hown hK hn hkl ho ht ha).mono ?_
    rintro e w' ⟨v, rfl, hp⟩
    exact ⟨v, B, rfl, Or.inl rfl, hp⟩

/-- What holds at the head of round k of NewMembers. -/
structure NewRel (w wr : World) (xs : List Sp) (k : Nat) (mv : Option Nat) : Prop where
  res : wr.heap[w.heap.size]? = some (.cells #[.map none] 26 (0, 0))
  ptr : wr.heap[w.heap.size + 1]? = some (.cells #[.map mv] 26 (0, 0))
  map : MapAt wr mv (3 * k) (keysOf (xs.take k))
  above : ∀ B, mv = some B → w.heap.size + 1 < B
  below : Below w.heap.size w wr

set_option maxHeartbeats 1000000 in
theorem new_any (b off cap : Nat) (xs : List Sp) (w : World) (hxs : xs.length ≤ 4096) (hcells : RowAt w b off xs) (hok : ∀ p ∈ xs, p.ok) (hb : b < w.heap.size) :
    Calls Try.prog 7 #[.slice (some ⟨b, off, none⟩) xs.length cap] w fun e w' => ∃ mv, e = .returned (.agg #[.map mv]) ∧ MapAt w' mv (3 * xs.length) (keysOf xs) ∧ (∀ B, mv = some B → w.heap.size ≤ B) ∧ Below w.heap.size w w' := by
  have HC : Hid (RowAt w b off xs) := hcells
  have HO : Hid (∀ p ∈ xs, p.ok) := hok
  clear hcells hok
  go_enter Try.func7, Try.ntmps7
  go_wp2_with fail
  go_loopw [8] (fun i wr => ∃ k : Nat, k ≤ xs.length ∧ i = .int .i64 k ∧ ∃ mv, NewRel w wr xs k mv) (fun i _ => xs.length - (intOf i).toNat)
  case atStart =>
    refine ⟨0, Nat.zero_le _, rfl, none, ?_, ?_, ⟨(fun _ h => by cases h), Or.inl ⟨rfl, rfl⟩⟩, (fun B h => by cases h), ((Below.refl _ w).alloc (Nat.le_refl _) _).alloc (by simp) _⟩
    · rw [Below.heap_alloc _ _ _ (by simp)]; exact heap_alloc_new w _
    · have h := heap_alloc_new (w.alloc (.cells #[.map none] 26)) (.cells #[.map none] 26)
      rw [show (w.alloc (.cells #[.map none] 26)).heap.size = w.heap.size + 1 from by simp] at h
      exact h
  case round =>
    obtain ⟨k, hk, rfl, mv, hR⟩ := hrel
    have hbs := hR.below.size
    have hps : w.heap.size + 1 < wr.heap.size := (Array.getElem?_eq_some_iff.1 hR.ptr).1
    by_cases hlt : k < xs.length
    · have hRA : RowAt wr b off xs := HC.out.kept (hR.below.block b hb)
      obtain ⟨c0, c1, c2, c3⟩ := hRA k hlt
      have hok := HO.out xs[k] (List.getElem_mem hlt)
      have htk := keysOf_take xs k hlt
      have hlen := keysOf_len (xs.take k)
      rw [List.length_take] at hlen
      have HT : Hid _ := htk
      have HOK : Hid _ := hok
      have HLN : Hid _ := hlen
      clear hok htk hlen
      generalize xs[k] = p at *
      clear hRA
      go_wp2_with fail
      refine (add_any (w.heap.size + 1) mv (3 * k) (keysOf (xs.take k)) p.o p.t p.a p.s _ ?_ ?_ (by omega) (by rw [HLN.out]; omega) HOK.out.1 HOK.out.2.1 HOK.out.2.2.1).mono ?_
      · rw [Below.heap_alloc _ _ _ hps]; exact hR.ptr
      · exact hR.map.in_below ((Below.refl _ wr).alloc (Nat.le_refl _) _)
      rintro e w2 ⟨v, B, rfl, hB, hP⟩
      have hz2 := hP.kept.size
      simp at hz2
      have hBp : w.heap.size + 1 < B := by
        rcases hB with h | ⟨_, h⟩
        · exact hR.above B h
        · simp at h; omega
      have hR2 : NewRel w w2 xs (k + 1) (some B) := by
        refine ⟨?_, hP.ptr, ⟨?_, Or.inr ⟨B, rfl, ?_⟩⟩, ?_, ?_⟩
        · rw [hP.kept.block w.heap.size (by simp; omega) (by omega), Below.heap_alloc _ _ _ (by omega)]; exact hR.res
        · rw [HT.out]; exact keysTo_all _ _ _ _ hR.map.1 3
        · rw [HT.out]; exact hP.own
        · intro B' e; cases e; exact hBp
        · refine hR.below.trans ⟨hP.kept.os, hP.kept.tape, hP.kept.output, by omega, fun j hj => ?_⟩
          rw [hP.kept.block j (by simp; omega) (by omega), Below.heap_alloc _ _ _ (by omega)]
      clear hP hB hz2
      go_wp2_with fail
      go_roundw
      case rel => exact ⟨k + 1, by omega, by go_num, some B, hR2⟩
      case measure => simp [intOf]; omega
    · have hc1 : wr.cell? ⟨w.heap.size + 1, 0, none⟩ = some (.map mv) := by simp [World.cell?, hR.ptr]
      have hc0 : wr.cell? ⟨w.heap.size, 0, none⟩ = some (.map none) := by simp [World.cell?, hR.res]
      have hf0 : wr.frozen? ⟨w.heap.size, 0, none⟩ = false := by simp [World.frozen?, hR.res]
      have hm := hR.map
      rw [show k = xs.length from by omega, List.take_of_length_le (Nat.le_refl _)] at hm
      have HM : Hid _ := hm
      clear hm
      go_wp2_with fail
      have hcr : (wr.setCell ⟨w.heap.size, 0, none⟩ (.map mv)).cell? ⟨w.heap.size, 0, none⟩ = some (.map mv) := World.cell?_setCell_same _ _ _ hc0
      refine bodyPost_ret (v := .agg #[.map mv]) (by simp [results, Try.results7, go_sem, hcr]) rfl ⟨mv, rfl, ?_, ?_, hR.below.setCell (Nat.le_refl _) _⟩
      · exact MapAt.below HM.out fun B hB => Below.heap_setCell _ _ _ _ (fun e => by have := hR.above B hB; simp at e; omega)
      · intro B hB
        have := hR.above B hB
        omega
end Go.Proofs.Qxb6628583a
