import Derived.Test.Qxb6628583aAdd2
namespace Go.Proofs.Qxb6628583a
open Go.RowKit Go.Maps
open Go.ChangeMaps (setBlock heap_setBlock_same heap_setBlock_other)

set_option maxHeartbeats 2000000 in
theorem add_nil (pm B n : Nat) (ks : List Lit) (o t a s : ByteArray) (w : World) (hpm : w.heap[pm]? = some (.cells #[.map none] 26 (0, 0))) (HB : Hid (B = w.heap.size + 1)) (HN0 : Hid (n = 0)) (HK0 : Hid (ks = []))
    (ho : o.size ≤ maxLen) (ht : t.size ≤ maxLen) (ha : a.size ≤ maxLen) :
    Calls Try.prog 16 #[.pointer (some ⟨pm, 0, none⟩), .agg #[.string o, .string t, .string a, .string s]] w fun e w' => ∃ v, e = .returned v ∧ AddPost w w' pm B n ks o t a v := by
  have hc : w.cell? ⟨pm, 0, none⟩ = some (.map none) := by simp [World.cell?, hpm]
  have hf : w.frozen? ⟨pm, 0, none⟩ = false := by simp [World.frozen?, hpm]
  have hlt : pm < w.heap.size := World.block_lt_of_cell? w _ hc
  have hne : pm ≠ B := by have := HB.out; omega
  have hq := fun (w : World) (r : Option Nat) => run_eql_map_nil (P := Try.prog) w 24 36 3 r Try.underlying24
  have hmm := @run_makeMap Try.prog
  have hK : AllKeys ks := by rw [HK0.out]; intro _ h; cases h
  have hkl : ks.length ≤ 1000000 := by rw [HK0.out]; simp
  have hn : n ≤ 1000000 := by have := HN0.out; omega
  go_enter Try.func16, Try.ntmps16
  go_wp2_with fail
  rw [← HB.out]
  refine (scopes_row o t a _).mono ?_
  rintro e W1 ⟨q, rfl, hq1, hq0, hsc, hb1⟩
  simp at hq0
  have hB0 := HB.out
  have hpm1 : W1.heap[pm]? = some (.cells #[.map (some B)] 26 (0, 0)) := by
    rw [hb1.block pm (by simp; omega), Below.heap_alloc _ _ _ (by simp; omega), Below.heap_alloc _ _ _ (by simp; omega)]
    simp [World.setCell, Array.getElem?_modify, hpm]
  have hown1 : W1.ownsMap Try.prog 36 (plainElem Try.prog 3) B n (Dr ks) := by
    rw [HN0.out, HK0.out]
    have h0 := World.ownsMap_made ((w.setCell ⟨pm, 0, none⟩ (.map (some B))).alloc (.cells #[.string o, .string t, .string a, .string ⟨#[]⟩] 44)) Try.prog 36 (plainElem (H := Unit) Try.prog 3)
    rw [show ((w.setCell ⟨pm, 0, none⟩ (.map (some B))).alloc (.cells #[.string o, .string t, .string a, .string ⟨#[]⟩] 44)).heap.size = B from by simp; omega] at h0
    exact h0.kept (row := none) ⟨hb1.os, hb1.tape, hb1.output, hb1.size, fun k hk _ => hb1.block k hk⟩ (by simp)
  have hkept1 : Kept (fun j => j = pm ∨ j = B) w W1 := by
    refine ⟨hb1.os, hb1.tape, hb1.output, by omega, fun j hj hS => ?_⟩
    rw [hb1.block j (by simp; omega), Below.heap_alloc _ _ _ (by simp; omega), Below.heap_alloc _ _ _ (by simpa using hj), Below.heap_setCell _ _ _ _ (fun e => hS (Or.inl e))]
  have hBq : B < q := by omega
  have hBw : w.heap.size < B := by omega
  clear hc hf hq hmm hB0
  go_wp2_with fail
  go_loopw [5, 21] (fun j i wr => ∃ k : Nat, k ≤ 3 ∧ i = .int .i64 k ∧ AddRel W1 wr q B n ks o t a j k) (fun _ i _ => 3 - (intOf i).toNat)
  case atStart => exact ⟨0, by omega, rfl, hown1, grown_refl _ _, World.ownsRow_nil _ _ _ _⟩
  case round =>
    obtain ⟨k, hk, rfl, hR⟩ := hrel
    rcases (by omega : k = 0 ∨ k = 1 ∨ k = 2 ∨ k = 3) with rfl | rfl | rfl | rfl
    · have hz := hR.grown.size
      have hpw : wr.heap[pm]? = some (.cells #[.map (some B)] 26 (0, 0)) := (hR.grown.block pm (by omega) (by simpa using hne)).trans hpm1
      have hqw : wr.heap[q]? = some (.cells (row15 o t a) 36 (0, 0)) := (hR.grown.block q (by omega) (by simp; omega)).trans hsc
      have c0 : wr.cell? ⟨q, 0, none⟩ = some (.int .i64 0) := by simp [World.cell?, hqw, row15]
      have c1 : wr.cell? ⟨q, 1, none⟩ = some (.string o) := by simp [World.cell?, hqw, row15]
      have c2 : wr.cell? ⟨q, 2, none⟩ = some (.string nos) := by simp [World.cell?, hqw, row15]
      have c3 : wr.cell? ⟨q, 3, none⟩ = some (.string nos) := by simp [World.cell?, hqw, row15]
      have c4 : wr.cell? ⟨q, 4, none⟩ = some (.string nos) := by simp [World.cell?, hqw, row15]
      have hpr : wr.cell? ⟨pm, 0, none⟩ = some (.map (some B)) := by simp [World.cell?, hpw]
      have hpa : ∀ ob : Obj, (wr.alloc ob).cell? ⟨pm, 0, none⟩ = some (.map (some B)) := fun ob => by rw [World.cell?_alloc_lt _ _ _ (by show pm < _; omega)]; exact hpr
      have hat := Dr_at (keysTo o t a 0 ++ ks) (keyS o t a nos 0) (keysTo_all ks o t a hK 0) (keyS_isKey _ _ _ _ _)
      rw [key_apart ks o t a ho ht ha 0 (by omega)] at hat
      have hnx := Dr_next ks o t a ho ht ha 0 (by omega)
      have hhit := joinL_hit ks o t a 0
      have hmiss := joinL_miss ks o t a 0
      have hcl : ks.countP (·.sameKey (keyS o t a nos 0)) ≤ ks.length := List.countP_le_length
      generalize ks.countP (·.sameKey (keyS o t a nos 0)) = c at *
      have hwf : (Lit.int .i64 ((c : Int) + 1)).wf = true := WalkArith.wf_i64 (by omega)
      obtain ⟨v0, st, W3, W4, l1, m1, l3, s3, l4, own4, g4, z4⟩ := entry_facts (W := (wr.alloc (.cells #[.int .i64 0, .string o, .string nos, .string nos, .string nos] 36)).drew) (World.ownsMap.drew (hR.own.alloc _)) (by unfold maxLen; omega) (keyOf_agg 0 o nos nos nos (by decide) ho nos_le nos_le nos_le) hat hwf
      have p4 : W4.cell? ⟨pm, 0, none⟩ = some (.map (some B)) := by
        have := g4.block pm (by simp; omega) (by simpa using hne)
        rw [World.cell?_of_block this]
        show (wr.alloc _).cell? _ = _
        rw [World.cell?_alloc_lt _ _ _ (by show pm < _; omega)]
        exact hpr
      have x4 : W4.heap[wr.heap.size]? = some (.cells #[.int .i64 0, .string o, .string nos, .string nos, .string nos] 36 (0, 0)) := by
        rw [g4.block wr.heap.size (by simp) (by simp; omega)]
        exact heap_alloc_new wr _
      have y0 : W4.cell? ⟨wr.heap.size, 0, none⟩ = some (.int .i64 0) := by simp [World.cell?, x4]
      have y1 : W4.cell? ⟨wr.heap.size, 1, none⟩ = some (.string o) := by simp [World.cell?, x4]
      have y2 : W4.cell? ⟨wr.heap.size, 2, none⟩ = some (.string nos) := by simp [World.cell?, x4]
      have y3 : W4.cell? ⟨wr.heap.size, 3, none⟩ = some (.string nos) := by simp [World.cell?, x4]
      have y4 : W4.cell? ⟨wr.heap.size, 4, none⟩ = some (.string nos) := by simp [World.cell?, x4]
      have G4 : Hid ((wr.alloc (.cells #[.int .i64 0, .string o, .string nos, .string nos, .string nos] 36)).drew.grownBy W4 (some B)) := g4
      have O4 : Hid (W4.ownsMap Try.prog 36 (plainElem Try.prog 3) B (n + 0 + 1) ((Dr (keysTo o t a 0 ++ ks)).put (keyS o t a nos 0) (.lit (.int .i64 ((c : Int) + 1))))) := own4
      have HN : Hid _ := hnx
      have HH : Hid _ := hhit
      have HM : Hid _ := hmiss
      clear hat hnx hhit hmiss g4 own4 x4 hpw hqw
      go_wp2_with fail
      go_region
      by_cases hc0 : c = 0
      · have hb : (((c : Int) + 1) == 1) = true := beq_iff_eq.2 (by omega)
        have HC : Hid (c = 0) := hc0
        clear hc0
        obtain ⟨i0, hi, hz0, hz1, hz2⟩ := info_parts info36
        go_wp2_with fail
        go_quiet (fail)
        have hrow5 : (W4.drewN nq).ownsRow (q + 1) 36 5 u5 (joinL ks o t a 0).length ((joinL ks o t a 0).flatMap (cellsS o t a)) := row_kept hR.row G4.out (by omega)
        have hgr5 : W1.grownBy (W4.drewN nq) (some B) := grown_two hR.grown G4.out
        have own5 : (W4.drewN nq).ownsMap Try.prog 36 (plainElem Try.prog 3) B (n + 0 + 1) ((Dr (keysTo o t a 0 ++ ks)).put (keyS o t a nos 0) (.lit (.int .i64 ((c : Int) + 1)))) := O4.out
        have z5 : q + 1 ≤ (W4.drewN nq).heap.size := by have := z4; simp at this; show _ ≤ W4.heap.size; omega
        have v0 : (W4.drewN nq).cell? ⟨wr.heap.size, 0, none⟩ = some (.int .i64 0) := y0
        have v1 : (W4.drewN nq).cell? ⟨wr.heap.size, 1, none⟩ = some (.string o) := y1
        have v2 : (W4.drewN nq).cell? ⟨wr.heap.size, 2, none⟩ = some (.string nos) := y2
        have v3 : (W4.drewN nq).cell? ⟨wr.heap.size, 3, none⟩ = some (.string nos) := y3
        have v4 : (W4.drewN nq).cell? ⟨wr.heap.size, 4, none⟩ = some (.string nos) := y4
        have hjl := joinL_le ks o t a 0
        clear p4 y0 y1 y2 y3 y4 z4 l1 m1 l3 s3 l4 c0 c1 c2 c3 c4 hpr hpa
        generalize W4.drewN nq = W5 at *
        clear G4 O4
        go_wp2_with (first
          | (at_builtin; go_must (refine wpList_append_own _ rfl _ _ 41 rfl (q + 1) 36 i0 (.agg #[.int .i64 0, .string ⟨#[]⟩, .string ⟨#[]⟩, .string ⟨#[]⟩, .string ⟨#[]⟩]) 5 72 Try.underlying41 hi hz0 hz1 hz2 rfl (by decide) _ _ _ rfl (hrow5.alloc _) ⟨W5.heap.size, 0, none⟩ 1 1 (cellsS o t a 0) rfl rfl (cell_five_new _ _ _ _ _ _ _) (cellsS_one o t a 0) (by unfold maxLen; omega) (by omega) (by simp; omega) ?_); intro v' w6 hown6 hgrow6 hnil6))
        go_roundw
        case rel => exact ⟨1, by omega, rfl, ⟨HN.out ▸ own_kept own5 hrow5 hgrow6 (by omega), grown_three hgr5 hrow5 hgrow6 (by omega), by rw [HH.out HC.out]; simpa using hown6⟩⟩
        case measure => simp [intOf]
      · have hb : (((c : Int) + 1) == 1) = false := beq_eq_false_iff_ne.2 (by omega)
        have HC : Hid (c ≠ 0) := hc0
        clear hc0
        go_wp2_with fail
        go_quiet (fail)
        have hrow5 : (W4.drewN nq).ownsRow (q + 1) 36 5 u5 (joinL ks o t a 0).length ((joinL ks o t a 0).flatMap (cellsS o t a)) := row_kept hR.row G4.out (by omega)
        have hgr5 : W1.grownBy (W4.drewN nq) (some B) := grown_two hR.grown G4.out
        have own5 : (W4.drewN nq).ownsMap Try.prog 36 (plainElem Try.prog 3) B (n + 0 + 1) ((Dr (keysTo o t a 0 ++ ks)).put (keyS o t a nos 0) (.lit (.int .i64 ((c : Int) + 1)))) := O4.out
        go_wp2_with fail
        go_roundw
        case rel => exact ⟨1, by omega, rfl, ⟨HN.out ▸ own5, hgr5, by rw [HM.out HC.out]; exact hrow5⟩⟩
        case measure => simp [intOf]
    · have hz := hR.grown.size
      have hpw : wr.heap[pm]? = some (.cells #[.map (some B)] 26 (0, 0)) := (hR.grown.block pm (by omega) (by simpa using hne)).trans hpm1
      have hqw : wr.heap[q]? = some (.cells (row15 o t a) 36 (0, 0)) := (hR.grown.block q (by omega) (by simp; omega)).trans hsc
      have c0 : wr.cell? ⟨q, 5, none⟩ = some (.int .i64 1) := by simp [World.cell?, hqw, row15]
      have c1 : wr.cell? ⟨q, 6, none⟩ = some (.string o) := by simp [World.cell?, hqw, row15]
      have c2 : wr.cell? ⟨q, 7, none⟩ = some (.string t) := by simp [World.cell?, hqw, row15]
      have c3 : wr.cell? ⟨q, 8, none⟩ = some (.string nos) := by simp [World.cell?, hqw, row15]
      have c4 : wr.cell? ⟨q, 9, none⟩ = some (.string nos) := by simp [World.cell?, hqw, row15]
      have hpr : wr.cell? ⟨pm, 0, none⟩ = some (.map (some B)) := by simp [World.cell?, hpw]
      have hpa : ∀ ob : Obj, (wr.alloc ob).cell? ⟨pm, 0, none⟩ = some (.map (some B)) := fun ob => by rw [World.cell?_alloc_lt _ _ _ (by show pm < _; omega)]; exact hpr
      have hat := Dr_at (keysTo o t a 1 ++ ks) (keyS o t a nos 1) (keysTo_all ks o t a hK 1) (keyS_isKey _ _ _ _ _)
      rw [key_apart ks o t a ho ht ha 1 (by omega)] at hat
      have hnx := Dr_next ks o t a ho ht ha 1 (by omega)
      have hhit := joinL_hit ks o t a 1
      have hmiss := joinL_miss ks o t a 1
      have hcl : ks.countP (·.sameKey (keyS o t a nos 1)) ≤ ks.length := List.countP_le_length
      generalize ks.countP (·.sameKey (keyS o t a nos 1)) = c at *
      have hwf : (Lit.int .i64 ((c : Int) + 1)).wf = true := WalkArith.wf_i64 (by omega)
      obtain ⟨v0, st, W3, W4, l1, m1, l3, s3, l4, own4, g4, z4⟩ := entry_facts (W := (wr.alloc (.cells #[.int .i64 1, .string o, .string t, .string nos, .string nos] 36)).drew) (World.ownsMap.drew (hR.own.alloc _)) (by unfold maxLen; omega) (keyOf_agg 1 o t nos nos (by decide) ho ht nos_le nos_le) hat hwf
      have p4 : W4.cell? ⟨pm, 0, none⟩ = some (.map (some B)) := by
        have := g4.block pm (by simp; omega) (by simpa using hne)
        rw [World.cell?_of_block this]
        show (wr.alloc _).cell? _ = _
        rw [World.cell?_alloc_lt _ _ _ (by show pm < _; omega)]
        exact hpr
      have x4 : W4.heap[wr.heap.size]? = some (.cells #[.int .i64 1, .string o, .string t, .string nos, .string nos] 36 (0, 0)) := by
        rw [g4.block wr.heap.size (by simp) (by simp; omega)]
        exact heap_alloc_new wr _
      have y0 : W4.cell? ⟨wr.heap.size, 0, none⟩ = some (.int .i64 1) := by simp [World.cell?, x4]
      have y1 : W4.cell? ⟨wr.heap.size, 1, none⟩ = some (.string o) := by simp [World.cell?, x4]
      have y2 : W4.cell? ⟨wr.heap.size, 2, none⟩ = some (.string t) := by simp [World.cell?, x4]
      have y3 : W4.cell? ⟨wr.heap.size, 3, none⟩ = some (.string nos) := by simp [World.cell?, x4]
      have y4 : W4.cell? ⟨wr.heap.size, 4, none⟩ = some (.string nos) := by simp [World.cell?, x4]
      have G4 : Hid ((wr.alloc (.cells #[.int .i64 1, .string o, .string t, .string nos, .string nos] 36)).drew.grownBy W4 (some B)) := g4
      have O4 : Hid (W4.ownsMap Try.prog 36 (plainElem Try.prog 3) B (n + 1 + 1) ((Dr (keysTo o t a 1 ++ ks)).put (keyS o t a nos 1) (.lit (.int .i64 ((c : Int) + 1))))) := own4
      have HN : Hid _ := hnx
      have HH : Hid _ := hhit
      have HM : Hid _ := hmiss
      clear hat hnx hhit hmiss g4 own4 x4 hpw hqw
      go_wp2_with fail
      go_region
      by_cases hc0 : c = 0
      · have hb : (((c : Int) + 1) == 1) = true := beq_iff_eq.2 (by omega)
        have HC : Hid (c = 0) := hc0
        clear hc0
        obtain ⟨i0, hi, hz0, hz1, hz2⟩ := info_parts info36
        go_wp2_with fail
        go_quiet (fail)
        have hrow5 : (W4.drewN nq).ownsRow (q + 1) 36 5 u5 (joinL ks o t a 1).length ((joinL ks o t a 1).flatMap (cellsS o t a)) := row_kept hR.row G4.out (by omega)
        have hgr5 : W1.grownBy (W4.drewN nq) (some B) := grown_two hR.grown G4.out
        have own5 : (W4.drewN nq).ownsMap Try.prog 36 (plainElem Try.prog 3) B (n + 1 + 1) ((Dr (keysTo o t a 1 ++ ks)).put (keyS o t a nos 1) (.lit (.int .i64 ((c : Int) + 1)))) := O4.out
        have z5 : q + 1 ≤ (W4.drewN nq).heap.size := by have := z4; simp at this; show _ ≤ W4.heap.size; omega
        have v0 : (W4.drewN nq).cell? ⟨wr.heap.size, 0, none⟩ = some (.int .i64 1) := y0
        have v1 : (W4.drewN nq).cell? ⟨wr.heap.size, 1, none⟩ = some (.string o) := y1
        have v2 : (W4.drewN nq).cell? ⟨wr.heap.size, 2, none⟩ = some (.string t) := y2
        have v3 : (W4.drewN nq).cell? ⟨wr.heap.size, 3, none⟩ = some (.string nos) := y3
        have v4 : (W4.drewN nq).cell? ⟨wr.heap.size, 4, none⟩ = some (.string nos) := y4
        have hjl := joinL_le ks o t a 1
        clear p4 y0 y1 y2 y3 y4 z4 l1 m1 l3 s3 l4 c0 c1 c2 c3 c4 hpr hpa
        generalize W4.drewN nq = W5 at *
        clear G4 O4
        go_wp2_with (first
          | (at_builtin; go_must (refine wpList_append_own _ rfl _ _ 41 rfl (q + 1) 36 i0 (.agg #[.int .i64 0, .string ⟨#[]⟩, .string ⟨#[]⟩, .string ⟨#[]⟩, .string ⟨#[]⟩]) 5 72 Try.underlying41 hi hz0 hz1 hz2 rfl (by decide) _ _ _ rfl (hrow5.alloc _) ⟨W5.heap.size, 0, none⟩ 1 1 (cellsS o t a 1) rfl rfl (cell_five_new _ _ _ _ _ _ _) (cellsS_one o t a 1) (by unfold maxLen; omega) (by omega) (by simp; omega) ?_); intro v' w6 hown6 hgrow6 hnil6))
        go_roundw
        case rel => exact ⟨2, by omega, rfl, ⟨HN.out ▸ own_kept own5 hrow5 hgrow6 (by omega), grown_three hgr5 hrow5 hgrow6 (by omega), by rw [HH.out HC.out]; simpa using hown6⟩⟩
        case measure => simp [intOf]
      · have hb : (((c : Int) + 1) == 1) = false := beq_eq_false_iff_ne.2 (by omega)
        have HC : Hid (c ≠ 0) := hc0
        clear hc0
        go_wp2_with fail
        go_quiet (fail)
        have hrow5 : (W4.drewN nq).ownsRow (q + 1) 36 5 u5 (joinL ks o t a 1).length ((joinL ks o t a 1).flatMap (cellsS o t a)) := row_kept hR.row G4.out (by omega)
        have hgr5 : W1.grownBy (W4.drewN nq) (some B) := grown_two hR.grown G4.out
        have own5 : (W4.drewN nq).ownsMap Try.prog 36 (plainElem Try.prog 3) B (n + 1 + 1) ((Dr (keysTo o t a 1 ++ ks)).put (keyS o t a nos 1) (.lit (.int .i64 ((c : Int) + 1)))) := O4.out
        go_wp2_with fail
        go_roundw
        case rel => exact ⟨2, by omega, rfl, ⟨HN.out ▸ own5, hgr5, by rw [HM.out HC.out]; exact hrow5⟩⟩
        case measure => simp [intOf]
    · have hz := hR.grown.size
      have hpw : wr.heap[pm]? = some (.cells #[.map (some B)] 26 (0, 0)) := (hR.grown.block pm (by omega) (by simpa using hne)).trans hpm1
      have hqw : wr.heap[q]? = some (.cells (row15 o t a) 36 (0, 0)) := (hR.grown.block q (by omega) (by simp; omega)).trans hsc
      have c0 : wr.cell? ⟨q, 10, none⟩ = some (.int .i64 2) := by simp [World.cell?, hqw, row15]
      have c1 : wr.cell? ⟨q, 11, none⟩ = some (.string o) := by simp [World.cell?, hqw, row15]
      have c2 : wr.cell? ⟨q, 12, none⟩ = some (.string t) := by simp [World.cell?, hqw, row15]
      have c3 : wr.cell? ⟨q, 13, none⟩ = some (.string a) := by simp [World.cell?, hqw, row15]
      have c4 : wr.cell? ⟨q, 14, none⟩ = some (.string nos) := by simp [World.cell?, hqw, row15]
      have hpr : wr.cell? ⟨pm, 0, none⟩ = some (.map (some B)) := by simp [World.cell?, hpw]
      have hpa : ∀ ob : Obj, (wr.alloc ob).cell? ⟨pm, 0, none⟩ = some (.map (some B)) := fun ob => by rw [World.cell?_alloc_lt _ _ _ (by show pm < _; omega)]; exact hpr
      have hat := Dr_at (keysTo o t a 2 ++ ks) (keyS o t a nos 2) (keysTo_all ks o t a hK 2) (keyS_isKey _ _ _ _ _)
      rw [key_apart ks o t a ho ht ha 2 (by omega)] at hat
      have hnx := Dr_next ks o t a ho ht ha 2 (by omega)
      have hhit := joinL_hit ks o t a 2
      have hmiss := joinL_miss ks o t a 2
      have hcl : ks.countP (·.sameKey (keyS o t a nos 2)) ≤ ks.length := List.countP_le_length
      generalize ks.countP (·.sameKey (keyS o t a nos 2)) = c at *
      have hwf : (Lit.int .i64 ((c : Int) + 1)).wf = true := WalkArith.wf_i64 (by omega)
      obtain ⟨v0, st, W3, W4, l1, m1, l3, s3, l4, own4, g4, z4⟩ := entry_facts (W := (wr.alloc (.cells #[.int .i64 2, .string o, .string t, .string a, .string nos] 36)).drew) (World.ownsMap.drew (hR.own.alloc _)) (by unfold maxLen; omega) (keyOf_agg 2 o t a nos (by decide) ho ht ha nos_le) hat hwf
      have p4 : W4.cell? ⟨pm, 0, none⟩ = some (.map (some B)) := by
        have := g4.block pm (by simp; omega) (by simpa using hne)
        rw [World.cell?_of_block this]
        show (wr.alloc _).cell? _ = _
        rw [World.cell?_alloc_lt _ _ _ (by show pm < _; omega)]
        exact hpr
      have x4 : W4.heap[wr.heap.size]? = some (.cells #[.int .i64 2, .string o, .string t, .string a, .string nos] 36 (0, 0)) := by
        rw [g4.block wr.heap.size (by simp) (by simp; omega)]
        exact heap_alloc_new wr _
      have y0 : W4.cell? ⟨wr.heap.size, 0, none⟩ = some (.int .i64 2) := by simp [World.cell?, x4]
      have y1 : W4.cell? ⟨wr.heap.size, 1, none⟩ = some (.string o) := by simp [World.cell?, x4]
      have y2 : W4.cell? ⟨wr.heap.size, 2, none⟩ = some (.string t) := by simp [World.cell?, x4]
      have y3 : W4.cell? ⟨wr.heap.size, 3, none⟩ = some (.string a) := by simp [World.cell?, x4]
      have y4 : W4.cell? ⟨wr.heap.size, 4, none⟩ = some (.string nos) := by simp [World.cell?, x4]
      have G4 : Hid ((wr.alloc (.cells #[.int .i64 2, .string o, .string t, .string a, .string nos] 36)).drew.grownBy W4 (some B)) := g4
      have O4 : Hid (W4.ownsMap Try.prog 36 (plainElem Try.prog 3) B (n + 2 + 1) ((Dr (keysTo o t a 2 ++ ks)).put (keyS o t a nos 2) (.lit (.int .i64 ((c : Int) + 1))))) := own4
      have HN : Hid _ := hnx
      have HH : Hid _ := hhit
      have HM : Hid _ := hmiss
      clear hat hnx hhit hmiss g4 own4 x4 hpw hqw
      go_wp2_with fail
      go_region
      by_cases hc0 : c = 0
      · have hb : (((c : Int) + 1) == 1) = true := beq_iff_eq.2 (by omega)
        have HC : Hid (c = 0) := hc0
        clear hc0
        obtain ⟨i0, hi, hz0, hz1, hz2⟩ := info_parts info36
        go_wp2_with fail
        go_quiet (fail)
        have hrow5 : (W4.drewN nq).ownsRow (q + 1) 36 5 u5 (joinL ks o t a 2).length ((joinL ks o t a 2).flatMap (cellsS o t a)) := row_kept hR.row G4.out (by omega)
        have hgr5 : W1.grownBy (W4.drewN nq) (some B) := grown_two hR.grown G4.out
        have own5 : (W4.drewN nq).ownsMap Try.prog 36 (plainElem Try.prog 3) B (n + 2 + 1) ((Dr (keysTo o t a 2 ++ ks)).put (keyS o t a nos 2) (.lit (.int .i64 ((c : Int) + 1)))) := O4.out
        have z5 : q + 1 ≤ (W4.drewN nq).heap.size := by have := z4; simp at this; show _ ≤ W4.heap.size; omega
        have v0 : (W4.drewN nq).cell? ⟨wr.heap.size, 0, none⟩ = some (.int .i64 2) := y0
        have v1 : (W4.drewN nq).cell? ⟨wr.heap.size, 1, none⟩ = some (.string o) := y1
        have v2 : (W4.drewN nq).cell? ⟨wr.heap.size, 2, none⟩ = some (.string t) := y2
        have v3 : (W4.drewN nq).cell? ⟨wr.heap.size, 3, none⟩ = some (.string a) := y3
        have v4 : (W4.drewN nq).cell? ⟨wr.heap.size, 4, none⟩ = some (.string nos) := y4
        have hjl := joinL_le ks o t a 2
        clear p4 y0 y1 y2 y3 y4 z4 l1 m1 l3 s3 l4 c0 c1 c2 c3 c4 hpr hpa
        generalize W4.drewN nq = W5 at *
        clear G4 O4
        go_wp2_with (first
          | (at_builtin; go_must (refine wpList_append_own _ rfl _ _ 41 rfl (q + 1) 36 i0 (.agg #[.int .i64 0, .string ⟨#[]⟩, .string ⟨#[]⟩, .string ⟨#[]⟩, .string ⟨#[]⟩]) 5 72 Try.underlying41 hi hz0 hz1 hz2 rfl (by decide) _ _ _ rfl (hrow5.alloc _) ⟨W5.heap.size, 0, none⟩ 1 1 (cellsS o t a 2) rfl rfl (cell_five_new _ _ _ _ _ _ _) (cellsS_one o t a 2) (by unfold maxLen; omega) (by omega) (by simp; omega) ?_); intro v' w6 hown6 hgrow6 hnil6))
        go_roundw
        case rel => exact ⟨3, by omega, rfl, ⟨HN.out ▸ own_kept own5 hrow5 hgrow6 (by omega), grown_three hgr5 hrow5 hgrow6 (by omega), by rw [HH.out HC.out]; simpa using hown6⟩⟩
        case measure => simp [intOf]
      · have hb : (((c : Int) + 1) == 1) = false := beq_eq_false_iff_ne.2 (by omega)
        have HC : Hid (c ≠ 0) := hc0
        clear hc0
        go_wp2_with fail
        go_quiet (fail)
        have hrow5 : (W4.drewN nq).ownsRow (q + 1) 36 5 u5 (joinL ks o t a 2).length ((joinL ks o t a 2).flatMap (cellsS o t a)) := row_kept hR.row G4.out (by omega)
        have hgr5 : W1.grownBy (W4.drewN nq) (some B) := grown_two hR.grown G4.out
        have own5 : (W4.drewN nq).ownsMap Try.prog 36 (plainElem Try.prog 3) B (n + 2 + 1) ((Dr (keysTo o t a 2 ++ ks)).put (keyS o t a nos 2) (.lit (.int .i64 ((c : Int) + 1)))) := O4.out
        go_wp2_with fail
        go_roundw
        case rel => exact ⟨3, by omega, rfl, ⟨HN.out ▸ own5, hgr5, by rw [HM.out HC.out]; exact hrow5⟩⟩
        case measure => simp [intOf]
    · go_wp2_with fail
      go_ret
      refine ⟨_, rfl, (hR.grown.block pm (by omega) (by simpa using hne)).trans hpm1, hR.own, row_base hR.row (by omega), ?_⟩
      refine ⟨hR.grown.os.trans hkept1.os, hR.grown.tape.trans hkept1.tape, hR.grown.output.trans hkept1.output, by have := hR.grown.size; omega, fun j hj hS => ?_⟩
      have hjB : some j ≠ some B := fun e => hS (Or.inr (Option.some.inj e))
      rw [hR.grown.block j (by omega) hjB, hkept1.block j hj hS]

end Go.Proofs.Qxb6628583a
