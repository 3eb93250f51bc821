import Derived.Test.Qxb6628583aContA
import Derived.BigQuiet
import Derived.Deep.QuietTactic
namespace Go.Proofs.Qxb6628583a
open Go.RowKit Go.Maps

/-- What holds at the head of round n of the first loop. -/
structure ContRel (W0 wr : World) (pm : Nat) (xs : List Sp) (n : Nat) (mv : Option Nat) : Prop where
  ptr : wr.heap[pm]? = some (.cells #[.map mv] 26 (0, 0))
  map : MapAt wr mv (3 * n) (keysOf (xs.take n))
  above : ∀ B, mv = some B → W0.heap.size ≤ B ∧ B ≠ pm
  below : Below W0.heap.size W0 wr

theorem ContRel.in_below {W0 w w' : World} {pm : Nat} {xs : List Sp} {n : Nat} {mv : Option Nat} (h : ContRel W0 w pm xs n mv) (hb : Below w.heap.size w w') : ContRel W0 w' pm xs n mv :=
  ⟨by rw [hb.block pm (Array.getElem?_eq_some_iff.1 h.ptr).1]; exact h.ptr, h.map.in_below hb, h.above, keepB h.below hb⟩

theorem keep2 {W0 wX w6 : World} {a0 a1 : Addr} {v0 v1 : Value} (h : wX.cell? a0 = some v0 ∧ wX.cell? a1 = some v1 ∧ Below W0.heap.size W0 wX) (hb : Below wX.heap.size wX w6) :
    w6.cell? a0 = some v0 ∧ w6.cell? a1 = some v1 ∧ Below W0.heap.size W0 w6 := ⟨keepC hb h.1, keepC hb h.2.1, keepB h.2.2 hb⟩
theorem mapAt2 {W0 wX : World} {mv : Option Nat} {n : Nat} {ks : List Lit} {a0 a1 : Addr} {v0 v1 : Value} (hM : MapAt W0 mv n ks)
    (h : wX.cell? a0 = some v0 ∧ wX.cell? a1 = some v1 ∧ Below W0.heap.size W0 wX) : MapAt wX mv n ks := hM.in_below h.2.2

theorem new_take (b off cap k : Nat) (xs : List Sp) (w : World) (hxs : xs.length ≤ 4096) (hk : k ≤ xs.length) (hcells : RowAt w b off xs) (hok : ∀ p ∈ xs, p.ok) (hb : b < w.heap.size) :
    Calls Try.prog 7 #[.slice (some ⟨b, off, none⟩) k cap] w fun e w' => ∃ mv, e = .returned (.agg #[.map mv]) ∧ MapAt w' mv (3 * k) (keysOf (xs.take k)) ∧ (∀ B, mv = some B → w.heap.size ≤ B) ∧ Below w.heap.size w w' := by
  have hl : (xs.take k).length = k := by rw [List.length_take]; omega
  have h := new_any b off cap (xs.take k) w (by omega) (fun i hi => by
    have := hcells i (by rw [hl] at hi; omega)
    simpa [List.getElem_take] using this) (fun p hp => hok p (List.mem_of_mem_take hp)) hb
  rw [hl] at h
  exact h

set_option maxRecDepth 100000 in
set_option maxHeartbeats 8000000 in
theorem cont_walk (b off cap : Nat) (xs : List Sp) (kk : Int) (w : World) (hxs : xs.length ≤ 4096) (hcells : RowAt w b off xs) (hok : ∀ p ∈ xs, p.ok) (hb : b < w.heap.size) :
    Calls Try.prog 4 #[.slice (some ⟨b, off, none⟩) xs.length cap, .int .i64 kk] w fun e w' => e = .returned (.bool true) ∧ Below w.heap.size w w' := by
  have HC : Hid (RowAt w b off xs) := hcells
  have HO : Hid (∀ p ∈ xs, p.ok) := hok
  clear hcells hok
  go_enter Try.func4, Try.ntmps4
  go_wp2_with fail
  refine (bytes2_any b off cap xs kk w (by unfold maxLen; omega) HC.out).mono ?_
  rintro e w1 ⟨⟨r, rfl⟩, rfl⟩
  cases r with
  | false =>
    go_wp2_with fail
    go_ret
    exact ⟨rfl, Below.refl _ _⟩
  | true =>
  go_wp2_with fail
  refine (big_any b off cap xs _ hxs HC.out).mono ?_
  rintro e w2 ⟨⟨r, rfl⟩, rfl⟩
  cases r with
  | true =>
    go_wp2_with fail
    go_ret
    exact ⟨rfl, Below.refl _ _⟩
  | false =>
  by_cases h1 : kk < 0
  · go_wp2_with fail
    go_ret
    exact ⟨rfl, Below.refl _ _⟩
  by_cases h2 : kk > xs.length
  · go_wp2_with fail
    go_ret
    exact ⟨rfl, Below.refl _ _⟩
  obtain ⟨k, rfl⟩ : ∃ k : Nat, kk = (k : Int) := ⟨kk.toNat, by omega⟩
  have hkl : k ≤ xs.length := by omega
  go_wp2_with fail
  refine (to_any b off cap xs _ hxs HC.out hb).mono ?_
  rintro e w3 ⟨rfl, hrow3, hz3, hb3⟩
  have HR3 : Hid (RowAt w3 w2.heap.size 0 xs) := hrow3
  clear hrow3
  go_wp2_with fail
  refine (new_any w2.heap.size 0 xs.length xs _ hxs HR3.out HO.out hz3).mono ?_
  rintro e w4 ⟨mw, rfl, hm4, ha4, hb4⟩
  have HM4 : Hid (MapAt w4 mw (3 * xs.length) (keysOf xs)) := hm4
  have hz4 := hb4.size
  clear hm4
  have hbw : Below w2.heap.size w2 (w4.alloc (.cells #[.map mw] 26)) := (hb3.trans (hb4.mono (by omega))).alloc (by omega) _
  have hM0 : Hid (MapAt (w4.alloc (.cells #[.map mw] 26)) mw (3 * xs.length) (keysOf xs)) := MapAt.in_below HM4.out ((Below.refl _ w4).alloc (Nat.le_refl _) _)
  have hC0 : Hid (RowAt (w4.alloc (.cells #[.map mw] 26)) b off xs) := RowAt.kept HC.out (hbw.block b hb)
  have hR0 : Hid (RowAt (w4.alloc (.cells #[.map mw] 26)) w2.heap.size 0 xs) := RowAt.kept HR3.out (by rw [Below.heap_alloc _ _ _ (by omega)]; exact hb4.block _ hz3)
  have hm0 : (w4.alloc (.cells #[.map mw] 26)).cell? ⟨w4.heap.size, 0, none⟩ = some (.map mw) := by
    rw [cell_of_row _ w4.heap.size 0 #[.map mw] 26 (0, 0) (heap_alloc_new w4 _)]; rfl
  have hz0 : w2.heap.size < (w4.alloc (.cells #[.map mw] 26)).heap.size := by simp; omega
  go_wp2_with fail
  obtain ⟨bw, hbw'⟩ : ∃ bw, bw = w4.heap.size := ⟨_, rfl⟩
  rw [← hbw'] at hm0 ⊢
  obtain ⟨W0, hW0⟩ : ∃ W0, W0 = w4.alloc (.cells #[.map mw] 26) := ⟨_, rfl⟩
  rw [← hW0] at hbw hM0 hC0 hR0 hm0 hz0 ⊢
  clear hbw' hW0 HM4 hb3 hb4 ha4 hz4 hz3 HC HR3
  refine (new_take w2.heap.size 0 xs.length k xs _ hxs hkl hR0.out HO.out hz0).mono ?_
  rintro e w5 ⟨mv0, rfl, hm5, ha5, hb5⟩
  have HM5 : Hid (MapAt w5 mv0 (3 * k) (keysOf (xs.take k))) := hm5
  have hz5 := hb5.size
  clear hm5
  have hc5 : (w5.alloc (.cells #[.map mv0] 26)).cell? ⟨w5.heap.size, 0, none⟩ = some (.map mv0) := by
    rw [cell_of_row _ w5.heap.size 0 #[.map mv0] 26 (0, 0) (heap_alloc_new w5 _)]; rfl
  have HM5' : Hid (MapAt (w5.alloc (.cells #[.map mv0] 26)) mv0 (3 * k) (keysOf (xs.take k))) := MapAt.in_below HM5.out ((Below.refl _ w5).alloc (Nat.le_refl _) _)
  go_wp2_with fail
  refine (len_any mv0 (3 * k) (keysOf (xs.take k)) _ HM5'.out).mono ?_
  rintro e w6 ⟨rfl, hb6⟩
  have hz6 := hb6.size
  simp at hz6
  have HR : Hid (ContRel W0 w6 w5.heap.size xs k mv0) := by
    refine ⟨?_, MapAt.in_below HM5'.out hb6, fun B hB => ⟨ha5 B hB, fun e => ?_⟩, keepB (hb5.alloc (by omega) _) hb6⟩
    · rw [hb6.block _ (by simp)]; exact heap_alloc_new w5 _
    · have := HM5.out.lt B hB
      omega
  have hpm : W0.heap.size ≤ w5.heap.size := hz5
  generalize w5.heap.size = pm at *
  clear HM5 HM5' hc5 ha5 hb5 hz5 hb6 hz6
  have HD0 : Hid (distinct (keysOf (xs.take k)) = distinct (keysOf (xs.take k))) := rfl
  go_wp2_with fail
  go_loopw [8, 9] (fun g i wr => ∃ n : Nat, k ≤ n ∧ n ≤ xs.length ∧ i = .int .i64 n ∧ g = .int .i64 (distinct (keysOf (xs.take n)) : Int) ∧ ∃ mv, ContRel W0 wr pm xs n mv) (fun _ i _ => xs.length - (intOf i).toNat)
  case atStart => exact ⟨k, Nat.le_refl _, hkl, rfl, rfl, mv0, HR.out⟩
  case round =>
    obtain ⟨n, hkn, hn, rfl, rfl, mv, hR⟩ := hrel
    clear HR
    have HR : Hid (ContRel W0 wr pm xs n mv) := hR
    clear hR
    by_cases hlt : n < xs.length
    · have HP : Hid ((xs[n]).ok) := HO.out _ (List.getElem_mem hlt)
      have HX : Hid (keysOf (xs.take (n + 1)) = keysTo (xs[n]).o (xs[n]).t (xs[n]).a 3 ++ keysOf (xs.take n)) := keysOf_take xs n hlt
      obtain ⟨p0, p1, p2, p3⟩ := hC0.out n hlt
      obtain ⟨q0, q1, q2, q3⟩ := hR0.out n hlt
      rw [Nat.zero_add] at q0 q1 q2 q3
      generalize xs[n] = p at *
      have P0 := keepC HR.out.below p0
      have P1 := keepC HR.out.below p1
      have P2 := keepC HR.out.below p2
      have P3 := keepC HR.out.below p3
      have Q0 := keepC HR.out.below q0
      have Q1 := keepC HR.out.below q1
      have Q2 := keepC HR.out.below q2
      have Q3 := keepC HR.out.below q3
      clear p0 p1 p2 p3 q0 q1 q2 q3
      have hpc : wr.cell? ⟨pm, 0, none⟩ = some (.map mv) := by simp [World.cell?, HR.out.ptr]
      have hps : pm < wr.heap.size := World.block_lt_of_cell? _ _ hpc
      obtain ⟨wh, rfl⟩ : ∃ x, x = wr := ⟨_, rfl⟩
      have HKL : Hid ((keysOf (xs.take n)).length ≤ 12288) := by
        show _ ≤ _
        rw [keysOf_len, List.length_take]; omega
      generalize hks : keysOf (xs.take n) = ks at *
      have HMP : Hid (MapAt wh mv (3 * n) ks) := by
        show MapAt _ _ _ _
        rw [← hks]; exact HR.out.map
      have HKS : Hid (keysOf (xs.take n) = ks) := hks
      clear hks
      go_wp2_with fail
      go_loopw [10, 11] (fun j i wr => ∃ κ : Nat, κ ≤ 3 ∧ i = .int .i64 κ ∧ wr.ownsRow wh.heap.size 36 5 j (joinL ks p.o p.t p.a κ).length ((joinL ks p.o p.t p.a κ).flatMap (cellsS p.o p.t p.a)) ∧ Below wh.heap.size wh wr) (fun _ i _ => 3 - (intOf i).toNat)
      case atStart => exact ⟨0, by omega, rfl, World.ownsRow_nil _ _ _ _, Below.refl _ _⟩
      case round =>
        obtain ⟨κ, hκ, rfl, hrow, hbr⟩ := hrel
        have HROW : Hid _ := hrow
        clear hrow
        by_cases hκ3 : κ < 3
        · have hκd : decide ((κ : Int) < 3) = true := by simp; omega
          obtain ⟨s1, s2, s3, s4, hsc, hcs⟩ := scope_form p.o p.t p.a p.s κ hκ3
          have P0' := keepC hbr P0
          have P1' := keepC hbr P1
          have P2' := keepC hbr P2
          have P3' := keepC hbr P3
          have HCS : Hid _ := hcs
          have HSC : Hid _ := hsc
          clear hcs hsc
          go_wp2_with fail
          refine (scope_any p.o p.t p.a p.s κ hκ3 _).mono ?_
          rintro e w7 ⟨rfl, hb7⟩
          rw [HSC.out]
          clear P0' P1' P2' P3'
          have hz7 := hb7.size
          have hzr := hbr.size
          have hbh7 : Below wh.heap.size wh w7 := keepB hbr hb7
          have hpa : ∀ ob, (w7.alloc ob).cell? ⟨pm, 0, none⟩ = some (.map mv) := fun ob => by
            rw [World.cell?_alloc_lt _ _ _ (by show pm < _; omega)]; exact keepC hbh7 hpc
          have HCNT : Hid _ := count_any mv (3 * n) ks p.o p.t p.a p.s κ (w7.alloc (.cells #[.int .i64 κ, .string s1, .string s2, .string s3, .string s4] 36)) (HMP.out.in_below (hbh7.alloc (by omega) _)) HP.out.1 HP.out.2.1 HP.out.2.2.1 HP.out.2.2.2
          rw [HSC.out, ← keyS_nos p κ hκ3] at HCNT
          have HH : Hid _ := joinL_hit ks p.o p.t p.a κ
          have HM : Hid _ := joinL_miss ks p.o p.t p.a κ
          have hcl : ks.countP (·.sameKey (keyS p.o p.t p.a nos κ)) ≤ 12288 := Nat.le_trans List.countP_le_length HKL.out
          generalize ks.countP (·.sameKey (keyS p.o p.t p.a nos κ)) = c at *
          go_wp2_with fail
          refine Calls.mono HCNT.out ?_
          rintro e w8 ⟨rfl, hb8⟩
          clear hpa HCNT
          have hz8 := hb8.size
          simp at hz8
          have hbh8 : Below wh.heap.size wh w8 := keepB (hbh7.alloc (by omega) _) hb8
          have hrow8 : w8.ownsRow wh.heap.size 36 5 u10 (joinL ks p.o p.t p.a κ).length ((joinL ks p.o p.t p.a κ).flatMap (cellsS p.o p.t p.a)) :=
            row_below (World.ownsRow.alloc (row_below HROW.out hb7) _) hb8
          have hblk : w8.heap[w7.heap.size]? = some (.cells #[.int .i64 κ, .string s1, .string s2, .string s3, .string s4] 36 (0, 0)) := by
            rw [hb8.block _ (by simp)]; exact heap_alloc_new w7 _
          have v0 : w8.cell? ⟨w7.heap.size, 0, none⟩ = some (.int .i64 κ) := by simp [World.cell?, hblk]
          have v1 : w8.cell? ⟨w7.heap.size, 1, none⟩ = some (.string s1) := by simp [World.cell?, hblk]
          have v2 : w8.cell? ⟨w7.heap.size, 2, none⟩ = some (.string s2) := by simp [World.cell?, hblk]
          have v3 : w8.cell? ⟨w7.heap.size, 3, none⟩ = some (.string s3) := by simp [World.cell?, hblk]
          have v4 : w8.cell? ⟨w7.heap.size, 4, none⟩ = some (.string s4) := by simp [World.cell?, hblk]
          have HROW8 : Hid _ := hrow8
          have hjl := joinL_le ks p.o p.t p.a κ
          clear hblk hrow8
          by_cases hc0 : c = 0
          · have hbq : ((c : Int) == 0) = true := beq_iff_eq.2 (by omega)
            have HC : Hid (c = 0) := hc0
            clear hc0
            obtain ⟨i0, hi, hz0', hz1, hz2⟩ := info_parts info36
            go_wp2_with (first
              | (at_builtin; go_must (refine wpList_append_own _ rfl _ _ 41 rfl wh.heap.size 36 i0 (.agg #[.int .i64 0, .string ⟨#[]⟩, .string ⟨#[]⟩, .string ⟨#[]⟩, .string ⟨#[]⟩]) 5 72 Try.underlying41 hi hz0' hz1 hz2 rfl (by decide) _ _ _ rfl (World.ownsRow.alloc HROW8.out _) ⟨w8.heap.size, 0, none⟩ 1 1 [.int .i64 κ, .string s1, .string s2, .string s3, .string s4] rfl rfl (cell_five_new _ _ _ _ _ _ _) (HCS.out ▸ cellsS_one p.o p.t p.a κ) (by unfold maxLen; omega) (by omega) (by simp; omega) ?_); intro v' w9 hown9 hgrow9 hnil9))
            go_roundw
            case rel => exact ⟨κ + 1, by omega, by go_num, by rw [HH.out HC.out, List.flatMap_append, List.length_append]; simpa [HCS.out] using hown9, (hbh8.alloc (by omega) _).grown hgrow9 (by simp; omega) (fun k e => (World.ownsRow.lt HROW8.out k e).1)⟩
            case measure => simp [intOf]; omega
          · have hbq : ((c : Int) == 0) = false := beq_eq_false_iff_ne.2 (by omega)
            have HC : Hid (c ≠ 0) := hc0
            clear hc0
            go_wp2_with fail
            go_roundw
            case rel => exact ⟨κ + 1, by omega, by go_num, by rw [HM.out HC.out]; exact HROW8.out, hbh8⟩
            case measure => simp [intOf]; omega
        · have hκe : κ = 3 := by omega
          subst hκe
          have Q0' := keepC hbr Q0
          have Q1' := keepC hbr Q1
          have Q2' := keepC hbr Q2
          have Q3' := keepC hbr Q3
          have hzr := hbr.size
          go_wp2_with fail
          refine (zzadd_any pm mv (3 * n) ks p.o p.t p.a p.s _ ?_ (HMP.out.in_below hbr) (by omega) (Nat.le_trans HKL.out (by omega)) HP.out.1 HP.out.2.1 HP.out.2.2.1).mono ?_
          · rw [hbr.block pm hps]; exact HR.out.ptr
          rintro e w9 ⟨v, B, rfl, hB, hP⟩
          clear Q0' Q1' Q2' Q3'
          have hB1 : W0.heap.size ≤ B ∧ B ≠ pm := by
            rcases hB with h | ⟨_, h⟩
            · exact HR.out.above B h
            · have := HR.out.below.size
              exact ⟨by omega, by omega⟩
          have hB2 : ∀ g, wh.heap.size ≤ g → g < wr.heap.size → ¬ (g = pm ∨ g = B) := fun g h1 h2 => by
            rintro (rfl | rfl)
            · omega
            · rcases hB with h | ⟨_, h⟩
              · have := HMP.out.lt g h
                omega
              · omega
          have HN : Hid (ContRel W0 w9 pm xs (n + 1) (some B)) := by
            refine ⟨hP.ptr, ⟨?_, .inr ⟨B, rfl, ?_⟩⟩, fun B' e => by cases e; exact hB1, (HR.out.below.trans (hbr.mono HR.out.below.size)).trans ⟨hP.kept.os, hP.kept.tape, hP.kept.output, hP.kept.size, fun j hj => ?_⟩⟩
            · rw [HX.out]; exact keysTo_all _ _ _ _ (HMP.out.1) 3
            · rw [HX.out]; exact hP.own
            · have := HR.out.below.size
              exact hP.kept.block j (by omega) (by rintro (h | h) <;> omega)
          have HDJ : Hid (distinct (keysOf (xs.take (n + 1))) = distinct ks + (joinL ks p.o p.t p.a 3).length) := by
            show _ = _
            rw [HX.out]; exact distinct_join ks p.o p.t p.a HP.out.1 HP.out.2.1 HP.out.2.2.1 3 (by omega)
          have HDL : Hid (distinct ks ≤ 12288) := Nat.le_trans (distinct_le ks) HKL.out
          have HJC : Hid _ := join_cells ks p.o p.t p.a
          obtain ⟨wa, wcap, rfl, hwo⟩ := row_open HROW.out
          obtain ⟨ga, gcap, rfl, hgo⟩ := row_open hP.row
          have HWO : Hid _ := hwo
          have HGO : Hid _ := hgo
          have HK9 : Hid (Kept (fun j => j = pm ∨ j = B) wr w9) := hP.kept
          have hjl := joinL_le ks p.o p.t p.a 3
          clear hwo hgo hP hB
          generalize (joinL ks p.o p.t p.a 3).flatMap (cellsS p.o p.t p.a) = cs at *
          generalize (joinL ks p.o p.t p.a 3).length = m at *
          generalize distinct ks = D at *
          obtain ⟨wi, rfl⟩ : ∃ x, x = wr := ⟨_, rfl⟩
          go_wp2_with fail
          go_loopw [14] (fun i wr => ∃ j : Nat, j ≤ m ∧ i = .int .i64 j ∧ Below w9.heap.size w9 wr) (fun i _ => m - (intOf i).toNat)
          case atStart => exact ⟨0, Nat.zero_le _, rfl, Below.refl _ _⟩
          case round =>
            obtain ⟨j, hj, rfl, hbj⟩ := hrel
            by_cases hjm : j < m
            · obtain ⟨l, s1, s2, s3, s4, hx⟩ := HJC.out j hjm
              obtain ⟨g, rfl, hg0, hg1, hg2⟩ := HWO.out j hjm
              obtain ⟨f, rfl, hf0, hf1, hf2⟩ := HGO.out j hjm
              have hgb : w9.heap[g]? = wi.heap[g]? := HK9.out.block g hg1 (hB2 g hg0 hg1)
              have G : ∀ r u, r < 5 → [Value.int .i64 (l : Int), .string s1, .string s2, .string s3, .string s4][r]? = some u → wr.cell? ⟨g, j * 5 + r, none⟩ = some u := fun r u hr hu => by
                refine keepC hbj ?_
                rw [World.cell?_of_block (a := ⟨g, j * 5 + r, none⟩) hgb, hg2 _ (by omega), hx r hr]
                exact hu
              have F : ∀ r u, r < 5 → [Value.int .i64 (l : Int), .string s1, .string s2, .string s3, .string s4][r]? = some u → wr.cell? ⟨f, j * 5 + r, none⟩ = some u := fun r u hr hu => by
                refine keepC hbj ?_
                rw [hf2 _ (by omega), hx r hr]
                exact hu
              have G0 := G 0 _ (by omega) rfl
              have G1 := G 1 _ (by omega) rfl
              have G2 := G 2 _ (by omega) rfl
              have G3 := G 3 _ (by omega) rfl
              have G4 := G 4 _ (by omega) rfl
              have F0 := F 0 _ (by omega) rfl
              have F1 := F 1 _ (by omega) rfl
              have F2 := F 2 _ (by omega) rfl
              have F3 := F 3 _ (by omega) rfl
              have F4 := F 4 _ (by omega) rfl
              rw [Nat.add_zero] at G0 F0
              clear G F hx hgb hg2 hf2
              go_wp2_with fail
              go_quiet (fail)
              have hbj' : Below w9.heap.size w9 (wr.drewN nq) := ⟨hbj.os, hbj.tape, hbj.output, hbj.size, hbj.block⟩
              clear G0 G1 G2 G3 G4 F0 F1 F2 F3 F4
              generalize wr.drewN nq = wq at *
              go_wp2_with fail
              go_roundw
              case rel => exact ⟨j + 1, by omega, by go_num, hbj'⟩
              case measure => simp [intOf]; omega
            · go_wp2_with fail
              go_roundw
              case rel => exact ⟨n + 1, by omega, by omega, by go_num, by have hdl : D ≤ 12288 := HDL.out; rw [HDJ.out, IntWalk.wrap64_in _ (by omega)]; rfl, some B, ContRel.in_below HN.out hbj⟩
              case measure => simp [intOf]; omega
    · have hne : n = xs.length := by omega
      subst hne
      have HM : Hid (MapAt wr mv (3 * xs.length) (keysOf xs)) := by
        have := HR.out.map
        rw [List.take_of_length_le (Nat.le_refl _)] at this
        exact this
      have HMW : Hid (MapAt wr mw (3 * xs.length) (keysOf xs)) := MapAt.in_below hM0.out HR.out.below
      have hCr : Hid (RowAt wr b off xs) := fun i hi => by
        obtain ⟨c0, c1, c2, c3⟩ := hC0.out i hi
        exact ⟨keepC HR.out.below c0, keepC HR.out.below c1, keepC HR.out.below c2, keepC HR.out.below c3⟩
      have hpc : wr.cell? ⟨pm, 0, none⟩ = some (.map mv) := by simp [World.cell?, HR.out.ptr]
      have hwc : wr.cell? ⟨bw, 0, none⟩ = some (.map mw) := keepC HR.out.below hm0
      have hbel : Below w2.heap.size w2 wr := keepB hbw HR.out.below
      rw [List.take_of_length_le (Nat.le_refl _)]
      clear HR hR0 hC0 hm0 hM0 hbw hpm
      obtain ⟨W1, rfl⟩ : ∃ x, x = wr := ⟨_, rfl⟩
      have HDL : Hid (distinct (keysOf xs) ≤ 12288) := Nat.le_trans (distinct_le _) (by rw [keysOf_len]; omega)
      have HLN : Hid (∀ w mv n, MapAt w mv n (keysOf xs) → Calls Try.prog 13 #[.agg #[.map mv]] w fun e w' => e = .returned (.int .i64 (distinct (keysOf xs) : Int)) ∧ Below w.heap.size w w') := fun w mv n h => len_any mv n _ w h
      generalize distinct (keysOf xs) = D at *
      go_wp2_with fail
      go_loopw [15] (fun i wr => ∃ n : Nat, n ≤ xs.length ∧ i = .int .i64 n ∧ Below W1.heap.size W1 wr) (fun i _ => xs.length - (intOf i).toNat)
      case atStart => exact ⟨0, Nat.zero_le _, rfl, Below.refl _ _⟩
      case round =>
        obtain ⟨n, hn, rfl, hbr⟩ := hrel
        by_cases hlt : n < xs.length
        · have HP : Hid ((xs[n]).ok) := HO.out _ (List.getElem_mem hlt)
          obtain ⟨p0, p1, p2, p3⟩ := hCr.out n hlt
          have HMEM : Hid (xs[n] ∈ xs) := List.getElem_mem hlt
          generalize xs[n] = p at *
          go_wp2_with fail
          go_loopw [16] (fun i wr => ∃ κ : Nat, κ ≤ 3 ∧ i = .int .i64 κ ∧ Below W1.heap.size W1 wr) (fun i _ => 3 - (intOf i).toNat)
          case atStart => exact ⟨0, by omega, rfl, hbr⟩
          case round =>
            obtain ⟨κ, hκ, rfl, hbr2⟩ := hrel
            by_cases hκ3 : κ < 3
            · have hκd : decide ((κ : Int) < 3) = true := by simp; omega
              obtain ⟨s1, s2, s3, s4, hsc, hcs⟩ := scope_form p.o p.t p.a p.s κ hκ3
              have HSC : Hid _ := hsc
              clear hcs hsc
              have P0 := keepC hbr2 p0
              have P1 := keepC hbr2 p1
              have P2 := keepC hbr2 p2
              have P3 := keepC hbr2 p3
              go_wp2_with fail
              refine (scope_any p.o p.t p.a p.s κ hκ3 _).mono ?_
              rintro e w7 ⟨rfl, hb7⟩
              rw [HSC.out]
              clear P0 P1 P2 P3
              have hz7 := hb7.size
              have hzr := hbr2.size
              have hb17 : Below W1.heap.size W1 w7 := keepB hbr2 hb7
              have hps : pm < W1.heap.size := World.block_lt_of_cell? _ _ hpc
              have hws : bw < W1.heap.size := World.block_lt_of_cell? _ _ hwc
              have hpa : ∀ ob, (w7.alloc ob).cell? ⟨bw, 0, none⟩ = some (.map mw) := fun ob => by
                rw [World.cell?_alloc_lt _ _ _ (by show bw < _; omega)]; exact keepC hb17 hwc
              have hb18 : Below W1.heap.size W1 (w7.alloc (.cells #[.int .i64 κ, .string s1, .string s2, .string s3, .string s4] 36)) := hb17.alloc (by omega) _
              have HCNT : Hid (∀ w mv n, MapAt w mv n (keysOf xs) → Calls Try.prog 10 #[.agg #[.map mv], scope p.o p.t p.a p.s κ] w fun e w' => e = .returned (.int .i64 (((keysOf xs).countP (·.sameKey (keyS p.o p.t p.a p.s κ)) : Nat) : Int)) ∧ Below w.heap.size w w') := fun w mv n h => count_any mv n _ p.o p.t p.a p.s κ w h HP.out.1 HP.out.2.1 HP.out.2.2.1 HP.out.2.2.2
              rw [HSC.out] at HCNT
              have hc1 : 1 ≤ (keysOf xs).countP (·.sameKey (keyS p.o p.t p.a p.s κ)) := by
                rw [count_same p HP.out κ hκ3 xs HO.out]
                exact List.countP_pos_iff.2 ⟨p, HMEM.out, by simp [sameP, same]⟩
              have hc2 : (keysOf xs).countP (·.sameKey (keyS p.o p.t p.a p.s κ)) ≤ 12288 := Nat.le_trans List.countP_le_length (by rw [keysOf_len]; omega)
              generalize (keysOf xs).countP (·.sameKey (keyS p.o p.t p.a p.s κ)) = c at *
              have hcd : decide ((c : Int) < 1) = false := by simp; omega
              go_wp2_with fail
              refine (HCNT.out _ mw _ (MapAt.in_below HMW.out hb18)).mono ?_
              rintro e w8 ⟨rfl, hb8⟩
              have hb19 : Below W1.heap.size W1 w8 := keepB hb18 hb8
              have hblk : w8.heap[w7.heap.size]? = some (.cells #[.int .i64 κ, .string s1, .string s2, .string s3, .string s4] 36 (0, 0)) := by
                rw [hb8.block _ (by simp)]; exact heap_alloc_new w7 _
              have v0 : w8.cell? ⟨w7.heap.size, 0, none⟩ = some (.int .i64 κ) := by simp [World.cell?, hblk]
              have v1 : w8.cell? ⟨w7.heap.size, 1, none⟩ = some (.string s1) := by simp [World.cell?, hblk]
              have v2 : w8.cell? ⟨w7.heap.size, 2, none⟩ = some (.string s2) := by simp [World.cell?, hblk]
              have v3 : w8.cell? ⟨w7.heap.size, 3, none⟩ = some (.string s3) := by simp [World.cell?, hblk]
              have v4 : w8.cell? ⟨w7.heap.size, 4, none⟩ = some (.string s4) := by simp [World.cell?, hblk]
              have hp8 : w8.cell? ⟨pm, 0, none⟩ = some (.map mv) := keepC hb19 hpc
              clear hblk hpa
              go_wp2_with fail
              refine (HCNT.out _ mv _ (MapAt.in_below HM.out hb19)).mono ?_
              rintro e w9 ⟨rfl, hb9⟩
              go_wp2_with fail
              go_roundw
              case rel => exact ⟨κ + 1, by omega, by go_num, keepB hb19 hb9⟩
              case measure => simp [intOf]; omega
            · have HCT : Hid ((keysOf xs).countP (·.sameKey (keyS p.o p.t p.a p.s 3)) = 0) := count_sandbox p HP.out xs HO.out
              have P0 := keepC hbr2 p0
              have P1 := keepC hbr2 p1
              have P2 := keepC hbr2 p2
              have P3 := keepC hbr2 p3
              have M0 := keepC hbr2 hwc
              go_wp2_with fail
              go_region_held (fun w' => w'.cell? ⟨b, off + n * 4, none⟩ = some (.string p.o) ∧ w'.cell? ⟨b, off + n * 4 + 1, none⟩ = some (.string p.t) ∧ w'.cell? ⟨b, off + n * 4 + 2, none⟩ = some (.string p.a) ∧ w'.cell? ⟨b, off + n * 4 + 3, none⟩ = some (.string p.s) ∧
                  w'.cell? ⟨bw, 0, none⟩ = some (.map mw) ∧ Below W1.heap.size W1 w')
                (first | exact ⟨P0, P1, P2, P3, M0, hbr2.drew⟩ | exact keep5 (by assumption) hb6 | exact keep5 (by assumption) hb7)
                (first
                  | (go_at_call 12; refine (sandbox_any p.o p.t p.a p.s _).mono ?_; rintro e w6 ⟨rfl, hb6⟩)
                  | (go_at_call 10; refine (count_any mw (3 * xs.length) (keysOf xs) p.o p.t p.a p.s 3 _ (by exact mapAt5 HMW.out (by assumption)) HP.out.1 HP.out.2.1 HP.out.2.2.1 HP.out.2.2.2).mono ?_; rintro e w7 ⟨rfl, hb7⟩; rw [HCT.out]))
              rename_i hS6
              have hbw6 := hS6.2.2.2.2.2
              clear hS6 P0 P1 P2 P3 M0
              go_wp2_with fail
              go_roundw
              case rel => exact ⟨n + 1, by omega, by go_num, hbw6⟩
              case measure => simp [intOf]; omega
        · have M0 := keepC hbr hpc
          have M1 := keepC hbr hwc
          go_wp2_with fail
          go_region_held (fun w' => w'.cell? ⟨pm, 0, none⟩ = some (.map mv) ∧ w'.cell? ⟨bw, 0, none⟩ = some (.map mw) ∧ Below W1.heap.size W1 w')
            (first | exact ⟨M0, M1, hbr.drew⟩ | exact keep2 (by assumption) hb7)
            (first
              | (go_at_call 13; refine (HLN.out _ mv _ (by exact mapAt2 HM.out (by assumption))).mono ?_; rintro e w7 ⟨rfl, hb7⟩)
              | (go_at_call 13; refine (HLN.out _ mw _ (by exact mapAt2 HMW.out (by assumption))).mono ?_; rintro e w7 ⟨rfl, hb7⟩))
          all_goals
            rename_i hS6
            have hbw6 := hS6.2.2
            clear hS6
            go_wp2_with fail
            go_ret
            exact ⟨by simp, keepB hbel hbw6⟩
end Go.Proofs.Qxb6628583a
