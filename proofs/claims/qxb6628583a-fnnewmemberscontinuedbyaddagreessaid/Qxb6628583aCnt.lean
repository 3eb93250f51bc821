import Derived.Test.Qxb6628583aLaw
import Derived.Deep.RegionHeld
namespace Go.Proofs.Qxb6628583a
open Go.RowKit Go.Maps

theorem keepC {wX w6 : World} (hb : Below wX.heap.size wX w6) {a : Addr} {v : Value} (h : wX.cell? a = some v) : w6.cell? a = some v := by
  rw [hb.cell (World.block_lt_of_cell? _ _ h)]; exact h
theorem keepB {W0 wX w6 : World} (h : Below W0.heap.size W0 wX) (hb : Below wX.heap.size wX w6) : Below W0.heap.size W0 w6 := h.trans (hb.mono h.size)

/-- The first spender that names what p names at the kind k is none of the first n ahead of place i. -/
def firstTo (xs : List Sp) (p : Sp) (k i n : Nat) : Bool := !((xs.take (min n i)).any fun q => sameP p q k)

theorem firstTo_next (xs : List Sp) (p : Sp) (k i j : Nat) (h : j < xs.length) : firstTo xs p k i (j + 1) = (if j < i ∧ sameP p xs[j] k = true then false else firstTo xs p k i j) := by
  unfold firstTo
  by_cases hi : j < i
  · rw [show min (j + 1) i = j + 1 from by omega, show min j i = j from by omega, List.take_succ_eq_append_getElem h, List.any_append]
    cases hs : sameP p xs[j] k <;> simp [hi, hs]
  · rw [show min (j + 1) i = i from by omega, show min j i = i from by omega]
    simp [hi]

theorem keep8 {W0 wX w6 : World} {a0 a1 a2 a3 a4 a5 a6 a7 : Addr} {v0 v1 v2 v3 v4 v5 v6 v7 : Value}
    (h : wX.cell? a0 = some v0 ∧ wX.cell? a1 = some v1 ∧ wX.cell? a2 = some v2 ∧ wX.cell? a3 = some v3 ∧ wX.cell? a4 = some v4 ∧ wX.cell? a5 = some v5 ∧ wX.cell? a6 = some v6 ∧ wX.cell? a7 = some v7 ∧ Below W0.heap.size W0 wX) (hb : Below wX.heap.size wX w6) :
    w6.cell? a0 = some v0 ∧ w6.cell? a1 = some v1 ∧ w6.cell? a2 = some v2 ∧ w6.cell? a3 = some v3 ∧ w6.cell? a4 = some v4 ∧ w6.cell? a5 = some v5 ∧ w6.cell? a6 = some v6 ∧ w6.cell? a7 = some v7 ∧ Below W0.heap.size W0 w6 :=
  ⟨keepC hb h.1, keepC hb h.2.1, keepC hb h.2.2.1, keepC hb h.2.2.2.1, keepC hb h.2.2.2.2.1, keepC hb h.2.2.2.2.2.1, keepC hb h.2.2.2.2.2.2.1, keepC hb h.2.2.2.2.2.2.2.1, keepB h.2.2.2.2.2.2.2.2 hb⟩

theorem keep5 {W0 wX w6 : World} {a0 a1 a2 a3 a4 : Addr} {v0 v1 v2 v3 v4 : Value}
    (h : wX.cell? a0 = some v0 ∧ wX.cell? a1 = some v1 ∧ wX.cell? a2 = some v2 ∧ wX.cell? a3 = some v3 ∧ wX.cell? a4 = some v4 ∧ Below W0.heap.size W0 wX) (hb : Below wX.heap.size wX w6) :
    w6.cell? a0 = some v0 ∧ w6.cell? a1 = some v1 ∧ w6.cell? a2 = some v2 ∧ w6.cell? a3 = some v3 ∧ w6.cell? a4 = some v4 ∧ Below W0.heap.size W0 w6 :=
  ⟨keepC hb h.1, keepC hb h.2.1, keepC hb h.2.2.1, keepC hb h.2.2.2.1, keepC hb h.2.2.2.2.1, keepB h.2.2.2.2.2 hb⟩
theorem mapAt5 {W0 wX : World} {mv : Option Nat} {n : Nat} {ks : List Lit} {a0 a1 a2 a3 a4 : Addr} {v0 v1 v2 v3 v4 : Value} (hM : MapAt W0 mv n ks)
    (h : wX.cell? a0 = some v0 ∧ wX.cell? a1 = some v1 ∧ wX.cell? a2 = some v2 ∧ wX.cell? a3 = some v3 ∧ wX.cell? a4 = some v4 ∧ Below W0.heap.size W0 wX) : MapAt wX mv n ks := hM.in_below h.2.2.2.2.2

theorem distinct_le : ∀ ks : List Lit, distinct ks ≤ ks.length
  | [] => Nat.le_refl _
  | k :: r => by
    have := distinct_le r
    unfold distinct
    split <;> simp <;> omega
theorem keysTo_len (o t a : ByteArray) (k : Nat) : (keysTo o t a k).length ≤ 3 := by
  match k with
  | 0 => simp [keysTo]
  | 1 => simp [keysTo]
  | 2 => simp [keysTo]
  | _ + 3 => simp [keysTo]

set_option maxHeartbeats 4000000 in
theorem counts_walk (b off cap : Nat) (xs : List Sp) (w : World) (hxs : xs.length ≤ 4096) (hcells : RowAt w b off xs) (hok : ∀ p ∈ xs, p.ok) (hb : b < w.heap.size) :
    Calls Try.prog 3 #[.slice (some ⟨b, off, none⟩) xs.length cap] w fun e w' => e = .returned (.bool true) ∧ Below w.heap.size w w' := by
  have HC : Hid (RowAt w b off xs) := hcells
  have HO : Hid (∀ p ∈ xs, p.ok) := hok
  clear hcells hok
  go_enter Try.func3, Try.ntmps3
  go_wp2_with fail
  refine (bytes1_any b off cap xs w (by unfold maxLen; omega) HC.out).mono ?_
  rintro e w1 ⟨⟨r, rfl⟩, rfl⟩
  cases r with
  | false =>
    go_wp2_with fail
    go_ret
    exact ⟨rfl, Below.refl _ _⟩
  | true =>
  go_wp2_with fail
  refine (big_any b off cap xs _ hxs HC.out).mono ?_
  rintro e w2 ⟨⟨r, rfl⟩, rfl⟩
  cases r with
  | true =>
    go_wp2_with fail
    go_ret
    exact ⟨rfl, Below.refl _ _⟩
  | false =>
  go_wp2_with fail
  refine (to_any b off cap xs _ hxs HC.out hb).mono ?_
  rintro e w3 ⟨rfl, hrow3, hz3, hb3⟩
  have HR3 : Hid (RowAt w3 w2.heap.size 0 xs) := hrow3
  clear hrow3
  go_wp2_with fail
  refine (new_any w2.heap.size 0 xs.length xs _ hxs HR3.out HO.out hz3).mono ?_
  rintro e w4 ⟨mv, rfl, hm4, ha4, hb4⟩
  have HM4 : Hid (MapAt w4 mv (3 * xs.length) (keysOf xs)) := hm4
  have hz4 := hb4.size
  clear hm4 HR3
  go_wp2_with fail
  have hbw : Below w2.heap.size w2 (w4.alloc (.cells #[.map mv] 26)) := (hb3.trans (hb4.mono (by omega))).alloc (by omega) _
  have hM0 : Hid (MapAt (w4.alloc (.cells #[.map mv] 26)) mv (3 * xs.length) (keysOf xs)) := MapAt.in_below HM4.out ((Below.refl _ w4).alloc (Nat.le_refl _) _)
  have hC0 : Hid (RowAt (w4.alloc (.cells #[.map mv] 26)) b off xs) := RowAt.kept HC.out (hbw.block b hb)
  have hm0 : (w4.alloc (.cells #[.map mv] 26)).cell? ⟨w4.heap.size, 0, none⟩ = some (.map mv) := by
    rw [cell_of_row _ w4.heap.size 0 #[.map mv] 26 (0, 0) (heap_alloc_new w4 _)]; rfl
  obtain ⟨bm, hbm⟩ : ∃ bm, bm = w4.heap.size := ⟨_, rfl⟩
  rw [← hbm] at hm0 ⊢
  obtain ⟨W0, hW0⟩ : ∃ W0, W0 = w4.alloc (.cells #[.map mv] 26) := ⟨_, rfl⟩
  rw [← hW0] at hbw hM0 hC0 hm0 ⊢
  clear hbm hW0 HM4 hb3 hb4 ha4 hz4 hz3 HC
  go_loopw [4, 5] (fun d i wr => ∃ n : Nat, n ≤ xs.length ∧ i = .int .i64 n ∧ d = .int .i64 (distinct (keysOf (xs.take n)) : Int) ∧ Below W0.heap.size W0 wr) (fun _ i _ => xs.length - (intOf i).toNat)
  case atStart => exact ⟨0, Nat.zero_le _, rfl, rfl, Below.refl _ _⟩
  case round =>
    obtain ⟨n, hn, rfl, rfl, hbr⟩ := hrel
    by_cases hlt : n < xs.length
    · have HP : Hid ((xs[n]).ok) := HO.out _ (List.getElem_mem hlt)
      have HX : Hid (keysOf (xs.take (n + 1)) = keysTo (xs[n]).o (xs[n]).t (xs[n]).a 3 ++ keysOf (xs.take n)) := keysOf_take xs n hlt
      obtain ⟨p0, p1, p2, p3⟩ := hC0.out n hlt
      have HTK : Hid (∀ q ∈ xs.take n, q.ok) := fun q hq => HO.out q (List.mem_of_mem_take hq)
      generalize xs[n] = p at *
      go_wp2_with fail
      go_loopw [4, 6] (fun d i wr => ∃ κ : Nat, κ ≤ 3 ∧ i = .int .i64 κ ∧ d = .int .i64 (distinct (keysTo p.o p.t p.a κ ++ keysOf (xs.take n)) : Int) ∧ Below W0.heap.size W0 wr) (fun _ i _ => 3 - (intOf i).toNat)
      case atStart => exact ⟨0, by omega, rfl, rfl, hbr⟩
      case round =>
        obtain ⟨κ, hκ, rfl, rfl, hbr2⟩ := hrel
        by_cases hκ3 : κ < 3
        · have hκd : decide ((κ : Int) < 3) = true := by simp; omega
          go_wp2_with fail
          go_loopw [7, 8, 9] (fun c f i wr => ∃ j : Nat, j ≤ xs.length ∧ i = .int .i64 j ∧ c = .int .i64 ((xs.take j).countP (fun q => sameP p q κ) : Int) ∧ f = .bool (firstTo xs p κ n j) ∧ Below W0.heap.size W0 wr) (fun _ _ i _ => xs.length - (intOf i).toNat)
          case atStart => exact ⟨0, Nat.zero_le _, rfl, rfl, by simp [firstTo], hbr2⟩
          case round =>
            obtain ⟨j, hj, rfl, rfl, rfl, hbr3⟩ := hrel
            by_cases hjl : j < xs.length
            · obtain ⟨r0, r1, r2, r3⟩ := hC0.out j hjl
              have HS : Hid (xs.take (j + 1) = xs.take j ++ [xs[j]]) := List.take_succ_eq_append_getElem hjl
              have HF : Hid (firstTo xs p κ n (j + 1) = (if j < n ∧ sameP p xs[j] κ = true then false else firstTo xs p κ n j)) := firstTo_next xs p κ n j hjl
              have HSM : Hid (sameP p xs[j] κ = same p.o p.t p.a (xs[j]).o (xs[j]).t (xs[j]).a κ) := rfl
              generalize xs[j] = q at *
              have HCN : Hid ((xs.take (j + 1)).countP (fun q => sameP p q κ) = (xs.take j).countP (fun q => sameP p q κ) + if sameP p q κ = true then 1 else 0) := by
                show _ = _
                rw [HS.out, List.countP_append, List.countP_cons, List.countP_nil, Nat.zero_add]
              have hcl : (xs.take j).countP (fun q => sameP p q κ) ≤ 4096 := Nat.le_trans List.countP_le_length (by rw [List.length_take]; omega)
              generalize (xs.take j).countP (fun q => sameP p q κ) = c at *
              generalize firstTo xs p κ n j = f at *
              have P0 := keepC hbr3 p0
              have P1 := keepC hbr3 p1
              have P2 := keepC hbr3 p2
              have P3 := keepC hbr3 p3
              have R0 := keepC hbr3 r0
              have R1 := keepC hbr3 r1
              have R2 := keepC hbr3 r2
              have R3 := keepC hbr3 r3
              clear r0 r1 r2 r3
              go_wp2_with fail
              go_region_held (fun w' => w'.cell? ⟨b, off + n * 4, none⟩ = some (.string p.o) ∧ w'.cell? ⟨b, off + n * 4 + 1, none⟩ = some (.string p.t) ∧ w'.cell? ⟨b, off + n * 4 + 2, none⟩ = some (.string p.a) ∧ w'.cell? ⟨b, off + n * 4 + 3, none⟩ = some (.string p.s) ∧
                  w'.cell? ⟨b, off + j * 4, none⟩ = some (.string q.o) ∧ w'.cell? ⟨b, off + j * 4 + 1, none⟩ = some (.string q.t) ∧ w'.cell? ⟨b, off + j * 4 + 2, none⟩ = some (.string q.a) ∧ w'.cell? ⟨b, off + j * 4 + 3, none⟩ = some (.string q.s) ∧ Below W0.heap.size W0 w')
                (first | exact ⟨P0, P1, P2, P3, R0, R1, R2, R3, hbr3.drew⟩ | exact keep8 (by assumption) hb6)
                (first | (go_at_call 9; refine (match_any p.o p.t p.a p.s q.o q.t q.a q.s κ hκ3 _).mono ?_; rintro e w6 ⟨rfl, hb6⟩))
              rename_i hS6
              have hbw6 : Below W0.heap.size W0 w6 := hS6.2.2.2.2.2.2.2.2
              clear hS6 P0 P1 P2 P3 R0 R1 R2 R3 hb6
              rw [← HSM.out]
              cases hs : sameP p q κ with
              | false =>
                have HSF : Hid (sameP p q κ = false) := hs
                clear hs
                go_wp2_with fail
                go_roundw
                case rel => exact ⟨j + 1, by omega, by go_num, by rw [HCN.out, HSF.out]; simp, by rw [HF.out, HSF.out]; simp, hbw6⟩
                case measure => simp [intOf]; omega
              | true =>
                have HST : Hid (sameP p q κ = true) := hs
                clear hs
                by_cases hjn : (j : Int) < (n : Int)
                · go_wp2_with fail
                  go_roundw
                  case rel => exact ⟨j + 1, by omega, by go_num, by rw [HCN.out, HST.out]; simp, by rw [HF.out, HST.out, if_pos ⟨by omega, rfl⟩], hbw6⟩
                  case measure => simp [intOf]; omega
                · go_wp2_with fail
                  go_roundw
                  case rel => exact ⟨j + 1, by omega, by go_num, by rw [HCN.out, HST.out]; simp, by rw [HF.out, HST.out, if_neg (by omega)], hbw6⟩
                  case measure => simp [intOf]; omega
            · have HCT : Hid ((keysOf xs).countP (·.sameKey (keyS p.o p.t p.a p.s κ)) = xs.countP (fun q => sameP p q κ)) := count_same p HP.out κ hκ3 xs HO.out
              have HDN : Hid (distinct (keysTo p.o p.t p.a (κ + 1) ++ keysOf (xs.take n)) = if (xs.take n).any (fun q => sameP p q κ) then distinct (keysTo p.o p.t p.a κ ++ keysOf (xs.take n)) else distinct (keysTo p.o p.t p.a κ ++ keysOf (xs.take n)) + 1) := distinct_next p HP.out (xs.take n) HTK.out κ hκ3
              have e1 : (xs.take j).countP (fun q => sameP p q κ) = xs.countP (fun q => sameP p q κ) := by rw [List.take_of_length_le (by omega)]
              have e2 : firstTo xs p κ n j = !((xs.take n).any fun q => sameP p q κ) := by unfold firstTo; rw [show min j n = n from by omega]
              rw [e1, e2]
              clear e1 e2
              have hdl : distinct (keysTo p.o p.t p.a κ ++ keysOf (xs.take n)) ≤ 20000 := by
                have h1 := distinct_le (keysTo p.o p.t p.a κ ++ keysOf (xs.take n))
                have h2 := keysOf_len (xs.take n)
                have h3 := keysTo_len p.o p.t p.a κ
                rw [List.length_append, h2, List.length_take] at h1
                omega
              have P0 := keepC hbr3 p0
              have P1 := keepC hbr3 p1
              have P2 := keepC hbr3 p2
              have P3 := keepC hbr3 p3
              have M0 := keepC hbr3 hm0
              generalize distinct (keysTo p.o p.t p.a κ ++ keysOf (xs.take n)) = D at *
              generalize xs.countP (fun q => sameP p q κ) = c at *
              cases ha : (xs.take n).any (fun q => sameP p q κ) with
              | true =>
                have HD' : Hid (distinct (keysTo p.o p.t p.a (κ + 1) ++ keysOf (xs.take n)) = D) := by show _ = _; rw [HDN.out, if_pos ha]
                clear ha
                go_wp2_with fail
                go_region_held (fun w' => w'.cell? ⟨b, off + n * 4, none⟩ = some (.string p.o) ∧ w'.cell? ⟨b, off + n * 4 + 1, none⟩ = some (.string p.t) ∧ w'.cell? ⟨b, off + n * 4 + 2, none⟩ = some (.string p.a) ∧ w'.cell? ⟨b, off + n * 4 + 3, none⟩ = some (.string p.s) ∧
                  w'.cell? ⟨bm, 0, none⟩ = some (.map mv) ∧ Below W0.heap.size W0 w')
                (first | exact ⟨P0, P1, P2, P3, M0, hbr3.drew⟩ | exact keep5 (by assumption) hb6 | exact keep5 (by assumption) hb7)
                (first
                  | (go_at_call 11; refine (scope_any p.o p.t p.a p.s κ hκ3 _).mono ?_; rintro e w6 ⟨rfl, hb6⟩)
                  | (go_at_call 10; refine (count_any mv (3 * xs.length) (keysOf xs) p.o p.t p.a p.s κ _ (by exact mapAt5 hM0.out (by assumption)) HP.out.1 HP.out.2.1 HP.out.2.2.1 HP.out.2.2.2).mono ?_; rintro e w7 ⟨rfl, hb7⟩))
                rw [HCT.out]
                rename_i hS6
                have hbw6 := hS6.2.2.2.2.2
                clear hS6 P0 P1 P2 P3 M0
                go_wp2_with fail
                go_roundw
                case rel => exact ⟨κ + 1, by omega, by go_num, by rw [HD'.out], hbw6⟩
                case measure => simp [intOf]; omega
              | false =>
                have HD' : Hid (distinct (keysTo p.o p.t p.a (κ + 1) ++ keysOf (xs.take n)) = D + 1) := by show _ = _; rw [HDN.out, if_neg (by rw [ha]; simp)]
                clear ha
                go_wp2_with fail
                go_region_held (fun w' => w'.cell? ⟨b, off + n * 4, none⟩ = some (.string p.o) ∧ w'.cell? ⟨b, off + n * 4 + 1, none⟩ = some (.string p.t) ∧ w'.cell? ⟨b, off + n * 4 + 2, none⟩ = some (.string p.a) ∧ w'.cell? ⟨b, off + n * 4 + 3, none⟩ = some (.string p.s) ∧
                  w'.cell? ⟨bm, 0, none⟩ = some (.map mv) ∧ Below W0.heap.size W0 w')
                (first | exact ⟨P0, P1, P2, P3, M0, hbr3.drew⟩ | exact keep5 (by assumption) hb6 | exact keep5 (by assumption) hb7)
                (first
                  | (go_at_call 11; refine (scope_any p.o p.t p.a p.s κ hκ3 _).mono ?_; rintro e w6 ⟨rfl, hb6⟩)
                  | (go_at_call 10; refine (count_any mv (3 * xs.length) (keysOf xs) p.o p.t p.a p.s κ _ (by exact mapAt5 hM0.out (by assumption)) HP.out.1 HP.out.2.1 HP.out.2.2.1 HP.out.2.2.2).mono ?_; rintro e w7 ⟨rfl, hb7⟩))
                rw [HCT.out]
                rename_i hS6
                have hbw6 := hS6.2.2.2.2.2
                clear hS6 P0 P1 P2 P3 M0
                go_wp2_with fail
                go_roundw
                case rel => exact ⟨κ + 1, by omega, by go_num, by rw [HD'.out]; go_num, hbw6⟩
                case measure => simp [intOf]; omega
        · have HCT : Hid ((keysOf xs).countP (·.sameKey (keyS p.o p.t p.a p.s 3)) = 0) := count_sandbox p HP.out xs HO.out
          have HD3 : Hid (distinct (keysTo p.o p.t p.a κ ++ keysOf (xs.take n)) = distinct (keysOf (xs.take (n + 1)))) := by
            show _ = _
            rw [HX.out, show κ = 3 from by omega]
          have P0 := keepC hbr2 p0
          have P1 := keepC hbr2 p1
          have P2 := keepC hbr2 p2
          have P3 := keepC hbr2 p3
          have M0 := keepC hbr2 hm0
          generalize distinct (keysTo p.o p.t p.a κ ++ keysOf (xs.take n)) = D at *
          go_wp2_with fail
          go_region_held (fun w' => w'.cell? ⟨b, off + n * 4, none⟩ = some (.string p.o) ∧ w'.cell? ⟨b, off + n * 4 + 1, none⟩ = some (.string p.t) ∧ w'.cell? ⟨b, off + n * 4 + 2, none⟩ = some (.string p.a) ∧ w'.cell? ⟨b, off + n * 4 + 3, none⟩ = some (.string p.s) ∧
              w'.cell? ⟨bm, 0, none⟩ = some (.map mv) ∧ Below W0.heap.size W0 w')
            (first | exact ⟨P0, P1, P2, P3, M0, hbr2.drew⟩ | exact keep5 (by assumption) hb6 | exact keep5 (by assumption) hb7)
            (first
              | (go_at_call 12; refine (sandbox_any p.o p.t p.a p.s _).mono ?_; rintro e w6 ⟨rfl, hb6⟩)
              | (go_at_call 10; refine (count_any mv (3 * xs.length) (keysOf xs) p.o p.t p.a p.s 3 _ (by exact mapAt5 hM0.out (by assumption)) HP.out.1 HP.out.2.1 HP.out.2.2.1 HP.out.2.2.2).mono ?_; rintro e w7 ⟨rfl, hb7⟩; rw [HCT.out]))
          rename_i hS6
          have hbw6 := hS6.2.2.2.2.2
          clear hS6 P0 P1 P2 P3 M0
          go_wp2_with fail
          go_roundw
          case rel => exact ⟨n + 1, by omega, by go_num, by rw [HD3.out], hbw6⟩
          case measure => simp [intOf]; omega
    · have M0 := keepC hbr hm0
      have HE : Hid (keysOf (xs.take n) = keysOf xs) := by show _ = _; rw [List.take_of_length_le (by omega)]
      go_wp2_with fail
      refine (len_any mv (3 * xs.length) (keysOf xs) _ (MapAt.in_below hM0.out hbr)).mono ?_
      rintro e w7 ⟨rfl, hb7⟩
      rw [HE.out]
      generalize distinct (keysOf xs) = D at *
      go_wp2_with fail
      go_ret
      exact ⟨by simp, keepB hbw (keepB hbr hb7)⟩

set_option maxHeartbeats 400000 in
/-- More than 4096 spenders: nothing is asked. -/
theorem counts_many (b off cap : Nat) (xs : List Sp) (w : World) (hxs : xs.length ≤ maxLen) (hbig : 4096 < (xs.length : Int)) (hcells : RowAt w b off xs) :
    Calls Try.prog 3 #[.slice (some ⟨b, off, none⟩) xs.length cap] w fun e w' => e = .returned (.bool true) ∧ Below w.heap.size w w' := by
  have HB : Hid _ := bytes1_any b off cap xs w hxs hcells
  clear hcells
  go_enter Try.func3, Try.ntmps3
  go_wp2_with fail
  refine Calls.mono HB.out ?_
  rintro e w1 ⟨⟨r, rfl⟩, rfl⟩
  cases r with
  | false =>
    go_wp2_with fail
    go_ret
    exact ⟨rfl, Below.refl _ _⟩
  | true =>
    go_wp2_with fail
    go_ret
    exact ⟨rfl, Below.refl _ _⟩
end Go.Proofs.Qxb6628583a
