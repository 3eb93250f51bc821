import Derived.Test.Qxb6628583aAdd
import Derived.Deep.QuietTactic
import Derived.BigQuiet
import Derived.Deep.Draws
namespace Go.Proofs.Qxb6628583a
open Go.RowKit Go.Maps
open Go.ChangeMaps (setBlock heap_setBlock_same heap_setBlock_other)

/-- Of the blocks that were there only those of S may have turned. -/
structure Kept (S : Nat → Prop) (w w' : World) : Prop where
  os : w'.os = w.os
  tape : w'.tape = w.tape
  output : w'.output = w.output
  size : w.heap.size ≤ w'.heap.size
  block : ∀ k, k < w.heap.size → ¬ S k → w'.heap[k]? = w.heap[k]?

/-- The scopes' row. -/
def row15 (o t a : ByteArray) : Array Value := #[.int .i64 0, .string o, .string nos, .string nos, .string nos, .int .i64 1, .string o, .string t, .string nos, .string nos, .int .i64 2, .string o, .string t, .string a, .string nos]

theorem scopes_row (o t a : ByteArray) (w : World) :
    Calls Try.prog 17 #[.agg #[.string o, .string t, .string a, .string ⟨#[]⟩]] w fun e w' => ∃ q, e = .returned (.slice (some ⟨q, 0, none⟩) 3 3) ∧ w'.heap.size = q + 1 ∧ w.heap.size ≤ q ∧ w'.heap[q]? = some (.cells (row15 o t a) 36 (0, 0)) ∧ Below w.heap.size w w' := by
  refine (scopes_any o t a w).mono ?_
  rintro e w' ⟨rfl, rfl⟩
  refine ⟨w.heap.size + 1, rfl, by simp, by omega, ?_, ((Below.refl _ w).alloc (Nat.le_refl _) _).alloc (by simp) _⟩
  have h := heap_alloc_new (w.alloc (.cells #[.string o, .string t, .string a, .string nos] 44)) (.cells (row15 o t a) 36)
  rw [show (w.alloc (.cells #[.string o, .string t, .string a, .string nos] 44)).heap.size = w.heap.size + 1 from by simp] at h
  exact h

/-- The keys of the first k scopes, the last first. -/
def keysTo (o t a : ByteArray) : Nat → List Lit
  | 0 => []
  | 1 => [keyS o t a nos 0]
  | 2 => [keyS o t a nos 1, keyS o t a nos 0]
  | _ => [keyS o t a nos 2, keyS o t a nos 1, keyS o t a nos 0]

/-- Which of the first k scopes were not there before. -/
def joinL (ks : List Lit) (o t a : ByteArray) (k : Nat) : List Nat := (List.range k).filter fun i => ks.countP (·.sameKey (keyS o t a nos i)) == 0

/-- What holds at the head of round k. -/
structure AddRel (W1 wr : World) (q B n : Nat) (ks : List Lit) (o t a : ByteArray) (j : Value) (k : Nat) : Prop where
  own : wr.ownsMap Try.prog 36 (plainElem Try.prog 3) B (n + k) (Dr (keysTo o t a k ++ ks))
  grown : W1.grownBy wr (some B)
  row : wr.ownsRow (q + 1) 36 5 j (joinL ks o t a k).length ((joinL ks o t a k).flatMap (cellsS o t a))

theorem grown_refl (w : World) (row : Option Nat) : w.grownBy w row := ⟨rfl, rfl, rfl, Nat.le_refl _, fun _ _ _ => rfl⟩

theorem keyL_apart {k k' : Int} {o t a s o' t' a' s' : ByteArray} (hk : (Lit.int .i64 k).wf = true) (ho : o.size ≤ maxLen) (ht : t.size ≤ maxLen) (ha : a.size ≤ maxLen) (hs : s.size ≤ maxLen)
    (hk' : (Lit.int .i64 k').wf = true) (ho' : o'.size ≤ maxLen) (ht' : t'.size ≤ maxLen) (ha' : a'.size ≤ maxLen) (hs' : s'.size ≤ maxLen) (hne : k ≠ k') : (keyL k o t a s).sameKey (keyL k' o' t' a' s') = false :=
  sameKey_ne fun e => hne (keyL_inj hk ho ht ha hs hk' ho' ht' ha' hs' e).1

/-- The three keys are apart: what the map tells of the next one is what it told before. -/
theorem key_apart (ks : List Lit) (o t a : ByteArray) (ho : o.size ≤ maxLen) (ht : t.size ≤ maxLen) (ha : a.size ≤ maxLen) (k : Nat) (hk : k < 3) :
    (keysTo o t a k ++ ks).countP (·.sameKey (keyS o t a nos k)) = ks.countP (·.sameKey (keyS o t a nos k)) := by
  have n0 := nos_le
  rcases (by omega : k = 0 ∨ k = 1 ∨ k = 2) with rfl | rfl | rfl
  · rfl
  · have h1 : (keyS o t a nos 0).sameKey (keyS o t a nos 1) = false := keyL_apart (by decide) ho n0 n0 n0 (by decide) ho ht n0 n0 (by decide)
    simp [keysTo, h1]
  · have h1 : (keyS o t a nos 0).sameKey (keyS o t a nos 2) = false := keyL_apart (by decide) ho n0 n0 n0 (by decide) ho ht ha n0 (by decide)
    have h2 : (keyS o t a nos 1).sameKey (keyS o t a nos 2) = false := keyL_apart (by decide) ho ht n0 n0 (by decide) ho ht ha n0 (by decide)
    simp [keysTo, h1, h2]

theorem keyS_isKey (o t a s : ByteArray) (k : Nat) : WideAt.IsKeyLit (keyS o t a s k) := by
  match k with
  | 0 => trivial
  | 1 => trivial
  | 2 => trivial
  | _ + 3 => trivial

theorem keysTo_all (ks : List Lit) (o t a : ByteArray) (h : AllKeys ks) (k : Nat) : AllKeys (keysTo o t a k ++ ks) := by
  intro x hx
  rcases List.mem_append.1 hx with hx | hx
  · match k, hx with
    | 1, hx => simp [keysTo] at hx; subst hx; exact keyS_isKey _ _ _ _ _
    | 2, hx => simp [keysTo] at hx; rcases hx with rfl | rfl <;> exact keyS_isKey _ _ _ _ _
    | _ + 3, hx => simp [keysTo] at hx; rcases hx with rfl | rfl | rfl <;> exact keyS_isKey _ _ _ _ _
  · exact h x hx

theorem Dr_next (ks : List Lit) (o t a : ByteArray) (ho : o.size ≤ maxLen) (ht : t.size ≤ maxLen) (ha : a.size ≤ maxLen) (k : Nat) (hk : k < 3) :
    (Dr (keysTo o t a k ++ ks)).put (keyS o t a nos k) (.lit (.int .i64 (((ks.countP (·.sameKey (keyS o t a nos k)) : Nat) : Int) + 1))) = Dr (keysTo o t a (k + 1) ++ ks) := by
  have h := key_apart ks o t a ho ht ha k hk
  have e : keysTo o t a (k + 1) ++ ks = keyS o t a nos k :: (keysTo o t a k ++ ks) := by
    rcases (by omega : k = 0 ∨ k = 1 ∨ k = 2) with rfl | rfl | rfl <;> rfl
  rw [e, Dr, h]

theorem joinL_hit (ks : List Lit) (o t a : ByteArray) (k : Nat) (h : ks.countP (·.sameKey (keyS o t a nos k)) = 0) : joinL ks o t a (k + 1) = joinL ks o t a k ++ [k] := by
  unfold joinL
  rw [List.range_succ, List.filter_append]
  congr 1
  rw [List.filter_cons, if_pos (by rw [h]; rfl)]
  rfl
theorem joinL_miss (ks : List Lit) (o t a : ByteArray) (k : Nat) (h : ks.countP (·.sameKey (keyS o t a nos k)) ≠ 0) : joinL ks o t a (k + 1) = joinL ks o t a k := by
  unfold joinL
  rw [List.range_succ, List.filter_append]
  simp [h]
theorem joinL_le (ks : List Lit) (o t a : ByteArray) (k : Nat) : (joinL ks o t a k).length ≤ k := by
  have := List.length_filter_le (fun i => ks.countP (·.sameKey (keyS o t a nos i)) == 0) (List.range k)
  simpa [joinL] using this

theorem row_kept {wr W4 : World} {ob : Obj} {q B : Nat} {j : Value} {m nq : Nat} {xs : List Value} (h : wr.ownsRow (q + 1) 36 5 j m xs) (g : (wr.alloc ob).drew.grownBy W4 (some B)) (hB : B < q + 1) : (W4.drewN nq).ownsRow (q + 1) 36 5 j m xs := by
  have h2 : W4.ownsRow (q + 1) 36 5 j m xs := by
    refine World.ownsRow.kept (w := (wr.alloc ob).drew) (row := some B) (h.alloc ob) g (Or.inr fun e => ?_)
    have := (h.lt B e).1
    omega
  exact h2
theorem grown_two {W1 wr W4 : World} {ob : Obj} {B nq : Nat} (h : W1.grownBy wr (some B)) (g : (wr.alloc ob).drew.grownBy W4 (some B)) : W1.grownBy (W4.drewN nq) (some B) :=
  ⟨g.os.trans h.os, g.tape.trans h.tape, g.output.trans h.output, by have := h.size; have := g.size; simp at this; show _ ≤ W4.heap.size; omega, fun k hk hne => by
    have h1 := h.block k hk hne
    have hs := h.size
    show W4.heap[k]? = _
    rw [g.block k (by simp; omega) hne]
    show (wr.alloc ob).heap[k]? = _
    rw [Below.heap_alloc _ _ _ (by omega), h1]⟩
theorem own_kept {W5 w6 : World} {ob : Obj} {q B n m : Nat} {D : DataW Unit} {j : Value} {xs : List Value} (h : W5.ownsMap Try.prog 36 (plainElem Try.prog 3) B n D) (hr : W5.ownsRow (q + 1) 36 5 j m xs) (g : (W5.alloc ob).grownBy w6 j.ownBlock) (hB : B < q + 1) :
    w6.ownsMap Try.prog 36 (plainElem Try.prog 3) B n D :=
  (h.alloc ob).kept g fun e => by have := (hr.lt B e.symm).1; omega
theorem grown_three {W1 W5 w6 : World} {ob : Obj} {q B m : Nat} {j : Value} {xs : List Value} (h : W1.grownBy W5 (some B)) (hr : W5.ownsRow (q + 1) 36 5 j m xs) (g : (W5.alloc ob).grownBy w6 j.ownBlock) (hq : W1.heap.size ≤ q + 1) : W1.grownBy w6 (some B) :=
  ⟨g.os.trans h.os, g.tape.trans h.tape, g.output.trans h.output, by have := h.size; have := g.size; simp at this; omega, fun k hk hne => by
    have hs := h.size
    rw [g.block k (by simp; omega) (fun e => by have := (hr.lt k e.symm).1; omega), Below.heap_alloc _ _ _ (by omega)]
    exact h.block k hk hne⟩
theorem cell_five_new (W : World) (x0 x1 x2 x3 x4 : Value) (T : TypeId) : ∀ j u, [x0, x1, x2, x3, x4][j]? = some u → (W.alloc (.cells #[x0, x1, x2, x3, x4] T)).cell? ((⟨W.heap.size, 0, none⟩ : Addr).add j) = some u := by
  intro j u h
  have hadd : (⟨W.heap.size, 0, none⟩ : Addr).add j = ⟨W.heap.size, j, none⟩ := by unfold Addr.add; split <;> simp_all
  rw [hadd, cell_of_row _ W.heap.size j #[x0, x1, x2, x3, x4] T (0, 0) (heap_alloc_new W _)]
  simpa using h
theorem cellsS_one (o t a : ByteArray) (k : Nat) : ∀ u ∈ cellsS o t a k, u.oneCell' = true := by
  intro u hu
  match k, hu with
  | 0, hu => simp [cellsS] at hu; rcases hu with rfl | rfl | rfl <;> rfl
  | 1, hu => simp [cellsS] at hu; rcases hu with rfl | rfl | rfl | rfl <;> rfl
  | _ + 2, hu => simp [cellsS] at hu; rcases hu with rfl | rfl | rfl | rfl | rfl <;> rfl

/-- What add leaves. -/
structure AddPost (w w' : World) (pm B n : Nat) (ks : List Lit) (o t a : ByteArray) (v : Value) : Prop where
  ptr : w'.heap[pm]? = some (.cells #[.map (some B)] 26 (0, 0))
  own : w'.ownsMap Try.prog 36 (plainElem Try.prog 3) B (n + 3) (Dr (keysTo o t a 3 ++ ks))
  row : w'.ownsRow w.heap.size 36 5 v (joinL ks o t a 3).length ((joinL ks o t a 3).flatMap (cellsS o t a))
  kept : Kept (fun j => j = pm ∨ j = B) w w'

theorem row_base {w : World} {b b' m : Nat} {v : Value} {xs : List Value} (h : w.ownsRow b 36 5 v m xs) (hb : b' ≤ b) : w.ownsRow b' 36 5 v m xs := by
  refine ⟨h.1, ?_⟩
  rcases h.2 with h | ⟨g, cap, cur, rfl, h1, h2⟩
  · exact .inl h
  · exact .inr ⟨g, cap, cur, rfl, by omega, h2⟩

theorem info36 : (Try.prog.info? 36).map (fun i => (i.zero, i.size, i.bytes)) = some (some (.agg #[.int .i64 0, .string ⟨#[]⟩, .string ⟨#[]⟩, .string ⟨#[]⟩, .string ⟨#[]⟩]), 5, 72) := by kernel_rfl

set_option maxHeartbeats 2000000 in
theorem add_some (pm B n : Nat) (ks : List Lit) (o t a s : ByteArray) (w : World) (hpm : w.heap[pm]? = some (.cells #[.map (some B)] 26 (0, 0))) (hown : w.ownsMap Try.prog 36 (plainElem Try.prog 3) B n (Dr ks))
    (hK : AllKeys ks) (hn : n ≤ 1000000) (hkl : ks.length ≤ 1000000) (ho : o.size ≤ maxLen) (ht : t.size ≤ maxLen) (ha : a.size ≤ maxLen) :
    Calls Try.prog 16 #[.pointer (some ⟨pm, 0, none⟩), .agg #[.string o, .string t, .string a, .string s]] w fun e w' => ∃ v, e = .returned v ∧ AddPost w w' pm B n ks o t a v := by
  have hc : w.cell? ⟨pm, 0, none⟩ = some (.map (some B)) := by simp [World.cell?, hpm]
  have hf : w.frozen? ⟨pm, 0, none⟩ = false := by simp [World.frozen?, hpm]
  have hlt : pm < w.heap.size := World.block_lt_of_cell? w _ hc
  have hB : B < w.heap.size := hown.lt
  have hne : pm ≠ B := by
    rintro rfl
    obtain ⟨es, clock, h, _⟩ := hown
    rw [hpm] at h
    cases h
  have hq := fun (w : World) (r : Option Nat) => run_eql_map_nil (P := Try.prog) w 24 36 3 r Try.underlying24
  have HO : Hid (w.ownsMap Try.prog 36 (plainElem Try.prog 3) B n (Dr ks)) := hown
  clear hown
  go_enter Try.func16, Try.ntmps16
  go_wp2_with fail
  refine (scopes_row o t a _).mono ?_
  rintro e W1 ⟨q, rfl, hq1, hq0, hsc, hb1⟩
  simp at hq0
  have hpm1 : W1.heap[pm]? = some (.cells #[.map (some B)] 26 (0, 0)) := by
    rw [hb1.block pm (by simp; omega), Below.heap_alloc _ _ _ hlt]; exact hpm
  have hown1 : W1.ownsMap Try.prog 36 (plainElem Try.prog 3) B n (Dr ks) := by
    refine (World.ownsMap.alloc HO.out _).kept (row := none) ⟨hb1.os, hb1.tape, hb1.output, hb1.size, fun k hk _ => hb1.block k hk⟩ (by simp)
  clear hc hf hq
  go_wp2_with fail
  go_loopw [5, 21] (fun j i wr => ∃ k : Nat, k ≤ 3 ∧ i = .int .i64 k ∧ AddRel W1 wr q B n ks o t a j k) (fun _ i _ => 3 - (intOf i).toNat)
  case atStart => exact ⟨0, by omega, rfl, hown1, grown_refl _ _, World.ownsRow_nil _ _ _ _⟩
  case round =>
    obtain ⟨k, hk, rfl, hR⟩ := hrel
    rcases (by omega : k = 0 ∨ k = 1 ∨ k = 2 ∨ k = 3) with rfl | rfl | rfl | rfl
    · have hz := hR.grown.size
      have hpw : wr.heap[pm]? = some (.cells #[.map (some B)] 26 (0, 0)) := (hR.grown.block pm (by omega) (by simpa using hne)).trans hpm1
      have hqw : wr.heap[q]? = some (.cells (row15 o t a) 36 (0, 0)) := (hR.grown.block q (by omega) (by simp; omega)).trans hsc
      have c0 : wr.cell? ⟨q, 0, none⟩ = some (.int .i64 0) := by simp [World.cell?, hqw, row15]
      have c1 : wr.cell? ⟨q, 1, none⟩ = some (.string o) := by simp [World.cell?, hqw, row15]
      have c2 : wr.cell? ⟨q, 2, none⟩ = some (.string nos) := by simp [World.cell?, hqw, row15]
      have c3 : wr.cell? ⟨q, 3, none⟩ = some (.string nos) := by simp [World.cell?, hqw, row15]
      have c4 : wr.cell? ⟨q, 4, none⟩ = some (.string nos) := by simp [World.cell?, hqw, row15]
      have hpr : wr.cell? ⟨pm, 0, none⟩ = some (.map (some B)) := by simp [World.cell?, hpw]
      have hpa : ∀ ob : Obj, (wr.alloc ob).cell? ⟨pm, 0, none⟩ = some (.map (some B)) := fun ob => by rw [World.cell?_alloc_lt _ _ _ (by show pm < _; omega)]; exact hpr
      have hat := Dr_at (keysTo o t a 0 ++ ks) (keyS o t a nos 0) (keysTo_all ks o t a hK 0) (keyS_isKey _ _ _ _ _)
      rw [key_apart ks o t a ho ht ha 0 (by omega)] at hat
      have hnx := Dr_next ks o t a ho ht ha 0 (by omega)
      have hhit := joinL_hit ks o t a 0
      have hmiss := joinL_miss ks o t a 0
      have hcl : ks.countP (·.sameKey (keyS o t a nos 0)) ≤ ks.length := List.countP_le_length
      generalize ks.countP (·.sameKey (keyS o t a nos 0)) = c at *
      have hwf : (Lit.int .i64 ((c : Int) + 1)).wf = true := WalkArith.wf_i64 (by omega)
      obtain ⟨v0, st, W3, W4, l1, m1, l3, s3, l4, own4, g4, z4⟩ := entry_facts (W := (wr.alloc (.cells #[.int .i64 0, .string o, .string nos, .string nos, .string nos] 36)).drew) (World.ownsMap.drew (hR.own.alloc _)) (by unfold maxLen; omega) (keyOf_agg 0 o nos nos nos (by decide) ho nos_le nos_le nos_le) hat hwf
      have p4 : W4.cell? ⟨pm, 0, none⟩ = some (.map (some B)) := by
        have := g4.block pm (by simp; omega) (by simpa using hne)
        rw [World.cell?_of_block this]
        show (wr.alloc _).cell? _ = _
        rw [World.cell?_alloc_lt _ _ _ (by show pm < _; omega)]
        exact hpr
      have x4 : W4.heap[wr.heap.size]? = some (.cells #[.int .i64 0, .string o, .string nos, .string nos, .string nos] 36 (0, 0)) := by
        rw [g4.block wr.heap.size (by simp) (by simp; omega)]
        exact heap_alloc_new wr _
      have y0 : W4.cell? ⟨wr.heap.size, 0, none⟩ = some (.int .i64 0) := by simp [World.cell?, x4]
      have y1 : W4.cell? ⟨wr.heap.size, 1, none⟩ = some (.string o) := by simp [World.cell?, x4]
      have y2 : W4.cell? ⟨wr.heap.size, 2, none⟩ = some (.string nos) := by simp [World.cell?, x4]
      have y3 : W4.cell? ⟨wr.heap.size, 3, none⟩ = some (.string nos) := by simp [World.cell?, x4]
      have y4 : W4.cell? ⟨wr.heap.size, 4, none⟩ = some (.string nos) := by simp [World.cell?, x4]
      have G4 : Hid ((wr.alloc (.cells #[.int .i64 0, .string o, .string nos, .string nos, .string nos] 36)).drew.grownBy W4 (some B)) := g4
      have O4 : Hid (W4.ownsMap Try.prog 36 (plainElem Try.prog 3) B (n + 0 + 1) ((Dr (keysTo o t a 0 ++ ks)).put (keyS o t a nos 0) (.lit (.int .i64 ((c : Int) + 1))))) := own4
      have HN : Hid _ := hnx
      have HH : Hid _ := hhit
      have HM : Hid _ := hmiss
      clear hat hnx hhit hmiss g4 own4 x4 hpw hqw
      go_wp2_with fail
      go_region
      by_cases hc0 : c = 0
      · have hb : (((c : Int) + 1) == 1) = true := beq_iff_eq.2 (by omega)
        have HC : Hid (c = 0) := hc0
        clear hc0
        obtain ⟨i0, hi, hz0, hz1, hz2⟩ := info_parts info36
        go_wp2_with fail
        go_quiet (fail)
        have hrow5 : (W4.drewN nq).ownsRow (q + 1) 36 5 u5 (joinL ks o t a 0).length ((joinL ks o t a 0).flatMap (cellsS o t a)) := row_kept hR.row G4.out (by omega)
        have hgr5 : W1.grownBy (W4.drewN nq) (some B) := grown_two hR.grown G4.out
        have own5 : (W4.drewN nq).ownsMap Try.prog 36 (plainElem Try.prog 3) B (n + 0 + 1) ((Dr (keysTo o t a 0 ++ ks)).put (keyS o t a nos 0) (.lit (.int .i64 ((c : Int) + 1)))) := O4.out
        have z5 : q + 1 ≤ (W4.drewN nq).heap.size := by have := z4; simp at this; show _ ≤ W4.heap.size; omega
        have v0 : (W4.drewN nq).cell? ⟨wr.heap.size, 0, none⟩ = some (.int .i64 0) := y0
        have v1 : (W4.drewN nq).cell? ⟨wr.heap.size, 1, none⟩ = some (.string o) := y1
        have v2 : (W4.drewN nq).cell? ⟨wr.heap.size, 2, none⟩ = some (.string nos) := y2
        have v3 : (W4.drewN nq).cell? ⟨wr.heap.size, 3, none⟩ = some (.string nos) := y3
        have v4 : (W4.drewN nq).cell? ⟨wr.heap.size, 4, none⟩ = some (.string nos) := y4
        have hjl := joinL_le ks o t a 0
        clear p4 y0 y1 y2 y3 y4 z4 l1 m1 l3 s3 l4 c0 c1 c2 c3 c4 hpr hpa
        generalize W4.drewN nq = W5 at *
        clear G4 O4
        go_wp2_with (first
          | (at_builtin; go_must (refine wpList_append_own _ rfl _ _ 41 rfl (q + 1) 36 i0 (.agg #[.int .i64 0, .string ⟨#[]⟩, .string ⟨#[]⟩, .string ⟨#[]⟩, .string ⟨#[]⟩]) 5 72 Try.underlying41 hi hz0 hz1 hz2 rfl (by decide) _ _ _ rfl (hrow5.alloc _) ⟨W5.heap.size, 0, none⟩ 1 1 (cellsS o t a 0) rfl rfl (cell_five_new _ _ _ _ _ _ _) (cellsS_one o t a 0) (by unfold maxLen; omega) (by omega) (by simp; omega) ?_); intro v' w6 hown6 hgrow6 hnil6))
        go_roundw
        case rel => exact ⟨1, by omega, rfl, ⟨HN.out ▸ own_kept own5 hrow5 hgrow6 (by omega), grown_three hgr5 hrow5 hgrow6 (by omega), by rw [HH.out HC.out]; simpa using hown6⟩⟩
        case measure => simp [intOf]
      · have hb : (((c : Int) + 1) == 1) = false := beq_eq_false_iff_ne.2 (by omega)
        have HC : Hid (c ≠ 0) := hc0
        clear hc0
        go_wp2_with fail
        go_quiet (fail)
        have hrow5 : (W4.drewN nq).ownsRow (q + 1) 36 5 u5 (joinL ks o t a 0).length ((joinL ks o t a 0).flatMap (cellsS o t a)) := row_kept hR.row G4.out (by omega)
        have hgr5 : W1.grownBy (W4.drewN nq) (some B) := grown_two hR.grown G4.out
        have own5 : (W4.drewN nq).ownsMap Try.prog 36 (plainElem Try.prog 3) B (n + 0 + 1) ((Dr (keysTo o t a 0 ++ ks)).put (keyS o t a nos 0) (.lit (.int .i64 ((c : Int) + 1)))) := O4.out
        go_wp2_with fail
        go_roundw
        case rel => exact ⟨1, by omega, rfl, ⟨HN.out ▸ own5, hgr5, by rw [HM.out HC.out]; exact hrow5⟩⟩
        case measure => simp [intOf]
    · have hz := hR.grown.size
      have hpw : wr.heap[pm]? = some (.cells #[.map (some B)] 26 (0, 0)) := (hR.grown.block pm (by omega) (by simpa using hne)).trans hpm1
      have hqw : wr.heap[q]? = some (.cells (row15 o t a) 36 (0, 0)) := (hR.grown.block q (by omega) (by simp; omega)).trans hsc
      have c0 : wr.cell? ⟨q, 5, none⟩ = some (.int .i64 1) := by simp [World.cell?, hqw, row15]
      have c1 : wr.cell? ⟨q, 6, none⟩ = some (.string o) := by simp [World.cell?, hqw, row15]
      have c2 : wr.cell? ⟨q, 7, none⟩ = some (.string t) := by simp [World.cell?, hqw, row15]
      have c3 : wr.cell? ⟨q, 8, none⟩ = some (.string nos) := by simp [World.cell?, hqw, row15]
      have c4 : wr.cell? ⟨q, 9, none⟩ = some (.string nos) := by simp [World.cell?, hqw, row15]
      have hpr : wr.cell? ⟨pm, 0, none⟩ = some (.map (some B)) := by simp [World.cell?, hpw]
      have hpa : ∀ ob : Obj, (wr.alloc ob).cell? ⟨pm, 0, none⟩ = some (.map (some B)) := fun ob => by rw [World.cell?_alloc_lt _ _ _ (by show pm < _; omega)]; exact hpr
      have hat := Dr_at (keysTo o t a 1 ++ ks) (keyS o t a nos 1) (keysTo_all ks o t a hK 1) (keyS_isKey _ _ _ _ _)
      rw [key_apart ks o t a ho ht ha 1 (by omega)] at hat
      have hnx := Dr_next ks o t a ho ht ha 1 (by omega)
      have hhit := joinL_hit ks o t a 1
      have hmiss := joinL_miss ks o t a 1
      have hcl : ks.countP (·.sameKey (keyS o t a nos 1)) ≤ ks.length := List.countP_le_length
      generalize ks.countP (·.sameKey (keyS o t a nos 1)) = c at *
      have hwf : (Lit.int .i64 ((c : Int) + 1)).wf = true := WalkArith.wf_i64 (by omega)
      obtain ⟨v0, st, W3, W4, l1, m1, l3, s3, l4, own4, g4, z4⟩ := entry_facts (W := (wr.alloc (.cells #[.int .i64 1, .string o, .string t, .string nos, .string nos] 36)).drew) (World.ownsMap.drew (hR.own.alloc _)) (by unfold maxLen; omega) (keyOf_agg 1 o t nos nos (by decide) ho ht nos_le nos_le) hat hwf
      have p4 : W4.cell? ⟨pm, 0, none⟩ = some (.map (some B)) := by
        have := g4.block pm (by simp; omega) (by simpa using hne)
        rw [World.cell?_of_block this]
        show (wr.alloc _).cell? _ = _
        rw [World.cell?_alloc_lt _ _ _ (by show pm < _; omega)]
        exact hpr
      have x4 : W4.heap[wr.heap.size]? = some (.cells #[.int .i64 1, .string o, .string t, .string nos, .string nos] 36 (0, 0)) := by
        rw [g4.block wr.heap.size (by simp) (by simp; omega)]
        exact heap_alloc_new wr _
      have y0 : W4.cell? ⟨wr.heap.size, 0, none⟩ = some (.int .i64 1) := by simp [World.cell?, x4]
      have y1 : W4.cell? ⟨wr.heap.size, 1, none⟩ = some (.string o) := by simp [World.cell?, x4]
      have y2 : W4.cell? ⟨wr.heap.size, 2, none⟩ = some (.string t) := by simp [World.cell?, x4]
      have y3 : W4.cell? ⟨wr.heap.size, 3, none⟩ = some (.string nos) := by simp [World.cell?, x4]
      have y4 : W4.cell? ⟨wr.heap.size, 4, none⟩ = some (.string nos) := by simp [World.cell?, x4]
      have G4 : Hid ((wr.alloc (.cells #[.int .i64 1, .string o, .string t, .string nos, .string nos] 36)).drew.grownBy W4 (some B)) := g4
      have O4 : Hid (W4.ownsMap Try.prog 36 (plainElem Try.prog 3) B (n + 1 + 1) ((Dr (keysTo o t a 1 ++ ks)).put (keyS o t a nos 1) (.lit (.int .i64 ((c : Int) + 1))))) := own4
      have HN : Hid _ := hnx
      have HH : Hid _ := hhit
      have HM : Hid _ := hmiss
      clear hat hnx hhit hmiss g4 own4 x4 hpw hqw
      go_wp2_with fail
      go_region
      by_cases hc0 : c = 0
      · have hb : (((c : Int) + 1) == 1) = true := beq_iff_eq.2 (by omega)
        have HC : Hid (c = 0) := hc0
        clear hc0
        obtain ⟨i0, hi, hz0, hz1, hz2⟩ := info_parts info36
        go_wp2_with fail
        go_quiet (fail)
        have hrow5 : (W4.drewN nq).ownsRow (q + 1) 36 5 u5 (joinL ks o t a 1).length ((joinL ks o t a 1).flatMap (cellsS o t a)) := row_kept hR.row G4.out (by omega)
        have hgr5 : W1.grownBy (W4.drewN nq) (some B) := grown_two hR.grown G4.out
        have own5 : (W4.drewN nq).ownsMap Try.prog 36 (plainElem Try.prog 3) B (n + 1 + 1) ((Dr (keysTo o t a 1 ++ ks)).put (keyS o t a nos 1) (.lit (.int .i64 ((c : Int) + 1)))) := O4.out
        have z5 : q + 1 ≤ (W4.drewN nq).heap.size := by have := z4; simp at this; show _ ≤ W4.heap.size; omega
        have v0 : (W4.drewN nq).cell? ⟨wr.heap.size, 0, none⟩ = some (.int .i64 1) := y0
        have v1 : (W4.drewN nq).cell? ⟨wr.heap.size, 1, none⟩ = some (.string o) := y1
        have v2 : (W4.drewN nq).cell? ⟨wr.heap.size, 2, none⟩ = some (.string t) := y2
        have v3 : (W4.drewN nq).cell? ⟨wr.heap.size, 3, none⟩ = some (.string nos) := y3
        have v4 : (W4.drewN nq).cell? ⟨wr.heap.size, 4, none⟩ = some (.string nos) := y4
        have hjl := joinL_le ks o t a 1
        clear p4 y0 y1 y2 y3 y4 z4 l1 m1 l3 s3 l4 c0 c1 c2 c3 c4 hpr hpa
        generalize W4.drewN nq = W5 at *
        clear G4 O4
        go_wp2_with (first
          | (at_builtin; go_must (refine wpList_append_own _ rfl _ _ 41 rfl (q + 1) 36 i0 (.agg #[.int .i64 0, .string ⟨#[]⟩, .string ⟨#[]⟩, .string ⟨#[]⟩, .string ⟨#[]⟩]) 5 72 Try.underlying41 hi hz0 hz1 hz2 rfl (by decide) _ _ _ rfl (hrow5.alloc _) ⟨W5.heap.size, 0, none⟩ 1 1 (cellsS o t a 1) rfl rfl (cell_five_new _ _ _ _ _ _ _) (cellsS_one o t a 1) (by unfold maxLen; omega) (by omega) (by simp; omega) ?_); intro v' w6 hown6 hgrow6 hnil6))
        go_roundw
        case rel => exact ⟨2, by omega, rfl, ⟨HN.out ▸ own_kept own5 hrow5 hgrow6 (by omega), grown_three hgr5 hrow5 hgrow6 (by omega), by rw [HH.out HC.out]; simpa using hown6⟩⟩
        case measure => simp [intOf]
      · have hb : (((c : Int) + 1) == 1) = false := beq_eq_false_iff_ne.2 (by omega)
        have HC : Hid (c ≠ 0) := hc0
        clear hc0
        go_wp2_with fail
        go_quiet (fail)
        have hrow5 : (W4.drewN nq).ownsRow (q + 1) 36 5 u5 (joinL ks o t a 1).length ((joinL ks o t a 1).flatMap (cellsS o t a)) := row_kept hR.row G4.out (by omega)
        have hgr5 : W1.grownBy (W4.drewN nq) (some B) := grown_two hR.grown G4.out
        have own5 : (W4.drewN nq).ownsMap Try.prog 36 (plainElem Try.prog 3) B (n + 1 + 1) ((Dr (keysTo o t a 1 ++ ks)).put (keyS o t a nos 1) (.lit (.int .i64 ((c : Int) + 1)))) := O4.out
        go_wp2_with fail
        go_roundw
        case rel => exact ⟨2, by omega, rfl, ⟨HN.out ▸ own5, hgr5, by rw [HM.out HC.out]; exact hrow5⟩⟩
        case measure => simp [intOf]
    · have hz := hR.grown.size
      have hpw : wr.heap[pm]? = some (.cells #[.map (some B)] 26 (0, 0)) := (hR.grown.block pm (by omega) (by simpa using hne)).trans hpm1
      have hqw : wr.heap[q]? = some (.cells (row15 o t a) 36 (0, 0)) := (hR.grown.block q (by omega) (by simp; omega)).trans hsc
      have c0 : wr.cell? ⟨q, 10, none⟩ = some (.int .i64 2) := by simp [World.cell?, hqw, row15]
      have c1 : wr.cell? ⟨q, 11, none⟩ = some (.string o) := by simp [World.cell?, hqw, row15]
      have c2 : wr.cell? ⟨q, 12, none⟩ = some (.string t) := by simp [World.cell?, hqw, row15]
      have c3 : wr.cell? ⟨q, 13, none⟩ = some (.string a) := by simp [World.cell?, hqw, row15]
      have c4 : wr.cell? ⟨q, 14, none⟩ = some (.string nos) := by simp [World.cell?, hqw, row15]
      have hpr : wr.cell? ⟨pm, 0, none⟩ = some (.map (some B)) := by simp [World.cell?, hpw]
      have hpa : ∀ ob : Obj, (wr.alloc ob).cell? ⟨pm, 0, none⟩ = some (.map (some B)) := fun ob => by rw [World.cell?_alloc_lt _ _ _ (by show pm < _; omega)]; exact hpr
      have hat := Dr_at (keysTo o t a 2 ++ ks) (keyS o t a nos 2) (keysTo_all ks o t a hK 2) (keyS_isKey _ _ _ _ _)
      rw [key_apart ks o t a ho ht ha 2 (by omega)] at hat
      have hnx := Dr_next ks o t a ho ht ha 2 (by omega)
      have hhit := joinL_hit ks o t a 2
      have hmiss := joinL_miss ks o t a 2
      have hcl : ks.countP (·.sameKey (keyS o t a nos 2)) ≤ ks.length := List.countP_le_length
      generalize ks.countP (·.sameKey (keyS o t a nos 2)) = c at *
      have hwf : (Lit.int .i64 ((c : Int) + 1)).wf = true := WalkArith.wf_i64 (by omega)
      obtain ⟨v0, st, W3, W4, l1, m1, l3, s3, l4, own4, g4, z4⟩ := entry_facts (W := (wr.alloc (.cells #[.int .i64 2, .string o, .string t, .string a, .string nos] 36)).drew) (World.ownsMap.drew (hR.own.alloc _)) (by unfold maxLen; omega) (keyOf_agg 2 o t a nos (by decide) ho ht ha nos_le) hat hwf
      have p4 : W4.cell? ⟨pm, 0, none⟩ = some (.map (some B)) := by
        have := g4.block pm (by simp; omega) (by simpa using hne)
        rw [World.cell?_of_block this]
        show (wr.alloc _).cell? _ = _
        rw [World.cell?_alloc_lt _ _ _ (by show pm < _; omega)]
        exact hpr
      have x4 : W4.heap[wr.heap.size]? = some (.cells #[.int .i64 2, .string o, .string t, .string a, .string nos] 36 (0, 0)) := by
        rw [g4.block wr.heap.size (by simp) (by simp; omega)]
        exact heap_alloc_new wr _
      have y0 : W4.cell? ⟨wr.heap.size, 0, none⟩ = some (.int .i64 2) := by simp [World.cell?, x4]
      have y1 : W4.cell? ⟨wr.heap.size, 1, none⟩ = some (.string o) := by simp [World.cell?, x4]
      have y2 : W4.cell? ⟨wr.heap.size, 2, none⟩ = some (.string t) := by simp [World.cell?, x4]
      have y3 : W4.cell? ⟨wr.heap.size, 3, none⟩ = some (.string a) := by simp [World.cell?, x4]
      have y4 : W4.cell? ⟨wr.heap.size, 4, none⟩ = some (.string nos) := by simp [World.cell?, x4]
      have G4 : Hid ((wr.alloc (.cells #[.int .i64 2, .string o, .string t, .string a, .string nos] 36)).drew.grownBy W4 (some B)) := g4
      have O4 : Hid (W4.ownsMap Try.prog 36 (plainElem Try.prog 3) B (n + 2 + 1) ((Dr (keysTo o t a 2 ++ ks)).put (keyS o t a nos 2) (.lit (.int .i64 ((c : Int) + 1))))) := own4
      have HN : Hid _ := hnx
      have HH : Hid _ := hhit
      have HM : Hid _ := hmiss
      clear hat hnx hhit hmiss g4 own4 x4 hpw hqw
      go_wp2_with fail
      go_region
      by_cases hc0 : c = 0
      · have hb : (((c : Int) + 1) == 1) = true := beq_iff_eq.2 (by omega)
        have HC : Hid (c = 0) := hc0
        clear hc0
        obtain ⟨i0, hi, hz0, hz1, hz2⟩ := info_parts info36
        go_wp2_with fail
        go_quiet (fail)
        have hrow5 : (W4.drewN nq).ownsRow (q + 1) 36 5 u5 (joinL ks o t a 2).length ((joinL ks o t a 2).flatMap (cellsS o t a)) := row_kept hR.row G4.out (by omega)
        have hgr5 : W1.grownBy (W4.drewN nq) (some B) := grown_two hR.grown G4.out
        have own5 : (W4.drewN nq).ownsMap Try.prog 36 (plainElem Try.prog 3) B (n + 2 + 1) ((Dr (keysTo o t a 2 ++ ks)).put (keyS o t a nos 2) (.lit (.int .i64 ((c : Int) + 1)))) := O4.out
        have z5 : q + 1 ≤ (W4.drewN nq).heap.size := by have := z4; simp at this; show _ ≤ W4.heap.size; omega
        have v0 : (W4.drewN nq).cell? ⟨wr.heap.size, 0, none⟩ = some (.int .i64 2) := y0
        have v1 : (W4.drewN nq).cell? ⟨wr.heap.size, 1, none⟩ = some (.string o) := y1
        have v2 : (W4.drewN nq).cell? ⟨wr.heap.size, 2, none⟩ = some (.string t) := y2
        have v3 : (W4.drewN nq).cell? ⟨wr.heap.size, 3, none⟩ = some (.string a) := y3
        have v4 : (W4.drewN nq).cell? ⟨wr.heap.size, 4, none⟩ = some (.string nos) := y4
        have hjl := joinL_le ks o t a 2
        clear p4 y0 y1 y2 y3 y4 z4 l1 m1 l3 s3 l4 c0 c1 c2 c3 c4 hpr hpa
        generalize W4.drewN nq = W5 at *
        clear G4 O4
        go_wp2_with (first
          | (at_builtin; go_must (refine wpList_append_own _ rfl _ _ 41 rfl (q + 1) 36 i0 (.agg #[.int .i64 0, .string ⟨#[]⟩, .string ⟨#[]⟩, .string ⟨#[]⟩, .string ⟨#[]⟩]) 5 72 Try.underlying41 hi hz0 hz1 hz2 rfl (by decide) _ _ _ rfl (hrow5.alloc _) ⟨W5.heap.size, 0, none⟩ 1 1 (cellsS o t a 2) rfl rfl (cell_five_new _ _ _ _ _ _ _) (cellsS_one o t a 2) (by unfold maxLen; omega) (by omega) (by simp; omega) ?_); intro v' w6 hown6 hgrow6 hnil6))
        go_roundw
        case rel => exact ⟨3, by omega, rfl, ⟨HN.out ▸ own_kept own5 hrow5 hgrow6 (by omega), grown_three hgr5 hrow5 hgrow6 (by omega), by rw [HH.out HC.out]; simpa using hown6⟩⟩
        case measure => simp [intOf]
      · have hb : (((c : Int) + 1) == 1) = false := beq_eq_false_iff_ne.2 (by omega)
        have HC : Hid (c ≠ 0) := hc0
        clear hc0
        go_wp2_with fail
        go_quiet (fail)
        have hrow5 : (W4.drewN nq).ownsRow (q + 1) 36 5 u5 (joinL ks o t a 2).length ((joinL ks o t a 2).flatMap (cellsS o t a)) := row_kept hR.row G4.out (by omega)
        have hgr5 : W1.grownBy (W4.drewN nq) (some B) := grown_two hR.grown G4.out
        have own5 : (W4.drewN nq).ownsMap Try.prog 36 (plainElem Try.prog 3) B (n + 2 + 1) ((Dr (keysTo o t a 2 ++ ks)).put (keyS o t a nos 2) (.lit (.int .i64 ((c : Int) + 1)))) := O4.out
        go_wp2_with fail
        go_roundw
        case rel => exact ⟨3, by omega, rfl, ⟨HN.out ▸ own5, hgr5, by rw [HM.out HC.out]; exact hrow5⟩⟩
        case measure => simp [intOf]
    · go_wp2_with fail
      go_ret
      refine ⟨_, rfl, (hR.grown.block pm (by omega) (by simpa using hne)).trans hpm1, hR.own, row_base hR.row (by omega), ?_⟩
      refine ⟨hR.grown.os.trans hb1.os, hR.grown.tape.trans hb1.tape, hR.grown.output.trans hb1.output, by have := hR.grown.size; omega, fun j hj hS => ?_⟩
      have hjB : some j ≠ some B := fun e => hS (Or.inr (Option.some.inj e))
      rw [hR.grown.block j (by omega) hjB, hb1.block j (by simp; omega), Below.heap_alloc _ _ _ hj]

end Go.Proofs.Qxb6628583a
