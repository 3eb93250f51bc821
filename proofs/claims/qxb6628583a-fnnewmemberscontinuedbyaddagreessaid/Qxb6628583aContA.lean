import Derived.Test.Qxb6628583aZero
import Derived.Laws.StructEq
import Derived.Lib.SmallJoins
namespace Go.Proofs.Qxb6628583a
open Go.RowKit Go.Maps

/-- A scope's five cells: its kind, and four names. -/
theorem scope_form (o t a s : ByteArray) (k : Nat) (hk : k < 3) : ∃ s1 s2 s3 s4 : ByteArray, scope o t a s k = .agg #[.int .i64 (k : Int), .string s1, .string s2, .string s3, .string s4] ∧ cellsS o t a k = [.int .i64 (k : Int), .string s1, .string s2, .string s3, .string s4] := by
  rcases (by omega : k = 0 ∨ k = 1 ∨ k = 2) with rfl | rfl | rfl
  · exact ⟨_, _, _, _, rfl, rfl⟩
  · exact ⟨_, _, _, _, rfl, rfl⟩
  · exact ⟨_, _, _, _, rfl, rfl⟩

theorem distinct_join (ks : List Lit) (o t a : ByteArray) (ho : o.size ≤ maxLen) (ht : t.size ≤ maxLen) (ha : a.size ≤ maxLen) : ∀ k, k ≤ 3 → distinct (keysTo o t a k ++ ks) = distinct ks + (joinL ks o t a k).length
  | 0, _ => by simp [keysTo, joinL]
  | k + 1, hk => by
    have ih := distinct_join ks o t a ho ht ha k (by omega)
    have e : keysTo o t a (k + 1) ++ ks = keyS o t a nos k :: (keysTo o t a k ++ ks) := by
      rcases (by omega : k = 0 ∨ k = 1 ∨ k = 2) with rfl | rfl | rfl <;> rfl
    have ka := key_apart ks o t a ho ht ha k (by omega)
    rw [e, distinct, any_countP, ka]
    by_cases h : ks.countP (·.sameKey (keyS o t a nos k)) = 0
    · rw [joinL_hit ks o t a k h, if_neg (by rw [h]; simp), ih, List.length_append, List.length_singleton]
      omega
    · rw [joinL_miss ks o t a k h, if_pos (decide_eq_true (by omega)), ih]

/-- The scope number j of those that joined. -/
theorem join_cells (ks : List Lit) (o t a : ByteArray) (j : Nat) (hj : j < (joinL ks o t a 3).length) : ∃ (l : Nat) (s1 s2 s3 s4 : ByteArray), ∀ r, r < 5 → ((joinL ks o t a 3).flatMap (cellsS o t a))[j * 5 + r]? = [Value.int .i64 (l : Int), .string s1, .string s2, .string s3, .string s4][r]? := by
  have h3 : ∀ l ∈ joinL ks o t a 3, l < 3 := fun l hl => by
    unfold joinL at hl
    have := (List.mem_filter.1 hl).1
    simpa using this
  generalize joinL ks o t a 3 = L at *
  have hl := h3 _ (List.getElem_mem hj)
  obtain ⟨s1, s2, s3, s4, hs', hc⟩ := scope_form o t a nos L[j] hl
  refine ⟨L[j], s1, s2, s3, s4, fun r hr => ?_⟩
  have hlen : ∀ l ∈ L, (cellsS o t a l).length = 5 := fun l hl' => by
    obtain ⟨_, _, _, _, _, h⟩ := scope_form o t a nos l (h3 l hl')
    rw [h]; rfl
  rw [← hc]
  clear hs' hc hl h3
  induction L generalizing j with
  | nil => simp at hj
  | cons x r' ih =>
    have h5 := hlen x (by simp)
    match j with
    | 0 => simp [List.getElem?_append_left (show r < (cellsS o t a x).length by omega)]
    | j + 1 =>
      rw [List.flatMap_cons, List.getElem?_append_right (by omega), show (j + 1) * 5 + r - (cellsS o t a x).length = j * 5 + r from by omega]
      simpa using ih j (by simpa using hj) (fun l h => hlen l (by simp [h]))

/-- A row that is owned, opened. -/
theorem row_open {w : World} {base n : Nat} {v : Value} {xs : List Value} (h : w.ownsRow base 36 5 v n xs) : ∃ a cap, v = .slice a n cap ∧ ∀ j, j < n → ∃ g, a = some ⟨g, 0, none⟩ ∧ base ≤ g ∧ g < w.heap.size ∧ ∀ i, i < n * 5 → w.cell? ⟨g, i, none⟩ = xs[i]? := by
  rcases Go.Joins.ownsRow_forms h with ⟨rfl, rfl⟩ | ⟨g, cap, rfl⟩
  · exact ⟨none, 0, rfl, fun j hj => by omega⟩
  · exact ⟨_, cap, rfl, fun j hj => ⟨g, rfl, (h.lt g rfl).1, (h.lt g rfl).2, fun i hi => h.cellAt i hi⟩⟩

theorem grown_of_below {w w' : World} (h : Below w.heap.size w w') : w.grownBy w' none := ⟨h.os, h.tape, h.output, h.size, fun k hk _ => h.block k hk⟩
theorem row_below {w w' : World} {base n : Nat} {v : Value} {xs : List Value} (h : w.ownsRow base 36 5 v n xs) (hb : Below w.heap.size w w') : w'.ownsRow base 36 5 v n xs := by
  refine h.kept (grown_of_below hb) ?_
  cases v.ownBlock with
  | none => exact .inl rfl
  | some _ => exact .inr (by simp)

set_option maxHeartbeats 400000 in
theorem zzadd_any (pm : Nat) (mv : Option Nat) (n : Nat) (ks : List Lit) (o t a s : ByteArray) (w : World) (hpm : w.heap[pm]? = some (.cells #[.map mv] 26 (0, 0))) (hm : MapAt w mv n ks)
    (hn : n ≤ 1000000) (hkl : ks.length ≤ 1000000) (ho : o.size ≤ maxLen) (ht : t.size ≤ maxLen) (ha : a.size ≤ maxLen) :
    Calls Try.prog 15 #[.pointer (some ⟨pm, 0, none⟩), .agg #[.string o, .string t, .string a, .string s]] w fun e w' => ∃ v B, e = .returned v ∧ (mv = some B ∨ (mv = none ∧ w.heap.size ≤ B)) ∧ AddPost w w' pm B n ks o t a v := by
  have HP : Hid (w.heap[pm]? = some (.cells #[.map mv] 26 (0, 0))) := hpm
  have HM : Hid (MapAt w mv n ks) := hm
  have hps : pm < w.heap.size := (Array.getElem?_eq_some_iff.1 hpm).1
  clear hpm hm
  go_enter Try.func15, Try.ntmps15
  go_wp2_with fail
  refine (add_any pm mv n ks o t a s _ ?_ ?_ hn hkl ho ht ha).mono ?_
  · rw [Below.heap_alloc _ _ _ hps]; exact HP.out
  · exact MapAt.in_below HM.out ((Below.refl _ w).alloc (Nat.le_refl _) _)
  rintro e w2 ⟨v, B, rfl, hB, hP⟩
  go_wp2_with fail
  go_ret
  refine ⟨v, B, rfl, ?_, hP.ptr, hP.own, row_base hP.row (by simp), ?_⟩
  · rcases hB with h | ⟨h, h'⟩
    · exact .inl h
    · simp at h'
      exact .inr ⟨h, by omega⟩
  · have hz := hP.kept.size
    simp at hz
    exact ⟨hP.kept.os, hP.kept.tape, hP.kept.output, by omega, fun k hk hs => by rw [hP.kept.block k (by simp; omega) hs, Below.heap_alloc _ _ _ hk]⟩
end Go.Proofs.Qxb6628583a
