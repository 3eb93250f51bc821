import Derived.Test.Qxb6628583aKeys
namespace Go.Proofs.Qxb6628583a
open Go.RowKit Go.Maps

/-- The map value 'mv' holds the keys 'ks' (nil: none). -/
def MapAt (w : World) (mv : Option Nat) (n : Nat) (ks : List Lit) : Prop :=
  AllKeys ks ∧ ((mv = none ∧ ks = []) ∨ ∃ B, mv = some B ∧ w.ownsMap Try.prog 36 (plainElem Try.prog 3) B n (Dr ks))

theorem MapAt.below {w w' : World} {mv : Option Nat} {n : Nat} {ks : List Lit} (h : MapAt w mv n ks) (hb : ∀ B, mv = some B → w'.heap[B]? = w.heap[B]?) : MapAt w' mv n ks := by
  obtain ⟨hk, h⟩ := h
  refine ⟨hk, ?_⟩
  rcases h with h | ⟨B, rfl, es, clock, h1, h2⟩
  · exact .inl h
  · exact .inr ⟨B, rfl, es, clock, (hb B rfl).trans h1, h2⟩

theorem MapAt.lt {w : World} {mv : Option Nat} {n : Nat} {ks : List Lit} (h : MapAt w mv n ks) : ∀ B, mv = some B → B < w.heap.size := by
  rintro B rfl
  rcases h.2 with ⟨h, _⟩ | ⟨B', e, h⟩
  · cases h
  · cases e; exact h.lt

theorem MapAt.in_below {w w' : World} {mv : Option Nat} {n : Nat} {ks : List Lit} (h : MapAt w mv n ks) (hb : Below w.heap.size w w') : MapAt w' mv n ks :=
  h.below fun B hB => hb.block B (h.lt B hB)

set_option maxHeartbeats 400000 in
theorem count_raw (mv : Option Nat) (n : Nat) (ks : List Lit) (k : Int) (o t a s : ByteArray) (w : World) (hm : MapAt w mv n ks) (hk : (Lit.int .i64 k).wf = true) (ho : o.size ≤ maxLen) (ht : t.size ≤ maxLen) (ha : a.size ≤ maxLen) (hs : s.size ≤ maxLen) :
    Calls Try.prog 10 #[.agg #[.map mv], .agg #[.int .i64 k, .string o, .string t, .string a, .string s]] w fun e w' => e = .returned (.int .i64 ((ks.countP (·.sameKey (keyL k o t a s)) : Nat) : Int)) ∧ Below w.heap.size w w' := by
  have hkey := keyOf_agg k o t a s hk ho ht ha hs
  obtain ⟨hK, hm⟩ := hm
  rcases hm with ⟨rfl, rfl⟩ | ⟨B, rfl, hown⟩
  · have hl := fun w => Maps.look_nil (w := w) (P := Try.prog) (t := 24) (e := 3) false law Try.underlying24 (zeroE w) hkey
    clear hkey hk ho ht ha hs
    go_enter Try.func10, Try.ntmps10
    go_wp2
    go_ret
    exact ⟨rfl, ((Below.refl _ w).alloc (Nat.le_refl _) _).alloc (by simp) _⟩
  · have hl := fun (x y : Obj) => (((hown.alloc x).alloc y).lookup_int law Try.underlying24 Try.underlying3 (zeroE _) hkey)
    have hat := Dr_at ks (keyL k o t a s) hK (keyL_isKey _ _ _ _ _)
    have hrun : ∀ x y, (Instr.lookup 24 (.map (some B)) (.agg #[.int .i64 k, .string o, .string t, .string a, .string s]) false).run Try.prog ((w.alloc x).alloc y) = .ok (.int .i64 ((ks.countP (·.sameKey (keyL k o t a s)) : Nat) : Int)) ((w.alloc x).alloc y) := fun x y => by
      obtain ⟨c, h1, h2, _⟩ := hl x y
      rw [hat] at h2
      rw [h1]
      have : (((ks.countP (·.sameKey (keyL k o t a s)) : Nat) : Int)) = c := by
        have := h2
        injection this with this
        injection this
      rw [this]
    clear hl hat hkey hk ho ht ha hs hown hK
    generalize ((ks.countP (·.sameKey (keyL k o t a s)) : Nat) : Int) = c at *
    go_enter Try.func10, Try.ntmps10
    go_wp2
    go_ret
    exact ⟨rfl, ((Below.refl _ w).alloc (Nat.le_refl _) _).alloc (by simp) _⟩

/-- The key of the scope of kind k. -/
def keyS (o t a s : ByteArray) : Nat → Lit
  | 0 => keyL 0 o nos nos nos
  | 1 => keyL 1 o t nos nos
  | 2 => keyL 2 o t a nos
  | _ => keyL 3 o nos nos s

theorem nos_le : nos.size ≤ maxLen := by decide

theorem count_any (mv : Option Nat) (n : Nat) (ks : List Lit) (o t a s : ByteArray) (k : Nat) (w : World) (hm : MapAt w mv n ks) (ho : o.size ≤ maxLen) (ht : t.size ≤ maxLen) (ha : a.size ≤ maxLen) (hs : s.size ≤ maxLen) :
    Calls Try.prog 10 #[.agg #[.map mv], scope o t a s k] w fun e w' => e = .returned (.int .i64 ((ks.countP (·.sameKey (keyS o t a s k)) : Nat) : Int)) ∧ Below w.heap.size w w' := by
  match k with
  | 0 => exact count_raw mv n ks 0 o nos nos nos w hm (by decide) ho nos_le nos_le nos_le
  | 1 => exact count_raw mv n ks 1 o t nos nos w hm (by decide) ho ht nos_le nos_le
  | 2 => exact count_raw mv n ks 2 o t a nos w hm (by decide) ho ht ha nos_le
  | _ + 3 => exact count_raw mv n ks 3 o nos nos s w hm (by decide) ho nos_le nos_le hs

set_option maxHeartbeats 400000 in
theorem len_any (mv : Option Nat) (n : Nat) (ks : List Lit) (w : World) (hm : MapAt w mv n ks) :
    Calls Try.prog 13 #[.agg #[.map mv]] w fun e w' => e = .returned (.int .i64 (distinct ks : Int)) ∧ Below w.heap.size w w' := by
  obtain ⟨hK, hm⟩ := hm
  rcases hm with ⟨rfl, rfl⟩ | ⟨B, rfl, hown⟩
  · have hl := fun w ty => Maps.len_nil (w := w) (P := Try.prog) (t := 24) (k := 36) (e := 3) Try.underlying24 ty
    go_enter Try.func13, Try.ntmps13
    go_wp2
    go_ret
    exact ⟨rfl, (Below.refl _ w).alloc (Nat.le_refl _) _⟩
  · have hl := fun (x : Obj) ty => (hown.alloc x).len (t := 24) (e := 3) Try.underlying24 ty
    rw [Dr_size ks hK] at hl
    clear hown hK
    generalize distinct ks = c at *
    go_enter Try.func13, Try.ntmps13
    go_wp2
    go_ret
    exact ⟨rfl, (Below.refl _ w).alloc (Nat.le_refl _) _⟩
end Go.Proofs.Qxb6628583a
