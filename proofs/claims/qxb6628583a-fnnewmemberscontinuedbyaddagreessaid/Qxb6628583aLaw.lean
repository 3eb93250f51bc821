import Derived.Test.Qxb6628583aBig
namespace Go.Proofs.Qxb6628583a
open Go.RowKit Go.Maps

theorem ba_ext {a b : ByteArray} (h : a.data.toList = b.data.toList) : a = b := by
  cases a; cases b
  exact congrArg ByteArray.mk (Array.toList_inj.1 h)
theorem toList_iff (a b : ByteArray) : a.toList = b.toList ↔ a = b := by
  rw [ByteArray.toList_eq, ByteArray.toList_eq]
  exact ⟨ba_ext, fun h => by rw [h]⟩

/-- Do two spenders name the same member at the kind k? -/
def sameP (p q : Sp) (k : Nat) : Bool := same p.o p.t p.a q.o q.t q.a k

theorem sameP_iff (p q : Sp) (hp : p.ok) (hq : q.ok) (k : Nat) (hk : k < 3) : sameP p q k = true ↔ keyS q.o q.t q.a nos k = keyS p.o p.t p.a p.s k := by
  have n0 := nos_le
  unfold sameP same
  simp only [Bool.and_eq_true, Bool.or_eq_true, beq_iff_eq, toList_iff]
  rcases (by omega : k = 0 ∨ k = 1 ∨ k = 2) with rfl | rfl | rfl
  · constructor
    · rintro ⟨h, _⟩; simp only [keyS, h]
    · intro h
      exact ⟨(keyL_inj (by decide) hq.1 n0 n0 n0 (by decide) hp.1 n0 n0 n0 h).2.1.symm, Or.inl rfl⟩
  · constructor
    · rintro ⟨h, h' | ⟨h', _⟩⟩
      · cases h'
      · simp only [keyS, h, h']
    · intro h
      have := keyL_inj (by decide) hq.1 hq.2.1 n0 n0 (by decide) hp.1 hp.2.1 n0 n0 h
      exact ⟨this.2.1.symm, Or.inr ⟨this.2.2.1.symm, Or.inl rfl⟩⟩
  · constructor
    · rintro ⟨h, h' | ⟨h', h'' | h''⟩⟩
      · cases h'
      · cases h''
      · simp only [keyS, h, h', h'']
    · intro h
      have := keyL_inj (by decide) hq.1 hq.2.1 hq.2.2.1 n0 (by decide) hp.1 hp.2.1 hp.2.2.1 n0 h
      exact ⟨this.2.1.symm, Or.inr ⟨this.2.2.1.symm, Or.inr this.2.2.2.1.symm⟩⟩

theorem sameKey_iff {a b : Lit} (hb : WideAt.IsKeyLit b) : a.sameKey b = true ↔ a = b :=
  ⟨WideAt.sameKey_eq, fun h => by rw [h]; exact WideAt.sameKey_self hb⟩

theorem keyS_kind (p q : Sp) (hp : p.ok) (hq : q.ok) (j k : Nat) (hj : j < 4) (hk : k < 4) (h : keyS q.o q.t q.a q.s j = keyS p.o p.t p.a p.s k) : j = k := by
  have n0 := nos_le
  rcases (by omega : j = 0 ∨ j = 1 ∨ j = 2 ∨ j = 3) with rfl | rfl | rfl | rfl <;> rcases (by omega : k = 0 ∨ k = 1 ∨ k = 2 ∨ k = 3) with rfl | rfl | rfl | rfl
  all_goals first
    | rfl
    | (exfalso
       have := (keyL_inj (by decide) hq.1 (by first | exact n0 | exact hq.2.1) (by first | exact n0 | exact hq.2.2.1) (by first | exact n0 | exact hq.2.2.2) (by decide) hp.1 (by first | exact n0 | exact hp.2.1) (by first | exact n0 | exact hp.2.2.1) (by first | exact n0 | exact hp.2.2.2) h).1
       revert this
       decide)

theorem keyS_nos (q : Sp) (k : Nat) (hk : k < 3) : keyS q.o q.t q.a nos k = keyS q.o q.t q.a q.s k := by
  rcases (by omega : k = 0 ∨ k = 1 ∨ k = 2) with rfl | rfl | rfl <;> rfl

/-- A spender's own three keys, held against the key of kind k of another. -/
theorem keysTo_count (p q : Sp) (hp : p.ok) (hq : q.ok) (k : Nat) (hk : k < 4) :
    (keysTo q.o q.t q.a 3).countP (·.sameKey (keyS p.o p.t p.a p.s k)) = if k < 3 ∧ sameP p q k = true then 1 else 0 := by
  have hK := keyS_isKey p.o p.t p.a p.s k
  have one : ∀ j, j < 3 → (keyS q.o q.t q.a nos j).sameKey (keyS p.o p.t p.a p.s k) = decide (j = k ∧ sameP p q k = true) := fun j hj => by
    rw [Bool.eq_iff_iff, sameKey_iff hK, decide_eq_true_iff]
    constructor
    · intro h
      have e := keyS_kind p q hp hq j k (by omega) hk (by rw [← keyS_nos q j hj]; exact h)
      subst e
      exact ⟨rfl, (sameP_iff p q hp hq j hj).2 h⟩
    · rintro ⟨rfl, h⟩
      exact (sameP_iff p q hp hq j hj).1 h
  have h0 := one 0 (by omega)
  have h1 := one 1 (by omega)
  have h2 := one 2 (by omega)
  simp only [keysTo, List.countP_cons, List.countP_nil, h0, h1, h2]
  rcases (by omega : k = 0 ∨ k = 1 ∨ k = 2 ∨ k = 3) with rfl | rfl | rfl | rfl <;> cases sameP p q _ <;> simp

theorem keysOf_count (p : Sp) (hp : p.ok) (k : Nat) (hk : k < 4) : ∀ (xs : List Sp) (ks : List Lit), (∀ q ∈ xs, q.ok) → (xs.foldl (fun ks p => keysTo p.o p.t p.a 3 ++ ks) ks).countP (·.sameKey (keyS p.o p.t p.a p.s k)) = ks.countP (·.sameKey (keyS p.o p.t p.a p.s k)) + xs.countP (fun q => decide (k < 3) && sameP p q k)
  | [], ks, _ => by simp
  | q :: r, ks, h => by
    rw [List.foldl_cons, keysOf_count p hp k hk r _ (fun x hx => h x (by simp [hx])), List.countP_append, keysTo_count p q hp (h q (by simp)) k hk, List.countP_cons]
    by_cases h3 : k < 3 <;> cases sameP p q k <;> simp [h3] <;> omega

theorem count_same (p : Sp) (hp : p.ok) (k : Nat) (hk : k < 3) (xs : List Sp) (h : ∀ q ∈ xs, q.ok) : (keysOf xs).countP (·.sameKey (keyS p.o p.t p.a p.s k)) = xs.countP (fun q => sameP p q k) := by
  have := keysOf_count p hp k (by omega) xs [] h
  simpa [keysOf, hk] using this
theorem count_sandbox (p : Sp) (hp : p.ok) (xs : List Sp) (h : ∀ q ∈ xs, q.ok) : (keysOf xs).countP (·.sameKey (keyS p.o p.t p.a p.s 3)) = 0 := by
  have := keysOf_count p hp 3 (by omega) xs [] h
  simpa [keysOf] using this

theorem any_countP {α : Type} (f : α → Bool) (l : List α) : l.any f = decide (0 < l.countP f) := by
  rw [Bool.eq_iff_iff, List.any_eq_true, decide_eq_true_iff, List.countP_pos_iff]

/-- One scope more: it is new just if nobody named it before. -/
theorem distinct_next (p : Sp) (hp : p.ok) (xs : List Sp) (h : ∀ q ∈ xs, q.ok) (k : Nat) (hk : k < 3) :
    distinct (keysTo p.o p.t p.a (k + 1) ++ keysOf xs) = if xs.any (fun q => sameP p q k) then distinct (keysTo p.o p.t p.a k ++ keysOf xs) else distinct (keysTo p.o p.t p.a k ++ keysOf xs) + 1 := by
  have e : keysTo p.o p.t p.a (k + 1) ++ keysOf xs = keyS p.o p.t p.a nos k :: (keysTo p.o p.t p.a k ++ keysOf xs) := by
    rcases (by omega : k = 0 ∨ k = 1 ∨ k = 2) with rfl | rfl | rfl <;> rfl
  rw [e, distinct, any_countP, key_apart _ _ _ _ hp.1 hp.2.1 hp.2.2.1 k hk, keyS_nos p k hk, count_same p hp k hk xs h, ← any_countP]
end Go.Proofs.Qxb6628583a
