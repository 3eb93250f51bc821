import Derived.Test.Qxb6628583aRows
import Derived.WalkKit
import Derived.WalkSpells
import Derived.WalkLawsBesides
namespace Go.Proofs.Qxb6628583a
open Go.RowKit

/-- The empty string. -/
def nos : ByteArray := ⟨#[]⟩

/-- The scope of kind k that a spender with these names is charged under (3: its sandbox's). -/
def scope (o t a s : ByteArray) : Nat → Value
  | 0 => .agg #[.int .i64 0, .string o, .string nos, .string nos, .string nos]
  | 1 => .agg #[.int .i64 1, .string o, .string t, .string nos, .string nos]
  | 2 => .agg #[.int .i64 2, .string o, .string t, .string a, .string nos]
  | _ => .agg #[.int .i64 3, .string o, .string nos, .string nos, .string s]

set_option maxHeartbeats 400000 in
theorem scope0 (o t a s : ByteArray) (w : World) :
    Calls Try.prog 11 #[.agg #[.string o, .string t, .string a, .string s], .int .i64 0] w fun e w' => e = .returned (scope o t a s 0) ∧ Below w.heap.size w w' := by
  go_enter Try.func11, Try.ntmps11
  go_wp2
  exact bodyPost_ret (v := scope o t a s 0) (by simp [results, Try.results11, go_sem, scope, nos]) rfl ⟨rfl, ((Below.refl _ w).alloc (Nat.le_refl _) _).alloc (by simp) _⟩

set_option maxHeartbeats 400000 in
theorem scope1 (o t a s : ByteArray) (w : World) :
    Calls Try.prog 11 #[.agg #[.string o, .string t, .string a, .string s], .int .i64 1] w fun e w' => e = .returned (scope o t a s 1) ∧ Below w.heap.size w w' := by
  go_enter Try.func11, Try.ntmps11
  go_wp2
  exact bodyPost_ret (v := scope o t a s 1) (by simp [results, Try.results11, go_sem, scope, nos]) rfl ⟨rfl, ((Below.refl _ w).alloc (Nat.le_refl _) _).alloc (by simp) _⟩

set_option maxHeartbeats 400000 in
theorem scope2 (o t a s : ByteArray) (w : World) :
    Calls Try.prog 11 #[.agg #[.string o, .string t, .string a, .string s], .int .i64 2] w fun e w' => e = .returned (scope o t a s 2) ∧ Below w.heap.size w w' := by
  go_enter Try.func11, Try.ntmps11
  go_wp2
  exact bodyPost_ret (v := scope o t a s 2) (by simp [results, Try.results11, go_sem, scope, nos]) rfl ⟨rfl, ((Below.refl _ w).alloc (Nat.le_refl _) _).alloc (by simp) _⟩

set_option maxHeartbeats 400000 in
theorem sandbox_any (o t a s : ByteArray) (w : World) :
    Calls Try.prog 12 #[.agg #[.string o, .string t, .string a, .string s]] w fun e w' => e = .returned (scope o t a s 3) ∧ Below w.heap.size w w' := by
  go_enter Try.func12, Try.ntmps12
  go_wp2
  exact bodyPost_ret (v := scope o t a s 3) (by simp [results, Try.results12, go_sem, scope, nos]) rfl ⟨rfl, ((Below.refl _ w).alloc (Nat.le_refl _) _).alloc (by simp) _⟩

/-- The scope at the kind k, whatever of the three. -/
theorem scope_any (o t a s : ByteArray) (k : Nat) (hk : k < 3) (w : World) :
    Calls Try.prog 11 #[.agg #[.string o, .string t, .string a, .string s], .int .i64 (k : Int)] w fun e w' => e = .returned (scope o t a s k) ∧ Below w.heap.size w w' := by
  rcases (by omega : k = 0 ∨ k = 1 ∨ k = 2) with rfl | rfl | rfl
  · exact scope0 o t a s w
  · exact scope1 o t a s w
  · exact scope2 o t a s w

/-- Do two spenders name the same member at the kind k? -/
def same (o t a o' t' a' : ByteArray) (k : Nat) : Bool := (o.toList == o'.toList) && (k == 0 || ((t.toList == t'.toList) && (k == 1 || (a.toList == a'.toList))))

set_option maxHeartbeats 1000000 in
theorem match_any (o t a s o' t' a' s' : ByteArray) (k : Nat) (hk : k < 3) (w : World) :
    Calls Try.prog 9 #[.agg #[.string o, .string t, .string a, .string s], .agg #[.string o', .string t', .string a', .string s'], .int .i64 (k : Int)] w fun e w' => e = .returned (.bool (same o t a o' t' a' k)) ∧ Below w.heap.size w w' := by
  cases h1 : (o.toList == o'.toList) with
  | false =>
    have hs : same o t a o' t' a' k = false := by simp [same, h1]
    rw [hs]
    clear hs
    go_enter Try.func9, Try.ntmps9
    go_wp2
    go_ret
    exact ⟨rfl, ((Below.refl _ w).alloc (Nat.le_refl _) _).alloc (by simp) _⟩
  | true =>
    cases h2 : (t.toList == t'.toList) with
    | false =>
      rcases (by omega : k = 0 ∨ k = 1 ∨ k = 2) with rfl | rfl | rfl
      all_goals
        simp only [same, h1, h2]
        go_enter Try.func9, Try.ntmps9
        go_wp2
        go_ret
        exact ⟨rfl, ((Below.refl _ w).alloc (Nat.le_refl _) _).alloc (by simp) _⟩
    | true =>
      rcases (by omega : k = 0 ∨ k = 1 ∨ k = 2) with rfl | rfl | rfl
      all_goals
        simp only [same, h1, h2]
        go_enter Try.func9, Try.ntmps9
        go_wp2
        go_ret
        exact ⟨by first | rfl | simp, ((Below.refl _ w).alloc (Nat.le_refl _) _).alloc (by simp) _⟩
end Go.Proofs.Qxb6628583a
