import Derived.Test.Qxb6628536aRows
import Derived.WalkKit
import Derived.WalkSpells
import Derived.WalkLawsBesides
namespace Go.Proofs.Qxb6628536a
open Go.RowKit

def dot : ByteArray := ⟨#[46]⟩
/-- What Join computes. -/
def joinB (p f : ByteArray) : ByteArray := if p.toList.isEmpty || f.toList.isEmpty then p ++ f else p ++ dot ++ f

set_option maxHeartbeats 400000 in
theorem join_any (p f : ByteArray) (w : World) (hp : p.size ≤ 4194304) (hf : f.size ≤ 4194304) :
    Calls Try.prog 6 #[.string p, .string f] w fun e w' => e = .returned (.string (joinB p f)) ∧ w' = w := by
  unfold joinB
  cases h1 : p.toList.isEmpty with
  | true =>
    go_enter Try.func6, Try.ntmps6
    go_wp2
    go_ret
    exact ⟨rfl, rfl⟩
  | false =>
    cases h2 : f.toList.isEmpty with
    | true =>
      go_enter Try.func6, Try.ntmps6
      go_wp2
      go_ret
      exact ⟨rfl, rfl⟩
    | false =>
      go_enter Try.func6, Try.ntmps6
      go_wp2
      go_ret
      exact ⟨rfl, rfl⟩

/-- One part more: the path so far and how many parts it has. -/
def stepB (st : ByteArray × Nat) (x : ByteArray) : ByteArray × Nat := if x.toList.isEmpty then st else ((if 0 < st.2 then st.1 ++ dot else st.1) ++ x, st.2 + 1)
def modelTo (a b c : ByteArray) : Nat → ByteArray × Nat
  | 0 => (⟨#[]⟩, 0)
  | 1 => stepB (⟨#[]⟩, 0) a
  | 2 => stepB (stepB (⟨#[]⟩, 0) a) b
  | _ => stepB (stepB (stepB (⟨#[]⟩, 0) a) b) c
/-- What zzjoinModel computes. -/
def modelB (a b c : ByteArray) : ByteArray := (modelTo a b c 3).1

theorem ret_str {a b : ByteArray} (h : a = b) : Ending.returned (.string a) = .returned (.string b) := by rw [h]

theorem stepB_empty {st : ByteArray × Nat} {x : ByteArray} (h : x.toList.isEmpty = true) : stepB st x = st := by simp [stepB, h]
theorem stepB_first {st : ByteArray × Nat} {x : ByteArray} (h : x.toList.isEmpty = false) (h0 : ¬ 0 < st.2) : stepB st x = (st.1 ++ x, st.2 + 1) := by simp [stepB, h]; omega
theorem stepB_more {st : ByteArray × Nat} {x : ByteArray} (h : x.toList.isEmpty = false) (h0 : 0 < st.2) : stepB st x = (st.1 ++ dot ++ x, st.2 + 1) := by simp [stepB, h, h0]

theorem str_eq {a b : ByteArray} (h : a = b) : Value.string a = .string b := by rw [h]

theorem stepB_bd (st : ByteArray × Nat) (x : ByteArray) (m n : Nat) (hx : x.size ≤ 262144) (h1 : st.1.size ≤ m) (h2 : st.2 ≤ n) : (stepB st x).1.size ≤ m + 262145 ∧ (stepB st x).2 ≤ n + 1 := by
  have hd : dot.size = 1 := rfl
  unfold stepB
  split
  · exact ⟨by omega, by omega⟩
  · split
    · simp only [ByteArray.size_append, hd]; exact ⟨by omega, by omega⟩
    · simp only [ByteArray.size_append]; exact ⟨by omega, by omega⟩

set_option maxHeartbeats 1000000 in
theorem model_any (a b c : ByteArray) (w : World) (ha : a.size ≤ 262144) (hb : b.size ≤ 262144) (hc : c.size ≤ 262144) :
    Calls Try.prog 7 #[.string a, .string b, .string c] w fun e w' => e = .returned (.string (modelB a b c)) ∧ Below w.heap.size w w' := by
  go_enter Try.func7, Try.ntmps7
  go_wp2
  go_loop [8, 9, 10] (fun o n i => ∃ k : Nat, k ≤ 3 ∧ i = .int .i64 k ∧ o = .string (modelTo a b c k).1 ∧ n = .int .i64 ((modelTo a b c k).2 : Int)) (fun _ _ i => 3 - (intOf i).toNat)
  case atStart => exact ⟨0, by omega, rfl, rfl, rfl⟩
  case round =>
    obtain ⟨k, hk, rfl, rfl, rfl⟩ := hrel
    have b0 : (modelTo a b c 0).1.size ≤ 0 ∧ (modelTo a b c 0).2 ≤ 0 := ⟨Nat.le_refl _, Nat.le_refl _⟩
    have b1 : (modelTo a b c 1).1.size ≤ 262145 ∧ (modelTo a b c 1).2 ≤ 1 := stepB_bd _ _ _ _ ha b0.1 b0.2
    have b2 : (modelTo a b c 2).1.size ≤ 524290 ∧ (modelTo a b c 2).2 ≤ 2 := stepB_bd _ _ _ _ hb b1.1 b1.2
    rcases (by omega : k = 0 ∨ k = 1 ∨ k = 2 ∨ k = 3) with rfl | rfl | rfl | rfl
    · have e1 : modelTo a b c 1 = stepB (modelTo a b c 0) a := rfl
      have B := b0
      clear b0 b1 b2
      generalize modelTo a b c 0 = st at *
      have E1 : Hid _ := e1
      clear e1
      obtain ⟨B1, B2⟩ := B
      cases hx : a.toList.isEmpty with
      | true =>
        go_wp2
        go_round
        case rel => exact ⟨1, by omega, rfl, str_eq (by rw [E1.out, stepB_empty hx]), by rw [E1.out, stepB_empty hx]⟩
        case measure => simp [intOf]
      | false =>
        by_cases h0 : 0 < (st.2 : Int)
        · omega
        · go_wp2
          go_round
          case rel => exact ⟨1, by omega, rfl, str_eq (by rw [E1.out, stepB_first hx (by omega)]), by rw [E1.out, stepB_first hx (by omega)]; go_num⟩
          case measure => simp [intOf]
    · have e1 : modelTo a b c 2 = stepB (modelTo a b c 1) b := rfl
      have B := b1
      clear b0 b1 b2
      generalize modelTo a b c 1 = st at *
      have E1 : Hid _ := e1
      clear e1
      obtain ⟨B1, B2⟩ := B
      cases hx : b.toList.isEmpty with
      | true =>
        go_wp2
        go_round
        case rel => exact ⟨2, by omega, rfl, str_eq (by rw [E1.out, stepB_empty hx]), by rw [E1.out, stepB_empty hx]⟩
        case measure => simp [intOf]
      | false =>
        by_cases h0 : 0 < (st.2 : Int)
        · go_wp2
          go_round
          case rel => exact ⟨2, by omega, rfl, str_eq (by rw [E1.out, stepB_more hx (by omega)]; rfl), by rw [E1.out, stepB_more hx (by omega)]; go_num⟩
          case measure => simp [intOf]
        · go_wp2
          go_round
          case rel => exact ⟨2, by omega, rfl, str_eq (by rw [E1.out, stepB_first hx (by omega)]), by rw [E1.out, stepB_first hx (by omega)]; go_num⟩
          case measure => simp [intOf]
    · have e1 : modelTo a b c 3 = stepB (modelTo a b c 2) c := rfl
      have B := b2
      clear b0 b1 b2
      generalize modelTo a b c 2 = st at *
      have E1 : Hid _ := e1
      clear e1
      obtain ⟨B1, B2⟩ := B
      cases hx : c.toList.isEmpty with
      | true =>
        go_wp2
        go_round
        case rel => exact ⟨3, by omega, rfl, str_eq (by rw [E1.out, stepB_empty hx]), by rw [E1.out, stepB_empty hx]⟩
        case measure => simp [intOf]
      | false =>
        by_cases h0 : 0 < (st.2 : Int)
        · go_wp2
          go_round
          case rel => exact ⟨3, by omega, rfl, str_eq (by rw [E1.out, stepB_more hx (by omega)]; rfl), by rw [E1.out, stepB_more hx (by omega)]; go_num⟩
          case measure => simp [intOf]
        · go_wp2
          go_round
          case rel => exact ⟨3, by omega, rfl, str_eq (by rw [E1.out, stepB_first hx (by omega)]), by rw [E1.out, stepB_first hx (by omega)]; go_num⟩
          case measure => simp [intOf]
    · go_wp2
      go_ret
      exact ⟨rfl, ((Below.refl _ w).alloc (Nat.le_refl _) _)⟩

set_option maxHeartbeats 400000 in
theorem bytes3_yes (a b c : ByteArray) (w : World) (ha : a.size ≤ 262144) (hb : b.size ≤ 262144) (hc : c.size ≤ 262144) :
    Calls Try.prog 5 #[.string a, .string b, .string c] w fun e w' => e = .returned (.bool true) ∧ w' = w := by
  go_enter Try.func5, Try.ntmps5
  go_wp2
  go_ret
  exact ⟨rfl, rfl⟩

/-- Whatever the lengths: it answers. -/
theorem bytes3_any (a b c : ByteArray) (w : World) (ha : a.size ≤ maxLen) (hb : b.size ≤ maxLen) (hc : c.size ≤ maxLen) :
    Calls Try.prog 5 #[.string a, .string b, .string c] w fun e w' => (∃ r, e = .returned (.bool r)) ∧ w' = w := by
  unfold maxLen at ha hb hc
  go_enter Try.func5, Try.ntmps5
  go_wp2
  all_goals (go_ret; exact ⟨⟨_, rfl⟩, rfl⟩)
end Go.Proofs.Qxb6628536a
