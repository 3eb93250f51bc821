import Derived.Test.Qxb6628536aPlain
namespace Go.Proofs.Qxb6628536a
open Go.RowKit

/-- How zzjoinHasDot ends: 'false' only where no byte is a dot. -/
def HasAns (s : ByteArray) (e : Ending) : Prop := ∃ r, e = .returned (.bool r) ∧ (r = false → ∀ i (h : i < s.size), ((s[i].toNat : Int) == 46) = false)

set_option maxHeartbeats 400000 in
theorem has_no (s : ByteArray) (w : World) (hs : s.size ≤ 1048576) (hn : ∀ i (h : i < s.size), ((s[i].toNat : Int) == 46) = false) :
    Calls Try.prog 9 #[.string s] w fun e w' => e = .returned (.bool false) ∧ w' = w := by
  have HN : Hid _ := hn
  clear hn
  go_enter Try.func9, Try.ntmps9
  go_wp2
  go_loop [3] (fun i => ∃ k : Nat, k ≤ s.size ∧ i = .int .i64 k) (fun i => s.size - (intOf i).toNat)
  case atStart => exact ⟨0, Nat.zero_le _, rfl⟩
  case round =>
    obtain ⟨k, hk, rfl⟩ := hrel
    by_cases hlt : k < s.size
    · have h1 := HN.out k hlt
      go_wp2
      go_round
      case rel => exact ⟨k + 1, by omega, by go_num⟩
      case measure => simp [intOf]; omega
    · go_wp2
      go_ret
      exact ⟨rfl, rfl⟩

set_option maxHeartbeats 400000 in
theorem has_any (s : ByteArray) (w : World) (hs : s.size ≤ 1048576) :
    Calls Try.prog 9 #[.string s] w fun e w' => HasAns s e ∧ w' = w := by
  go_enter Try.func9, Try.ntmps9
  go_wp2
  go_loop [3] (fun i => ∃ k : Nat, k ≤ s.size ∧ i = .int .i64 k ∧ Hid (∀ i (h : i < s.size), i < k → ((s[i].toNat : Int) == 46) = false)) (fun i => s.size - (intOf i).toNat)
  case atStart => exact ⟨0, Nat.zero_le _, rfl, fun i _ h => by omega⟩
  case round =>
    obtain ⟨k, hk, rfl, HN⟩ := hrel
    by_cases hlt : k < s.size
    · cases h1 : ((s[k].toNat : Int) == 46) with
      | false =>
        have HK : Hid (((s[k].toNat : Int) == 46) = false) := h1
        go_wp2
        go_round
        case rel => exact ⟨k + 1, by omega, by go_num, fun i h hi => by
          by_cases e : i = k
          · subst e; exact HK.out
          · exact HN.out i h (by omega)⟩
        case measure => simp [intOf]; omega
      | true =>
        go_wp2
        go_ret
        exact ⟨⟨true, rfl, fun h => by cases h⟩, rfl⟩
    · go_wp2
      go_ret
      exact ⟨⟨false, rfl, fun _ i h => HN.out i h (by omega)⟩, rfl⟩

set_option maxHeartbeats 400000 in
theorem last_no (s : ByteArray) (w : World) (hs : s.size ≤ 1048576) (hn : ∀ i (h : i < s.size), ((s[i].toNat : Int) == 46) = false) :
    Calls Try.prog 10 #[.string s] w fun e w' => e = .returned (.int .i64 (-1)) ∧ w' = w := by
  have HN : Hid _ := hn
  clear hn
  go_enter Try.func10, Try.ntmps10
  go_wp2
  go_loop [3] (fun i => ∃ k : Nat, k ≤ s.size ∧ i = .int .i64 ((k : Int) - 1)) (fun i => (intOf i + 1).toNat)
  case atStart => exact ⟨s.size, Nat.le_refl _, rfl⟩
  case round =>
    obtain ⟨k, hk, rfl⟩ := hrel
    cases k with
    | zero =>
      go_wp2
      go_ret
      exact ⟨rfl, rfl⟩
    | succ j =>
      have e : (((j + 1 : Nat) : Int) - 1) = (j : Int) := by omega
      rw [e]
      clear e
      have hlt : j < s.size := by omega
      have h1 := HN.out j hlt
      go_wp2
      go_round
      case rel => exact ⟨j, by omega, rfl⟩
      case measure => simp [intOf]

set_option maxHeartbeats 400000 in
theorem last_at (s : ByteArray) (m : Nat) (w : World) (hs : s.size ≤ 1048576) (hm : m < s.size) (h46 : ((s[m].toNat : Int) == 46) = true) (hn : ∀ i (h : i < s.size), m < i → ((s[i].toNat : Int) == 46) = false) :
    Calls Try.prog 10 #[.string s] w fun e w' => e = .returned (.int .i64 m) ∧ w' = w := by
  have HN : Hid _ := hn
  have HM : Hid _ := h46
  clear hn h46
  go_enter Try.func10, Try.ntmps10
  go_wp2
  go_loop [3] (fun i => ∃ k : Nat, k ≤ s.size ∧ m < k ∧ i = .int .i64 ((k : Int) - 1)) (fun i => (intOf i + 1).toNat)
  case atStart => exact ⟨s.size, Nat.le_refl _, hm, rfl⟩
  case round =>
    obtain ⟨k, hk, hmk, rfl⟩ := hrel
    cases k with
    | zero => omega
    | succ j =>
      have e : (((j + 1 : Nat) : Int) - 1) = (j : Int) := by omega
      rw [e]
      clear e
      have hlt : j < s.size := by omega
      by_cases ej : j = m
      · subst ej
        have h1 := HM.out
        go_wp2
        go_ret
        exact ⟨rfl, rfl⟩
      · have h1 := HN.out j hlt (by omega)
        have hmj : m < j := by omega
        clear ej
        go_wp2
        go_round
        case rel => exact ⟨j, by omega, hmj, rfl⟩
        case measure => simp [intOf]

set_option maxHeartbeats 400000 in
theorem bytes2_any (a b : ByteArray) (w : World) (ha : a.size ≤ maxLen) (hb : b.size ≤ maxLen) :
    Calls Try.prog 8 #[.string a, .string b] w fun e w' => (∃ r, e = .returned (.bool r)) ∧ w' = w := by
  unfold maxLen at ha hb
  go_enter Try.func8, Try.ntmps8
  go_wp2
  all_goals (go_ret; exact ⟨⟨_, rfl⟩, rfl⟩)
end Go.Proofs.Qxb6628536a
