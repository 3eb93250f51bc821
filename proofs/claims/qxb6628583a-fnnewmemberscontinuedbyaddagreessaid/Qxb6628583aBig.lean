import Derived.Test.Qxb6628583aTo
namespace Go.Proofs.Qxb6628583a
open Go.RowKit Go.Maps

/-- It answers yes or no. -/
def Says (e : Ending) : Prop := ∃ r, e = .returned (.bool r)

set_option maxHeartbeats 1000000 in
theorem big_any (b off cap : Nat) (xs : List Sp) (w : World) (hxs : xs.length ≤ 4096) (hcells : RowAt w b off xs) :
    Calls Try.prog 6 #[.slice (some ⟨b, off, none⟩) xs.length cap] w fun e w' => Says e ∧ w' = w := by
  have HC : Hid (RowAt w b off xs) := hcells
  clear hcells
  go_enter Try.func6, Try.ntmps6
  go_wp2
  go_loop [3, 4] (fun t i => ∃ (k : Nat) (v : Int), k ≤ xs.length ∧ i = .int .i64 k ∧ t = .int .i64 v) (fun _ i => xs.length - (intOf i).toNat)
  case atStart => exact ⟨0, _, Nat.zero_le _, rfl, rfl⟩
  case round =>
    obtain ⟨k, v, hk, rfl, rfl⟩ := hrel
    by_cases hlt : k < xs.length
    · obtain ⟨c0, c1, c2, c3⟩ := HC.out k hlt
      generalize xs[k] = p at *
      go_wp2
      · go_ret
        exact ⟨⟨_, rfl⟩, rfl⟩
      · go_round
        case rel => exact ⟨k + 1, _, by omega, by go_num, rfl⟩
        case measure => simp [intOf]; omega
    · go_wp2
      go_ret
      exact ⟨⟨_, rfl⟩, rfl⟩

set_option maxHeartbeats 1000000 in
set_option maxRecDepth 100000 in
theorem bytes1_any (b off cap : Nat) (xs : List Sp) (w : World) (hxs : xs.length ≤ maxLen) (hcells : RowAt w b off xs) :
    Calls Try.prog 5 #[.slice (some ⟨b, off, none⟩) xs.length cap] w fun e w' => Says e ∧ w' = w := by
  have HC : Hid (RowAt w b off xs) := hcells
  clear hcells
  unfold maxLen at hxs
  by_cases hbig : 1048576 < (xs.length : Int)
  · go_enter Try.func5, Try.ntmps5
    go_wp2
    go_ret
    exact ⟨⟨_, rfl⟩, rfl⟩
  · go_enter Try.func5, Try.ntmps5
    go_wp2
    go_loop [3, 4] (fun t i => ∃ (k : Nat) (v : Int), k ≤ xs.length ∧ 0 ≤ v ∧ v ≤ 1048576 ∧ i = .int .i64 k ∧ t = .int .i64 v) (fun _ i => xs.length - (intOf i).toNat)
    case atStart => exact ⟨0, _, Nat.zero_le _, by omega, by omega, rfl, rfl⟩
    case round =>
      obtain ⟨k, v, hk, hv0, hv1, rfl, rfl⟩ := hrel
      by_cases hlt : k < xs.length
      · obtain ⟨c0, c1, c2, c3⟩ := HC.out k hlt
        generalize xs[k] = p at *
        go_wp2
        all_goals first
          | (go_ret; exact ⟨⟨_, rfl⟩, rfl⟩)
          | skip
        all_goals
          go_round
          case rel => exact ⟨k + 1, _, by omega, by omega, by omega, by go_num, rfl⟩
          case measure => simp [intOf]; omega
      · go_wp2
        go_ret
        exact ⟨⟨_, rfl⟩, rfl⟩

set_option maxHeartbeats 1000000 in
set_option maxRecDepth 100000 in
theorem bytes2_any (b off cap : Nat) (xs : List Sp) (kk : Int) (w : World) (hxs : xs.length ≤ maxLen) (hcells : RowAt w b off xs) :
    Calls Try.prog 14 #[.slice (some ⟨b, off, none⟩) xs.length cap, .int .i64 kk] w fun e w' => Says e ∧ w' = w := by
  have HC : Hid (RowAt w b off xs) := hcells
  clear hcells
  unfold maxLen at hxs
  by_cases hbig : 1048576 < (xs.length : Int)
  · go_enter Try.func14, Try.ntmps14
    go_wp2
    go_ret
    exact ⟨⟨_, rfl⟩, rfl⟩
  · go_enter Try.func14, Try.ntmps14
    go_wp2
    go_loop [5, 6] (fun t i => ∃ (k : Nat) (v : Int), k ≤ xs.length ∧ 0 ≤ v ∧ v ≤ 1048576 ∧ i = .int .i64 k ∧ t = .int .i64 v) (fun _ i => xs.length - (intOf i).toNat)
    case atStart => exact ⟨0, _, Nat.zero_le _, by omega, by omega, rfl, rfl⟩
    case round =>
      obtain ⟨k, v, hk, hv0, hv1, rfl, rfl⟩ := hrel
      by_cases hlt : k < xs.length
      · obtain ⟨c0, c1, c2, c3⟩ := HC.out k hlt
        generalize xs[k] = p at *
        go_wp2
        all_goals first
          | (go_ret; exact ⟨⟨_, rfl⟩, rfl⟩)
          | skip
        all_goals
          go_round
          case rel => exact ⟨k + 1, _, by omega, by omega, by omega, by go_num, rfl⟩
          case measure => simp [intOf]; omega
      · go_wp2
        go_ret
        exact ⟨⟨_, rfl⟩, rfl⟩
end Go.Proofs.Qxb6628583a
