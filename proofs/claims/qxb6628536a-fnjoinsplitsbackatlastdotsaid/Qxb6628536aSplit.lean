import Derived.Test.Qxb6628536aDots
namespace Go.Proofs.Qxb6628536a
open Go.RowKit

theorem ba_ext {a b : ByteArray} (h : a.data.toList = b.data.toList) : a = b := by
  cases a; cases b
  exact congrArg ByteArray.mk (Array.toList_inj.1 h)

theorem joinB_left (p f : ByteArray) (h : p.toList.isEmpty = true) : joinB p f = f := by
  apply ba_ext
  rw [joinB_list]
  rw [ByteArray.toList_eq] at h
  have e : p.data.toList = [] := List.isEmpty_iff.1 h
  rw [e]
  simp [joinL]

theorem joinB_right (p : ByteArray) : joinB p ⟨#[]⟩ = p := by
  apply ba_ext
  rw [joinB_list]
  simp [joinL]

theorem joinB_both (p f : ByteArray) (h : p.toList.isEmpty = false) (hf : f.toList.isEmpty = false) : joinB p f = p ++ dot ++ f := by
  simp [joinB, h, hf]

theorem get_list (s : ByteArray) (i : Nat) (h : i < s.size) : s.data.toList[i]? = some s[i] := by
  simp only [Array.getElem?_toList]
  exact Array.getElem?_eq_getElem (xs := s.data) h

theorem both_list (p f : ByteArray) : (p ++ dot ++ f).data.toList = p.data.toList ++ 46 :: f.data.toList := by
  rw [append_list, append_list]
  show p.data.toList ++ [46] ++ f.data.toList = _
  simp
theorem both_size (p f : ByteArray) : (p ++ dot ++ f).size = p.size + 1 + f.size := by
  simp only [ByteArray.size_append]; rfl
theorem len_list (s : ByteArray) : s.data.toList.length = s.size := Array.length_toList

theorem get_of_list (s : ByteArray) (i : Nat) (h : i < s.size) (c : UInt8) (hc : s.data.toList[i]? = some c) : s[i] = c := by
  rw [get_list s i h] at hc
  exact Option.some.inj hc

theorem both_dot (p f : ByteArray) (h : p.size < (p ++ dot ++ f).size) : (((p ++ dot ++ f)[p.size].toNat : Int) == 46) = true := by
  rw [get_of_list (p ++ dot ++ f) p.size h 46 (by rw [both_list, List.getElem?_append_right (by rw [len_list]; exact Nat.le_refl _), len_list, Nat.sub_self]; rfl)]
  rfl

theorem both_after (p f : ByteArray) (hn : ∀ i (h : i < f.size), ((f[i].toNat : Int) == 46) = false) (i : Nat) (h : i < (p ++ dot ++ f).size) (hi : p.size < i) : (((p ++ dot ++ f)[i].toNat : Int) == 46) = false := by
  have hs := both_size p f
  have hj : i - p.size - 1 < f.size := by omega
  have e := get_list (p ++ dot ++ f) i h
  rw [both_list, List.getElem?_append_right (by rw [len_list]; omega), len_list, show i - p.size = (i - p.size - 1) + 1 from by omega, List.getElem?_cons_succ, get_list f _ hj] at e
  rw [← Option.some.inj e]
  exact hn _ hj

theorem both_head (p f : ByteArray) : (p ++ dot ++ f).extract 0 p.size = p := by
  apply ba_ext
  rw [ByteArray.data_extract, Array.toList_extract, both_list, List.extract_eq_take_drop, List.drop_zero, Nat.sub_zero, ← len_list p, List.take_left']
  rfl

theorem both_tail (p f : ByteArray) : (p ++ dot ++ f).extract (p.size + 1) (p.size + 1 + f.size) = f := by
  apply ba_ext
  rw [ByteArray.data_extract, Array.toList_extract, both_list]
  rw [List.extract_eq_take_drop]
  have hp := len_list p
  have hf := len_list f
  rw [show p.size + 1 = p.data.toList.length + 1 from by omega, List.drop_append, List.drop_eq_nil_of_le (by omega)]
  simp only [Nat.add_sub_cancel_left, List.drop_succ_cons, List.drop_zero, List.nil_append]
  rw [List.take_of_length_le (by omega)]

set_option maxHeartbeats 400000 in
theorem split_both (p f : ByteArray) (w : World) (hp : p.size ≤ 262144) (hf : f.size ≤ 262144) (e1 : p.toList.isEmpty = false) (e2 : f.toList.isEmpty = false) (hn : ∀ i (h : i < f.size), ((f[i].toNat : Int) == 46) = false) (hB : Calls Try.prog 8 #[.string p, .string f] w fun e w' => e = .returned (.bool true) ∧ w' = w) :
    Calls Try.prog 4 #[.string p, .string f] w fun e w' => e = .returned (.bool true) ∧ w' = w := by
  have HB : Hid _ := hB
  have HN : Hid _ := hn
  have hJ := joinB_both p f e1 e2
  have hz := both_size p f
  have hL := last_at (p ++ dot ++ f) p.size w (by omega) (by omega) (both_dot p f (by omega)) (fun i h hi => both_after p f hn i h hi)
  have h1 := both_head p f
  have h2 := both_tail p f
  have HL : Hid _ := hL
  have HJ : Hid _ := hJ
  clear hB hn hL hJ
  go_enter Try.func4, Try.ntmps4
  go_wp2_with fail
  refine Calls.mono HB.out ?_
  clear HB
  rintro e w1 ⟨rfl, rfl⟩
  go_wp2_with fail
  refine (has_no f _ (by omega) HN.out).mono ?_
  rintro e w2 ⟨rfl, rfl⟩
  go_wp2_with fail
  refine (join_any p f _ (by omega) (by omega)).mono ?_
  rintro e w3 ⟨rfl, rfl⟩
  rw [HJ.out]
  generalize p ++ dot ++ f = S at *
  go_wp2_with fail
  refine Calls.mono HL.out ?_
  rintro e w4 ⟨rfl, rfl⟩
  go_wp2_with fail
  refine (join_any p f _ (by omega) (by omega)).mono ?_
  rintro e w5 ⟨rfl, rfl⟩
  rw [HJ.out]
  go_wp2_with fail
  go_ret
  exact ⟨rfl, rfl⟩

set_option maxHeartbeats 400000 in
theorem split_left (p f : ByteArray) (w : World) (hp : p.size ≤ 262144) (hf : f.size ≤ 262144) (e1 : p.toList.isEmpty = true) (e2 : f.toList.isEmpty = false) (hn : ∀ i (h : i < f.size), ((f[i].toNat : Int) == 46) = false) (hB : Calls Try.prog 8 #[.string p, .string f] w fun e w' => e = .returned (.bool true) ∧ w' = w) :
    Calls Try.prog 4 #[.string p, .string f] w fun e w' => e = .returned (.bool true) ∧ w' = w := by
  have HB : Hid _ := hB
  have HN : Hid _ := hn
  have HJ : Hid _ := joinB_left p f e1
  have HR : Hid _ := joinB_right f
  clear hB hn
  go_enter Try.func4, Try.ntmps4
  go_wp2_with fail
  refine Calls.mono HB.out ?_
  clear HB
  rintro e w1 ⟨rfl, rfl⟩
  go_wp2_with fail
  refine (has_no f _ (by omega) HN.out).mono ?_
  rintro e w2 ⟨rfl, rfl⟩
  go_wp2_with fail
  refine (join_any p f _ (by omega) (by omega)).mono ?_
  rintro e w3 ⟨rfl, rfl⟩
  rw [HJ.out]
  go_wp2_with fail
  refine (last_no f _ (by omega) HN.out).mono ?_
  rintro e w4 ⟨rfl, rfl⟩
  go_wp2_with fail
  refine (join_any f ⟨#[]⟩ _ (by omega) (by decide)).mono ?_
  rintro e w5 ⟨rfl, rfl⟩
  rw [HR.out]
  go_wp2_with fail
  go_ret
  exact ⟨rfl, rfl⟩

set_option maxHeartbeats 400000 in
theorem bytes2_yes (a b : ByteArray) (w : World) (ha : a.size ≤ 262144) (hb : b.size ≤ 262144) :
    Calls Try.prog 8 #[.string a, .string b] w fun e w' => e = .returned (.bool true) ∧ w' = w := by
  go_enter Try.func8, Try.ntmps8
  go_wp2
  go_ret
  exact ⟨rfl, rfl⟩

set_option maxHeartbeats 400000 in
/-- The field is empty: nothing is asked. -/
theorem split_empty (p f : ByteArray) (w : World) (hp : p.size ≤ 262144) (hf : f.size ≤ 262144) (e2 : f.toList.isEmpty = true) :
    Calls Try.prog 4 #[.string p, .string f] w fun e w' => e = .returned (.bool true) ∧ w' = w := by
  go_enter Try.func4, Try.ntmps4
  go_wp2_with fail
  refine (bytes2_yes p f w hp hf).mono ?_
  rintro e w1 ⟨rfl, rfl⟩
  go_wp2_with fail
  go_ret
  exact ⟨rfl, rfl⟩

set_option maxHeartbeats 400000 in
/-- The field has a dot: nothing is asked. -/
theorem split_dot (p f : ByteArray) (w : World) (hp : p.size ≤ 262144) (hf : f.size ≤ 262144) (e2 : f.toList.isEmpty = false) (hd : Calls Try.prog 9 #[.string f] w fun e w' => e = .returned (.bool true) ∧ w' = w) :
    Calls Try.prog 4 #[.string p, .string f] w fun e w' => e = .returned (.bool true) ∧ w' = w := by
  have HD : Hid _ := hd
  clear hd
  go_enter Try.func4, Try.ntmps4
  go_wp2_with fail
  refine (bytes2_yes p f w hp hf).mono ?_
  rintro e w1 ⟨rfl, rfl⟩
  go_wp2_with fail
  refine Calls.mono HD.out ?_
  rintro e w2 ⟨rfl, rfl⟩
  go_wp2_with fail
  go_ret
  exact ⟨rfl, rfl⟩

set_option maxHeartbeats 400000 in
theorem has_yes (s : ByteArray) (w : World) (hs : s.size ≤ 1048576) (hy : ¬ ∀ i (h : i < s.size), ((s[i].toNat : Int) == 46) = false) :
    Calls Try.prog 9 #[.string s] w fun e w' => e = .returned (.bool true) ∧ w' = w := by
  refine (has_any s w hs).mono ?_
  rintro e w1 ⟨⟨r, rfl, hr⟩, rfl⟩
  cases r with
  | true => exact ⟨rfl, rfl⟩
  | false => exact absurd (hr rfl) hy

set_option maxHeartbeats 400000 in
theorem split_any (p f : ByteArray) (w : World) (hp : p.size ≤ maxLen) (hf : f.size ≤ maxLen) :
    Calls Try.prog 4 #[.string p, .string f] w fun e w' => e = .returned (.bool true) ∧ w' = w := by
  by_cases hs : p.size ≤ 262144 ∧ f.size ≤ 262144
  · obtain ⟨h1, h2⟩ := hs
    cases e2 : f.toList.isEmpty with
    | true => exact split_empty p f w h1 h2 e2
    | false =>
      by_cases hn : ∀ i (h : i < f.size), ((f[i].toNat : Int) == 46) = false
      · cases e1 : p.toList.isEmpty with
        | true => exact split_left p f w h1 h2 e1 e2 hn (bytes2_yes p f w h1 h2)
        | false => exact split_both p f w h1 h2 e1 e2 hn (bytes2_yes p f w h1 h2)
      · exact split_dot p f w h1 h2 e2 (has_yes f w (by omega) hn)
  · have HB : Hid _ := bytes2_any p f w hp hf
    clear hp hf
    go_enter Try.func4, Try.ntmps4
    go_wp2_with fail
    refine Calls.mono HB.out ?_
    clear HB
    rintro e w1 ⟨⟨r, rfl⟩, rfl⟩
    cases r with
    | false =>
      clear hs
      go_wp2_with fail
      go_ret
      exact ⟨rfl, rfl⟩
    | true =>
      rcases (by omega : 262144 < (p.size : Int) ∨ 262144 < (f.size : Int)) with h | h
      all_goals
        clear hs
        go_wp2_with fail
        all_goals (go_ret; exact ⟨rfl, rfl⟩)
end Go.Proofs.Qxb6628536a
