import Derived.Test.Qxb6628536aBase
namespace Go.Proofs.Qxb6628536a
open Go.RowKit

/-- Join, on lists of bytes. -/
def joinL (p f : List UInt8) : List UInt8 := if p.isEmpty || f.isEmpty then p ++ f else p ++ [46] ++ f
def stepL (st : List UInt8 × Nat) (x : List UInt8) : List UInt8 × Nat := if x.isEmpty then st else ((if 0 < st.2 then st.1 ++ [46] else st.1) ++ x, st.2 + 1)
def modelL (a b c : List UInt8) : List UInt8 := (stepL (stepL (stepL ([], 0) a) b) c).1

theorem append_list (a b : ByteArray) : (a ++ b).data.toList = a.data.toList ++ b.data.toList := by
  rw [ByteArray.data_append, Array.toList_append]

theorem joinB_list (p f : ByteArray) : (joinB p f).data.toList = joinL p.data.toList f.data.toList := by
  unfold joinB joinL
  rw [ByteArray.toList_eq, ByteArray.toList_eq]
  split
  · rw [append_list]
  · rw [append_list, append_list]; rfl

theorem stepB_list (st : ByteArray × Nat) (x : ByteArray) : ((stepB st x).1.data.toList, (stepB st x).2) = stepL (st.1.data.toList, st.2) x.data.toList := by
  unfold stepB stepL
  rw [ByteArray.toList_eq]
  split
  · rfl
  · split
    · simp only [append_list]; rfl
    · simp only [append_list]

theorem modelB_list (a b c : ByteArray) : (modelB a b c).data.toList = modelL a.data.toList b.data.toList c.data.toList := by
  show (stepB (stepB (stepB (⟨#[]⟩, 0) a) b) c).1.data.toList = _
  have h1 := stepB_list (⟨#[]⟩, 0) a
  have h2 := stepB_list (stepB (⟨#[]⟩, 0) a) b
  have h3 := stepB_list (stepB (stepB (⟨#[]⟩, 0) a) b) c
  unfold modelL
  rw [show (([] : List UInt8), 0) = (((⟨#[]⟩ : ByteArray)).data.toList, 0) from rfl, ← h1, ← h2, ← h3]

theorem law1 (a b : List UInt8) : joinL a b = modelL a b [] := by
  cases a <;> cases b <;> simp [joinL, modelL, stepL]
theorem law2 (a b c : List UInt8) : joinL (joinL a b) c = modelL a b c := by
  cases a <;> cases b <;> cases c <;> simp [joinL, modelL, stepL]
theorem law3 (a b c : List UInt8) : joinL a (joinL b c) = modelL a b c := by
  cases a <;> cases b <;> cases c <;> simp [joinL, modelL, stepL]

theorem test1 (a b : ByteArray) : ((joinB a b).toList == (modelB a b ⟨#[]⟩).toList) = true := by
  rw [ByteArray.toList_eq, ByteArray.toList_eq, joinB_list, modelB_list, law1]
  simp
theorem test2 (a b c : ByteArray) : ((joinB (joinB a b) c).toList == (modelB a b c).toList) = true := by
  rw [ByteArray.toList_eq, ByteArray.toList_eq, joinB_list, joinB_list, modelB_list, law2]
  simp
theorem test3 (a b c : ByteArray) : ((joinB a (joinB b c)).toList == (modelB a b c).toList) = true := by
  rw [ByteArray.toList_eq, ByteArray.toList_eq, joinB_list, joinB_list, modelB_list, law3]
  simp
theorem joinB_size (p f : ByteArray) : (joinB p f).size ≤ p.size + f.size + 1 := by
  have hd : dot.size = 1 := rfl
  unfold joinB
  split <;> simp only [ByteArray.size_append, hd] <;> omega

set_option maxHeartbeats 400000 in
theorem agree_small (a b c : ByteArray) (w : World) (ha : a.size ≤ 262144) (hb : b.size ≤ 262144) (hc : c.size ≤ 262144) :
    Calls Try.prog 3 #[.string a, .string b, .string c] w fun e w' => e = .returned (.bool true) ∧ Below w.heap.size w w' := by
  have s1 := joinB_size a b
  have s2 := joinB_size b c
  have T1 : Hid _ := test1 a b
  have T2 : Hid _ := test2 a b c
  have T3 : Hid _ := test3 a b c
  go_enter Try.func3, Try.ntmps3
  go_wp2_with fail
  refine (bytes3_yes a b c w ha hb hc).mono ?_
  rintro e w1 ⟨rfl, rfl⟩
  go_wp2_with fail
  refine (join_any a b _ (by omega) (by omega)).mono ?_
  rintro e w2 ⟨rfl, rfl⟩
  go_wp2_with fail
  refine (join_any b c _ (by omega) (by omega)).mono ?_
  rintro e w3 ⟨rfl, rfl⟩
  go_wp2_with fail
  refine (join_any (joinB a b) c _ (by omega) (by omega)).mono ?_
  rintro e w4 ⟨rfl, rfl⟩
  go_wp2_with fail
  refine (join_any a (joinB b c) _ (by omega) (by omega)).mono ?_
  rintro e w5 ⟨rfl, rfl⟩
  go_wp2_with fail
  refine (model_any a b c _ ha hb hc).mono ?_
  rintro e w6 ⟨rfl, hb6⟩
  go_wp2_with fail
  refine (model_any a b ⟨#[]⟩ _ ha hb (by decide)).mono ?_
  rintro e w7 ⟨rfl, hb7⟩
  have t1 := T1.out
  have t2 := T2.out
  have t3 := T3.out
  clear T1 T2 T3 s1 s2
  generalize joinB (joinB a b) c = X1 at *
  generalize joinB a (joinB b c) = X2 at *
  generalize joinB a b = X3 at *
  generalize modelB a b c = X4 at *
  generalize modelB a b ⟨#[]⟩ = X5 at *
  go_wp2
  go_ret
  exact ⟨rfl, hb6.trans (hb7.mono hb6.size)⟩

set_option maxHeartbeats 400000 in
theorem agree_any (a b c : ByteArray) (w : World) (ha : a.size ≤ maxLen) (hb : b.size ≤ maxLen) (hc : c.size ≤ maxLen) :
    Calls Try.prog 3 #[.string a, .string b, .string c] w fun e w' => e = .returned (.bool true) ∧ Below w.heap.size w w' := by
  by_cases hs : a.size ≤ 262144 ∧ b.size ≤ 262144 ∧ c.size ≤ 262144
  · exact agree_small a b c w hs.1 hs.2.1 hs.2.2
  · have HB : Hid _ := bytes3_any a b c w ha hb hc
    clear ha hb hc
    go_enter Try.func3, Try.ntmps3
    go_wp2_with fail
    refine Calls.mono HB.out ?_
    clear HB
    rintro e w1 ⟨⟨r, rfl⟩, rfl⟩
    cases r with
    | false =>
      clear hs
      go_wp2_with fail
      go_ret
      exact ⟨rfl, Below.refl _ _⟩
    | true =>
      rcases (by omega : 262144 < (a.size : Int) ∨ 262144 < (b.size : Int) ∨ 262144 < (c.size : Int)) with h | h | h
      all_goals
        clear hs
        go_wp2_with fail
        all_goals (go_ret; exact ⟨rfl, Below.refl _ _⟩)
end Go.Proofs.Qxb6628536a
