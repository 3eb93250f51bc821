import Derived.Test.Qxb6628003aFmtReads
namespace Go.Proofs.Qxb6628003aFmt
open Go.RowKit Go.Extern.Stop Go.Stop Go.Extern Go.Lib

set_option maxHeartbeats 400000 in
theorem low_len (a : Option Addr) (len cap : Nat) (w : World) (hne : ((len : Int) != 64) = true) :
    Calls Tryf.prog 8 #[.slice a len cap] w fun e w' => e = .returned (.bool false) ∧ w' = w := by
  go_enter Tryf.func8, Tryf.ntmps8
  go_wp2
  go_ret
  exact ⟨rfl, rfl⟩

theorem take_snoc (l : List UInt8) (k : Nat) (h : k < l.length) : l.take (k + 1) = l.take k ++ [l[k]] := by
  rw [List.take_succ_eq_append_getElem h]

theorem low_iff (c : UInt8) : low c = true ↔ ((48 ≤ (c.toNat : Int) ∧ (c.toNat : Int) ≤ 57) ∨ (97 ≤ (c.toNat : Int) ∧ (c.toNat : Int) ≤ 102)) := by
  unfold low
  simp
  omega

set_option maxHeartbeats 1000000 in
theorem low_64 (b off cap : Nat) (l : List UInt8) (w : World) (hl : l.length = 64) (hc : ∀ i (h : i < l.length), w.cell? ⟨b, off + i, none⟩ = some (.int .u8 ((l[i]'h).toNat : Int))) :
    Calls Tryf.prog 8 #[.slice (some ⟨b, off, none⟩) 64 cap] w fun e w' => e = .returned (.bool (l.all low)) ∧ w' = w := by
  have HL : Hid (l.length = 64) := hl
  clear hl
  have HC : Hid _ := hc
  clear hc
  go_enter Tryf.func8, Tryf.ntmps8
  go_wp2
  go_loop [3] (fun i => ∃ k : Nat, k ≤ 64 ∧ i = .int .i64 k ∧ (l.take k).all low = true) (fun i => 64 - (RowKit.intOf i).toNat)
  case atStart => exact ⟨0, by omega, rfl, rfl⟩
  case round =>
    obtain ⟨k, hk, rfl, hall⟩ := hrel
    have HA : Hid _ := hall
    clear hall
    by_cases hlt : k < 64
    · have hkl : k < l.length := by rw [HL.out]; exact hlt
      have hcell := HC.out k hkl
      have hb := (l[k]).toNat_lt
      have hs := take_snoc l k hkl
      have hi := low_iff l[k]
      have hfin : low l[k] = false → l.all low = false := fun h => by
        rw [Bool.eq_false_iff]
        intro ha
        rw [List.all_eq_true] at ha
        have := ha l[k] (List.getElem_mem hkl)
        rw [this] at h; cases h
      have hstep : low l[k] = true → (l.take (k + 1)).all low = true := fun h => by
        rw [hs, List.all_append, HA.out]; simp [h]
      have HI : Hid _ := hi
      have HF : Hid _ := hfin
      have HT : Hid _ := hstep
      clear hi hfin hstep hs
      generalize hN : (l[k]).toNat = N at *
      generalize hCk : l[k] = C at *
      clear hN hCk
      have hno : low C = false → l.all low = false := HF.out
      rcases (by omega : (N : Int) < 48 ∨ (48 ≤ (N : Int) ∧ (N : Int) ≤ 57) ∨ (57 < (N : Int) ∧ (N : Int) < 97) ∨ (97 ≤ (N : Int) ∧ (N : Int) ≤ 102) ∨ 102 < (N : Int)) with h | ⟨h, h'⟩ | ⟨h, h'⟩ | ⟨h, h'⟩ | h
      · have hz : l.all low = false := hno (Bool.eq_false_iff.2 fun h => by have := HI.out.1 h; omega)
        clear hno
        go_wp2
        go_ret
        exact ⟨rfl, rfl⟩
      · have ht : (l.take (k + 1)).all low = true := HT.out (HI.out.2 (by omega))
        have HT2 : Hid _ := ht
        have d1 : decide ((N : Int) ≤ 57) = true := by simpa using h'
        clear hno ht
        go_wp2
        go_round
        case rel => exact ⟨k + 1, by omega, by go_num, HT2.out⟩
        case measure => simp [RowKit.intOf]; omega
      · have hz : l.all low = false := hno (Bool.eq_false_iff.2 fun h => by have := HI.out.1 h; omega)
        have d1 : decide ((N : Int) ≤ 57) = false := by simp; omega
        clear hno
        go_wp2
        go_ret
        exact ⟨rfl, rfl⟩
      · have ht : (l.take (k + 1)).all low = true := HT.out (HI.out.2 (by omega))
        have HT2 : Hid _ := ht
        have d1 : decide ((N : Int) ≤ 57) = false := by simp; omega
        have d2 : decide ((N : Int) ≤ 102) = true := by simpa using h'
        clear hno ht
        go_wp2
        go_round
        case rel => exact ⟨k + 1, by omega, by go_num, HT2.out⟩
        case measure => simp [RowKit.intOf]; omega
      · have hz : l.all low = false := hno (Bool.eq_false_iff.2 fun h => by have := HI.out.1 h; omega)
        have d1 : decide ((N : Int) ≤ 57) = false := by simp; omega
        have d2 : decide ((N : Int) ≤ 102) = false := by simp; omega
        clear hno
        go_wp2
        go_ret
        exact ⟨rfl, rfl⟩
    · have e : k = 64 := by omega
      have hz : l.all low = true := by
        have := HA.out
        rw [e, List.take_of_length_le (by rw [HL.out]; omega)] at this
        exact this
      clear e
      go_wp2
      go_ret
      exact ⟨rfl, rfl⟩
end Go.Proofs.Qxb6628003aFmt
