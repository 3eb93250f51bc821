import Derived.Lib.HexFns2
namespace Go.Proofs.Qxb6628003aFmt
open Go.Lib

/-- A byte that is one of 0-9 or a-f. -/
def low (c : UInt8) : Bool := (48 ≤ c.toNat && c.toNat ≤ 57) || (97 ≤ c.toNat && c.toNat ≤ 102)
/-- 64 bytes, each one of 0-9 or a-f. -/
def isLow (l : List UInt8) : Bool := l.length == 64 && l.all low

theorem digit_fin : ∀ d : Fin 16, low (Hx.digit d.val) = true ∧ Hx.v (Hx.digit d.val) = d.val := by decide +kernel
theorem low_digit (d : Nat) (h : d < 16) : low (Hx.digit d) = true := (digit_fin ⟨d, h⟩).1
theorem v_digit (d : Nat) (h : d < 16) : Hx.v (Hx.digit d) = d := (digit_fin ⟨d, h⟩).2

theorem low_all : ∀ n : Fin 256, low (UInt8.ofNat n.val) = true → Hx.v (UInt8.ofNat n.val) < 16 ∧ Hx.digit (Hx.v (UInt8.ofNat n.val)) = UInt8.ofNat n.val := by decide +kernel
theorem of_low (c : UInt8) (h : low c = true) : Hx.v c < 16 ∧ Hx.digit (Hx.v c) = c := by
  have := low_all ⟨c.toNat, c.toNat_lt⟩
  simp only [UInt8.ofNat_toNat] at this
  exact this h

theorem decode_encode : ∀ l : List UInt8, Hx.decode (Hx.encode l) = (l, .ok)
  | [] => by rw [show Hx.encode [] = [] from rfl, Hx.decode_nil]
  | a :: t => by
    have ih := decode_encode t
    have ha := a.toNat_lt
    have h1 : a.toNat / 16 < 16 := by omega
    have h2 : a.toNat % 16 < 16 := by omega
    rw [Hx.encode_cons, Hx.decode_two, v_digit _ h1, v_digit _ h2, if_neg (by omega), if_neg (by omega), ih]
    have e : a.toNat / 16 * 16 + a.toNat % 16 = a.toNat := by omega
    rw [e, UInt8.ofNat_toNat]

theorem low_encode (l : List UInt8) : (Hx.encode l).all low = true := by
  induction l with
  | nil => rfl
  | cons a t ih =>
    have ha := a.toNat_lt
    rw [Hx.encode_cons, List.all_cons, List.all_cons, low_digit _ (by omega), low_digit _ (by omega), ih]
    rfl

/-- Lower hexadecimal digits, an even number of them, are the encoding of what they decode to. -/
theorem encode_of_low : ∀ (n : Nat) (l : List UInt8), l.length = 2 * n → l.all low = true → ∃ d : List UInt8, d.length = n ∧ Hx.encode d = l
  | 0, l, h, _ => ⟨[], rfl, by rw [List.eq_nil_of_length_eq_zero (by omega : l.length = 0)]; rfl⟩
  | n + 1, [], h, _ => by simp at h
  | n + 1, [_], h, _ => by simp at h; omega
  | n + 1, p :: q :: t, h, hl => by
    simp only [List.all_cons, Bool.and_eq_true] at hl
    obtain ⟨hp, hq, ht⟩ := hl
    obtain ⟨d, hd, he⟩ := encode_of_low n t (by simp at h; omega) ht
    obtain ⟨p1, p2⟩ := of_low p hp
    obtain ⟨q1, q2⟩ := of_low q hq
    refine ⟨UInt8.ofNat (Hx.v p * 16 + Hx.v q) :: d, by simp [hd], ?_⟩
    have e : (UInt8.ofNat (Hx.v p * 16 + Hx.v q)).toNat = Hx.v p * 16 + Hx.v q := by
      rw [UInt8.toNat_ofNat', Nat.mod_eq_of_lt (by omega)]
    rw [Hx.encode_cons, e, show (Hx.v p * 16 + Hx.v q) / 16 = Hx.v p from by omega, show (Hx.v p * 16 + Hx.v q) % 16 = Hx.v q from by omega, p2, q2, he]

theorem decode_ok_len : ∀ (n : Nat) (l d : List UInt8), l.length = 2 * n → Hx.decode l = (d, .ok) → d.length = n
  | 0, l, d, h, e => by
    rw [List.eq_nil_of_length_eq_zero (by omega : l.length = 0), Hx.decode_nil] at e
    cases e
    rfl
  | n + 1, [], d, h, _ => by simp at h
  | n + 1, [_], d, h, _ => by simp at h; omega
  | n + 1, p :: q :: t, d, h, e => by
    rw [Hx.decode_two] at e
    by_cases h1 : 15 < Hx.v p
    · rw [if_pos h1] at e; cases e
    · rw [if_neg h1] at e
      by_cases h2 : 15 < Hx.v q
      · rw [if_pos h2] at e; cases e
      · rw [if_neg h2] at e
        have e1 := congrArg Prod.fst e
        have e2 := congrArg Prod.snd e
        have := decode_ok_len n t (Hx.decode t).1 (by simp at h; omega) (Prod.ext rfl e2)
        simp only at e1
        rw [← e1, List.length_cons, this]

theorem decode_not_odd : ∀ (n : Nat) (l : List UInt8), l.length = 2 * n → (Hx.decode l).2 ≠ .odd
  | 0, l, h => by
    rw [List.eq_nil_of_length_eq_zero (by omega : l.length = 0), Hx.decode_nil]
    intro e; cases e
  | n + 1, [], h => by simp at h
  | n + 1, [_], h => by simp at h; omega
  | n + 1, p :: q :: t, h => by
    rw [Hx.decode_two]
    by_cases h1 : 15 < Hx.v p
    · rw [if_pos h1]; intro e; cases e
    · rw [if_neg h1]
      by_cases h2 : 15 < Hx.v q
      · rw [if_pos h2]; intro e; cases e
      · rw [if_neg h2]
        exact decode_not_odd n t (by simp at h; omega)

end Go.Proofs.Qxb6628003aFmt
