import Derived.Test.Qxb6628003aFmtParse
import Derived.Test.Qxb6628003aFmtPlain
import Derived.Laws.BytesArg
namespace Go.Proofs.Qxb6628003aFmt
open Go.RowKit Go.Extern.Stop Go.Stop Go.Extern Go.Lib

/-- Parse refuses every text that is not 64 lower hexadecimal digits. -/
theorem parse_no (F : Interp) (s : ByteArray) (ev : Value) (w : World) (hF : F.answers w.tape) (hE : w.cell? ⟨0, 0, none⟩ = some ev) (hs : isLow s.data.toList = false) :
    Calls Tryf.prog 10 #[.string s] w fun e w' => ∃ z x, Arr32 z ∧ e = .returned (.tuple #[.agg z, .iface 46 x]) ∧ Below w.heap.size w w' := by
  by_cases h64 : s.size = 64
  · have hlen : s.data.toList.length = 2 * 32 := by rw [← Lib.size_eq, h64]
    cases hD : Hx.decode s.data.toList with
    | mk D1 D2 =>
      cases D2 with
      | odd => exact absurd (by rw [hD]) (decode_not_odd 32 _ hlen)
      | bad c => exact parse_bad F s ev w hF h64 hE D1 c hD
      | ok =>
        refine parse_upper F s ev w hF h64 hE D1 hD (decode_ok_len 32 _ _ hlen hD) ?_
        rw [ByteArray.toList_eq, ByteArray.toList_eq]
        rw [beq_eq_false_iff_ne]
        intro e
        have e' : Hx.encode D1 = s.data.toList := e
        rw [← e'] at hs
        have := low_encode D1
        have h2 := decode_ok_len 32 _ _ hlen hD
        simp [isLow, this, Hx.encode_length, h2] at hs
  · exact parse_len F s w hF (by rw [bne_iff_ne]; omega)

/-- Parse reads what String wrote. -/
theorem parse_yes (s : ByteArray) (ev : Value) (w : World) (hE : w.cell? ⟨0, 0, none⟩ = some ev) (l : List UInt8) (hl : l.length = 32) (hs : s.data.toList = Hx.encode l) :
    Calls Tryf.prog 10 #[.string s] w fun e w' => e = .returned (.tuple #[.agg (bcells l), .nilIface]) ∧ Below w.heap.size w w' := by
  refine parse_ok s ev w (by rw [Lib.size_eq, hs, Hx.encode_length, hl]) hE l (by rw [hs, decode_encode]) hl ?_
  rw [ByteArray.toList_eq, ByteArray.toList_eq, hs]
  simp

set_option maxHeartbeats 400000 in
theorem unm_yes (tv : Value) (s : ByteArray) (ev : Value) (w : World) (b : Nat) (old : Array Value) (hE : w.cell? ⟨0, 0, none⟩ = some ev) (l : List UInt8) (hl : l.length = 32) (hs : s.data.toList = Hx.encode l)
    (hcv : (convert 28 9 tv).run Tryf.prog w = .ok (.string s) w) (hg : w.heap[b]? = some (.cells old 23 (0, 0))) (ho : Arr32 old) :
    Calls Tryf.prog 6 #[.pointer (some ⟨b, 0, none⟩), tv] w fun e w' => e = .returned .nilIface ∧ ∃ w1, Below w.heap.size w w1 ∧ w' = w1.setRow b (bcells l) := by
  have HP : Hid _ := parse_yes s ev w hE l hl hs
  have A1 := arr32_bcells l hl
  have hbl : b < w.heap.size := by
    rcases Nat.lt_or_ge b w.heap.size with h | h
    · exact h
    · rw [Array.getElem?_eq_none h] at hg; cases hg
  clear hs hl hE
  go_enter Tryf.func6, Tryf.ntmps6
  go_wp2_with fail
  refine Calls.mono HP.out ?_
  clear HP
  rintro e w1 ⟨rfl, hB⟩
  clear hcv
  have hsz := hB.size
  have hg1 : ∀ o, (w1.alloc o).heap[b]? = some (.cells old 23 (0, 0)) := fun o => by
    rw [Below.heap_alloc _ _ _ (by omega), hB.block _ hbl]; exact hg
  go_wp2_with (first
    | (refine wpList_store_row rfl 23 _ _ rfl w1.heap.size (bcells l) rfl rfl 23 _ (heap_alloc_last w1 _) (by rw [A1.1]; exact size23) (by rw [A1.1]; rfl) A1.2 ?_; rw [World.setRow_alloc_new])
    | refine wpList_load_row rfl 23 _ rfl w1.heap.size rfl 23 (bcells l) (0, 0) _ (heap_alloc_last w1 _) Tryf.underlying23 rfl (by rw [A1.1]; exact size23) ?_
    | refine wpList_store_row rfl 23 _ _ rfl b (bcells l) rfl rfl 23 old (hg1 _) (by rw [A1.1]; exact size23) (by rw [A1.1, ho.1]) A1.2 ?_)
  go_ret
  exact ⟨rfl, _, hB.alloc hsz _, rfl⟩

set_option maxHeartbeats 400000 in
theorem unm_no (F : Interp) (tv : Value) (s : ByteArray) (ev : Value) (w : World) (b : Nat) (hF : F.answers w.tape) (hE : w.cell? ⟨0, 0, none⟩ = some ev) (hs : isLow s.data.toList = false)
    (hcv : (convert 28 9 tv).run Tryf.prog w = .ok (.string s) w) :
    Calls Tryf.prog 6 #[.pointer (some ⟨b, 0, none⟩), tv] w fun e w' => (∃ x, e = .returned (.iface 46 x)) ∧ Below w.heap.size w w' := by
  have HP : Hid _ := parse_no F s ev w hF hE hs
  clear hs hE
  go_enter Tryf.func6, Tryf.ntmps6
  go_wp2_with fail
  refine Calls.mono HP.out ?_
  clear HP
  rintro e w1 ⟨z, x, A1, rfl, hB⟩
  clear hcv
  have hsz := hB.size
  go_wp2_with (first
    | (refine wpList_store_row rfl 23 _ _ rfl w1.heap.size z rfl rfl 23 _ (heap_alloc_last w1 _) (by rw [A1.1]; exact size23) (by rw [A1.1]; rfl) A1.2 ?_; rw [World.setRow_alloc_new]))
  go_ret
  exact ⟨⟨_, rfl⟩, hB.alloc hsz _⟩
end Go.Proofs.Qxb6628003aFmt
