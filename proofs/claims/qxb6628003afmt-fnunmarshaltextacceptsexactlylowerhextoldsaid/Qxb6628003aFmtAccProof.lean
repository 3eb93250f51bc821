import Derived.Test.Qxb6628003aFmtWrap
import Derived.Test.Qxb6628003aFmtAcc
import Derived.ChangeOld
namespace Go.Proofs.Qxb6628003aFmt
open Go.ChangeShapes Go.WideShapes Go.ChangeAt Go.RowKit
open Go.Extern.Stop Go.Stop Go.Extern

/-- What is known of a slice of bytes that came in. -/
def IsRow (k : IntKind) (w : World) (a : Option Addr) (len cap : Nat) (zs : List Int) : Prop :=
  (a = none ∧ len = 0 ∧ cap = 0 ∧ zs = []) ∨
  ∃ x, a = some x ∧ len ≤ cap ∧ cap ≤ maxLen ∧ zs.length = cap ∧ (∀ i, i < zs.length → w.cell? (x.add i) = some (.int k (zs.getD i 0))) ∧ ∀ n ∈ zs, (Lit.int k n).wf = true

theorem convert_empty (a : Addr) (cap : Nat) (w : World) : (convert 28 9 (.slice (some a) 0 cap)).run Tryf.prog w = .ok (.string ByteArray.empty) w := by
  have hl : (loadCells a 0).run Tryf.prog w = .ok (([] : List Int).map (Value.int .u8)).toArray w := by simp [loadCells, loadCellsFrom]
  rw [run_convert_bytes_string w 28 9 5 _ 0 cap Tryf.underlying28 Tryf.underlying5 Tryf.underlying9, run_bytesToString w _ 0 cap [] hl]
  rfl

/-- The law, out of what is known of the text. -/
theorem acc_of (F : Interp) (a : Option Addr) (len cap : Nat) (l lb : List UInt8) (ev : Value) (w : World) (hF : F.answers w.tape) (hE : w.cell? ⟨0, 0, none⟩ = some ev) (hlb : lb.length = 32)
    (hcv : ∀ w', Below w.heap.size w w' → (convert 28 9 (.slice a len cap)).run Tryf.prog w' = .ok (.string ⟨l.toArray⟩) w')
    (hlow : ∀ w', Below w.heap.size w w' → Calls Tryf.prog 8 #[.slice a len cap] w' fun e w'' => e = .returned (.bool (isLow l)) ∧ w'' = w') :
    Calls Tryf.prog 4 #[.slice a len cap, .agg (bcells lb)] w fun e w' => e = .returned (.bool true) ∧ Below w.heap.size w w' := by
  by_cases hb : 1048576 < (len : Int)
  · exact acc_big a len cap lb w hlb hb
  · cases hi : isLow l with
    | false => exact acc_no F a len cap l lb ⟨l.toArray⟩ ev w hF hE hlb hb hcv rfl hlow hi
    | true =>
      have hi' := hi
      simp only [isLow, Bool.and_eq_true, beq_iff_eq] at hi'
      obtain ⟨d, hd, he⟩ := encode_of_low 32 l hi'.1 hi'.2
      exact acc_yes a len cap l lb d ⟨l.toArray⟩ ev w hE hlb hb hcv rfl hlow hi hd he

theorem acc_walk (F : Interp) (a : Option Addr) (len cap : Nat) (zs : List Int) (lb : List UInt8) (ev : Value) (w : World) (hF : F.answers w.tape) (hE : w.cell? ⟨0, 0, none⟩ = some ev) (hlb : lb.length = 32) (hr : IsRow .u8 w a len cap zs) :
    Calls Tryf.prog 4 #[.slice a len cap, .agg (bcells lb)] w fun e w' => e = .returned (.bool true) ∧ Below w.heap.size w w' := by
  rcases hr with ⟨rfl, rfl, rfl, rfl⟩ | ⟨x, rfl, hl, hm, hz, hcell, hwz⟩
  · exact acc_of F none 0 0 [] lb ev w hF hE hlb (fun w' _ => run_convert_bytes_nil w' 28 5 Tryf.underlying28 Tryf.underlying5 0 0 9 Tryf.underlying9) (fun w' _ => low_len none 0 0 w' (by decide))
  · by_cases h0 : len = 0
    · subst h0
      exact acc_of F (some x) 0 cap [] lb ev w hF hE hlb (fun w' _ => convert_empty x cap w') (fun w' _ => low_len (some x) 0 cap w' (by decide))
    · obtain ⟨b, off, rfl, hc⟩ := ints_at hcell (by omega)
      have hblk : b < w.heap.size := World.block_lt_of_cell? w ⟨b, off + 0, none⟩ (hc 0 (by omega))
      have hxl : (zs.take len).length = len := by rw [List.length_take]; omega
      have hxg : ∀ i, i < len → (zs.take len).getD i 0 = zs.getD i 0 := fun i hi => by
        simp [List.getD_eq_getElem?_getD, hi]
      have hrange : ∀ i, i < len → 0 ≤ zs.getD i 0 ∧ zs.getD i 0 < 256 := fun i hi => by
        have hlt : i < zs.length := by omega
        have := hwz _ (List.getElem_mem hlt)
        simp [Lit.wf, IntKind.min, IntKind.max, IntKind.signed, IntKind.bits] at this
        rw [List.getD_eq_getElem?_getD, List.getElem?_eq_getElem hlt]
        simp only [Option.getD_some]
        omega
      have hcell' : ∀ w', Below w.heap.size w w' → ∀ i, i < len → w'.cell? ⟨b, off + i, none⟩ = some (.int .u8 ((zs.take len).getD i 0)) := fun w' hb' i hi => by
        rw [hb'.cell hblk, hxg i hi]; exact hc i (by omega)
      refine acc_of F _ len cap ((zs.take len).map fun n => UInt8.ofNat n.toNat) lb ev w hF hE hlb (fun w' hb' => ?_) (fun w' hb' => ?_)
      · exact run_convert_bytes_arg w' 28 5 Tryf.underlying28 Tryf.underlying5 b off len cap (zs.take len) hxl (hcell' w' hb') 9 Tryf.underlying9
      · by_cases h64 : len = 64
        · subst h64
          have e : isLow ((zs.take 64).map fun n => UInt8.ofNat n.toNat) = ((zs.take 64).map fun n => UInt8.ofNat n.toNat).all low := by
            simp only [isLow, List.length_map, hxl, beq_self_eq_true, Bool.true_and]
          rw [e]
          refine low_64 b off cap _ w' (by rw [List.length_map, hxl]) (fun i hi => ?_)
          have hi' : i < 64 := by rw [List.length_map, hxl] at hi; exact hi
          rw [hcell' w' hb' i hi', List.getElem_map]
          have hr' := hrange i hi'
          have hg := hxg i hi'
          have hlt : i < (zs.take 64).length := by omega
          rw [List.getD_eq_getElem?_getD, List.getElem?_eq_getElem hlt] at hg ⊢
          simp only [Option.getD_some] at hg ⊢
          rw [UInt8.toNat_ofNat', Nat.mod_eq_of_lt (by omega), Int.toNat_of_nonneg (by omega)]
        · have e : isLow ((zs.take len).map fun n => UInt8.ofNat n.toNat) = false := by
            simp only [isLow, List.length_map, hxl]
            rw [beq_eq_false_iff_ne.2 h64]
            rfl
          rw [e]
          exact low_len _ len cap w' (by rw [bne_iff_ne]; omega)

theorem laid_met2 (os : Os) (args : Array Value) : laidMet Tryf.prog Rows.fnUnmarshalTextAcceptsExactlyLowerHexRow.laid ((laidW Tryf.prog os).forCall (fun _ _ => 0) ⟨#[], args, []⟩).memory := laid_met os args

set_option maxRecDepth 100000 in
theorem acc_lifted (os : Os) (started : os.Started) (H : Type) (enc : TypeId × Value → H) :
    ReturnsInTold none {} Tryf.checked os 4 .any Input.okWide ((OpenSpec.ofChange Rows.fnUnmarshalTextAcceptsExactlyLowerHexSpec).preRow enc Tryf.prog Tryf.f4 Rows.fnUnmarshalTextAcceptsExactlyLowerHexRow.domain false Rows.fnUnmarshalTextAcceptsExactlyLowerHexRow.laid)
      (fun F => ((OpenSpec.ofChange Rows.fnUnmarshalTextAcceptsExactlyLowerHexSpec).at F).post enc Tryf.prog Tryf.f4 false true false false) (aloneAtReturn Tryf.prog) nothingAlways := by
  refine returnsInTold_of_row (C := Tryf.checked) (s := OpenSpec.ofChange Rows.fnUnmarshalTextAcceptsExactlyLowerHexSpec) (by kernel_rfl) Tryf.own started (by kernel_rfl) Tryf.func4
    (OpenSpec.witness_stopped_at (enc := enc) (C := Tryf.checked) false (laidW Tryf.prog os) #[.slice none 0 0, .agg (bcells (List.replicate 32 0))] rfl (by kernel_rfl) (by kernel_rfl) (by kernel_rfl)
      (OpenSpec.preRow_of_B rfl 8 (by kernel_rfl) (by kernel_rfl) (laid_met2 os _))) ?_
  intro F W base args ds gs before _ hF hval0 hW _ _ _ hL _
  have hval : ∀ (j : Nat) t v, Tryf.f4.params[j]? = some t → args[j]? = some v → Value.okWide Tryf.prog W .any base t v := hval0
  have hW' := hW
  obtain ⟨p, q, hA0, hV0, rfl, _, _⟩ := hW
  have hA : DataW.TrodAll enc Tryf.prog W 0 (fun _ => true) true Tryf.f4.params.toList args.toList ds p := hA0
  rw [Tryf.params4] at hA hval
  obtain ⟨v0, v1, d0, d1, p0, p1, rfl, rfl, rfl, h0, h1⟩ := trodAll_two hA
  obtain ⟨rfl, rfl⟩ := trodVars_none hV0
  obtain ⟨a0, len0, cap0, rfl⟩ := okWide_slice Tryf.underlying28 (hval 0 28 v0 rfl rfl)
  have k0 := h0
  have lt0 : ∀ x ∈ p0, x.block < W.heap.size := by obtain ⟨m, hm⟩ := k0; exact DataW.trod_lt m _ _ _ hm
  obtain ⟨z0, w0⟩ : ∃ zs, IsRow .u8 W a0 len0 cap0 zs := by
    obtain ⟨fuel, hf⟩ := h0
    rcases open_ints Tryf.underlying28 Tryf.underlying5 (by kernel_rfl) hf with ⟨hcs, _⟩ | ⟨x, l, c, zs, hcs, _, hl, hm, hz, _, hcell, hwz⟩
    · simp [Value.cells] at hcs
      obtain ⟨rfl, rfl, rfl⟩ := hcs
      exact ⟨[], .inl ⟨rfl, rfl, rfl, rfl⟩⟩
    · simp [Value.cells] at hcs
      obtain ⟨rfl, rfl, rfl⟩ := hcs
      exact ⟨zs, .inr ⟨_, rfl, hl, hm, by simpa using hz, hcell, hwz⟩⟩
  obtain ⟨lb, hlb, rfl, rfl⟩ := open_arr (hval 1 22 v1 rfl rfl) h1
  obtain ⟨ev, hE⟩ := cell_of_laid hL
  clear hA0 hV0 hval0
  refine (acc_walk F.told a0 len0 cap0 z0 lb ev W hF hE hlb w0).mono fun e W' ⟨he, hb⟩ => ?_
  subst he
  refine ⟨_, rfl, _, _, _, [], p0 ++ [], [], hW', ?_, ?_, ?_, hb.frame _, fun h => by cases h⟩
  · exact trodAll_mk1 (shut_bool Tryf.underlying4 _)
  · exact trodAll_mk2 (Below.trod Tryf.laidOut (by kernel_rfl) (of_decide_eq_true (by kernel_rfl)) k0 hb lt0) (Below.trod Tryf.laidOut (by kernel_rfl) (of_decide_eq_true (by kernel_rfl)) h1 hb (fun x hx => by cases hx))
  · rfl

theorem acc_proved : Rows.FnUnmarshalTextAcceptsExactlyLowerHexToldSaid :=
  Claim7.holds_of_told_tied_any_at .later 4 Tryf.f4 "fmt.errorf" [] [] _ _ _ _ _ (by kernel_rfl) rfl rfl rfl Tryf.laidOut' (by kernel_rfl) rfl ⟨rfl, rfl, rfl, rfl, rfl, rfl, rfl⟩ rfl rfl (by kernel_rfl) (by kernel_rfl) Tryf.func4 (by kernel_rfl)
    (of_decide_eq_true (by kernel_rfl)) (by unfold Func.isWrapper; first | (rw [if_pos (by decide +kernel)]; kernel_rfl) | (rw [if_neg (by decide +kernel)]; exact ⟨rfl, rfl⟩)) Tryf.stops.symm rfl Tryf.stopKnobs.symm (by kernel_rfl)
    (by kernel_rfl) (by kernel_rfl) (by kernel_rfl) (by kernel_rfl) (by kernel_rfl) (by kernel_rfl) (by kernel_rfl) (by kernel_rfl) (by kernel_rfl) rfl (by kernel_rfl) rfl rfl
    rfl rfl
    rfl (by kernel_rfl) (by kernel_rfl) (by kernel_rfl) (by decide) (by kernel_rfl) fnUnmarshalTextAcceptsExactlyLowerHex_row_tie
    (OpenClaim.moreEntering_of (by kernel_rfl) (by kernel_rfl) (by kernel_rfl) (by kernel_rfl) (by kernel_rfl) (by kernel_rfl) (by kernel_rfl) (by kernel_rfl) (by kernel_rfl) (by kernel_rfl))
    ⟨_, WideRow.started_initial, Tryf.quiet _⟩
    (fun os started _ H enc _ => acc_lifted os started H enc)
end Go.Proofs.Qxb6628003aFmt
