import Derived.Test.Qxb6628003aFmtReads
import Derived.Test.Qxb6628003aFmtCards
import Derived.Test.Qxb6628003aFmtTie
import Derived.ProofKit
import Derived.OpenShut
import Derived.Stop.JoinedAt
import Derived.Stop.JoinedTold
import Derived.Stop.LaidErr
import Derived.SevenTiedAt
namespace Go.Proofs.Qxb6628003aFmt
open Go.ChangeShapes Go.WideShapes Go.ChangeAt Go.RowKit
open Go.Extern.Stop Go.Stop Go.Extern

theorem Tryf.own : ownKnob Tryf.prog.godebug = none := by kernel_rfl
theorem Tryf.laidOut : laidOutB Tryf.prog = true := by kernel_rfl
theorem Tryf.laidOut' : laidOutB Tryf.pinned.checked.prog = true := by kernel_rfl
theorem Tryf.stops : Tryf.pinned.checked.prog.stops = ["fmt.errorf"] := by kernel_rfl
theorem Tryf.stopKnobs : Tryf.pinned.checked.prog.stopKnobs = [] := by kernel_rfl
theorem Tryf.quiet (os : Os) : Stop.quiet Tryf.pinned.checked.prog os := by
  intro k hk
  rw [Tryf.stopKnobs] at hk
  cases hk

/-- The settled world with one block more, an errors.errorString; variable number 0 holds a pointer to it. -/
def laidW (P : Program) (os : Os) : World :=
  let w0 := World.holding P os ⟨#[.cells #[.string ⟨#[101, 110, 99, 111, 100, 105, 110, 103, 47, 104, 101, 120, 58, 32, 111, 100, 100, 32, 108, 101, 110, 103, 116, 104, 32, 104, 101, 120, 32, 115, 116, 114, 105, 110, 103]⟩] 48], #[], []⟩
  { w0 with heap := w0.heap.modify 0 fun
      | .cells _ t frozen => .cells #[.iface 46 (.pointer (some ⟨(World.holding P default ⟨#[], #[], []⟩).heap.size, 0, none⟩))] t frozen
      | o => o }

theorem laid_met (os : Os) (args : Array Value) : laidMet Tryf.prog Rows.fnUnmarshalTextReadsBackStringRow.laid ((laidW Tryf.prog os).forCall (fun _ _ => 0) ⟨#[], args, []⟩).memory :=
  laidMet_of_run (ps := [.cell 0 0, .cell (World.holding Tryf.prog default ⟨#[], #[], []⟩).heap.size 0]) 8 (by kernel_rfl) (by kernel_rfl) (by kernel_rfl)

/-- What the condition on the variable gives: its cell holds something. -/
theorem cell_of_laid {W : World} (hL : laidMet Tryf.prog Rows.fnUnmarshalTextReadsBackStringRow.laid W) : ∃ ev, W.cell? ⟨0, 0, none⟩ = some ev := by
  obtain ⟨a, s, hv, _⟩ := laid_sentinel (g := 0) hL (by kernel_rfl) (by kernel_rfl) Tryf.underlying26
    (fun u hu => typeName_ptr_named (nm := "errors.errorString") (tp := 46) (by kernel_rfl) (by kernel_rfl) (by decide) u (hu.trans (by kernel_rfl))) Tryf.underlying46 Tryf.underlying48 rfl rfl Tryf.underlying9 (by kernel_rfl) (by kernel_rfl)
  exact ⟨_, by simpa using World.var?_cell (g := 0) (by kernel_rfl) hv 0⟩

theorem Tryf.cells22 : Tryf.prog.cellsOf 22 = 32 := by kernel_rfl

/-- An array of 32 bytes that came in. -/
theorem open_arr {H : Type} {enc : TypeId × Value → H} {W : World} {r : Reach} {base b0 : Nat} {sp : Nat → Bool} {hd : Bool} {v : Value} {d : DataW H} {p : List MemPlace} (hv : Value.okWide Tryf.prog W r base 22 v)
    (h : DataW.Trod enc Tryf.prog W b0 sp hd 22 v d p) : ∃ l : List UInt8, l.length = 32 ∧ v = .agg (bcells l) ∧ p = [] := by
  simp only [Value.okWide, Tryf.underlying22] at hv
  obtain ⟨cs, rfl, hsz, _⟩ := hv
  rw [Tryf.cells22] at hsz
  obtain ⟨fuel, hf⟩ := h
  obtain ⟨xs, m, rfl, hx, _, hxl, hxi⟩ := DataW.trod_array Tryf.underlying22 hf
  have hcell : ∀ i, i < 32 → ∃ n : Int, cs[i]? = some (.int .u8 n) ∧ (∃ q, xs[i]? = some (q, [])) ∧ 0 ≤ n ∧ n ≤ 255 := by
    intro i hi
    have h1 := hxi i hi
    have hlt : i < xs.length := by omega
    rw [List.getElem?_eq_getElem hlt] at h1
    obtain ⟨n, e1, e2, wf⟩ := DataW.trod_int Tryf.underlying5 h1
    rw [cells5, Nat.mul_one] at e1
    have e3 : cs.toList[i]? = some (.int .u8 n) := by
      have hlen : i < cs.toList.length := by simpa [hsz] using hi
      have e1' : List.take 1 (List.drop i cs.toList) = [.int .u8 n] := e1
      rw [List.drop_eq_getElem_cons hlen] at e1'
      simp only [List.take_succ_cons, List.take_zero, List.cons.injEq, and_true] at e1'
      rw [List.getElem?_eq_getElem hlen, e1']
    refine ⟨n, by simpa using e3, ⟨_, by rw [List.getElem?_eq_getElem hlt, e2]⟩, ?_⟩
    simp [Lit.wf, IntKind.min, IntKind.max, IntKind.signed, IntKind.bits] at wf
    omega
  have hp : p = [] := by
    have := congrArg Prod.snd hx
    simp only at this
    rw [this]
    rw [List.flatMap_eq_nil_iff]
    intro x hx'
    obtain ⟨i, hi, rfl⟩ := List.mem_iff_getElem.1 hx'
    obtain ⟨n, _, ⟨q, hq⟩, _⟩ := hcell i (by omega)
    rw [List.getElem?_eq_getElem hi] at hq
    rw [Option.some.inj hq]
  refine ⟨cs.toList.map (fun v => match v with | .int _ n => UInt8.ofNat n.toNat | _ => 0), by simp [hsz], ?_, hp⟩
  congr 1
  apply Array.ext
  · simp [bcells, hsz]
  · intro i h1 h2
    obtain ⟨n, e, _, hn0, hn1⟩ := hcell i (by omega)
    rw [Array.getElem?_eq_getElem h1] at e
    have e' := Option.some.inj e
    simp only [bcells, List.map_map, List.getElem_toArray, List.getElem_map, Function.comp_apply, Array.getElem_toList, e']
    rw [UInt8.toNat_ofNat', Nat.mod_eq_of_lt (by omega), Int.toNat_of_nonneg hn0]

end Go.Proofs.Qxb6628003aFmt
