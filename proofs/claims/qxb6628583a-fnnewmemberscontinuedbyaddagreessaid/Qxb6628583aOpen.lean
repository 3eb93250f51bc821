import Derived.Test.Qxb6628583aZero
import Derived.Lib.SmallJoins
import Derived.ProofKit
import Derived.OpenShut
namespace Go.Proofs.Qxb6628583a
open Go.ChangeShapes Go.WideShapes Go.ChangeAt Go.RowKit


/-- What is known of a slice of spenders that came in. -/
def IsRow (w : World) (a : Option Addr) (len : Nat) (xs : List Sp) : Prop :=
  len = 0 ∨ ∃ b off, a = some ⟨b, off, none⟩ ∧ len = xs.length ∧ xs.length ≤ maxLen ∧ RowAt w b off xs ∧ (∀ p ∈ xs, p.ok) ∧ b < w.heap.size

theorem open_row {H : Type} {enc : TypeId × Value → H} {w : World} {base : Nat} {spare : Nat → Bool} {held : Bool} {fuel : Nat} {a : Option Addr} {len cap : Nat} {x : DataW H × List MemPlace}
    (h : DataW.trod enc Try.prog w base spare held fuel 22 [.slice a len cap] = some x) : ∃ xs, IsRow w a len xs := by
  rcases Go.Deep.open_slice Try.underlying22 h with ⟨h0, _⟩ | ⟨x, l, c, m, n, D, Pl, hcs, _, hl, hm, hmm, _, hx⟩
  · simp at h0
    exact ⟨[], .inl h0.2.1⟩
  · simp at hcs
    obtain ⟨rfl, rfl, rfl⟩ := hcs
    have hle : len ≤ m := by rw [hmm]; split <;> omega
    have one : ∀ i, i < len → ∃ p : Sp, p.ok ∧ w.cell? (x.add (i * 4)) = some (.string p.o) ∧ w.cell? (x.add (i * 4 + 1)) = some (.string p.t) ∧ w.cell? (x.add (i * 4 + 2)) = some (.string p.a) ∧ w.cell? (x.add (i * 4 + 3)) = some (.string p.s) := by
      intro i hi
      obtain ⟨cs, hc, ht⟩ := hx i (by omega)
      have e4 : Try.prog.cellsOf 32 = 4 := by kernel_rfl
      have e1 : Try.prog.cellsOf 9 = 1 := by kernel_rfl
      obtain ⟨y0, y1, y2, y3, n', _, hlen, t0, t1, t2, t3⟩ := Go.Joins.trod_struct4 Try.underlying32 ht
      rw [e4] at hc hlen
      rw [e1] at t0 t1 t2 t3
      obtain ⟨_, _, hcell⟩ := World.cells?_some hc
      match cs, hlen with
      | [c0, c1, c2, c3], _ =>
        obtain ⟨s0, g0, _, z0⟩ := DataW.trod_string Try.underlying9 t0
        obtain ⟨s1, g1, _, z1⟩ := DataW.trod_string Try.underlying9 t1
        obtain ⟨s2, g2, _, z2⟩ := DataW.trod_string Try.underlying9 t2
        obtain ⟨s3, g3, _, z3⟩ := DataW.trod_string Try.underlying9 t3
        simp at g0 g1 g2 g3
        subst g0 g1 g2 g3
        have k0 := hcell 0 (by omega)
        have k1 := hcell 1 (by omega)
        have k2 := hcell 2 (by omega)
        have k3 := hcell 3 (by omega)
        rw [Go.Deep.add_add] at k0 k1 k2 k3
        refine ⟨⟨s0, s1, s2, s3⟩, ⟨z0, z1, z2, z3⟩, ?_, ?_, ?_, ?_⟩
        · simpa using k0
        · simpa using k1
        · simpa using k2
        · simpa using k3
    by_cases h0 : len = 0
    · exact ⟨[], .inl h0⟩
    have : Inhabited Sp := ⟨⟨.empty, .empty, .empty, .empty⟩⟩
    obtain ⟨f, hf⟩ := Go.Deep.choose_lt (α := Sp) one
    obtain ⟨b, off, spot⟩ := x
    have hs := (hf 0 (by omega)).2.1
    have hspot : spot = none := by simpa [Addr.add] using World.cell?_spot hs
    subst hspot
    have hb : b < w.heap.size := World.block_lt_of_cell? w ⟨b, off + 0, none⟩ (by simpa [Addr.add] using hs)
    refine ⟨(List.range len).map f, .inr ⟨b, off, rfl, by simp, by simp; omega, fun i hi => ?_, fun p hp => ?_, hb⟩⟩
    · have hi' : i < len := by simpa using hi
      obtain ⟨_, k0, k1, k2, k3⟩ := hf i hi'
      simp only [List.getElem_map, List.getElem_range]
      rw [Go.WideShapes.add_plain] at k0 k1 k2 k3
      exact ⟨k0, k1, k2, k3⟩
    · simp at hp
      obtain ⟨i, hi, rfl⟩ := hp
      exact (hf i hi).1
end Go.Proofs.Qxb6628583a
