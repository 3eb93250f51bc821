import Derived.Test.Qxb6628622aInt
import Derived.ProofKit
import Derived.OpenShut
namespace Go.Proofs.Qxb6628622a
open Go.ChangeShapes Go.WideShapes Go.ChangeAt Go.RowKit

theorem int_own : ownKnob Try.prog.godebug = none := by kernel_rfl

theorem nat_of_u64 {a : Int} (h : (Lit.int .u64 a).wf = true) : ∃ b : Nat, a = (b : Int) ∧ b < 18446744073709551616 := by
  simp [Lit.wf, IntKind.min, IntKind.max, IntKind.signed, IntKind.bits] at h
  exact ⟨a.toNat, by omega, by omega⟩

set_option maxRecDepth 100000 in
theorem int_lifted (os : Os) (started : os.Started) (H : Type) (enc : TypeId × Value → H) :
    ReturnsInHanded {} Try.checked os 3 .any (Rows.fnNumberIntegerAndUnsignedAreTheNearestFloatSpec.pre6 enc Try.prog Try.f3 Rows.fnNumberIntegerAndUnsignedAreTheNearestFloatRow.domain false) (Rows.fnNumberIntegerAndUnsignedAreTheNearestFloatSpec.post enc Try.prog Try.f3 false true false false) := by
  refine returnsInHanded_of_change (C := Try.checked) int_own started (by kernel_rfl) Try.func3
    (ChangeSpec.witness6 (enc := enc) (C := Try.checked) false ⟨#[], #[.int .u64 0], []⟩ 8 (by kernel_rfl) (by kernel_rfl) (by kernel_rfl) (by kernel_rfl)) ?_
  intro W base args ds gs before hval0 hW hcnd _
  have hval : ∀ (j : Nat) t v, Try.f3.params[j]? = some t → args[j]? = some v → Value.okWide Try.prog W .any base t v := hval0
  have hW' := hW
  obtain ⟨p, q, hA0, hV, rfl, hfz, hnd⟩ := hW
  have hA : DataW.TrodAll enc Try.prog W 0 (fun _ => true) true Try.f3.params.toList args.toList ds p := hA0
  rw [Try.params3] at hA hval
  obtain ⟨v0, vs0, d0, ds0, p0, q0, hargs, rfl, rfl, h0, r0⟩ := trodAll_cons hA
  obtain ⟨rfl, rfl, rfl⟩ := trodAll_nil r0
  obtain rfl : args = #[v0] := by cases args; simp_all
  obtain ⟨rfl, rfl⟩ := trodVars_none hV
  obtain ⟨a0, rfl, rfl, rfl, w0⟩ := open_int Try.underlying22 (hval 0 22 v0 rfl rfl) h0
  obtain ⟨b, rfl, hb⟩ := nat_of_u64 w0
  clear hA0 hval0
  refine (int_walk b hb W).mono fun e W' ⟨he, bel⟩ => ?_
  subst he
  exact ⟨_, rfl, _, _, _, [], [], [], hW', trodAll_mk1 (shut_bool Try.underlying4 _), trodAll_cons_mk (shut_int Try.underlying22 w0) trodAll_mk0, rfl, bel.frame _, fun h => by cases h⟩

theorem int_proved : Rows.FnNumberIntegerAndUnsignedAreTheNearestFloatSaid :=
  OpenClaim.holds_of_wide 3 Try.f3 rfl rfl rfl rfl rfl rfl rfl ⟨rfl, rfl, rfl, rfl, rfl⟩ rfl rfl rfl rfl rfl (by kernel_rfl) Try.func3 (by kernel_rfl)
    (of_decide_eq_true (by kernel_rfl)) (by unfold Func.isWrapper; first | (rw [if_pos (by decide +kernel)]; kernel_rfl) | (rw [if_neg (by decide +kernel)]; exact ⟨rfl, rfl⟩))
    (fun os started H enc _ => int_lifted os started H enc)
end Go.Proofs.Qxb6628622a
