import Derived.Test.Qxb6628583aRows
import Derived.Test.Qxb6628583aOpen
namespace Go.Proofs.Qxb6628583a
open Go.ChangeShapes Go.WideShapes Go.ChangeAt Go.RowKit

theorem counts_own : ownKnob Try.prog.godebug = none := by kernel_rfl
theorem counts_laidOut : laidOutB Try.prog = true := by kernel_rfl

theorem counts_any (a : Option Addr) (len cap : Nat) (xs : List Sp) (w : World) (h : IsRow w a len xs) :
    Calls Try.prog 3 #[.slice a len cap] w fun e w' => e = .returned (.bool true) ∧ Below w.heap.size w w' := by
  rcases h with rfl | ⟨b, off, rfl, rfl, hm, hc, hok, hb⟩
  · exact counts_zero a cap w
  · by_cases hbig : 4096 < (xs.length : Int)
    · exact counts_many b off cap xs w hm hbig hc
    · exact counts_walk b off cap xs w (by omega) hc hok hb

set_option maxRecDepth 100000 in
theorem counts_lifted (os : Os) (started : os.Started) (H : Type) (enc : TypeId × Value → H) :
    ReturnsInHanded {} Try.checked os 3 .any (Rows.fnNewMembersCountsEachScopeSpec.pre6 enc Try.prog Try.f3 Rows.fnNewMembersCountsEachScopeRow.domain false) (Rows.fnNewMembersCountsEachScopeSpec.post enc Try.prog Try.f3 false true false false) := by
  refine returnsInHanded_of_change (C := Try.checked) counts_own started (by kernel_rfl) Try.func3
    (ChangeSpec.witness6 (enc := enc) (C := Try.checked) false ⟨#[], #[.slice none 0 0], []⟩ 8 (by kernel_rfl) (by kernel_rfl) (by kernel_rfl) (by kernel_rfl)) ?_
  intro W base args ds gs before hval0 hW hcnd _
  have hval : ∀ (j : Nat) t v, Try.f3.params[j]? = some t → args[j]? = some v → Value.okWide Try.prog W .any base t v := hval0
  have hW' := hW
  obtain ⟨p, q, hA0, hV, rfl, hfz, hnd⟩ := hW
  have hA : DataW.TrodAll enc Try.prog W 0 (fun _ => true) true Try.f3.params.toList args.toList ds p := hA0
  rw [Try.params3] at hA hval
  obtain ⟨v0, vs0, d0, ds0, p0, q0, hargs, rfl, rfl, h0, r0⟩ := trodAll_cons hA
  obtain ⟨rfl, rfl, rfl⟩ := trodAll_nil r0
  obtain rfl : args = #[v0] := by cases args; simp_all
  obtain ⟨rfl, rfl⟩ := trodVars_none hV
  obtain ⟨a0, len0, cap0, rfl⟩ := okWide_slice Try.underlying22 (hval 0 22 v0 rfl rfl)
  have k0 := h0
  have lt0 : ∀ x ∈ p0, x.block < W.heap.size := by obtain ⟨m, hm⟩ := k0; exact DataW.trod_lt m _ _ _ hm
  obtain ⟨xs, w0⟩ : ∃ xs, IsRow W a0 len0 xs := by
    obtain ⟨fuel, hf⟩ := h0
    exact open_row hf
  clear hA0 hval0
  refine (counts_any a0 len0 cap0 xs W w0).mono fun e W' ⟨he, bel⟩ => ?_
  subst he
  refine ⟨_, rfl, _, _, _, [], p0 ++ [], [], hW', ?_, ?_, ?_, bel.frame _, fun h => by cases h⟩
  · exact trodAll_mk1 (shut_bool Try.underlying4 _)
  · exact trodAll_cons_mk (Below.trod counts_laidOut (by kernel_rfl) (of_decide_eq_true (by kernel_rfl)) k0 bel lt0) trodAll_mk0
  · rfl

theorem counts_proved : Rows.FnNewMembersCountsEachScopeSaid :=
  OpenClaim.holds_of_wide 3 Try.f3 rfl rfl rfl rfl rfl rfl rfl ⟨rfl, rfl, rfl, rfl, rfl⟩ rfl rfl rfl rfl rfl (by kernel_rfl) Try.func3 (by kernel_rfl)
    (of_decide_eq_true (by kernel_rfl)) (by unfold Func.isWrapper; first | (rw [if_pos (by decide +kernel)]; kernel_rfl) | (rw [if_neg (by decide +kernel)]; exact ⟨rfl, rfl⟩))
    (fun os started H enc _ => counts_lifted os started H enc)
end Go.Proofs.Qxb6628583a
