import Derived.Test.Qxb6628583aContZ
import Derived.Test.Qxb6628583aOpen
namespace Go.Proofs.Qxb6628583a
open Go.ChangeShapes Go.WideShapes Go.ChangeAt Go.RowKit

theorem cont_own : ownKnob Try.prog.godebug = none := by kernel_rfl
theorem cont_laidOut : laidOutB Try.prog = true := by kernel_rfl

theorem cont_any (a : Option Addr) (len cap : Nat) (xs : List Sp) (kk : Int) (w : World) (h : IsRow w a len xs) :
    Calls Try.prog 4 #[.slice a len cap, .int .i64 kk] w fun e w' => e = .returned (.bool true) ∧ Below w.heap.size w w' := by
  rcases h with rfl | ⟨b, off, rfl, rfl, hm, hc, hok, hb⟩
  · exact cont_zero a cap kk w
  · by_cases hbig : 4096 < (xs.length : Int)
    · exact cont_many b off cap xs kk w hm hbig hc
    · exact cont_walk b off cap xs kk w (by omega) hc hok hb

set_option maxRecDepth 100000 in
theorem cont_lifted (os : Os) (started : os.Started) (H : Type) (enc : TypeId × Value → H) :
    ReturnsInHanded {} Try.checked os 4 .any (Rows.fnNewMembersContinuedByAddAgreesSpec.pre6 enc Try.prog Try.f4 Rows.fnNewMembersContinuedByAddAgreesRow.domain false) (Rows.fnNewMembersContinuedByAddAgreesSpec.post enc Try.prog Try.f4 false true false false) := by
  refine returnsInHanded_of_change (C := Try.checked) cont_own started (by kernel_rfl) Try.func4
    (ChangeSpec.witness6 (enc := enc) (C := Try.checked) false ⟨#[], #[.slice none 0 0, .int .i64 0], []⟩ 8 (by kernel_rfl) (by kernel_rfl) (by kernel_rfl) (by kernel_rfl)) ?_
  intro W base args ds gs before hval0 hW hcnd _
  have hval : ∀ (j : Nat) t v, Try.f4.params[j]? = some t → args[j]? = some v → Value.okWide Try.prog W .any base t v := hval0
  have hW' := hW
  obtain ⟨p, q, hA0, hV, rfl, hfz, hnd⟩ := hW
  have hA : DataW.TrodAll enc Try.prog W 0 (fun _ => true) true Try.f4.params.toList args.toList ds p := hA0
  rw [Try.params4] at hA hval
  obtain ⟨v0, v1, d0, d1, p0, p1, rfl, rfl, rfl, h0, h1⟩ := trodAll_two hA
  obtain ⟨rfl, rfl⟩ := trodVars_none hV
  obtain ⟨a0, len0, cap0, rfl⟩ := okWide_slice Try.underlying22 (hval 0 22 v0 rfl rfl)
  have k0 := h0
  have lt0 : ∀ x ∈ p0, x.block < W.heap.size := by obtain ⟨m, hm⟩ := k0; exact DataW.trod_lt m _ _ _ hm
  obtain ⟨xs, w0⟩ : ∃ xs, IsRow W a0 len0 xs := by
    obtain ⟨fuel, hf⟩ := h0
    exact open_row hf
  obtain ⟨kk, rfl, rfl, rfl, wk⟩ := open_int Try.underlying3 (hval 1 3 v1 rfl rfl) h1
  clear hA0 hval0
  refine (cont_any a0 len0 cap0 xs kk W w0).mono fun e W' ⟨he, bel⟩ => ?_
  subst he
  refine ⟨_, rfl, _, _, _, [], p0 ++ [], [], hW', ?_, ?_, ?_, bel.frame _, fun h => by cases h⟩
  · exact trodAll_mk1 (shut_bool Try.underlying4 _)
  · exact trodAll_mk2 (Below.trod cont_laidOut (by kernel_rfl) (of_decide_eq_true (by kernel_rfl)) k0 bel lt0) (shut_int Try.underlying3 wk)
  · rfl

theorem cont_proved : Rows.FnNewMembersContinuedByAddAgreesSaid :=
  OpenClaim.holds_of_wide 4 Try.f4 rfl rfl rfl rfl rfl rfl rfl ⟨rfl, rfl, rfl, rfl, rfl⟩ rfl rfl rfl rfl rfl (by kernel_rfl) Try.func4 (by kernel_rfl)
    (of_decide_eq_true (by kernel_rfl)) (by unfold Func.isWrapper; first | (rw [if_pos (by decide +kernel)]; kernel_rfl) | (rw [if_neg (by decide +kernel)]; exact ⟨rfl, rfl⟩))
    (fun os started H enc _ => cont_lifted os started H enc)
end Go.Proofs.Qxb6628583a
