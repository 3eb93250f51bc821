import Derived.Test.Qxb6628583aCount
import Derived.Deep.Draws
namespace Go.Proofs.Qxb6628583a
open Go.RowKit Go.Maps
open Go.ChangeMaps (setBlock heap_setBlock_same heap_setBlock_other)

/-- The cells of the scope of kind k. -/
def cellsS (o t a : ByteArray) : Nat → List Value
  | 0 => [.int .i64 0, .string o, .string nos, .string nos, .string nos]
  | 1 => [.int .i64 1, .string o, .string t, .string nos, .string nos]
  | _ => [.int .i64 2, .string o, .string t, .string a, .string nos]

set_option maxHeartbeats 400000 in
theorem scopes_any (o t a : ByteArray) (w : World) :
    Calls Try.prog 17 #[.agg #[.string o, .string t, .string a, .string nos]] w fun e w' => e = .returned (.slice (some ⟨w.heap.size + 1, 0, none⟩) 3 3) ∧
      w' = (w.alloc (.cells #[.string o, .string t, .string a, .string nos] 44)).alloc (.cells #[.int .i64 0, .string o, .string nos, .string nos, .string nos, .int .i64 1, .string o, .string t, .string nos, .string nos, .int .i64 2, .string o, .string t, .string a, .string nos] 36) := by
  unfold nos
  go_enter Try.func17, Try.ntmps17
  go_wp2
  go_ret
  exact ⟨rfl, rfl⟩

theorem ownsMap_drewN {W : World} {B n : Nat} {D : DataW Unit} (h : W.ownsMap Try.prog 36 (plainElem Try.prog 3) B n D) (nq : Nat) : (W.drewN nq).ownsMap Try.prog 36 (plainElem Try.prog 3) B n D := h

theorem wf0 : (Lit.int .i64 0).wf = true := by decide

/-- Behind 'the entry is laid' (at nought, where it was not there) the map still tells the key as before. -/
theorem laid_tells {W : World} {B n : Nat} {D : DataW Unit} (hown : W.ownsMap Try.prog 36 (plainElem Try.prog 3) B n D) (hn : n < maxLen) {key : Value} {kl : Lit} (hkey : keyOf Try.prog 36 key = some kl) {c : Int} (hc : D.atKey kl (.lit (.int .i64 0)) = .lit (.int .i64 c))
    {T : Value} {W3 : World} (hrun : (Instr.mapEntry 24 (.map (some B)) key).run Try.prog W = .ok T W3) : ∃ (n3 : Nat) (D3 : DataW Unit), W3.ownsMap Try.prog 36 (plainElem Try.prog 3) B n3 D3 ∧ D3.atKey kl (.lit (.int .i64 0)) = .lit (.int .i64 c) := by
  have hown0 := hown
  obtain ⟨es, clock, hb, F, hs, hD⟩ := hown
  rcases klaw.find W hkey es.toList F.keys with ⟨h1, h2⟩ | ⟨j, e0, h1, h2, h3⟩
  · -- it was not there
    have hc0 : c = 0 := by
      rcases Maps.fit_look false law Try.underlying24 (zeroE W) hb F hkey with ⟨_, _, hat⟩ | ⟨e0, y, hm, hk, _⟩
      · have := hat (.lit (.int .i64 0))
        rw [← hD, hc] at this
        injection this with this
        injection this
      · exact absurd hk (h2 e0 hm)
    subst hc0
    have e1 : (Instr.mapEntry 24 (.map (some B)) key).run Try.prog W = .ok (.tuple #[.int .i64 0, goInt clock]) (setBlock W B (.map (es.push ⟨key, .int .i64 0, clock⟩) (clock + 1))) := by
      simp [Instr.mapEntry, run_underlying Try.underlying24, MapKept.run_getObj_map hb, klaw.check W false hkey, h1, MapKept.run_setObj_map _ hb, Result.andThen, setBlock]
    have e2 : (Instr.mapUpdate 24 (.map (some B)) key (.int .i64 0)).run Try.prog W = .ok () (setBlock W B (.map (es.push ⟨key, .int .i64 0, clock⟩) (clock + 1))) := by
      simp [Instr.mapUpdate, run_underlying Try.underlying24, MapKept.run_getObj_map hb, klaw.check W false hkey, h1, MapKept.run_setObj_map _ hb, Result.andThen, setBlock]
    obtain ⟨w', r1, r2, _⟩ := hown0.update law Try.underlying24 hn hkey (plainElem_int Try.underlying3 wf0)
    rw [e2] at r1
    rw [e1] at hrun
    injection r1 with _ r1
    injection hrun with _ hrun
    subst hrun
    subst r1
    exact ⟨_, _, r2, atKey_put_same hown0.isMap (law.key hkey) _ _⟩
  · have hj : es[j]? = some e0 := by simpa using h2
    have hsame : es.modify j (fun e => { e with key := key }) = es := by
      apply Array.ext'
      rw [Array.toList_modify, ChangeMaps.modify_eq_set _ _ _ _ h2]
      have : ({ e0 with key := key } : MapEntry) = e0 := by rw [← h3]
      rw [this]
      exact WideElems.set_self _ _ _ h2
    have e1 : (Instr.mapEntry 24 (.map (some B)) key).run Try.prog W = .ok (.tuple #[e0.val, goInt e0.born]) (setBlock W B (.map es clock)) := by
      simp [Instr.mapEntry, run_underlying Try.underlying24, MapKept.run_getObj_map hb, klaw.check W false hkey, h1, hj, h3, klaw.stays W hkey, hsame, MapKept.run_setObj_map _ hb, Result.andThen, setBlock]
    rw [e1] at hrun
    injection hrun with _ hrun
    subst hrun
    exact ⟨n, D, ⟨es, clock, heap_setBlock_same hb _, F, hs, hD⟩, hc⟩

/-- What 'm[k]++' comes to, whichever of its operations Go carries out first. -/
theorem entry_facts {W : World} {B n : Nat} {D : DataW Unit} (hown : W.ownsMap Try.prog 36 (plainElem Try.prog 3) B n D) (hn : n < maxLen) {key : Value} {kl : Lit} (hkey : keyOf Try.prog 36 key = some kl) {c : Int} (hc : D.atKey kl (.lit (.int .i64 0)) = .lit (.int .i64 c))
    (hw : (Lit.int .i64 (c + 1)).wf = true) :
    ∃ (v0 : Value) (st : Nat) (W3 W4 : World), (Instr.lookup 24 (.map (some B)) key false).run Try.prog W = .ok (.int .i64 c) W ∧
      (Instr.mapEntry 24 (.map (some B)) key).run Try.prog W = .ok (.tuple #[v0, .int .i64 (st : Int)]) W3 ∧
      (Instr.lookup 24 (.map (some B)) key false).run Try.prog W3 = .ok (.int .i64 c) W3 ∧
      (Instr.entryStore 24 (.map (some B)) (.int .i64 (st : Int)) (.int .i64 (c + 1))).run Try.prog W3 = .ok () W4 ∧
      (∀ nq, (Instr.lookup 24 (.map (some B)) key false).run Try.prog (W4.drewN nq) = .ok (.int .i64 (c + 1)) (W4.drewN nq)) ∧
      W4.ownsMap Try.prog 36 (plainElem Try.prog 3) B (n + 1) (D.put kl (.lit (.int .i64 (c + 1)))) ∧ W.grownBy W4 (some B) ∧ W4.heap.size = W.heap.size := by
  have tells : ∀ {W : World} {n : Nat} {D : DataW Unit} {c : Int}, W.ownsMap Try.prog 36 (plainElem Try.prog 3) B n D → D.atKey kl (.lit (.int .i64 0)) = .lit (.int .i64 c) → (Instr.lookup 24 (.map (some B)) key false).run Try.prog W = .ok (.int .i64 c) W := fun hown hc => by
    obtain ⟨c', hrun, hat, _⟩ := hown.lookup_int law Try.underlying24 Try.underlying3 (zeroE _) hkey
    rw [hc] at hat
    injection hat with h
    injection h with _ h
    rw [hrun, h]
  have hown0 := hown
  obtain ⟨es, clock, hb, F, hs, hD⟩ := hown
  obtain ⟨v0, st, es1, clock1, h1, h2, h3⟩ := WideElems.entry_then_store klaw Try.underlying24 zeroE hb F hkey
  have hb1 : (setBlock W B (.map es1 clock1)).heap[B]? = some (.map es1 clock1) := heap_setBlock_same hb _
  obtain ⟨es2, clock2, h4, h5⟩ := h3 (setBlock W B (.map es1 clock1)) (.int .i64 (c + 1)) hb1
  obtain ⟨w', r1, r2, r3⟩ := hown0.update law Try.underlying24 hn hkey (plainElem_int Try.underlying3 hw)
  rw [h5] at r1
  injection r1 with _ r1
  have hb2 : (setBlock (setBlock W B (.map es1 clock1)) B (.map es2 clock2)).heap[B]? = some (.map es2 clock2) := heap_setBlock_same hb1 _
  have hown4 : (setBlock (setBlock W B (.map es1 clock1)) B (.map es2 clock2)).ownsMap Try.prog 36 (plainElem Try.prog 3) B (n + 1) (D.put kl (.lit (.int .i64 (c + 1)))) := by
    rw [← r1] at r2
    obtain ⟨es', clock', q1, q2⟩ := r2
    rw [heap_setBlock_same hb] at q1
    exact ⟨es', clock', hb2.trans q1, q2⟩
  obtain ⟨n3, D3, o3, a3⟩ := laid_tells hown0 hn hkey hc h1
  refine ⟨v0, st, _, _, tells hown0 hc, h1, tells o3 a3, h4, fun nq => tells (ownsMap_drewN hown4 nq) (atKey_put_same hown0.isMap (law.key hkey) _ _), hown4, ⟨rfl, rfl, rfl, by simp [setBlock], fun i hi hne => ?_⟩, by simp [setBlock]⟩
  rw [heap_setBlock_other hb1 _ (fun e => hne (by rw [e])), heap_setBlock_other hb _ (fun e => hne (by rw [e]))]
end Go.Proofs.Qxb6628583a
