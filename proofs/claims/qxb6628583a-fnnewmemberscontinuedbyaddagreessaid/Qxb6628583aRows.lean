/-
  No cell of these rows narrows 'for every input' (looked for: loops, veiled, ifaces, maps, wideKeys, modest, calm, conditions, laid).
  DERIVED. THE GIVEN ROWS OF THIS SEAT. 2 by the template 'for every input the law returns true; each argument reads behind the call as it read before'; 0 by the template 'total and deterministic' (their statements: Qxb6628583aTotals.lean).
  GIVEN WITH THE SEED: the statements are not yours to turn. If you find one false, say at which input.
  Laid BY PROGRAM, IN A SANDBOX (cutbox-rows.mjs): the forced cells as the released guide's own fill.sh prints them over the translation 1094b89bc41dc61a… (all of the seat's roots in one cut). By AI agents, Wed Nov 11 2026. No macro, syntax, notation, axiom, sorry.
-/
import Derived.Test.Qxb6628583aChecked
import GoSem.Claim
import GoSem.ClaimJoined
import GoSem.ClaimMapViews
import Derived.JoinedTies
import Derived.KernelRfl
namespace Go.Proofs.Qxb6628583a
/- THE CELL 'sum', in the pinned program and in every row, IS THE sha256 OF THE DUMP (.gsa) THAT Qxb6628583aProg.lean LOADS. Nothing in Lean hashes anything: it is a label: what it is worth is what the hold of that sum in a sandbox is worth. -/
noncomputable def Try.pinned : Pinned := { name := "qxb6628583a", sum := "1094b89bc41dc61aeb8f35232f0c6a686426b1c351a0a0a7195109ba3e25a345", checked := Try.checked }
namespace Rows
def none {H : Type} : Left H := { results := [], args := [] }

/-- 'zzlaws_budget_b1.FnNewMembersCountsEachScope': WHATEVER THE INPUT: true; the input reads as it did. -/
def fnNewMembersCountsEachScopeSpec : ChangeSpec := { name := "fnNewMembersCountsEachScope", fn := fun _ => fun
  | [d] => { results := [.lit (.bool true)], args := [d] }
  | _ => none }
def fnNewMembersCountsEachScopeRow : OpenClaim := { program := "qxb6628583a", sum := "1094b89bc41dc61aeb8f35232f0c6a686426b1c351a0a0a7195109ba3e25a345", func := "example.com/purseflow/purseflow/zzlaws_budget_b1.FnNewMembersCountsEachScope", spec := "fnNewMembersCountsEachScope", plainKeys := false, apart := false }
def FnNewMembersCountsEachScopeSaid : Prop := fnNewMembersCountsEachScopeRow.holds Try.pinned (OpenSpec.ofChange fnNewMembersCountsEachScopeSpec)

/-- ITS FALSE NEIGHBOUR: 'it returns false'. Refute it at one input. -/
def fnNewMembersCountsEachScopeWrong : ChangeSpec := { name := "fnNewMembersCountsEachScope", fn := fun _ => fun
  | [d] => { results := [.lit (.bool false)], args := [d] }
  | _ => none }
def FnNewMembersCountsEachScopeWrongFalsely : Prop := fnNewMembersCountsEachScopeRow.holds Try.pinned (OpenSpec.ofChange fnNewMembersCountsEachScopeWrong)

/-- 'zzlaws_budget_b1.FnNewMembersContinuedByAddAgrees': WHATEVER THE INPUT: true; the input reads as it did. -/
def fnNewMembersContinuedByAddAgreesSpec : ChangeSpec := { name := "fnNewMembersContinuedByAddAgrees", fn := fun _ => fun
  | [d1, d2] => { results := [.lit (.bool true)], args := [d1, d2] }
  | _ => none }
def fnNewMembersContinuedByAddAgreesRow : OpenClaim := { program := "qxb6628583a", sum := "1094b89bc41dc61aeb8f35232f0c6a686426b1c351a0a0a7195109ba3e25a345", func := "example.com/purseflow/purseflow/zzlaws_budget_b1.FnNewMembersContinuedByAddAgrees", spec := "fnNewMembersContinuedByAddAgrees", plainKeys := false, apart := false }
def FnNewMembersContinuedByAddAgreesSaid : Prop := fnNewMembersContinuedByAddAgreesRow.holds Try.pinned (OpenSpec.ofChange fnNewMembersContinuedByAddAgreesSpec)

/-- ITS FALSE NEIGHBOUR: 'it returns false'. Refute it at one input. -/
def fnNewMembersContinuedByAddAgreesWrong : ChangeSpec := { name := "fnNewMembersContinuedByAddAgrees", fn := fun _ => fun
  | [d1, d2] => { results := [.lit (.bool false)], args := [d1, d2] }
  | _ => none }
def FnNewMembersContinuedByAddAgreesWrongFalsely : Prop := fnNewMembersContinuedByAddAgreesRow.holds Try.pinned (OpenSpec.ofChange fnNewMembersContinuedByAddAgreesWrong)

end Rows
end Go.Proofs.Qxb6628583a
