/-
  No cell of these rows narrows 'for every input' (looked for: loops, veiled, ifaces, maps, wideKeys, modest, calm, conditions, laid).
  DERIVED. THE GIVEN ROWS OF THIS SEAT. 2 by the template 'for every input the law returns true; each argument reads behind the call as it read before'; 0 by the template 'total and deterministic' (their statements: Qxb6628536aTotals.lean).
  GIVEN WITH THE SEED: the statements are not yours to turn. If you find one false, say at which input.
  Laid BY PROGRAM, IN A SANDBOX (cutbox-rows.mjs): the forced cells as the released guide's own fill.sh prints them over the translation 6915b6c939270cf9… (all of the seat's roots in one cut). By AI agents, Wed Nov 11 2026. No macro, syntax, notation, axiom, sorry.
-/
import Derived.Test.Qxb6628536aChecked
import GoSem.Claim
import GoSem.ClaimJoined
import GoSem.ClaimMapViews
import Derived.JoinedTies
import Derived.KernelRfl
namespace Go.Proofs.Qxb6628536a
/- THE CELL 'sum', in the pinned program and in every row, IS THE sha256 OF THE DUMP (.gsa) THAT Qxb6628536aProg.lean LOADS. Nothing in Lean hashes anything: it is a label: what it is worth is what the hold of that sum in a sandbox is worth. -/
noncomputable def Try.pinned : Pinned := { name := "qxb6628536a", sum := "6915b6c939270cf9b6346f702943f79042de86b650e36afcc04c71f2e5097364", checked := Try.checked }
namespace Rows
def none {H : Type} : Left H := { results := [], args := [] }

/-- 'zzlaws_internal_jsonobject_b1.FnJoinAgreesWithDottedModelAndAssociates': WHATEVER THE INPUT: true; the input reads as it did. -/
def fnJoinAgreesWithDottedModelAndAssociatesSpec : ChangeSpec := { name := "fnJoinAgreesWithDottedModelAndAssociates", fn := fun _ => fun
  | [d1, d2, d3] => { results := [.lit (.bool true)], args := [d1, d2, d3] }
  | _ => none }
def fnJoinAgreesWithDottedModelAndAssociatesRow : OpenClaim := { program := "qxb6628536a", sum := "6915b6c939270cf9b6346f702943f79042de86b650e36afcc04c71f2e5097364", func := "example.com/crestwatch/crestwatch/zzlaws_internal_jsonobject_b1.FnJoinAgreesWithDottedModelAndAssociates", spec := "fnJoinAgreesWithDottedModelAndAssociates", apart := false }
def FnJoinAgreesWithDottedModelAndAssociatesSaid : Prop := fnJoinAgreesWithDottedModelAndAssociatesRow.holds Try.pinned (OpenSpec.ofChange fnJoinAgreesWithDottedModelAndAssociatesSpec)

/-- ITS FALSE NEIGHBOUR: 'it returns false'. Refute it at one input. -/
def fnJoinAgreesWithDottedModelAndAssociatesWrong : ChangeSpec := { name := "fnJoinAgreesWithDottedModelAndAssociates", fn := fun _ => fun
  | [d1, d2, d3] => { results := [.lit (.bool false)], args := [d1, d2, d3] }
  | _ => none }
def FnJoinAgreesWithDottedModelAndAssociatesWrongFalsely : Prop := fnJoinAgreesWithDottedModelAndAssociatesRow.holds Try.pinned (OpenSpec.ofChange fnJoinAgreesWithDottedModelAndAssociatesWrong)

/-- 'zzlaws_internal_jsonobject_b1.FnJoinSplitsBackAtLastDot': WHATEVER THE INPUT: true; the input reads as it did. -/
def fnJoinSplitsBackAtLastDotSpec : ChangeSpec := { name := "fnJoinSplitsBackAtLastDot", fn := fun _ => fun
  | [d1, d2] => { results := [.lit (.bool true)], args := [d1, d2] }
  | _ => none }
def fnJoinSplitsBackAtLastDotRow : OpenClaim := { program := "qxb6628536a", sum := "6915b6c939270cf9b6346f702943f79042de86b650e36afcc04c71f2e5097364", func := "example.com/crestwatch/crestwatch/zzlaws_internal_jsonobject_b1.FnJoinSplitsBackAtLastDot", spec := "fnJoinSplitsBackAtLastDot", apart := false }
def FnJoinSplitsBackAtLastDotSaid : Prop := fnJoinSplitsBackAtLastDotRow.holds Try.pinned (OpenSpec.ofChange fnJoinSplitsBackAtLastDotSpec)

/-- ITS FALSE NEIGHBOUR: 'it returns false'. Refute it at one input. -/
def fnJoinSplitsBackAtLastDotWrong : ChangeSpec := { name := "fnJoinSplitsBackAtLastDot", fn := fun _ => fun
  | [d1, d2] => { results := [.lit (.bool false)], args := [d1, d2] }
  | _ => none }
def FnJoinSplitsBackAtLastDotWrongFalsely : Prop := fnJoinSplitsBackAtLastDotRow.holds Try.pinned (OpenSpec.ofChange fnJoinSplitsBackAtLastDotWrong)

end Rows
end Go.Proofs.Qxb6628536a
