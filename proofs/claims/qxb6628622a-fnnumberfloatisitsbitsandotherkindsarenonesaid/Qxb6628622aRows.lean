/-
  No cell of these rows narrows 'for every input' (looked for: loops, veiled, ifaces, maps, wideKeys, modest, calm, conditions, laid).
  DERIVED. THE GIVEN ROWS OF THIS SEAT. 2 by the template 'for every input the law returns true; each argument reads behind the call as it read before'; 0 by the template 'total and deterministic' (their statements: Qxb6628622aTotals.lean).
  GIVEN WITH THE SEED: the statements are not yours to turn. If you find one false, say at which input.
  Laid BY PROGRAM, IN A SANDBOX (cutbox-rows.mjs): the forced cells as the released guide's own fill.sh prints them over the translation 30d9d6b27c8ef9e3… (all of the seat's roots in one cut). By AI agents, Wed Nov 11 2026. No macro, syntax, notation, axiom, sorry.
-/
import Derived.Test.Qxb6628622aChecked
import GoSem.Claim
import GoSem.ClaimJoined
import GoSem.ClaimMapViews
import Derived.JoinedTies
import Derived.KernelRfl
namespace Go.Proofs.Qxb6628622a
/- THE CELL 'sum', in the pinned program and in every row, IS THE sha256 OF THE DUMP (.gsa) THAT Qxb6628622aProg.lean LOADS. Nothing in Lean hashes anything: it is a label: what it is worth is what the hold of that sum in a sandbox is worth. -/
noncomputable def Try.pinned : Pinned := { name := "qxb6628622a", sum := "30d9d6b27c8ef9e34b9c4004f86339cd180d6eaea1f216d78ab7fec953969aa4", checked := Try.checked }
namespace Rows
def none {H : Type} : Left H := { results := [], args := [] }

/-- 'zzlaws_internal_storage_b1.FnNumberIntegerAndUnsignedAreTheNearestFloat': WHATEVER THE INPUT: true; the input reads as it did. -/
def fnNumberIntegerAndUnsignedAreTheNearestFloatSpec : ChangeSpec := { name := "fnNumberIntegerAndUnsignedAreTheNearestFloat", fn := fun _ => fun
  | [d] => { results := [.lit (.bool true)], args := [d] }
  | _ => none }
def fnNumberIntegerAndUnsignedAreTheNearestFloatRow : OpenClaim := { program := "qxb6628622a", sum := "30d9d6b27c8ef9e34b9c4004f86339cd180d6eaea1f216d78ab7fec953969aa4", func := "example.com/tideline/tideline/zzlaws_internal_storage_b1.FnNumberIntegerAndUnsignedAreTheNearestFloat", spec := "fnNumberIntegerAndUnsignedAreTheNearestFloat", inPlace := ["math.Float64frombits"], apart := false }
def FnNumberIntegerAndUnsignedAreTheNearestFloatSaid : Prop := fnNumberIntegerAndUnsignedAreTheNearestFloatRow.holds Try.pinned (OpenSpec.ofChange fnNumberIntegerAndUnsignedAreTheNearestFloatSpec)

/-- ITS FALSE NEIGHBOUR: 'it returns false'. Refute it at one input. -/
def fnNumberIntegerAndUnsignedAreTheNearestFloatWrong : ChangeSpec := { name := "fnNumberIntegerAndUnsignedAreTheNearestFloat", fn := fun _ => fun
  | [d] => { results := [.lit (.bool false)], args := [d] }
  | _ => none }
def FnNumberIntegerAndUnsignedAreTheNearestFloatWrongFalsely : Prop := fnNumberIntegerAndUnsignedAreTheNearestFloatRow.holds Try.pinned (OpenSpec.ofChange fnNumberIntegerAndUnsignedAreTheNearestFloatWrong)

/-- 'zzlaws_internal_storage_b1.FnNumberFloatIsItsBitsAndOtherKindsAreNone': WHATEVER THE INPUT: true; the input reads as it did. -/
def fnNumberFloatIsItsBitsAndOtherKindsAreNoneSpec : ChangeSpec := { name := "fnNumberFloatIsItsBitsAndOtherKindsAreNone", fn := fun _ => fun
  | [d1, d2, d3] => { results := [.lit (.bool true)], args := [d1, d2, d3] }
  | _ => none }
def fnNumberFloatIsItsBitsAndOtherKindsAreNoneRow : OpenClaim := { program := "qxb6628622a", sum := "30d9d6b27c8ef9e34b9c4004f86339cd180d6eaea1f216d78ab7fec953969aa4", func := "example.com/tideline/tideline/zzlaws_internal_storage_b1.FnNumberFloatIsItsBitsAndOtherKindsAreNone", spec := "fnNumberFloatIsItsBitsAndOtherKindsAreNone", inPlace := ["math.Float64frombits"], apart := false }
def FnNumberFloatIsItsBitsAndOtherKindsAreNoneSaid : Prop := fnNumberFloatIsItsBitsAndOtherKindsAreNoneRow.holds Try.pinned (OpenSpec.ofChange fnNumberFloatIsItsBitsAndOtherKindsAreNoneSpec)

/-- ITS FALSE NEIGHBOUR: 'it returns false'. Refute it at one input. -/
def fnNumberFloatIsItsBitsAndOtherKindsAreNoneWrong : ChangeSpec := { name := "fnNumberFloatIsItsBitsAndOtherKindsAreNone", fn := fun _ => fun
  | [d1, d2, d3] => { results := [.lit (.bool false)], args := [d1, d2, d3] }
  | _ => none }
def FnNumberFloatIsItsBitsAndOtherKindsAreNoneWrongFalsely : Prop := fnNumberFloatIsItsBitsAndOtherKindsAreNoneRow.holds Try.pinned (OpenSpec.ofChange fnNumberFloatIsItsBitsAndOtherKindsAreNoneWrong)

end Rows
end Go.Proofs.Qxb6628622a
