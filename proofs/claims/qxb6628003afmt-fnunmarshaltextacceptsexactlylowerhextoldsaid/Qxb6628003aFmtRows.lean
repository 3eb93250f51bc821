/-
  NARROWER THAN 'FOR EVERY INPUT', by the rows' own cells (each row's printed sentence says how): FnUnmarshalTextReadsBackString: laid · FnUnmarshalTextAcceptsExactlyLowerHex: laid.
  DERIVED. THE GIVEN ROWS OF THIS SEAT. 2 by the template 'for every input the law returns true; each argument reads behind the call as it read before'; 0 by the template 'total and deterministic' (their statements: Qxb6628003aFmtTotals.lean).
  GIVEN WITH THE SEED: the statements are not yours to turn. If you find one false, say at which input.
  Laid BY PROGRAM, IN A SANDBOX (cutbox-rows.mjs): the forced cells as the released guide's own fill.sh prints them over the translation 73c4ed853fc0f8ad… (all of the seat's roots in one cut). By AI agents, Wed Nov 11 2026. No macro, syntax, notation, axiom, sorry.
-/
import Derived.Test.Qxb6628003aFmtChecked
import GoSem.Claim
import GoSem.ClaimJoined
import GoSem.ClaimMapViews
import Derived.JoinedTies
import Derived.KernelRfl
namespace Go.Proofs.Qxb6628003aFmt
/- THE CELL 'sum', in the pinned program and in every row, IS THE sha256 OF THE DUMP (.gsa) THAT Qxb6628003aFmtProg.lean LOADS. Nothing in Lean hashes anything: it is a label: what it is worth is what the hold of that sum in a sandbox is worth. -/
noncomputable def Tryf.pinned : Pinned := { name := "qxb6628003afmt", sum := "73c4ed853fc0f8ad2b7952cd37302daf257d6c24d841a62b3da0de49ec471dce", checked := Tryf.checked }
namespace Rows
def none {H : Type} : Left H := { results := [], args := [] }

/- WHAT THE LISTED PACKAGE-LEVEL VARIABLES READ AS WHEN THE CALL BEGINS. Each datum BY PROGRAM (the guide's laid-datum.mjs) off the statement by which the dump's own 'gosem.cut.vars' lays the variable. In a bare row this is a premise. The card (Qxb6628003aFmtCards.lean) ties it to the program's text. -/
def laid_encoding_hex_ErrLength {H : Type} : DataW H := .iface "*errors.errorString" (.ptr (.agg [.lit (.string [101, 110, 99, 111, 100, 105, 110, 103, 47, 104, 101, 120, 58, 32, 111, 100, 100, 32, 108, 101, 110, 103, 116, 104, 32, 104, 101, 120, 32, 115, 116, 114, 105, 110, 103])]))

/-- 'zzlaws_pkg_digest_b1.FnUnmarshalTextReadsBackString': WHATEVER THE INPUT: true; the input reads as it did. -/
def fnUnmarshalTextReadsBackStringSpec : ChangeSpec := { name := "fnUnmarshalTextReadsBackString", fn := fun _ => fun
  | [d1, d2] => { results := [.lit (.bool true)], args := [d1, d2] }
  | _ => none }
def fnUnmarshalTextReadsBackStringRow : OpenClaim := { program := "qxb6628003afmt", sum := "73c4ed853fc0f8ad2b7952cd37302daf257d6c24d841a62b3da0de49ec471dce", func := "example.com/evenhand/evenhand/zzlaws_pkg_digest_b1.FnUnmarshalTextReadsBackString", spec := "fnUnmarshalTextReadsBackString", stops := ["fmt.errorf"], inPlace := ["fmt.errorf"], named := ["encoding/hex.ErrLength"], apart := false, laid := [("encoding/hex.ErrLength", laid_encoding_hex_ErrLength)] }
/-- NO THEOREM (fmt's text is open here; it may be false): for the released tool's asking of the row's closed facts alone. THE STATEMENT IS 'FnUnmarshalTextReadsBackStringToldSaid' (Qxb6628003aFmtCards.lean). -/
def FnUnmarshalTextReadsBackStringFormAsk : Prop := fnUnmarshalTextReadsBackStringRow.holds Tryf.pinned (OpenSpec.ofChange fnUnmarshalTextReadsBackStringSpec)

/-- ITS FALSE NEIGHBOUR: 'it returns false'. Refute it at one input. -/
def fnUnmarshalTextReadsBackStringWrong : ChangeSpec := { name := "fnUnmarshalTextReadsBackString", fn := fun _ => fun
  | [d1, d2] => { results := [.lit (.bool false)], args := [d1, d2] }
  | _ => none }
def FnUnmarshalTextReadsBackStringWrongFormAsk : Prop := fnUnmarshalTextReadsBackStringRow.holds Tryf.pinned (OpenSpec.ofChange fnUnmarshalTextReadsBackStringWrong)

/-- 'zzlaws_pkg_digest_b1.FnUnmarshalTextAcceptsExactlyLowerHex': WHATEVER THE INPUT: true; the input reads as it did. -/
def fnUnmarshalTextAcceptsExactlyLowerHexSpec : ChangeSpec := { name := "fnUnmarshalTextAcceptsExactlyLowerHex", fn := fun _ => fun
  | [d1, d2] => { results := [.lit (.bool true)], args := [d1, d2] }
  | _ => none }
def fnUnmarshalTextAcceptsExactlyLowerHexRow : OpenClaim := { program := "qxb6628003afmt", sum := "73c4ed853fc0f8ad2b7952cd37302daf257d6c24d841a62b3da0de49ec471dce", func := "example.com/evenhand/evenhand/zzlaws_pkg_digest_b1.FnUnmarshalTextAcceptsExactlyLowerHex", spec := "fnUnmarshalTextAcceptsExactlyLowerHex", stops := ["fmt.errorf"], inPlace := ["fmt.errorf"], named := ["encoding/hex.ErrLength"], apart := false, laid := [("encoding/hex.ErrLength", laid_encoding_hex_ErrLength)] }
/-- NO THEOREM (fmt's text is open here; it may be false): for the released tool's asking of the row's closed facts alone. THE STATEMENT IS 'FnUnmarshalTextAcceptsExactlyLowerHexToldSaid' (Qxb6628003aFmtCards.lean). -/
def FnUnmarshalTextAcceptsExactlyLowerHexFormAsk : Prop := fnUnmarshalTextAcceptsExactlyLowerHexRow.holds Tryf.pinned (OpenSpec.ofChange fnUnmarshalTextAcceptsExactlyLowerHexSpec)

/-- ITS FALSE NEIGHBOUR: 'it returns false'. Refute it at one input. -/
def fnUnmarshalTextAcceptsExactlyLowerHexWrong : ChangeSpec := { name := "fnUnmarshalTextAcceptsExactlyLowerHex", fn := fun _ => fun
  | [d1, d2] => { results := [.lit (.bool false)], args := [d1, d2] }
  | _ => none }
def FnUnmarshalTextAcceptsExactlyLowerHexWrongFormAsk : Prop := fnUnmarshalTextAcceptsExactlyLowerHexRow.holds Tryf.pinned (OpenSpec.ofChange fnUnmarshalTextAcceptsExactlyLowerHexWrong)

end Rows
end Go.Proofs.Qxb6628003aFmt
