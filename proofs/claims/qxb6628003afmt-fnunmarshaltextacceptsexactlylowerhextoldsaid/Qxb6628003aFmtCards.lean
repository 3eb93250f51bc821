/-
  DERIVED. GIVEN WITH THE SEED: THE CARDS: each row of Qxb6628003aFmtRows.lean that lists a variable, with what it lists TIED to the program's text (the seventh form; the later family's looks); each row that meets fmt, with fmt's text TOLD by the authors' own Lean function (tested against real Go, not proved from fmt's source: count such statements apart). THE CARD IS WHAT COUNTS. Prove the row's statement (the work); the ties are given (Qxb6628003aFmtTie.lean); close each card by the builder's one call (the guide's Derived/Test/ToyasCard.lean, 'card_holds'). Laid BY PROGRAM, IN A SANDBOX (cutbox-door.mjs). By AI agents, Wed Nov 11 2026. No macro, syntax, notation, axiom, sorry.
-/
import Derived.Test.Qxb6628003aFmtRows
import GoSem.ClaimSeven
namespace Go.Proofs.Qxb6628003aFmt
namespace Rows

/-- THE TOLD AND TIED CARD OF 'zzlaws_pkg_digest_b1.FnUnmarshalTextReadsBackString'. -/
def fnUnmarshalTextReadsBackStringCard : Claim7 := { stood := { row := fnUnmarshalTextReadsBackStringRow, standIns := [], harness := (true, "9721245b625792802c5485d3dc92f1102e00a9c2ecf1538e74e68125f92d7df2"), looks := false }, told := true, laidByText := true, laidKinds := [.sentinel], laidTests := true, laidLooks := .later, goes := false }
def FnUnmarshalTextReadsBackStringToldSaid : Prop := Claim7.holds Tryf.pinned (.plain (OpenSpec.ofChange fnUnmarshalTextReadsBackStringSpec)) fnUnmarshalTextReadsBackStringCard
/-- ITS FALSE NEIGHBOUR. Refute it at one input. -/
def FnUnmarshalTextReadsBackStringToldWrongFalsely : Prop := Claim7.holds Tryf.pinned (.plain (OpenSpec.ofChange fnUnmarshalTextReadsBackStringWrong)) fnUnmarshalTextReadsBackStringCard

/-- THE TOLD AND TIED CARD OF 'zzlaws_pkg_digest_b1.FnUnmarshalTextAcceptsExactlyLowerHex'. -/
def fnUnmarshalTextAcceptsExactlyLowerHexCard : Claim7 := { stood := { row := fnUnmarshalTextAcceptsExactlyLowerHexRow, standIns := [], harness := (true, "9721245b625792802c5485d3dc92f1102e00a9c2ecf1538e74e68125f92d7df2"), looks := false }, told := true, laidByText := true, laidKinds := [.sentinel], laidTests := true, laidLooks := .later, goes := false }
def FnUnmarshalTextAcceptsExactlyLowerHexToldSaid : Prop := Claim7.holds Tryf.pinned (.plain (OpenSpec.ofChange fnUnmarshalTextAcceptsExactlyLowerHexSpec)) fnUnmarshalTextAcceptsExactlyLowerHexCard
/-- ITS FALSE NEIGHBOUR. Refute it at one input. -/
def FnUnmarshalTextAcceptsExactlyLowerHexToldWrongFalsely : Prop := Claim7.holds Tryf.pinned (.plain (OpenSpec.ofChange fnUnmarshalTextAcceptsExactlyLowerHexWrong)) fnUnmarshalTextAcceptsExactlyLowerHexCard
end Rows
end Go.Proofs.Qxb6628003aFmt
