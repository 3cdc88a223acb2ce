/-
  DERIVED. GIVEN WITH THE SEED: THE CARDS: each row of Qxb6606413aFmtRows.lean that lists a variable, with what it lists TIED to the program's text (the seventh form; the later family's looks); each row that meets fmt, with fmt's text TOLD by the authors' own Lean function (tested against real Go, not proved from fmt's source: count such statements apart). THE CARD IS WHAT COUNTS. Prove the row's statement (the work); the ties are given (Qxb6606413aFmtTie.lean); close each card by the builder's one call (the guide's Derived/Test/ToyasCard.lean, 'card_holds'). Laid BY PROGRAM, IN A SANDBOX (cutbox-door.mjs). By AI agents, Wed Nov 11 2026. No macro, syntax, notation, axiom, sorry.
-/
import Derived.Test.Qxb6606413aFmtRows
import GoSem.ClaimSeven
namespace Go.Proofs.Qxb6606413aFmt
namespace Rows

/-- THE TOLD AND TIED CARD OF 'zzlaws_tuple_b1.FnParseInvertsStrings'. -/
def fnParseInvertsStringsCard : Claim7 := { stood := { row := fnParseInvertsStringsRow, standIns := [], harness := (true, "60dbe04ccf787de8257a8bd721ec38071af99383ef2cee61be0098260e0b667e"), looks := false }, told := true, laidByText := true, laidKinds := [.data, .listed, .listed, .data, .wider, .pinned, .pinned, .pinned, .pinned, .pinned, .pinned], laidTests := true, laidLooks := .later, goes := false }
def FnParseInvertsStringsToldSaid : Prop := Claim7.holds Tryf.pinned (.plain (OpenSpec.ofChange fnParseInvertsStringsSpec)) fnParseInvertsStringsCard
/-- ITS FALSE NEIGHBOUR. Refute it at one input. -/
def FnParseInvertsStringsToldWrongFalsely : Prop := Claim7.holds Tryf.pinned (.plain (OpenSpec.ofChange fnParseInvertsStringsWrong)) fnParseInvertsStringsCard

/-- THE TOLD AND TIED CARD OF 'zzlaws_tuple_b1.FnParseUserMatchesGrammar'. -/
def fnParseUserMatchesGrammarCard : Claim7 := { stood := { row := fnParseUserMatchesGrammarRow, standIns := [], harness := (true, "60dbe04ccf787de8257a8bd721ec38071af99383ef2cee61be0098260e0b667e"), looks := false }, told := true, laidByText := true, laidKinds := [.data, .listed, .listed, .data, .pinned, .pinned, .pinned, .pinned, .pinned, .pinned], laidTests := true, laidLooks := .later, goes := false }
def FnParseUserMatchesGrammarToldSaid : Prop := Claim7.holds Tryf.pinned (.plain (OpenSpec.ofChange fnParseUserMatchesGrammarSpec)) fnParseUserMatchesGrammarCard
/-- ITS FALSE NEIGHBOUR. Refute it at one input. -/
def FnParseUserMatchesGrammarToldWrongFalsely : Prop := Claim7.holds Tryf.pinned (.plain (OpenSpec.ofChange fnParseUserMatchesGrammarWrong)) fnParseUserMatchesGrammarCard

/-- THE TOLD AND TIED CARD OF 'zzlaws_tuple_b1.FnParseUserInvertsString'. -/
def fnParseUserInvertsStringCard : Claim7 := { stood := { row := fnParseUserInvertsStringRow, standIns := [], harness := (true, "60dbe04ccf787de8257a8bd721ec38071af99383ef2cee61be0098260e0b667e"), looks := false }, told := true, laidByText := true, laidKinds := [.data, .listed, .listed, .data, .wider, .pinned, .pinned, .pinned, .pinned, .pinned, .pinned], laidTests := true, laidLooks := .later, goes := false }
def FnParseUserInvertsStringToldSaid : Prop := Claim7.holds Tryf.pinned (.plain (OpenSpec.ofChange fnParseUserInvertsStringSpec)) fnParseUserInvertsStringCard
/-- ITS FALSE NEIGHBOUR. Refute it at one input. -/
def FnParseUserInvertsStringToldWrongFalsely : Prop := Claim7.holds Tryf.pinned (.plain (OpenSpec.ofChange fnParseUserInvertsStringWrong)) fnParseUserInvertsStringCard
end Rows
end Go.Proofs.Qxb6606413aFmt
