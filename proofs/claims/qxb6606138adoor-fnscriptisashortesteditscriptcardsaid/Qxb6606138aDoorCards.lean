/-
  DERIVED. GIVEN WITH THE SEED: THE CARDS: each row of Qxb6606138aDoorRows.lean that lists a variable, with what it lists TIED to the program's text (the seventh form; the later family's looks); each row that meets fmt, with fmt's text TOLD by the authors' own Lean function (tested against real Go, not proved from fmt's source: count such statements apart). THE CARD IS WHAT COUNTS. Prove the row's statement (the work); the ties are given (Qxb6606138aDoorTie.lean); close each card by the builder's one call (the guide's Derived/Test/ToyasCard.lean, 'card_holds'). Laid BY PROGRAM, IN A SANDBOX (cutbox-door.mjs). By AI agents, Wed Nov 11 2026. No macro, syntax, notation, axiom, sorry.
-/
import Derived.Test.Qxb6606138aDoorRows
import GoSem.ClaimSeven
namespace Go.Proofs.Qxb6606138aDoor
namespace Rows

/-- THE TIED CARD OF 'zzlaws_internal_textdiff_b1.FnSlideKeepsTheEditAndItsRuns'. -/
def fnSlideKeepsTheEditAndItsRunsCard : Claim7 := { stood := { row := fnSlideKeepsTheEditAndItsRunsRow, standIns := [], harness := (true, "b8935a0d123dc33cc5e6f7df382c078c91eb91cbbb608ed4299de43870840567"), looks := false }, kinds := [], alts := [], laidByText := true, laidKinds := [.data, .pinned], laidTests := true, laidLooks := .later }
def FnSlideKeepsTheEditAndItsRunsCardSaid : Prop := Claim7.holds Tryd.pinned (.plain (OpenSpec.ofChange fnSlideKeepsTheEditAndItsRunsSpec)) fnSlideKeepsTheEditAndItsRunsCard

/-- THE TIED CARD OF 'zzlaws_internal_textdiff_b1.FnSlideRunsCannotRiseToLessIndent'. -/
def fnSlideRunsCannotRiseToLessIndentCard : Claim7 := { stood := { row := fnSlideRunsCannotRiseToLessIndentRow, standIns := [], harness := (true, "b8935a0d123dc33cc5e6f7df382c078c91eb91cbbb608ed4299de43870840567"), looks := false }, kinds := [], alts := [], laidByText := true, laidKinds := [.data, .pinned], laidTests := true, laidLooks := .later }
def FnSlideRunsCannotRiseToLessIndentCardSaid : Prop := Claim7.holds Tryd.pinned (.plain (OpenSpec.ofChange fnSlideRunsCannotRiseToLessIndentSpec)) fnSlideRunsCannotRiseToLessIndentCard

/-- THE TIED CARD OF 'zzlaws_internal_textdiff_b1.FnScriptIsAShortestEditScript'. -/
def fnScriptIsAShortestEditScriptCard : Claim7 := { stood := { row := fnScriptIsAShortestEditScriptRow, standIns := [], harness := (true, "b8935a0d123dc33cc5e6f7df382c078c91eb91cbbb608ed4299de43870840567"), looks := false }, kinds := [], alts := [], laidByText := true, laidKinds := [.data, .pinned], laidTests := true, laidLooks := .later }
def FnScriptIsAShortestEditScriptCardSaid : Prop := Claim7.holds Tryd.pinned (.plain (OpenSpec.ofChange fnScriptIsAShortestEditScriptSpec)) fnScriptIsAShortestEditScriptCard
end Rows
end Go.Proofs.Qxb6606138aDoor
