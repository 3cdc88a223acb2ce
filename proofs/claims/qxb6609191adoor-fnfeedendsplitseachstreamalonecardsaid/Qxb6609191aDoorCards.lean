/-
  DERIVED. GIVEN WITH THE SEED: THE CARDS: each row of Qxb6609191aDoorRows.lean that lists a variable, with what it lists TIED to the program's text (the seventh form; the later family's looks); each row that meets fmt, with fmt's text TOLD by the authors' own Lean function (tested against real Go, not proved from fmt's source: count such statements apart). THE CARD IS WHAT COUNTS. Prove the row's statement (the work); the ties are given (Qxb6609191aDoorTie.lean); close each card by the builder's one call (the guide's Derived/Test/ToyasCard.lean, 'card_holds'). Laid BY PROGRAM, IN A SANDBOX (cutbox-door.mjs). By AI agents, Wed Nov 11 2026. No macro, syntax, notation, axiom, sorry.
-/
import Derived.Test.Qxb6609191aDoorRows
import GoSem.ClaimSeven
namespace Go.Proofs.Qxb6609191aDoor
namespace Rows

/-- THE TIED CARD OF 'zzlaws_internal_lines_b1.FnFeedReassemblesNormalizedStream'. -/
def fnFeedReassemblesNormalizedStreamCard : Claim7 := { stood := { row := fnFeedReassemblesNormalizedStreamRow, standIns := [], harness := (true, "74cb1193ece5c581128bc7d9c3746ca56219c56e1a7e52e0dce030c6fd69a09c"), looks := false }, kinds := [], alts := [], laidByText := true, laidKinds := [.data, .pinned], laidTests := true, laidLooks := .later }
def FnFeedReassemblesNormalizedStreamCardSaid : Prop := Claim7.holds Tryd.pinned (.plain (OpenSpec.ofChange fnFeedReassemblesNormalizedStreamSpec)) fnFeedReassemblesNormalizedStreamCard

/-- THE TIED CARD OF 'zzlaws_internal_lines_b1.FnFeedInTwoPiecesAsInOne'. -/
def fnFeedInTwoPiecesAsInOneCard : Claim7 := { stood := { row := fnFeedInTwoPiecesAsInOneRow, standIns := [], harness := (true, "74cb1193ece5c581128bc7d9c3746ca56219c56e1a7e52e0dce030c6fd69a09c"), looks := false }, kinds := [], alts := [], laidByText := true, laidKinds := [.data, .pinned], laidTests := true, laidLooks := .later }
def FnFeedInTwoPiecesAsInOneCardSaid : Prop := Claim7.holds Tryd.pinned (.plain (OpenSpec.ofChange fnFeedInTwoPiecesAsInOneSpec)) fnFeedInTwoPiecesAsInOneCard

/-- THE TIED CARD OF 'zzlaws_internal_lines_b1.FnMidLineAfterFeedTellsUnendedTail'. -/
def fnMidLineAfterFeedTellsUnendedTailCard : Claim7 := { stood := { row := fnMidLineAfterFeedTellsUnendedTailRow, standIns := [], harness := (true, "74cb1193ece5c581128bc7d9c3746ca56219c56e1a7e52e0dce030c6fd69a09c"), looks := false }, kinds := [], alts := [], laidByText := true, laidKinds := [.data, .pinned], laidTests := true, laidLooks := .later }
def FnMidLineAfterFeedTellsUnendedTailCardSaid : Prop := Claim7.holds Tryd.pinned (.plain (OpenSpec.ofChange fnMidLineAfterFeedTellsUnendedTailSpec)) fnMidLineAfterFeedTellsUnendedTailCard

/-- THE TIED CARD OF 'zzlaws_internal_lines_b1.FnMidLineAgreesWithEnd'. -/
def fnMidLineAgreesWithEndCard : Claim7 := { stood := { row := fnMidLineAgreesWithEndRow, standIns := [], harness := (true, "74cb1193ece5c581128bc7d9c3746ca56219c56e1a7e52e0dce030c6fd69a09c"), looks := false }, kinds := [], alts := [], laidByText := true, laidKinds := [.data, .pinned], laidTests := true, laidLooks := .later }
def FnMidLineAgreesWithEndCardSaid : Prop := Claim7.holds Tryd.pinned (.plain (OpenSpec.ofChange fnMidLineAgreesWithEndSpec)) fnMidLineAgreesWithEndCard

/-- THE TIED CARD OF 'zzlaws_internal_lines_b1.FnEndEmitsExactlyTheUnendedTail'. -/
def fnEndEmitsExactlyTheUnendedTailCard : Claim7 := { stood := { row := fnEndEmitsExactlyTheUnendedTailRow, standIns := [], harness := (true, "74cb1193ece5c581128bc7d9c3746ca56219c56e1a7e52e0dce030c6fd69a09c"), looks := false }, kinds := [], alts := [], laidByText := true, laidKinds := [.data, .pinned], laidTests := true, laidLooks := .later }
def FnEndEmitsExactlyTheUnendedTailCardSaid : Prop := Claim7.holds Tryd.pinned (.plain (OpenSpec.ofChange fnEndEmitsExactlyTheUnendedTailSpec)) fnEndEmitsExactlyTheUnendedTailCard

/-- THE TIED CARD OF 'zzlaws_internal_lines_b1.FnFeedEndSplitsEachStreamAlone'. -/
def fnFeedEndSplitsEachStreamAloneCard : Claim7 := { stood := { row := fnFeedEndSplitsEachStreamAloneRow, standIns := [], harness := (true, "74cb1193ece5c581128bc7d9c3746ca56219c56e1a7e52e0dce030c6fd69a09c"), looks := false }, kinds := [], alts := [], laidByText := true, laidKinds := [.data, .pinned], laidTests := true, laidLooks := .later }
def FnFeedEndSplitsEachStreamAloneCardSaid : Prop := Claim7.holds Tryd.pinned (.plain (OpenSpec.ofChange fnFeedEndSplitsEachStreamAloneSpec)) fnFeedEndSplitsEachStreamAloneCard
end Rows
end Go.Proofs.Qxb6609191aDoor
