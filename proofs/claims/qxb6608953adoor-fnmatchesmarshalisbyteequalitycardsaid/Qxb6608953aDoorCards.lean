/-
  DERIVED. GIVEN WITH THE SEED: THE CARDS: each row of Qxb6608953aDoorRows.lean that lists a variable, with what it lists TIED to the program's text (the seventh form; the later family's looks); each row that meets fmt, with fmt's text TOLD by the authors' own Lean function (tested against real Go, not proved from fmt's source: count such statements apart). THE CARD IS WHAT COUNTS. Prove the row's statement (the work); the ties are given (Qxb6608953aDoorTie.lean); close each card by the builder's one call (the guide's Derived/Test/ToyasCard.lean, 'card_holds'). Laid BY PROGRAM, IN A SANDBOX (cutbox-door.mjs). By AI agents, Wed Nov 11 2026. No macro, syntax, notation, axiom, sorry.
-/
import Derived.Test.Qxb6608953aDoorRows
import GoSem.ClaimSeven
namespace Go.Proofs.Qxb6608953aDoor
namespace Rows

/-- THE TIED CARD OF 'zzlaws_internal_jsonstring_b1.FnAppendEscapedMatchesModel'. -/
def fnAppendEscapedMatchesModelCard : Claim7 := { stood := { row := fnAppendEscapedMatchesModelRow, standIns := [], harness := (true, "7ae132ba16e6468f08996b5bd2895083f40e7813411a468450c6af975e73c69d"), looks := false }, kinds := [], alts := [], laidByText := true, laidKinds := [.data, .pinned], laidTests := true, laidLooks := .later }
def FnAppendEscapedMatchesModelCardSaid : Prop := Claim7.holds Tryd.pinned (.plain (OpenSpec.ofChange fnAppendEscapedMatchesModelSpec)) fnAppendEscapedMatchesModelCard

/-- THE TIED CARD OF 'zzlaws_internal_jsonstring_b1.FnAppendEscapedSplitsAtRuneStarts'. -/
def fnAppendEscapedSplitsAtRuneStartsCard : Claim7 := { stood := { row := fnAppendEscapedSplitsAtRuneStartsRow, standIns := [], harness := (true, "7ae132ba16e6468f08996b5bd2895083f40e7813411a468450c6af975e73c69d"), looks := false }, kinds := [], alts := [], laidByText := true, laidKinds := [.data, .pinned], laidTests := true, laidLooks := .later }
def FnAppendEscapedSplitsAtRuneStartsCardSaid : Prop := Claim7.holds Tryd.pinned (.plain (OpenSpec.ofChange fnAppendEscapedSplitsAtRuneStartsSpec)) fnAppendEscapedSplitsAtRuneStartsCard

/-- THE TIED CARD OF 'zzlaws_internal_jsonstring_b1.FnMatchesMarshalIsByteEquality'. -/
def fnMatchesMarshalIsByteEqualityCard : Claim7 := { stood := { row := fnMatchesMarshalIsByteEqualityRow, standIns := [], harness := (true, "7ae132ba16e6468f08996b5bd2895083f40e7813411a468450c6af975e73c69d"), looks := false }, kinds := [], alts := [], laidByText := true, laidKinds := [.data, .pinned], laidTests := true, laidLooks := .later }
def FnMatchesMarshalIsByteEqualityCardSaid : Prop := Claim7.holds Tryd.pinned (.plain (OpenSpec.ofChange fnMatchesMarshalIsByteEqualitySpec)) fnMatchesMarshalIsByteEqualityCard
end Rows
end Go.Proofs.Qxb6608953aDoor
