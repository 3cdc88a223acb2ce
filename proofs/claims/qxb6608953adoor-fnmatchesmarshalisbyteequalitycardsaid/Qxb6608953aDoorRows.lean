/-
  NARROWER THAN 'FOR EVERY INPUT', by the rows' own cells (each row's printed sentence says how): FnAppendEscapedMatchesModel: laid · FnAppendEscapedSplitsAtRuneStarts: laid · FnMatchesMarshalIsByteEquality: laid.
  DERIVED. THE GIVEN ROWS OF THIS SEAT. 3 by the template 'for every input the law returns true; each argument reads behind the call as it read before'; 0 by the template 'total and deterministic' (their statements: Qxb6608953aDoorTotals.lean).
  GIVEN WITH THE SEED: the statements are not yours to turn. If you find one false, say at which input.
  Laid BY PROGRAM, IN A SANDBOX (cutbox-rows.mjs): the forced cells as the released guide's own fill.sh prints them over the translation f20d7fdd9293a2a3… (all of the seat's roots in one cut). By AI agents, Wed Nov 11 2026. No macro, syntax, notation, axiom, sorry.
-/
import Derived.Test.Qxb6608953aDoorChecked
import GoSem.PinnedTables
import GoSem.Claim
import GoSem.ClaimJoined
import GoSem.ClaimMapViews
import Derived.JoinedTies
import Derived.KernelRfl
namespace Go.Proofs.Qxb6608953aDoor
/- THE CELL 'sum', in the pinned program and in every row, IS THE sha256 OF THE DUMP (.gsa) THAT Qxb6608953aDoorProg.lean LOADS. Nothing in Lean hashes anything: it is a label: what it is worth is what the hold of that sum in a sandbox is worth. -/
noncomputable def Tryd.pinned : Pinned := { name := "qxb6608953adoor", sum := "f20d7fdd9293a2a3e6ff5e6ee4d57f9bc6786dd94cfa5caf59d5fb9bbdeb74ff", checked := Tryd.checked }
namespace Rows
def none {H : Type} : Left H := { results := [], args := [] }

/- WHAT THE LISTED PACKAGE-LEVEL VARIABLES READ AS WHEN THE CALL BEGINS. Each datum BY PROGRAM (the guide's laid-datum.mjs) off the statement by which the dump's own 'gosem.cut.vars' lays the variable. In a bare row this is a premise. The card (Qxb6608953aDoorCards.lean) ties it to the program's text. -/
def laid_unicode_utf8_acceptRanges {H : Type} : DataW H := .agg [.agg [.lit (.int .u8 128), .lit (.int .u8 191)], .agg [.lit (.int .u8 160), .lit (.int .u8 191)], .agg [.lit (.int .u8 128), .lit (.int .u8 159)], .agg [.lit (.int .u8 144), .lit (.int .u8 191)], .agg [.lit (.int .u8 128), .lit (.int .u8 143)], .agg [.lit (.int .u8 0), .lit (.int .u8 0)], .agg [.lit (.int .u8 0), .lit (.int .u8 0)], .agg [.lit (.int .u8 0), .lit (.int .u8 0)], .agg [.lit (.int .u8 0), .lit (.int .u8 0)], .agg [.lit (.int .u8 0), .lit (.int .u8 0)], .agg [.lit (.int .u8 0), .lit (.int .u8 0)], .agg [.lit (.int .u8 0), .lit (.int .u8 0)], .agg [.lit (.int .u8 0), .lit (.int .u8 0)], .agg [.lit (.int .u8 0), .lit (.int .u8 0)], .agg [.lit (.int .u8 0), .lit (.int .u8 0)], .agg [.lit (.int .u8 0), .lit (.int .u8 0)]]
/-- One of Go's own tables, pinned by name: the form's constant. -/
def laid_unicode_utf8_first : DataW Unit := Go.Pinned.utf8First

/-- 'zzlaws_internal_jsonstring_b1.FnAppendEscapedMatchesModel': WHATEVER THE INPUT: true; the input reads as it did. -/
def fnAppendEscapedMatchesModelSpec : ChangeSpec := { name := "fnAppendEscapedMatchesModel", fn := fun _ => fun
  | [d1, d2] => { results := [.lit (.bool true)], args := [d1, d2] }
  | _ => none }
def fnAppendEscapedMatchesModelRow : OpenClaim := { program := "qxb6608953adoor", sum := "f20d7fdd9293a2a3e6ff5e6ee4d57f9bc6786dd94cfa5caf59d5fb9bbdeb74ff", func := "example.com/fieldnote/fieldnote/zzlaws_internal_jsonstring_b1.FnAppendEscapedMatchesModel", spec := "fnAppendEscapedMatchesModel", named := ["unicode/utf8.first", "unicode/utf8.acceptRanges"], apart := false, laid := [("unicode/utf8.acceptRanges", laid_unicode_utf8_acceptRanges), ("unicode/utf8.first", laid_unicode_utf8_first)] }
def FnAppendEscapedMatchesModelSaid : Prop := fnAppendEscapedMatchesModelRow.holds Tryd.pinned (OpenSpec.ofChange fnAppendEscapedMatchesModelSpec)

/-- ITS FALSE NEIGHBOUR: 'it returns false'. Refute it at one input. -/
def fnAppendEscapedMatchesModelWrong : ChangeSpec := { name := "fnAppendEscapedMatchesModel", fn := fun _ => fun
  | [d1, d2] => { results := [.lit (.bool false)], args := [d1, d2] }
  | _ => none }
def FnAppendEscapedMatchesModelWrongFalsely : Prop := fnAppendEscapedMatchesModelRow.holds Tryd.pinned (OpenSpec.ofChange fnAppendEscapedMatchesModelWrong)

/-- 'zzlaws_internal_jsonstring_b1.FnAppendEscapedSplitsAtRuneStarts': WHATEVER THE INPUT: true; the input reads as it did. -/
def fnAppendEscapedSplitsAtRuneStartsSpec : ChangeSpec := { name := "fnAppendEscapedSplitsAtRuneStarts", fn := fun _ => fun
  | [d1, d2, d3] => { results := [.lit (.bool true)], args := [d1, d2, d3] }
  | _ => none }
def fnAppendEscapedSplitsAtRuneStartsRow : OpenClaim := { program := "qxb6608953adoor", sum := "f20d7fdd9293a2a3e6ff5e6ee4d57f9bc6786dd94cfa5caf59d5fb9bbdeb74ff", func := "example.com/fieldnote/fieldnote/zzlaws_internal_jsonstring_b1.FnAppendEscapedSplitsAtRuneStarts", spec := "fnAppendEscapedSplitsAtRuneStarts", named := ["unicode/utf8.first", "unicode/utf8.acceptRanges"], apart := false, laid := [("unicode/utf8.acceptRanges", laid_unicode_utf8_acceptRanges), ("unicode/utf8.first", laid_unicode_utf8_first)] }
def FnAppendEscapedSplitsAtRuneStartsSaid : Prop := fnAppendEscapedSplitsAtRuneStartsRow.holds Tryd.pinned (OpenSpec.ofChange fnAppendEscapedSplitsAtRuneStartsSpec)

/-- ITS FALSE NEIGHBOUR: 'it returns false'. Refute it at one input. -/
def fnAppendEscapedSplitsAtRuneStartsWrong : ChangeSpec := { name := "fnAppendEscapedSplitsAtRuneStarts", fn := fun _ => fun
  | [d1, d2, d3] => { results := [.lit (.bool false)], args := [d1, d2, d3] }
  | _ => none }
def FnAppendEscapedSplitsAtRuneStartsWrongFalsely : Prop := fnAppendEscapedSplitsAtRuneStartsRow.holds Tryd.pinned (OpenSpec.ofChange fnAppendEscapedSplitsAtRuneStartsWrong)

/-- 'zzlaws_internal_jsonstring_b1.FnMatchesMarshalIsByteEquality': WHATEVER THE INPUT: true; the input reads as it did. -/
def fnMatchesMarshalIsByteEqualitySpec : ChangeSpec := { name := "fnMatchesMarshalIsByteEquality", fn := fun _ => fun
  | [d] => { results := [.lit (.bool true)], args := [d] }
  | _ => none }
def fnMatchesMarshalIsByteEqualityRow : OpenClaim := { program := "qxb6608953adoor", sum := "f20d7fdd9293a2a3e6ff5e6ee4d57f9bc6786dd94cfa5caf59d5fb9bbdeb74ff", func := "example.com/fieldnote/fieldnote/zzlaws_internal_jsonstring_b1.FnMatchesMarshalIsByteEquality", spec := "fnMatchesMarshalIsByteEquality", named := ["unicode/utf8.first", "unicode/utf8.acceptRanges"], apart := false, laid := [("unicode/utf8.acceptRanges", laid_unicode_utf8_acceptRanges), ("unicode/utf8.first", laid_unicode_utf8_first)] }
def FnMatchesMarshalIsByteEqualitySaid : Prop := fnMatchesMarshalIsByteEqualityRow.holds Tryd.pinned (OpenSpec.ofChange fnMatchesMarshalIsByteEqualitySpec)

/-- ITS FALSE NEIGHBOUR: 'it returns false'. Refute it at one input. -/
def fnMatchesMarshalIsByteEqualityWrong : ChangeSpec := { name := "fnMatchesMarshalIsByteEquality", fn := fun _ => fun
  | [d] => { results := [.lit (.bool false)], args := [d] }
  | _ => none }
def FnMatchesMarshalIsByteEqualityWrongFalsely : Prop := fnMatchesMarshalIsByteEqualityRow.holds Tryd.pinned (OpenSpec.ofChange fnMatchesMarshalIsByteEqualityWrong)

end Rows
end Go.Proofs.Qxb6608953aDoor
