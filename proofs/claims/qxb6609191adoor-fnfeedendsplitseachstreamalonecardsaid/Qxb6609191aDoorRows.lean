/-
  NARROWER THAN 'FOR EVERY INPUT', by the rows' own cells (each row's printed sentence says how): FnFeedReassemblesNormalizedStream: laid · FnFeedInTwoPiecesAsInOne: laid · FnMidLineAfterFeedTellsUnendedTail: laid · FnMidLineAgreesWithEnd: laid · FnEndEmitsExactlyTheUnendedTail: laid · FnFeedEndSplitsEachStreamAlone: laid.
  DERIVED. THE GIVEN ROWS OF THIS SEAT. 6 by the template 'for every input the law returns true; each argument reads behind the call as it read before'; 0 by the template 'total and deterministic' (their statements: Qxb6609191aDoorTotals.lean).
  GIVEN WITH THE SEED: the statements are not yours to turn. If you find one false, say at which input.
  Laid BY PROGRAM, IN A SANDBOX (cutbox-rows.mjs): the forced cells as the released guide's own fill.sh prints them over the translation 1668a0b14384c5f9… (all of the seat's roots in one cut). By AI agents, Wed Nov 11 2026. No macro, syntax, notation, axiom, sorry.
-/
import Derived.Test.Qxb6609191aDoorChecked
import GoSem.PinnedTables
import GoSem.Claim
import GoSem.ClaimJoined
import GoSem.ClaimMapViews
import Derived.JoinedTies
import Derived.KernelRfl
namespace Go.Proofs.Qxb6609191aDoor
/- THE CELL 'sum', in the pinned program and in every row, IS THE sha256 OF THE DUMP (.gsa) THAT Qxb6609191aDoorProg.lean LOADS. Nothing in Lean hashes anything: it is a label: what it is worth is what the hold of that sum in a sandbox is worth. -/
noncomputable def Tryd.pinned : Pinned := { name := "qxb6609191adoor", sum := "1668a0b14384c5f99444e90bbbb0ec04633cf422d0f715d164a57963d8f81c05", checked := Tryd.checked }
namespace Rows
def none {H : Type} : Left H := { results := [], args := [] }

/- WHAT THE LISTED PACKAGE-LEVEL VARIABLES READ AS WHEN THE CALL BEGINS. Each datum BY PROGRAM (the guide's laid-datum.mjs) off the statement by which the dump's own 'gosem.cut.vars' lays the variable. In a bare row this is a premise. The card (Qxb6609191aDoorCards.lean) ties it to the program's text. -/
def laid_unicode_utf8_acceptRanges {H : Type} : DataW H := .agg [.agg [.lit (.int .u8 128), .lit (.int .u8 191)], .agg [.lit (.int .u8 160), .lit (.int .u8 191)], .agg [.lit (.int .u8 128), .lit (.int .u8 159)], .agg [.lit (.int .u8 144), .lit (.int .u8 191)], .agg [.lit (.int .u8 128), .lit (.int .u8 143)], .agg [.lit (.int .u8 0), .lit (.int .u8 0)], .agg [.lit (.int .u8 0), .lit (.int .u8 0)], .agg [.lit (.int .u8 0), .lit (.int .u8 0)], .agg [.lit (.int .u8 0), .lit (.int .u8 0)], .agg [.lit (.int .u8 0), .lit (.int .u8 0)], .agg [.lit (.int .u8 0), .lit (.int .u8 0)], .agg [.lit (.int .u8 0), .lit (.int .u8 0)], .agg [.lit (.int .u8 0), .lit (.int .u8 0)], .agg [.lit (.int .u8 0), .lit (.int .u8 0)], .agg [.lit (.int .u8 0), .lit (.int .u8 0)], .agg [.lit (.int .u8 0), .lit (.int .u8 0)]]
/-- One of Go's own tables, pinned by name: the form's constant. -/
def laid_unicode_utf8_first : DataW Unit := Go.Pinned.utf8First

/-- 'zzlaws_internal_lines_b1.FnFeedReassemblesNormalizedStream': WHATEVER THE INPUT: true; the input reads as it did. -/
def fnFeedReassemblesNormalizedStreamSpec : ChangeSpec := { name := "fnFeedReassemblesNormalizedStream", fn := fun _ => fun
  | [d1, d2, d3] => { results := [.lit (.bool true)], args := [d1, d2, d3] }
  | _ => none }
def fnFeedReassemblesNormalizedStreamRow : OpenClaim := { program := "qxb6609191adoor", sum := "1668a0b14384c5f99444e90bbbb0ec04633cf422d0f715d164a57963d8f81c05", func := "example.com/feedline/feedline/zzlaws_internal_lines_b1.FnFeedReassemblesNormalizedStream", spec := "fnFeedReassemblesNormalizedStream", inPlace := ["internal/bytealg.IndexByteString", "internal/bytealg.IndexByte", "internal/bytealg.Index", "internal/bytealg.IndexString"], unfollowed := true, recurses := true, named := ["internal/bytealg.MaxLen", "unicode/utf8.first", "unicode/utf8.acceptRanges"], apart := false, laid := [("unicode/utf8.acceptRanges", laid_unicode_utf8_acceptRanges), ("unicode/utf8.first", laid_unicode_utf8_first)] }
def FnFeedReassemblesNormalizedStreamSaid : Prop := fnFeedReassemblesNormalizedStreamRow.holds Tryd.pinned (OpenSpec.ofChange fnFeedReassemblesNormalizedStreamSpec)

/-- ITS FALSE NEIGHBOUR: 'it returns false'. Refute it at one input. -/
def fnFeedReassemblesNormalizedStreamWrong : ChangeSpec := { name := "fnFeedReassemblesNormalizedStream", fn := fun _ => fun
  | [d1, d2, d3] => { results := [.lit (.bool false)], args := [d1, d2, d3] }
  | _ => none }
def FnFeedReassemblesNormalizedStreamWrongFalsely : Prop := fnFeedReassemblesNormalizedStreamRow.holds Tryd.pinned (OpenSpec.ofChange fnFeedReassemblesNormalizedStreamWrong)

/-- 'zzlaws_internal_lines_b1.FnFeedInTwoPiecesAsInOne': WHATEVER THE INPUT: true; the input reads as it did. -/
def fnFeedInTwoPiecesAsInOneSpec : ChangeSpec := { name := "fnFeedInTwoPiecesAsInOne", fn := fun _ => fun
  | [d1, d2, d3, d4] => { results := [.lit (.bool true)], args := [d1, d2, d3, d4] }
  | _ => none }
def fnFeedInTwoPiecesAsInOneRow : OpenClaim := { program := "qxb6609191adoor", sum := "1668a0b14384c5f99444e90bbbb0ec04633cf422d0f715d164a57963d8f81c05", func := "example.com/feedline/feedline/zzlaws_internal_lines_b1.FnFeedInTwoPiecesAsInOne", spec := "fnFeedInTwoPiecesAsInOne", inPlace := ["internal/bytealg.IndexByteString", "internal/bytealg.IndexByte", "internal/bytealg.Index", "internal/bytealg.IndexString"], unfollowed := true, recurses := true, named := ["internal/bytealg.MaxLen", "unicode/utf8.first", "unicode/utf8.acceptRanges"], apart := false, laid := [("unicode/utf8.acceptRanges", laid_unicode_utf8_acceptRanges), ("unicode/utf8.first", laid_unicode_utf8_first)] }
def FnFeedInTwoPiecesAsInOneSaid : Prop := fnFeedInTwoPiecesAsInOneRow.holds Tryd.pinned (OpenSpec.ofChange fnFeedInTwoPiecesAsInOneSpec)

/-- ITS FALSE NEIGHBOUR: 'it returns false'. Refute it at one input. -/
def fnFeedInTwoPiecesAsInOneWrong : ChangeSpec := { name := "fnFeedInTwoPiecesAsInOne", fn := fun _ => fun
  | [d1, d2, d3, d4] => { results := [.lit (.bool false)], args := [d1, d2, d3, d4] }
  | _ => none }
def FnFeedInTwoPiecesAsInOneWrongFalsely : Prop := fnFeedInTwoPiecesAsInOneRow.holds Tryd.pinned (OpenSpec.ofChange fnFeedInTwoPiecesAsInOneWrong)

/-- 'zzlaws_internal_lines_b1.FnMidLineAfterFeedTellsUnendedTail': WHATEVER THE INPUT: true; the input reads as it did. -/
def fnMidLineAfterFeedTellsUnendedTailSpec : ChangeSpec := { name := "fnMidLineAfterFeedTellsUnendedTail", fn := fun _ => fun
  | [d1, d2, d3] => { results := [.lit (.bool true)], args := [d1, d2, d3] }
  | _ => none }
def fnMidLineAfterFeedTellsUnendedTailRow : OpenClaim := { program := "qxb6609191adoor", sum := "1668a0b14384c5f99444e90bbbb0ec04633cf422d0f715d164a57963d8f81c05", func := "example.com/feedline/feedline/zzlaws_internal_lines_b1.FnMidLineAfterFeedTellsUnendedTail", spec := "fnMidLineAfterFeedTellsUnendedTail", inPlace := ["internal/bytealg.IndexByteString", "internal/bytealg.IndexByte", "internal/bytealg.Index", "internal/bytealg.IndexString"], unfollowed := true, recurses := true, named := ["internal/bytealg.MaxLen", "unicode/utf8.first", "unicode/utf8.acceptRanges"], apart := false, laid := [("unicode/utf8.acceptRanges", laid_unicode_utf8_acceptRanges), ("unicode/utf8.first", laid_unicode_utf8_first)] }
def FnMidLineAfterFeedTellsUnendedTailSaid : Prop := fnMidLineAfterFeedTellsUnendedTailRow.holds Tryd.pinned (OpenSpec.ofChange fnMidLineAfterFeedTellsUnendedTailSpec)

/-- ITS FALSE NEIGHBOUR: 'it returns false'. Refute it at one input. -/
def fnMidLineAfterFeedTellsUnendedTailWrong : ChangeSpec := { name := "fnMidLineAfterFeedTellsUnendedTail", fn := fun _ => fun
  | [d1, d2, d3] => { results := [.lit (.bool false)], args := [d1, d2, d3] }
  | _ => none }
def FnMidLineAfterFeedTellsUnendedTailWrongFalsely : Prop := fnMidLineAfterFeedTellsUnendedTailRow.holds Tryd.pinned (OpenSpec.ofChange fnMidLineAfterFeedTellsUnendedTailWrong)

/-- 'zzlaws_internal_lines_b1.FnMidLineAgreesWithEnd': WHATEVER THE INPUT: true; the input reads as it did. -/
def fnMidLineAgreesWithEndSpec : ChangeSpec := { name := "fnMidLineAgreesWithEnd", fn := fun _ => fun
  | [d1, d2, d3] => { results := [.lit (.bool true)], args := [d1, d2, d3] }
  | _ => none }
def fnMidLineAgreesWithEndRow : OpenClaim := { program := "qxb6609191adoor", sum := "1668a0b14384c5f99444e90bbbb0ec04633cf422d0f715d164a57963d8f81c05", func := "example.com/feedline/feedline/zzlaws_internal_lines_b1.FnMidLineAgreesWithEnd", spec := "fnMidLineAgreesWithEnd", inPlace := ["internal/bytealg.IndexByteString", "internal/bytealg.IndexByte", "internal/bytealg.Index", "internal/bytealg.IndexString"], unfollowed := true, recurses := true, named := ["internal/bytealg.MaxLen", "unicode/utf8.first", "unicode/utf8.acceptRanges"], apart := false, laid := [("unicode/utf8.acceptRanges", laid_unicode_utf8_acceptRanges), ("unicode/utf8.first", laid_unicode_utf8_first)] }
def FnMidLineAgreesWithEndSaid : Prop := fnMidLineAgreesWithEndRow.holds Tryd.pinned (OpenSpec.ofChange fnMidLineAgreesWithEndSpec)

/-- ITS FALSE NEIGHBOUR: 'it returns false'. Refute it at one input. -/
def fnMidLineAgreesWithEndWrong : ChangeSpec := { name := "fnMidLineAgreesWithEnd", fn := fun _ => fun
  | [d1, d2, d3] => { results := [.lit (.bool false)], args := [d1, d2, d3] }
  | _ => none }
def FnMidLineAgreesWithEndWrongFalsely : Prop := fnMidLineAgreesWithEndRow.holds Tryd.pinned (OpenSpec.ofChange fnMidLineAgreesWithEndWrong)

/-- 'zzlaws_internal_lines_b1.FnEndEmitsExactlyTheUnendedTail': WHATEVER THE INPUT: true; the input reads as it did. -/
def fnEndEmitsExactlyTheUnendedTailSpec : ChangeSpec := { name := "fnEndEmitsExactlyTheUnendedTail", fn := fun _ => fun
  | [d1, d2, d3] => { results := [.lit (.bool true)], args := [d1, d2, d3] }
  | _ => none }
def fnEndEmitsExactlyTheUnendedTailRow : OpenClaim := { program := "qxb6609191adoor", sum := "1668a0b14384c5f99444e90bbbb0ec04633cf422d0f715d164a57963d8f81c05", func := "example.com/feedline/feedline/zzlaws_internal_lines_b1.FnEndEmitsExactlyTheUnendedTail", spec := "fnEndEmitsExactlyTheUnendedTail", inPlace := ["internal/bytealg.IndexByteString", "internal/bytealg.IndexByte", "internal/bytealg.Index", "internal/bytealg.IndexString"], unfollowed := true, recurses := true, named := ["internal/bytealg.MaxLen", "unicode/utf8.first", "unicode/utf8.acceptRanges"], apart := false, laid := [("unicode/utf8.acceptRanges", laid_unicode_utf8_acceptRanges), ("unicode/utf8.first", laid_unicode_utf8_first)] }
def FnEndEmitsExactlyTheUnendedTailSaid : Prop := fnEndEmitsExactlyTheUnendedTailRow.holds Tryd.pinned (OpenSpec.ofChange fnEndEmitsExactlyTheUnendedTailSpec)

/-- ITS FALSE NEIGHBOUR: 'it returns false'. Refute it at one input. -/
def fnEndEmitsExactlyTheUnendedTailWrong : ChangeSpec := { name := "fnEndEmitsExactlyTheUnendedTail", fn := fun _ => fun
  | [d1, d2, d3] => { results := [.lit (.bool false)], args := [d1, d2, d3] }
  | _ => none }
def FnEndEmitsExactlyTheUnendedTailWrongFalsely : Prop := fnEndEmitsExactlyTheUnendedTailRow.holds Tryd.pinned (OpenSpec.ofChange fnEndEmitsExactlyTheUnendedTailWrong)

/-- 'zzlaws_internal_lines_b1.FnFeedEndSplitsEachStreamAlone': WHATEVER THE INPUT: true; the input reads as it did. -/
def fnFeedEndSplitsEachStreamAloneSpec : ChangeSpec := { name := "fnFeedEndSplitsEachStreamAlone", fn := fun _ => fun
  | [d1, d2, d3, d4] => { results := [.lit (.bool true)], args := [d1, d2, d3, d4] }
  | _ => none }
def fnFeedEndSplitsEachStreamAloneRow : OpenClaim := { program := "qxb6609191adoor", sum := "1668a0b14384c5f99444e90bbbb0ec04633cf422d0f715d164a57963d8f81c05", func := "example.com/feedline/feedline/zzlaws_internal_lines_b1.FnFeedEndSplitsEachStreamAlone", spec := "fnFeedEndSplitsEachStreamAlone", inPlace := ["internal/bytealg.IndexByteString", "internal/bytealg.IndexByte", "internal/bytealg.Index", "internal/bytealg.IndexString"], unfollowed := true, recurses := true, named := ["internal/bytealg.MaxLen", "unicode/utf8.first", "unicode/utf8.acceptRanges"], apart := false, laid := [("unicode/utf8.acceptRanges", laid_unicode_utf8_acceptRanges), ("unicode/utf8.first", laid_unicode_utf8_first)] }
def FnFeedEndSplitsEachStreamAloneSaid : Prop := fnFeedEndSplitsEachStreamAloneRow.holds Tryd.pinned (OpenSpec.ofChange fnFeedEndSplitsEachStreamAloneSpec)

/-- ITS FALSE NEIGHBOUR: 'it returns false'. Refute it at one input. -/
def fnFeedEndSplitsEachStreamAloneWrong : ChangeSpec := { name := "fnFeedEndSplitsEachStreamAlone", fn := fun _ => fun
  | [d1, d2, d3, d4] => { results := [.lit (.bool false)], args := [d1, d2, d3, d4] }
  | _ => none }
def FnFeedEndSplitsEachStreamAloneWrongFalsely : Prop := fnFeedEndSplitsEachStreamAloneRow.holds Tryd.pinned (OpenSpec.ofChange fnFeedEndSplitsEachStreamAloneWrong)

end Rows
end Go.Proofs.Qxb6609191aDoor
