/-
  NARROWER THAN 'FOR EVERY INPUT', by the rows' own cells (each row's printed sentence says how): FnSlideKeepsTheEditAndItsRuns: laid · FnSlideRunsCannotRiseToLessIndent: laid · FnScriptIsAShortestEditScript: laid.
  DERIVED. THE GIVEN ROWS OF THIS SEAT. 3 by the template 'for every input the law returns true; each argument reads behind the call as it read before'; 0 by the template 'total and deterministic' (their statements: Qxb6606138aDoorTotals.lean).
  GIVEN WITH THE SEED: the statements are not yours to turn. If you find one false, say at which input.
  Laid BY PROGRAM, IN A SANDBOX (cutbox-rows.mjs): the forced cells as the released guide's own fill.sh prints them over the translation 5b505f5d7ee5821c… (all of the seat's roots in one cut). By AI agents, Wed Nov 11 2026. No macro, syntax, notation, axiom, sorry.
-/
import Derived.Test.Qxb6606138aDoorChecked
import GoSem.PinnedTables
import GoSem.Claim
import GoSem.ClaimJoined
import GoSem.ClaimMapViews
import Derived.JoinedTies
import Derived.KernelRfl
namespace Go.Proofs.Qxb6606138aDoor
/- THE CELL 'sum', in the pinned program and in every row, IS THE sha256 OF THE DUMP (.gsa) THAT Qxb6606138aDoorProg.lean LOADS. Nothing in Lean hashes anything: it is a label: what it is worth is what the hold of that sum in a sandbox is worth. -/
noncomputable def Tryd.pinned : Pinned := { name := "qxb6606138adoor", sum := "5b505f5d7ee5821c52946225e22902bce1884912bd9b337f90943b92e651c974", checked := Tryd.checked }
namespace Rows
def none {H : Type} : Left H := { results := [], args := [] }

/- WHAT THE LISTED PACKAGE-LEVEL VARIABLES READ AS WHEN THE CALL BEGINS. Each datum BY PROGRAM (the guide's laid-datum.mjs) off the statement by which the dump's own 'gosem.cut.vars' lays the variable. In a bare row this is a premise. The card (Qxb6606138aDoorCards.lean) ties it to the program's text. -/
def laid_unicode_utf8_acceptRanges {H : Type} : DataW H := .agg [.agg [.lit (.int .u8 128), .lit (.int .u8 191)], .agg [.lit (.int .u8 160), .lit (.int .u8 191)], .agg [.lit (.int .u8 128), .lit (.int .u8 159)], .agg [.lit (.int .u8 144), .lit (.int .u8 191)], .agg [.lit (.int .u8 128), .lit (.int .u8 143)], .agg [.lit (.int .u8 0), .lit (.int .u8 0)], .agg [.lit (.int .u8 0), .lit (.int .u8 0)], .agg [.lit (.int .u8 0), .lit (.int .u8 0)], .agg [.lit (.int .u8 0), .lit (.int .u8 0)], .agg [.lit (.int .u8 0), .lit (.int .u8 0)], .agg [.lit (.int .u8 0), .lit (.int .u8 0)], .agg [.lit (.int .u8 0), .lit (.int .u8 0)], .agg [.lit (.int .u8 0), .lit (.int .u8 0)], .agg [.lit (.int .u8 0), .lit (.int .u8 0)], .agg [.lit (.int .u8 0), .lit (.int .u8 0)], .agg [.lit (.int .u8 0), .lit (.int .u8 0)]]
/-- One of Go's own tables, pinned by name: the form's constant. -/
def laid_unicode_utf8_first : DataW Unit := Go.Pinned.utf8First

/-- 'zzlaws_internal_textdiff_b1.FnSlideKeepsTheEditAndItsRuns': WHATEVER THE INPUT: true; the input reads as it did. -/
def fnSlideKeepsTheEditAndItsRunsSpec : ChangeSpec := { name := "fnSlideKeepsTheEditAndItsRuns", fn := fun _ => fun
  | [d1, d2, d3] => { results := [.lit (.bool true)], args := [d1, d2, d3] }
  | _ => none }
def fnSlideKeepsTheEditAndItsRunsRow : OpenClaim := { program := "qxb6606138adoor", sum := "5b505f5d7ee5821c52946225e22902bce1884912bd9b337f90943b92e651c974", func := "example.com/castwright/castwright/zzlaws_internal_textdiff_b1.FnSlideKeepsTheEditAndItsRuns", spec := "fnSlideKeepsTheEditAndItsRuns", inPlace := ["internal/bytealg.IndexByteString", "internal/bytealg.IndexString"], unfollowed := true, recurses := true, named := ["unicode/utf8.first", "unicode/utf8.acceptRanges", "internal/bytealg.MaxLen"], apart := false, laid := [("unicode/utf8.acceptRanges", laid_unicode_utf8_acceptRanges), ("unicode/utf8.first", laid_unicode_utf8_first)] }
def FnSlideKeepsTheEditAndItsRunsSaid : Prop := fnSlideKeepsTheEditAndItsRunsRow.holds Tryd.pinned (OpenSpec.ofChange fnSlideKeepsTheEditAndItsRunsSpec)

/-- ITS FALSE NEIGHBOUR: 'it returns false'. Refute it at one input. -/
def fnSlideKeepsTheEditAndItsRunsWrong : ChangeSpec := { name := "fnSlideKeepsTheEditAndItsRuns", fn := fun _ => fun
  | [d1, d2, d3] => { results := [.lit (.bool false)], args := [d1, d2, d3] }
  | _ => none }
def FnSlideKeepsTheEditAndItsRunsWrongFalsely : Prop := fnSlideKeepsTheEditAndItsRunsRow.holds Tryd.pinned (OpenSpec.ofChange fnSlideKeepsTheEditAndItsRunsWrong)

/-- 'zzlaws_internal_textdiff_b1.FnSlideRunsCannotRiseToLessIndent': WHATEVER THE INPUT: true; the input reads as it did. -/
def fnSlideRunsCannotRiseToLessIndentSpec : ChangeSpec := { name := "fnSlideRunsCannotRiseToLessIndent", fn := fun _ => fun
  | [d1, d2, d3] => { results := [.lit (.bool true)], args := [d1, d2, d3] }
  | _ => none }
def fnSlideRunsCannotRiseToLessIndentRow : OpenClaim := { program := "qxb6606138adoor", sum := "5b505f5d7ee5821c52946225e22902bce1884912bd9b337f90943b92e651c974", func := "example.com/castwright/castwright/zzlaws_internal_textdiff_b1.FnSlideRunsCannotRiseToLessIndent", spec := "fnSlideRunsCannotRiseToLessIndent", inPlace := ["internal/bytealg.IndexByteString", "internal/bytealg.IndexString"], unfollowed := true, recurses := true, named := ["unicode/utf8.first", "unicode/utf8.acceptRanges", "internal/bytealg.MaxLen"], apart := false, laid := [("unicode/utf8.acceptRanges", laid_unicode_utf8_acceptRanges), ("unicode/utf8.first", laid_unicode_utf8_first)] }
def FnSlideRunsCannotRiseToLessIndentSaid : Prop := fnSlideRunsCannotRiseToLessIndentRow.holds Tryd.pinned (OpenSpec.ofChange fnSlideRunsCannotRiseToLessIndentSpec)

/-- ITS FALSE NEIGHBOUR: 'it returns false'. Refute it at one input. -/
def fnSlideRunsCannotRiseToLessIndentWrong : ChangeSpec := { name := "fnSlideRunsCannotRiseToLessIndent", fn := fun _ => fun
  | [d1, d2, d3] => { results := [.lit (.bool false)], args := [d1, d2, d3] }
  | _ => none }
def FnSlideRunsCannotRiseToLessIndentWrongFalsely : Prop := fnSlideRunsCannotRiseToLessIndentRow.holds Tryd.pinned (OpenSpec.ofChange fnSlideRunsCannotRiseToLessIndentWrong)

/-- 'zzlaws_internal_textdiff_b1.FnScriptIsAShortestEditScript': WHATEVER THE INPUT: true; the input reads as it did. -/
def fnScriptIsAShortestEditScriptSpec : ChangeSpec := { name := "fnScriptIsAShortestEditScript", fn := fun _ => fun
  | [d1, d2] => { results := [.lit (.bool true)], args := [d1, d2] }
  | _ => none }
def fnScriptIsAShortestEditScriptRow : OpenClaim := { program := "qxb6606138adoor", sum := "5b505f5d7ee5821c52946225e22902bce1884912bd9b337f90943b92e651c974", func := "example.com/castwright/castwright/zzlaws_internal_textdiff_b1.FnScriptIsAShortestEditScript", spec := "fnScriptIsAShortestEditScript", inPlace := ["internal/bytealg.IndexByteString", "internal/bytealg.IndexString"], unfollowed := true, recurses := true, named := ["unicode/utf8.first", "unicode/utf8.acceptRanges", "internal/bytealg.MaxLen"], apart := false, laid := [("unicode/utf8.acceptRanges", laid_unicode_utf8_acceptRanges), ("unicode/utf8.first", laid_unicode_utf8_first)] }
def FnScriptIsAShortestEditScriptSaid : Prop := fnScriptIsAShortestEditScriptRow.holds Tryd.pinned (OpenSpec.ofChange fnScriptIsAShortestEditScriptSpec)

/-- ITS FALSE NEIGHBOUR: 'it returns false'. Refute it at one input. -/
def fnScriptIsAShortestEditScriptWrong : ChangeSpec := { name := "fnScriptIsAShortestEditScript", fn := fun _ => fun
  | [d1, d2] => { results := [.lit (.bool false)], args := [d1, d2] }
  | _ => none }
def FnScriptIsAShortestEditScriptWrongFalsely : Prop := fnScriptIsAShortestEditScriptRow.holds Tryd.pinned (OpenSpec.ofChange fnScriptIsAShortestEditScriptWrong)

end Rows
end Go.Proofs.Qxb6606138aDoor
