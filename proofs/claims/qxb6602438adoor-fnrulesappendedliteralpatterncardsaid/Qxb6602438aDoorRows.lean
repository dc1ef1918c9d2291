/-
  NARROWER THAN 'FOR EVERY INPUT', by the rows' own cells (each row's printed sentence says how): FnRulesAppendedLiteralPattern: laid · FnRulesFilesIgnoreDirOnlyPatterns: laid.
  DERIVED. THE GIVEN ROWS OF THIS SEAT. 2 by the template 'for every input the law returns true; each argument reads behind the call as it read before'; 0 by the template 'total and deterministic' (their statements: Qxb6602438aDoorTotals.lean).
  GIVEN WITH THE SEED: the statements are not yours to turn. If you find one false, say at which input.
  Laid BY PROGRAM, IN A SANDBOX (cutbox-rows.mjs): the forced cells as the released guide's own fill.sh prints them over the translation 2d7576c954bb0207… (all of the seat's roots in one cut). By AI agents, Wed Nov 11 2026. No macro, syntax, notation, axiom, sorry.
-/
import Derived.Test.Qxb6602438aDoorChecked
import GoSem.PinnedTables
import GoSem.Claim
import GoSem.ClaimJoined
import GoSem.ClaimMapViews
import Derived.JoinedTies
import Derived.KernelRfl
namespace Go.Proofs.Qxb6602438aDoor
/- THE CELL 'sum', in the pinned program and in every row, IS THE sha256 OF THE DUMP (.gsa) THAT Qxb6602438aDoorProg.lean LOADS. Nothing in Lean hashes anything: it is a label: what it is worth is what the hold of that sum in a sandbox is worth. -/
noncomputable def Tryd.pinned : Pinned := { name := "qxb6602438adoor", sum := "2d7576c954bb0207290eee6803179764e7f12d01c904b786869887253653094a", checked := Tryd.checked }
namespace Rows
def none {H : Type} : Left H := { results := [], args := [] }

/- WHAT THE LISTED PACKAGE-LEVEL VARIABLES READ AS WHEN THE CALL BEGINS. Each datum BY PROGRAM (the guide's laid-datum.mjs) off the statement by which the dump's own 'gosem.cut.vars' lays the variable. In a bare row this is a premise. The card (Qxb6602438aDoorCards.lean) ties it to the program's text. -/
def laid_unicode_utf8_acceptRanges {H : Type} : DataW H := .agg [.agg [.lit (.int .u8 128), .lit (.int .u8 191)], .agg [.lit (.int .u8 160), .lit (.int .u8 191)], .agg [.lit (.int .u8 128), .lit (.int .u8 159)], .agg [.lit (.int .u8 144), .lit (.int .u8 191)], .agg [.lit (.int .u8 128), .lit (.int .u8 143)], .agg [.lit (.int .u8 0), .lit (.int .u8 0)], .agg [.lit (.int .u8 0), .lit (.int .u8 0)], .agg [.lit (.int .u8 0), .lit (.int .u8 0)], .agg [.lit (.int .u8 0), .lit (.int .u8 0)], .agg [.lit (.int .u8 0), .lit (.int .u8 0)], .agg [.lit (.int .u8 0), .lit (.int .u8 0)], .agg [.lit (.int .u8 0), .lit (.int .u8 0)], .agg [.lit (.int .u8 0), .lit (.int .u8 0)], .agg [.lit (.int .u8 0), .lit (.int .u8 0)], .agg [.lit (.int .u8 0), .lit (.int .u8 0)], .agg [.lit (.int .u8 0), .lit (.int .u8 0)]]
/-- One of Go's own tables, pinned by name: the form's constant. -/
def laid_unicode_utf8_first : DataW Unit := Go.Pinned.utf8First

/-- 'zzlaws_internal_ignore_b1.FnRulesAppendedLiteralPattern': WHATEVER THE INPUT: true; the input reads as it did. -/
def fnRulesAppendedLiteralPatternSpec : ChangeSpec := { name := "fnRulesAppendedLiteralPattern", fn := fun _ => fun
  | [d1, d2, d3, d4, d5, d6] => { results := [.lit (.bool true)], args := [d1, d2, d3, d4, d5, d6] }
  | _ => none }
def fnRulesAppendedLiteralPatternRow : OpenClaim := { program := "qxb6602438adoor", sum := "2d7576c954bb0207290eee6803179764e7f12d01c904b786869887253653094a", func := "example.com/tideline/tideline/zzlaws_internal_ignore_b1.FnRulesAppendedLiteralPattern", spec := "fnRulesAppendedLiteralPattern", inPlace := ["internal/bytealg.CountString", "internal/bytealg.IndexByteString", "internal/bytealg.IndexString"], named := ["internal/bytealg.MaxLen", "unicode/utf8.first", "unicode/utf8.acceptRanges"], apart := false, laid := [("unicode/utf8.acceptRanges", laid_unicode_utf8_acceptRanges), ("unicode/utf8.first", laid_unicode_utf8_first)] }
def FnRulesAppendedLiteralPatternSaid : Prop := fnRulesAppendedLiteralPatternRow.holds Tryd.pinned (OpenSpec.ofChange fnRulesAppendedLiteralPatternSpec)

/-- ITS FALSE NEIGHBOUR: 'it returns false'. Refute it at one input. -/
def fnRulesAppendedLiteralPatternWrong : ChangeSpec := { name := "fnRulesAppendedLiteralPattern", fn := fun _ => fun
  | [d1, d2, d3, d4, d5, d6] => { results := [.lit (.bool false)], args := [d1, d2, d3, d4, d5, d6] }
  | _ => none }
def FnRulesAppendedLiteralPatternWrongFalsely : Prop := fnRulesAppendedLiteralPatternRow.holds Tryd.pinned (OpenSpec.ofChange fnRulesAppendedLiteralPatternWrong)

/-- 'zzlaws_internal_ignore_b1.FnRulesFilesIgnoreDirOnlyPatterns': WHATEVER THE INPUT: true; the input reads as it did. -/
def fnRulesFilesIgnoreDirOnlyPatternsSpec : ChangeSpec := { name := "fnRulesFilesIgnoreDirOnlyPatterns", fn := fun _ => fun
  | [d1, d2] => { results := [.lit (.bool true)], args := [d1, d2] }
  | _ => none }
def fnRulesFilesIgnoreDirOnlyPatternsRow : OpenClaim := { program := "qxb6602438adoor", sum := "2d7576c954bb0207290eee6803179764e7f12d01c904b786869887253653094a", func := "example.com/tideline/tideline/zzlaws_internal_ignore_b1.FnRulesFilesIgnoreDirOnlyPatterns", spec := "fnRulesFilesIgnoreDirOnlyPatterns", inPlace := ["internal/bytealg.CountString", "internal/bytealg.IndexByteString", "internal/bytealg.IndexString"], named := ["internal/bytealg.MaxLen", "unicode/utf8.first", "unicode/utf8.acceptRanges"], apart := false, laid := [("unicode/utf8.acceptRanges", laid_unicode_utf8_acceptRanges), ("unicode/utf8.first", laid_unicode_utf8_first)] }
def FnRulesFilesIgnoreDirOnlyPatternsSaid : Prop := fnRulesFilesIgnoreDirOnlyPatternsRow.holds Tryd.pinned (OpenSpec.ofChange fnRulesFilesIgnoreDirOnlyPatternsSpec)

/-- ITS FALSE NEIGHBOUR: 'it returns false'. Refute it at one input. -/
def fnRulesFilesIgnoreDirOnlyPatternsWrong : ChangeSpec := { name := "fnRulesFilesIgnoreDirOnlyPatterns", fn := fun _ => fun
  | [d1, d2] => { results := [.lit (.bool false)], args := [d1, d2] }
  | _ => none }
def FnRulesFilesIgnoreDirOnlyPatternsWrongFalsely : Prop := fnRulesFilesIgnoreDirOnlyPatternsRow.holds Tryd.pinned (OpenSpec.ofChange fnRulesFilesIgnoreDirOnlyPatternsWrong)

end Rows
end Go.Proofs.Qxb6602438aDoor
