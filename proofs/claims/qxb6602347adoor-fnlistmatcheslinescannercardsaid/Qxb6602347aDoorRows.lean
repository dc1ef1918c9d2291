/-
  NARROWER THAN 'FOR EVERY INPUT', by the rows' own cells (each row's printed sentence says how): FnValidHostNameMatchesLabelScanner: laid · FnValidHostNameJoinLabels: laid · FnHostLabelAgreesWithPlainName: laid · FnListMatchesLineScanner: laid · FnListFinalNewlineIsOptional: laid · FnListReadsBackJoinedLines: laid.
  DERIVED. THE GIVEN ROWS OF THIS SEAT. 6 by the template 'for every input the law returns true; each argument reads behind the call as it read before'; 0 by the template 'total and deterministic' (their statements: Qxb6602347aDoorTotals.lean).
  GIVEN WITH THE SEED: the statements are not yours to turn. If you find one false, say at which input.
  Laid BY PROGRAM, IN A SANDBOX (cutbox-rows.mjs): the forced cells as the released guide's own fill.sh prints them over the translation b8411f04db1c1ce2… (all of the seat's roots in one cut). By AI agents, Wed Nov 11 2026. No macro, syntax, notation, axiom, sorry.
-/
import Derived.Test.Qxb6602347aDoorChecked
import GoSem.PinnedTables
import GoSem.Claim
import GoSem.ClaimJoined
import GoSem.ClaimMapViews
import Derived.JoinedTies
import Derived.KernelRfl
namespace Go.Proofs.Qxb6602347aDoor
/- THE CELL 'sum', in the pinned program and in every row, IS THE sha256 OF THE DUMP (.gsa) THAT Qxb6602347aDoorProg.lean LOADS. Nothing in Lean hashes anything: it is a label: what it is worth is what the hold of that sum in a sandbox is worth. -/
noncomputable def Tryd.pinned : Pinned := { name := "qxb6602347adoor", sum := "b8411f04db1c1ce228bc4f319bf9feec01333712630b2170ba0566d3822a22cb", checked := Tryd.checked }
namespace Rows
def none {H : Type} : Left H := { results := [], args := [] }

/- WHAT THE LISTED PACKAGE-LEVEL VARIABLES READ AS WHEN THE CALL BEGINS. Each datum BY PROGRAM (the guide's laid-datum.mjs) off the statement by which the dump's own 'gosem.cut.vars' lays the variable. In a bare row this is a premise. The card (Qxb6602347aDoorCards.lean) ties it to the program's text. -/
def laid_unicode_utf8_acceptRanges {H : Type} : DataW H := .agg [.agg [.lit (.int .u8 128), .lit (.int .u8 191)], .agg [.lit (.int .u8 160), .lit (.int .u8 191)], .agg [.lit (.int .u8 128), .lit (.int .u8 159)], .agg [.lit (.int .u8 144), .lit (.int .u8 191)], .agg [.lit (.int .u8 128), .lit (.int .u8 143)], .agg [.lit (.int .u8 0), .lit (.int .u8 0)], .agg [.lit (.int .u8 0), .lit (.int .u8 0)], .agg [.lit (.int .u8 0), .lit (.int .u8 0)], .agg [.lit (.int .u8 0), .lit (.int .u8 0)], .agg [.lit (.int .u8 0), .lit (.int .u8 0)], .agg [.lit (.int .u8 0), .lit (.int .u8 0)], .agg [.lit (.int .u8 0), .lit (.int .u8 0)], .agg [.lit (.int .u8 0), .lit (.int .u8 0)], .agg [.lit (.int .u8 0), .lit (.int .u8 0)], .agg [.lit (.int .u8 0), .lit (.int .u8 0)], .agg [.lit (.int .u8 0), .lit (.int .u8 0)]]
/-- One of Go's own tables, pinned by name: the form's constant. -/
def laid_unicode_utf8_first : DataW Unit := Go.Pinned.utf8First

/-- 'zzlaws_pkg_briefcase_b1.FnValidHostNameMatchesLabelScanner': WHATEVER THE INPUT: true; the input reads as it did. -/
def fnValidHostNameMatchesLabelScannerSpec : ChangeSpec := { name := "fnValidHostNameMatchesLabelScanner", fn := fun _ => fun
  | [d] => { results := [.lit (.bool true)], args := [d] }
  | _ => none }
def fnValidHostNameMatchesLabelScannerRow : OpenClaim := { program := "qxb6602347adoor", sum := "b8411f04db1c1ce228bc4f319bf9feec01333712630b2170ba0566d3822a22cb", func := "example.com/sojourn/sojourn/zzlaws_pkg_briefcase_b1.FnValidHostNameMatchesLabelScanner", spec := "fnValidHostNameMatchesLabelScanner", inPlace := ["internal/bytealg.CountString", "internal/bytealg.IndexByteString", "internal/bytealg.IndexString"], named := ["unicode/utf8.first", "unicode/utf8.acceptRanges", "internal/bytealg.MaxLen"], apart := false, laid := [("unicode/utf8.acceptRanges", laid_unicode_utf8_acceptRanges), ("unicode/utf8.first", laid_unicode_utf8_first)] }
def FnValidHostNameMatchesLabelScannerSaid : Prop := fnValidHostNameMatchesLabelScannerRow.holds Tryd.pinned (OpenSpec.ofChange fnValidHostNameMatchesLabelScannerSpec)

/-- ITS FALSE NEIGHBOUR: 'it returns false'. Refute it at one input. -/
def fnValidHostNameMatchesLabelScannerWrong : ChangeSpec := { name := "fnValidHostNameMatchesLabelScanner", fn := fun _ => fun
  | [d] => { results := [.lit (.bool false)], args := [d] }
  | _ => none }
def FnValidHostNameMatchesLabelScannerWrongFalsely : Prop := fnValidHostNameMatchesLabelScannerRow.holds Tryd.pinned (OpenSpec.ofChange fnValidHostNameMatchesLabelScannerWrong)

/-- 'zzlaws_pkg_briefcase_b1.FnValidHostNameJoinLabels': WHATEVER THE INPUT: true; the input reads as it did. -/
def fnValidHostNameJoinLabelsSpec : ChangeSpec := { name := "fnValidHostNameJoinLabels", fn := fun _ => fun
  | [d1, d2] => { results := [.lit (.bool true)], args := [d1, d2] }
  | _ => none }
def fnValidHostNameJoinLabelsRow : OpenClaim := { program := "qxb6602347adoor", sum := "b8411f04db1c1ce228bc4f319bf9feec01333712630b2170ba0566d3822a22cb", func := "example.com/sojourn/sojourn/zzlaws_pkg_briefcase_b1.FnValidHostNameJoinLabels", spec := "fnValidHostNameJoinLabels", inPlace := ["internal/bytealg.CountString", "internal/bytealg.IndexByteString", "internal/bytealg.IndexString"], named := ["unicode/utf8.first", "unicode/utf8.acceptRanges", "internal/bytealg.MaxLen"], apart := false, laid := [("unicode/utf8.acceptRanges", laid_unicode_utf8_acceptRanges), ("unicode/utf8.first", laid_unicode_utf8_first)] }
def FnValidHostNameJoinLabelsSaid : Prop := fnValidHostNameJoinLabelsRow.holds Tryd.pinned (OpenSpec.ofChange fnValidHostNameJoinLabelsSpec)

/-- ITS FALSE NEIGHBOUR: 'it returns false'. Refute it at one input. -/
def fnValidHostNameJoinLabelsWrong : ChangeSpec := { name := "fnValidHostNameJoinLabels", fn := fun _ => fun
  | [d1, d2] => { results := [.lit (.bool false)], args := [d1, d2] }
  | _ => none }
def FnValidHostNameJoinLabelsWrongFalsely : Prop := fnValidHostNameJoinLabelsRow.holds Tryd.pinned (OpenSpec.ofChange fnValidHostNameJoinLabelsWrong)

/-- 'zzlaws_pkg_briefcase_b1.FnHostLabelAgreesWithPlainName': WHATEVER THE INPUT: true; the input reads as it did. -/
def fnHostLabelAgreesWithPlainNameSpec : ChangeSpec := { name := "fnHostLabelAgreesWithPlainName", fn := fun _ => fun
  | [d] => { results := [.lit (.bool true)], args := [d] }
  | _ => none }
def fnHostLabelAgreesWithPlainNameRow : OpenClaim := { program := "qxb6602347adoor", sum := "b8411f04db1c1ce228bc4f319bf9feec01333712630b2170ba0566d3822a22cb", func := "example.com/sojourn/sojourn/zzlaws_pkg_briefcase_b1.FnHostLabelAgreesWithPlainName", spec := "fnHostLabelAgreesWithPlainName", inPlace := ["internal/bytealg.CountString", "internal/bytealg.IndexByteString", "internal/bytealg.IndexString"], named := ["unicode/utf8.first", "unicode/utf8.acceptRanges", "internal/bytealg.MaxLen"], apart := false, laid := [("unicode/utf8.acceptRanges", laid_unicode_utf8_acceptRanges), ("unicode/utf8.first", laid_unicode_utf8_first)] }
def FnHostLabelAgreesWithPlainNameSaid : Prop := fnHostLabelAgreesWithPlainNameRow.holds Tryd.pinned (OpenSpec.ofChange fnHostLabelAgreesWithPlainNameSpec)

/-- ITS FALSE NEIGHBOUR: 'it returns false'. Refute it at one input. -/
def fnHostLabelAgreesWithPlainNameWrong : ChangeSpec := { name := "fnHostLabelAgreesWithPlainName", fn := fun _ => fun
  | [d] => { results := [.lit (.bool false)], args := [d] }
  | _ => none }
def FnHostLabelAgreesWithPlainNameWrongFalsely : Prop := fnHostLabelAgreesWithPlainNameRow.holds Tryd.pinned (OpenSpec.ofChange fnHostLabelAgreesWithPlainNameWrong)

/-- 'zzlaws_pkg_briefcase_b1.FnListMatchesLineScanner': WHATEVER THE INPUT: true; the input reads as it did. -/
def fnListMatchesLineScannerSpec : ChangeSpec := { name := "fnListMatchesLineScanner", fn := fun _ => fun
  | [d1, d2] => { results := [.lit (.bool true)], args := [d1, d2] }
  | _ => none }
def fnListMatchesLineScannerRow : OpenClaim := { program := "qxb6602347adoor", sum := "b8411f04db1c1ce228bc4f319bf9feec01333712630b2170ba0566d3822a22cb", func := "example.com/sojourn/sojourn/zzlaws_pkg_briefcase_b1.FnListMatchesLineScanner", spec := "fnListMatchesLineScanner", inPlace := ["internal/bytealg.CountString", "internal/bytealg.IndexByteString", "internal/bytealg.IndexString"], named := ["unicode/utf8.first", "unicode/utf8.acceptRanges", "internal/bytealg.MaxLen"], apart := false, laid := [("unicode/utf8.acceptRanges", laid_unicode_utf8_acceptRanges), ("unicode/utf8.first", laid_unicode_utf8_first)] }
def FnListMatchesLineScannerSaid : Prop := fnListMatchesLineScannerRow.holds Tryd.pinned (OpenSpec.ofChange fnListMatchesLineScannerSpec)

/-- ITS FALSE NEIGHBOUR: 'it returns false'. Refute it at one input. -/
def fnListMatchesLineScannerWrong : ChangeSpec := { name := "fnListMatchesLineScanner", fn := fun _ => fun
  | [d1, d2] => { results := [.lit (.bool false)], args := [d1, d2] }
  | _ => none }
def FnListMatchesLineScannerWrongFalsely : Prop := fnListMatchesLineScannerRow.holds Tryd.pinned (OpenSpec.ofChange fnListMatchesLineScannerWrong)

/-- 'zzlaws_pkg_briefcase_b1.FnListFinalNewlineIsOptional': WHATEVER THE INPUT: true; the input reads as it did. -/
def fnListFinalNewlineIsOptionalSpec : ChangeSpec := { name := "fnListFinalNewlineIsOptional", fn := fun _ => fun
  | [d1, d2] => { results := [.lit (.bool true)], args := [d1, d2] }
  | _ => none }
def fnListFinalNewlineIsOptionalRow : OpenClaim := { program := "qxb6602347adoor", sum := "b8411f04db1c1ce228bc4f319bf9feec01333712630b2170ba0566d3822a22cb", func := "example.com/sojourn/sojourn/zzlaws_pkg_briefcase_b1.FnListFinalNewlineIsOptional", spec := "fnListFinalNewlineIsOptional", inPlace := ["internal/bytealg.CountString", "internal/bytealg.IndexByteString", "internal/bytealg.IndexString"], named := ["unicode/utf8.first", "unicode/utf8.acceptRanges", "internal/bytealg.MaxLen"], apart := false, laid := [("unicode/utf8.acceptRanges", laid_unicode_utf8_acceptRanges), ("unicode/utf8.first", laid_unicode_utf8_first)] }
def FnListFinalNewlineIsOptionalSaid : Prop := fnListFinalNewlineIsOptionalRow.holds Tryd.pinned (OpenSpec.ofChange fnListFinalNewlineIsOptionalSpec)

/-- ITS FALSE NEIGHBOUR: 'it returns false'. Refute it at one input. -/
def fnListFinalNewlineIsOptionalWrong : ChangeSpec := { name := "fnListFinalNewlineIsOptional", fn := fun _ => fun
  | [d1, d2] => { results := [.lit (.bool false)], args := [d1, d2] }
  | _ => none }
def FnListFinalNewlineIsOptionalWrongFalsely : Prop := fnListFinalNewlineIsOptionalRow.holds Tryd.pinned (OpenSpec.ofChange fnListFinalNewlineIsOptionalWrong)

/-- 'zzlaws_pkg_briefcase_b1.FnListReadsBackJoinedLines': WHATEVER THE INPUT: true; the input reads as it did. -/
def fnListReadsBackJoinedLinesSpec : ChangeSpec := { name := "fnListReadsBackJoinedLines", fn := fun _ => fun
  | [d1, d2] => { results := [.lit (.bool true)], args := [d1, d2] }
  | _ => none }
def fnListReadsBackJoinedLinesRow : OpenClaim := { program := "qxb6602347adoor", sum := "b8411f04db1c1ce228bc4f319bf9feec01333712630b2170ba0566d3822a22cb", func := "example.com/sojourn/sojourn/zzlaws_pkg_briefcase_b1.FnListReadsBackJoinedLines", spec := "fnListReadsBackJoinedLines", inPlace := ["internal/bytealg.CountString", "internal/bytealg.IndexByteString", "internal/bytealg.IndexString"], named := ["unicode/utf8.first", "unicode/utf8.acceptRanges", "internal/bytealg.MaxLen"], apart := false, laid := [("unicode/utf8.acceptRanges", laid_unicode_utf8_acceptRanges), ("unicode/utf8.first", laid_unicode_utf8_first)] }
def FnListReadsBackJoinedLinesSaid : Prop := fnListReadsBackJoinedLinesRow.holds Tryd.pinned (OpenSpec.ofChange fnListReadsBackJoinedLinesSpec)

/-- ITS FALSE NEIGHBOUR: 'it returns false'. Refute it at one input. -/
def fnListReadsBackJoinedLinesWrong : ChangeSpec := { name := "fnListReadsBackJoinedLines", fn := fun _ => fun
  | [d1, d2] => { results := [.lit (.bool false)], args := [d1, d2] }
  | _ => none }
def FnListReadsBackJoinedLinesWrongFalsely : Prop := fnListReadsBackJoinedLinesRow.holds Tryd.pinned (OpenSpec.ofChange fnListReadsBackJoinedLinesWrong)

end Rows
end Go.Proofs.Qxb6602347aDoor
