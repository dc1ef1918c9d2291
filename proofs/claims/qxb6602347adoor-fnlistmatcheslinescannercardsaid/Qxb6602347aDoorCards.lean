/-
  DERIVED. GIVEN WITH THE SEED: THE CARDS: each row of Qxb6602347aDoorRows.lean that lists a variable, with what it lists TIED to the program's text (the seventh form; the later family's looks); each row that meets fmt, with fmt's text TOLD by the authors' own Lean function (tested against real Go, not proved from fmt's source: count such statements apart). THE CARD IS WHAT COUNTS. Prove the row's statement (the work); the ties are given (Qxb6602347aDoorTie.lean); close each card by the builder's one call (the guide's Derived/Test/ToyasCard.lean, 'card_holds'). Laid BY PROGRAM, IN A SANDBOX (cutbox-door.mjs). By AI agents, Wed Nov 11 2026. No macro, syntax, notation, axiom, sorry.
-/
import Derived.Test.Qxb6602347aDoorRows
import GoSem.ClaimSeven
namespace Go.Proofs.Qxb6602347aDoor
namespace Rows

/-- THE TIED CARD OF 'zzlaws_pkg_briefcase_b1.FnValidHostNameMatchesLabelScanner'. -/
def fnValidHostNameMatchesLabelScannerCard : Claim7 := { stood := { row := fnValidHostNameMatchesLabelScannerRow, standIns := [], harness := (true, "a325c5af68ea71f5719a779307dba871299aa276624011a123319bd5744ac9f8"), looks := false }, kinds := [], alts := [], laidByText := true, laidKinds := [.data, .pinned], laidTests := true, laidLooks := .later }
def FnValidHostNameMatchesLabelScannerCardSaid : Prop := Claim7.holds Tryd.pinned (.plain (OpenSpec.ofChange fnValidHostNameMatchesLabelScannerSpec)) fnValidHostNameMatchesLabelScannerCard

/-- THE TIED CARD OF 'zzlaws_pkg_briefcase_b1.FnValidHostNameJoinLabels'. -/
def fnValidHostNameJoinLabelsCard : Claim7 := { stood := { row := fnValidHostNameJoinLabelsRow, standIns := [], harness := (true, "a325c5af68ea71f5719a779307dba871299aa276624011a123319bd5744ac9f8"), looks := false }, kinds := [], alts := [], laidByText := true, laidKinds := [.data, .pinned], laidTests := true, laidLooks := .later }
def FnValidHostNameJoinLabelsCardSaid : Prop := Claim7.holds Tryd.pinned (.plain (OpenSpec.ofChange fnValidHostNameJoinLabelsSpec)) fnValidHostNameJoinLabelsCard

/-- THE TIED CARD OF 'zzlaws_pkg_briefcase_b1.FnHostLabelAgreesWithPlainName'. -/
def fnHostLabelAgreesWithPlainNameCard : Claim7 := { stood := { row := fnHostLabelAgreesWithPlainNameRow, standIns := [], harness := (true, "a325c5af68ea71f5719a779307dba871299aa276624011a123319bd5744ac9f8"), looks := false }, kinds := [], alts := [], laidByText := true, laidKinds := [.data, .pinned], laidTests := true, laidLooks := .later }
def FnHostLabelAgreesWithPlainNameCardSaid : Prop := Claim7.holds Tryd.pinned (.plain (OpenSpec.ofChange fnHostLabelAgreesWithPlainNameSpec)) fnHostLabelAgreesWithPlainNameCard

/-- THE TIED CARD OF 'zzlaws_pkg_briefcase_b1.FnListMatchesLineScanner'. -/
def fnListMatchesLineScannerCard : Claim7 := { stood := { row := fnListMatchesLineScannerRow, standIns := [], harness := (true, "a325c5af68ea71f5719a779307dba871299aa276624011a123319bd5744ac9f8"), looks := false }, kinds := [], alts := [], laidByText := true, laidKinds := [.data, .pinned], laidTests := true, laidLooks := .later }
def FnListMatchesLineScannerCardSaid : Prop := Claim7.holds Tryd.pinned (.plain (OpenSpec.ofChange fnListMatchesLineScannerSpec)) fnListMatchesLineScannerCard

/-- THE TIED CARD OF 'zzlaws_pkg_briefcase_b1.FnListFinalNewlineIsOptional'. -/
def fnListFinalNewlineIsOptionalCard : Claim7 := { stood := { row := fnListFinalNewlineIsOptionalRow, standIns := [], harness := (true, "a325c5af68ea71f5719a779307dba871299aa276624011a123319bd5744ac9f8"), looks := false }, kinds := [], alts := [], laidByText := true, laidKinds := [.data, .pinned], laidTests := true, laidLooks := .later }
def FnListFinalNewlineIsOptionalCardSaid : Prop := Claim7.holds Tryd.pinned (.plain (OpenSpec.ofChange fnListFinalNewlineIsOptionalSpec)) fnListFinalNewlineIsOptionalCard

/-- THE TIED CARD OF 'zzlaws_pkg_briefcase_b1.FnListReadsBackJoinedLines'. -/
def fnListReadsBackJoinedLinesCard : Claim7 := { stood := { row := fnListReadsBackJoinedLinesRow, standIns := [], harness := (true, "a325c5af68ea71f5719a779307dba871299aa276624011a123319bd5744ac9f8"), looks := false }, kinds := [], alts := [], laidByText := true, laidKinds := [.data, .pinned], laidTests := true, laidLooks := .later }
def FnListReadsBackJoinedLinesCardSaid : Prop := Claim7.holds Tryd.pinned (.plain (OpenSpec.ofChange fnListReadsBackJoinedLinesSpec)) fnListReadsBackJoinedLinesCard
end Rows
end Go.Proofs.Qxb6602347aDoor
