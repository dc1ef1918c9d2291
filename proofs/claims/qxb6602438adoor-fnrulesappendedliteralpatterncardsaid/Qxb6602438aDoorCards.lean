/-
  DERIVED. GIVEN WITH THE SEED: THE CARDS: each row of Qxb6602438aDoorRows.lean that lists a variable, with what it lists TIED to the program's text (the seventh form; the later family's looks); each row that meets fmt, with fmt's text TOLD by the authors' own Lean function (tested against real Go, not proved from fmt's source: count such statements apart). THE CARD IS WHAT COUNTS. Prove the row's statement (the work); the ties are given (Qxb6602438aDoorTie.lean); close each card by the builder's one call (the guide's Derived/Test/ToyasCard.lean, 'card_holds'). Laid BY PROGRAM, IN A SANDBOX (cutbox-door.mjs). By AI agents, Wed Nov 11 2026. No macro, syntax, notation, axiom, sorry.
-/
import Derived.Test.Qxb6602438aDoorRows
import GoSem.ClaimSeven
namespace Go.Proofs.Qxb6602438aDoor
namespace Rows

/-- THE TIED CARD OF 'zzlaws_internal_ignore_b1.FnRulesAppendedLiteralPattern'. -/
def fnRulesAppendedLiteralPatternCard : Claim7 := { stood := { row := fnRulesAppendedLiteralPatternRow, standIns := [], harness := (true, "3ce17d77ea159e1c80ea7ec09b2c06714df24b7f414842f4202eb5eee11ee015"), looks := false }, kinds := [], alts := [], laidByText := true, laidKinds := [.data, .pinned], laidTests := true, laidLooks := .later }
def FnRulesAppendedLiteralPatternCardSaid : Prop := Claim7.holds Tryd.pinned (.plain (OpenSpec.ofChange fnRulesAppendedLiteralPatternSpec)) fnRulesAppendedLiteralPatternCard

/-- THE TIED CARD OF 'zzlaws_internal_ignore_b1.FnRulesFilesIgnoreDirOnlyPatterns'. -/
def fnRulesFilesIgnoreDirOnlyPatternsCard : Claim7 := { stood := { row := fnRulesFilesIgnoreDirOnlyPatternsRow, standIns := [], harness := (true, "3ce17d77ea159e1c80ea7ec09b2c06714df24b7f414842f4202eb5eee11ee015"), looks := false }, kinds := [], alts := [], laidByText := true, laidKinds := [.data, .pinned], laidTests := true, laidLooks := .later }
def FnRulesFilesIgnoreDirOnlyPatternsCardSaid : Prop := Claim7.holds Tryd.pinned (.plain (OpenSpec.ofChange fnRulesFilesIgnoreDirOnlyPatternsSpec)) fnRulesFilesIgnoreDirOnlyPatternsCard
end Rows
end Go.Proofs.Qxb6602438aDoor
