/-
  DERIVED. GIVEN WITH THE SEED: THE CARDS: each row of Qxb6602718aDoorRows.lean that lists a variable, with what it lists TIED to the program's text (the seventh form; the later family's looks); each row that meets fmt, with fmt's text TOLD by the authors' own Lean function (tested against real Go, not proved from fmt's source: count such statements apart). THE CARD IS WHAT COUNTS. Prove the row's statement (the work); the ties are given (Qxb6602718aDoorTie.lean); close each card by the builder's one call (the guide's Derived/Test/ToyasCard.lean, 'card_holds'). Laid BY PROGRAM, IN A SANDBOX (cutbox-door.mjs). By AI agents, Wed Nov 11 2026. No macro, syntax, notation, axiom, sorry.
-/
import Derived.Test.Qxb6602718aDoorRows
import GoSem.ClaimSeven
namespace Go.Proofs.Qxb6602718aDoor
namespace Rows

/-- THE TIED CARD OF 'zzlaws_internal_kubepods_b1.FnFromPathRecoversBuiltPath'. -/
def fnFromPathRecoversBuiltPathCard : Claim7 := { stood := { row := fnFromPathRecoversBuiltPathRow, standIns := [], harness := (true, "376512b182281892161a786349e34469de591fbe1dba4d251fba797d532a9774"), looks := false }, kinds := [], alts := [], laidByText := true, laidKinds := [.data, .pinned], laidTests := true, laidLooks := .later }
def FnFromPathRecoversBuiltPathCardSaid : Prop := Claim7.holds Tryd.pinned (.plain (OpenSpec.ofChange fnFromPathRecoversBuiltPathSpec)) fnFromPathRecoversBuiltPathCard

/-- THE TIED CARD OF 'zzlaws_internal_kubepods_b1.FnFromPathRefusesBadContainer'. -/
def fnFromPathRefusesBadContainerCard : Claim7 := { stood := { row := fnFromPathRefusesBadContainerRow, standIns := [], harness := (true, "376512b182281892161a786349e34469de591fbe1dba4d251fba797d532a9774"), looks := false }, kinds := [], alts := [], laidByText := true, laidKinds := [.data, .pinned], laidTests := true, laidLooks := .later }
def FnFromPathRefusesBadContainerCardSaid : Prop := Claim7.holds Tryd.pinned (.plain (OpenSpec.ofChange fnFromPathRefusesBadContainerSpec)) fnFromPathRefusesBadContainerCard

/-- THE TIED CARD OF 'zzlaws_internal_kubepods_b1.FnFromPathIgnoresPrefix'. -/
def fnFromPathIgnoresPrefixCard : Claim7 := { stood := { row := fnFromPathIgnoresPrefixRow, standIns := [], harness := (true, "376512b182281892161a786349e34469de591fbe1dba4d251fba797d532a9774"), looks := false }, kinds := [], alts := [], laidByText := true, laidKinds := [.data, .pinned], laidTests := true, laidLooks := .later }
def FnFromPathIgnoresPrefixCardSaid : Prop := Claim7.holds Tryd.pinned (.plain (OpenSpec.ofChange fnFromPathIgnoresPrefixSpec)) fnFromPathIgnoresPrefixCard

/-- THE TIED CARD OF 'zzlaws_internal_kubepods_b1.FnFromPathKeepsAnswerUnderTail'. -/
def fnFromPathKeepsAnswerUnderTailCard : Claim7 := { stood := { row := fnFromPathKeepsAnswerUnderTailRow, standIns := [], harness := (true, "376512b182281892161a786349e34469de591fbe1dba4d251fba797d532a9774"), looks := false }, kinds := [], alts := [], laidByText := true, laidKinds := [.data, .pinned], laidTests := true, laidLooks := .later }
def FnFromPathKeepsAnswerUnderTailCardSaid : Prop := Claim7.holds Tryd.pinned (.plain (OpenSpec.ofChange fnFromPathKeepsAnswerUnderTailSpec)) fnFromPathKeepsAnswerUnderTailCard
end Rows
end Go.Proofs.Qxb6602718aDoor
