/-
  DERIVED. GIVEN WITH THE SEED: THE CARDS: each row of Qxb6602823aDoorRows.lean that lists a variable, with what it lists TIED to the program's text (the seventh form; the later family's looks); each row that meets fmt, with fmt's text TOLD by the authors' own Lean function (tested against real Go, not proved from fmt's source: count such statements apart). THE CARD IS WHAT COUNTS. Prove the row's statement (the work); the ties are given (Qxb6602823aDoorTie.lean); close each card by the builder's one call (the guide's Derived/Test/ToyasCard.lean, 'card_holds'). Laid BY PROGRAM, IN A SANDBOX (cutbox-door.mjs). By AI agents, Wed Nov 11 2026. No macro, syntax, notation, axiom, sorry.
-/
import Derived.Test.Qxb6602823aDoorRows
import GoSem.ClaimSeven
namespace Go.Proofs.Qxb6602823aDoor
namespace Rows

/-- THE TIED CARD OF 'zzlaws_rawjson_b1.FnCanonicalNumberMatchesModel'. -/
def fnCanonicalNumberMatchesModelCard : Claim7 := { stood := { row := fnCanonicalNumberMatchesModelRow, standIns := [], harness := (true, "a84199564559cc8e3979e99ae43a6ffb87f01408b7b5cdaada23b14ffdd9b919"), looks := true }, kinds := [], alts := [], laidByText := true, laidKinds := [.data, .data, .data, .data, .sentinel, .sentinel, .pinned], laidTests := true, laidLooks := .later }
def FnCanonicalNumberMatchesModelCardSaid : Prop := Claim7.holds Tryd.pinned (.plain (OpenSpec.ofChange fnCanonicalNumberMatchesModelSpec)) fnCanonicalNumberMatchesModelCard

/-- THE TIED CARD OF 'zzlaws_rawjson_b1.FnCanonicalNumberIsAFixedPoint'. -/
def fnCanonicalNumberIsAFixedPointCard : Claim7 := { stood := { row := fnCanonicalNumberIsAFixedPointRow, standIns := [], harness := (true, "a84199564559cc8e3979e99ae43a6ffb87f01408b7b5cdaada23b14ffdd9b919"), looks := true }, kinds := [], alts := [], laidByText := true, laidKinds := [.data, .data, .data, .data, .sentinel, .sentinel, .pinned], laidTests := true, laidLooks := .later }
def FnCanonicalNumberIsAFixedPointCardSaid : Prop := Claim7.holds Tryd.pinned (.plain (OpenSpec.ofChange fnCanonicalNumberIsAFixedPointSpec)) fnCanonicalNumberIsAFixedPointCard

/-- THE TIED CARD OF 'zzlaws_rawjson_b1.FnCanonicalNumberNegation'. -/
def fnCanonicalNumberNegationCard : Claim7 := { stood := { row := fnCanonicalNumberNegationRow, standIns := [], harness := (true, "a84199564559cc8e3979e99ae43a6ffb87f01408b7b5cdaada23b14ffdd9b919"), looks := true }, kinds := [], alts := [], laidByText := true, laidKinds := [.data, .data, .data, .data, .sentinel, .sentinel, .pinned], laidTests := true, laidLooks := .later }
def FnCanonicalNumberNegationCardSaid : Prop := Claim7.holds Tryd.pinned (.plain (OpenSpec.ofChange fnCanonicalNumberNegationSpec)) fnCanonicalNumberNegationCard
end Rows
end Go.Proofs.Qxb6602823aDoor
