/-
  NARROWER THAN 'FOR EVERY INPUT', by the rows' own cells (each row's printed sentence says how): FnFromPathRecoversBuiltPath: laid · FnFromPathRefusesBadContainer: laid · FnFromPathIgnoresPrefix: laid · FnFromPathKeepsAnswerUnderTail: laid.
  DERIVED. THE GIVEN ROWS OF THIS SEAT. 4 by the template 'for every input the law returns true; each argument reads behind the call as it read before'; 0 by the template 'total and deterministic' (their statements: Qxb6602718aDoorTotals.lean).
  GIVEN WITH THE SEED: the statements are not yours to turn. If you find one false, say at which input.
  Laid BY PROGRAM, IN A SANDBOX (cutbox-rows.mjs): the forced cells as the released guide's own fill.sh prints them over the translation cc941cc54b7d58b4… (all of the seat's roots in one cut). By AI agents, Wed Nov 11 2026. No macro, syntax, notation, axiom, sorry.
-/
import Derived.Test.Qxb6602718aDoorChecked
import GoSem.PinnedTables
import GoSem.Claim
import GoSem.ClaimJoined
import GoSem.ClaimMapViews
import Derived.JoinedTies
import Derived.KernelRfl
namespace Go.Proofs.Qxb6602718aDoor
/- THE CELL 'sum', in the pinned program and in every row, IS THE sha256 OF THE DUMP (.gsa) THAT Qxb6602718aDoorProg.lean LOADS. Nothing in Lean hashes anything: it is a label: what it is worth is what the hold of that sum in a sandbox is worth. -/
noncomputable def Tryd.pinned : Pinned := { name := "qxb6602718adoor", sum := "cc941cc54b7d58b495cf2891e6cea95af70ee7be6f9d7261207676558677b541", checked := Tryd.checked }
namespace Rows
def none {H : Type} : Left H := { results := [], args := [] }

/- WHAT THE LISTED PACKAGE-LEVEL VARIABLES READ AS WHEN THE CALL BEGINS. Each datum BY PROGRAM (the guide's laid-datum.mjs) off the statement by which the dump's own 'gosem.cut.vars' lays the variable. In a bare row this is a premise. The card (Qxb6602718aDoorCards.lean) ties it to the program's text. -/
def laid_unicode_utf8_acceptRanges {H : Type} : DataW H := .agg [.agg [.lit (.int .u8 128), .lit (.int .u8 191)], .agg [.lit (.int .u8 160), .lit (.int .u8 191)], .agg [.lit (.int .u8 128), .lit (.int .u8 159)], .agg [.lit (.int .u8 144), .lit (.int .u8 191)], .agg [.lit (.int .u8 128), .lit (.int .u8 143)], .agg [.lit (.int .u8 0), .lit (.int .u8 0)], .agg [.lit (.int .u8 0), .lit (.int .u8 0)], .agg [.lit (.int .u8 0), .lit (.int .u8 0)], .agg [.lit (.int .u8 0), .lit (.int .u8 0)], .agg [.lit (.int .u8 0), .lit (.int .u8 0)], .agg [.lit (.int .u8 0), .lit (.int .u8 0)], .agg [.lit (.int .u8 0), .lit (.int .u8 0)], .agg [.lit (.int .u8 0), .lit (.int .u8 0)], .agg [.lit (.int .u8 0), .lit (.int .u8 0)], .agg [.lit (.int .u8 0), .lit (.int .u8 0)], .agg [.lit (.int .u8 0), .lit (.int .u8 0)]]
/-- One of Go's own tables, pinned by name: the form's constant. -/
def laid_unicode_utf8_first : DataW Unit := Go.Pinned.utf8First

/-- 'zzlaws_internal_kubepods_b1.FnFromPathRecoversBuiltPath': WHATEVER THE INPUT: true; the input reads as it did. -/
def fnFromPathRecoversBuiltPathSpec : ChangeSpec := { name := "fnFromPathRecoversBuiltPath", fn := fun _ => fun
  | [d1, d2, d3, d4, d5, d6, d7] => { results := [.lit (.bool true)], args := [d1, d2, d3, d4, d5, d6, d7] }
  | _ => none }
def fnFromPathRecoversBuiltPathRow : OpenClaim := { program := "qxb6602718adoor", sum := "cc941cc54b7d58b495cf2891e6cea95af70ee7be6f9d7261207676558677b541", func := "example.com/tessellate/tessellate/zzlaws_internal_kubepods_b1.FnFromPathRecoversBuiltPath", spec := "fnFromPathRecoversBuiltPath", inPlace := ["internal/bytealg.CountString", "internal/bytealg.IndexByteString", "internal/bytealg.IndexString", "internal/abi.NoEscape", "internal/bytealg.MakeNoZero"], named := ["unicode/utf8.first", "unicode/utf8.acceptRanges", "internal/bytealg.MaxLen"], apart := false, laid := [("unicode/utf8.acceptRanges", laid_unicode_utf8_acceptRanges), ("unicode/utf8.first", laid_unicode_utf8_first)] }
def FnFromPathRecoversBuiltPathSaid : Prop := fnFromPathRecoversBuiltPathRow.holds Tryd.pinned (OpenSpec.ofChange fnFromPathRecoversBuiltPathSpec)

/-- ITS FALSE NEIGHBOUR: 'it returns false'. Refute it at one input. -/
def fnFromPathRecoversBuiltPathWrong : ChangeSpec := { name := "fnFromPathRecoversBuiltPath", fn := fun _ => fun
  | [d1, d2, d3, d4, d5, d6, d7] => { results := [.lit (.bool false)], args := [d1, d2, d3, d4, d5, d6, d7] }
  | _ => none }
def FnFromPathRecoversBuiltPathWrongFalsely : Prop := fnFromPathRecoversBuiltPathRow.holds Tryd.pinned (OpenSpec.ofChange fnFromPathRecoversBuiltPathWrong)

/-- 'zzlaws_internal_kubepods_b1.FnFromPathRefusesBadContainer': WHATEVER THE INPUT: true; the input reads as it did. -/
def fnFromPathRefusesBadContainerSpec : ChangeSpec := { name := "fnFromPathRefusesBadContainer", fn := fun _ => fun
  | [d1, d2, d3, d4, d5, d6, d7] => { results := [.lit (.bool true)], args := [d1, d2, d3, d4, d5, d6, d7] }
  | _ => none }
def fnFromPathRefusesBadContainerRow : OpenClaim := { program := "qxb6602718adoor", sum := "cc941cc54b7d58b495cf2891e6cea95af70ee7be6f9d7261207676558677b541", func := "example.com/tessellate/tessellate/zzlaws_internal_kubepods_b1.FnFromPathRefusesBadContainer", spec := "fnFromPathRefusesBadContainer", inPlace := ["internal/bytealg.CountString", "internal/bytealg.IndexByteString", "internal/bytealg.IndexString", "internal/abi.NoEscape", "internal/bytealg.MakeNoZero"], named := ["unicode/utf8.first", "unicode/utf8.acceptRanges", "internal/bytealg.MaxLen"], apart := false, laid := [("unicode/utf8.acceptRanges", laid_unicode_utf8_acceptRanges), ("unicode/utf8.first", laid_unicode_utf8_first)] }
def FnFromPathRefusesBadContainerSaid : Prop := fnFromPathRefusesBadContainerRow.holds Tryd.pinned (OpenSpec.ofChange fnFromPathRefusesBadContainerSpec)

/-- ITS FALSE NEIGHBOUR: 'it returns false'. Refute it at one input. -/
def fnFromPathRefusesBadContainerWrong : ChangeSpec := { name := "fnFromPathRefusesBadContainer", fn := fun _ => fun
  | [d1, d2, d3, d4, d5, d6, d7] => { results := [.lit (.bool false)], args := [d1, d2, d3, d4, d5, d6, d7] }
  | _ => none }
def FnFromPathRefusesBadContainerWrongFalsely : Prop := fnFromPathRefusesBadContainerRow.holds Tryd.pinned (OpenSpec.ofChange fnFromPathRefusesBadContainerWrong)

/-- 'zzlaws_internal_kubepods_b1.FnFromPathIgnoresPrefix': WHATEVER THE INPUT: true; the input reads as it did. -/
def fnFromPathIgnoresPrefixSpec : ChangeSpec := { name := "fnFromPathIgnoresPrefix", fn := fun _ => fun
  | [d1, d2] => { results := [.lit (.bool true)], args := [d1, d2] }
  | _ => none }
def fnFromPathIgnoresPrefixRow : OpenClaim := { program := "qxb6602718adoor", sum := "cc941cc54b7d58b495cf2891e6cea95af70ee7be6f9d7261207676558677b541", func := "example.com/tessellate/tessellate/zzlaws_internal_kubepods_b1.FnFromPathIgnoresPrefix", spec := "fnFromPathIgnoresPrefix", inPlace := ["internal/bytealg.CountString", "internal/bytealg.IndexByteString", "internal/bytealg.IndexString", "internal/abi.NoEscape", "internal/bytealg.MakeNoZero"], named := ["unicode/utf8.first", "unicode/utf8.acceptRanges", "internal/bytealg.MaxLen"], apart := false, laid := [("unicode/utf8.acceptRanges", laid_unicode_utf8_acceptRanges), ("unicode/utf8.first", laid_unicode_utf8_first)] }
def FnFromPathIgnoresPrefixSaid : Prop := fnFromPathIgnoresPrefixRow.holds Tryd.pinned (OpenSpec.ofChange fnFromPathIgnoresPrefixSpec)

/-- ITS FALSE NEIGHBOUR: 'it returns false'. Refute it at one input. -/
def fnFromPathIgnoresPrefixWrong : ChangeSpec := { name := "fnFromPathIgnoresPrefix", fn := fun _ => fun
  | [d1, d2] => { results := [.lit (.bool false)], args := [d1, d2] }
  | _ => none }
def FnFromPathIgnoresPrefixWrongFalsely : Prop := fnFromPathIgnoresPrefixRow.holds Tryd.pinned (OpenSpec.ofChange fnFromPathIgnoresPrefixWrong)

/-- 'zzlaws_internal_kubepods_b1.FnFromPathKeepsAnswerUnderTail': WHATEVER THE INPUT: true; the input reads as it did. -/
def fnFromPathKeepsAnswerUnderTailSpec : ChangeSpec := { name := "fnFromPathKeepsAnswerUnderTail", fn := fun _ => fun
  | [d1, d2] => { results := [.lit (.bool true)], args := [d1, d2] }
  | _ => none }
def fnFromPathKeepsAnswerUnderTailRow : OpenClaim := { program := "qxb6602718adoor", sum := "cc941cc54b7d58b495cf2891e6cea95af70ee7be6f9d7261207676558677b541", func := "example.com/tessellate/tessellate/zzlaws_internal_kubepods_b1.FnFromPathKeepsAnswerUnderTail", spec := "fnFromPathKeepsAnswerUnderTail", inPlace := ["internal/bytealg.CountString", "internal/bytealg.IndexByteString", "internal/bytealg.IndexString", "internal/abi.NoEscape", "internal/bytealg.MakeNoZero"], named := ["unicode/utf8.first", "unicode/utf8.acceptRanges", "internal/bytealg.MaxLen"], apart := false, laid := [("unicode/utf8.acceptRanges", laid_unicode_utf8_acceptRanges), ("unicode/utf8.first", laid_unicode_utf8_first)] }
def FnFromPathKeepsAnswerUnderTailSaid : Prop := fnFromPathKeepsAnswerUnderTailRow.holds Tryd.pinned (OpenSpec.ofChange fnFromPathKeepsAnswerUnderTailSpec)

/-- ITS FALSE NEIGHBOUR: 'it returns false'. Refute it at one input. -/
def fnFromPathKeepsAnswerUnderTailWrong : ChangeSpec := { name := "fnFromPathKeepsAnswerUnderTail", fn := fun _ => fun
  | [d1, d2] => { results := [.lit (.bool false)], args := [d1, d2] }
  | _ => none }
def FnFromPathKeepsAnswerUnderTailWrongFalsely : Prop := fnFromPathKeepsAnswerUnderTailRow.holds Tryd.pinned (OpenSpec.ofChange fnFromPathKeepsAnswerUnderTailWrong)

end Rows
end Go.Proofs.Qxb6602718aDoor
