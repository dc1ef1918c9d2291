import Derived.Test.Qxb6602347aDoorListA
import Derived.Test.Qxb6602347aDoorHostB
import Derived.Lib.Split
import Derived.Lib.SplitLaws
import Derived.Lib.Strings
namespace Go.Proofs.Qxb6602347aDoor
open Go.RowKit Go Go.PlainAid

/-- What List gives for a folder that holds the bytes l: the pieces. -/
def nlTrim (l : List UInt8) : ByteArray := ⟨(Lib.trimSuffix l [10]).toArray⟩
def nlParts (l : List UInt8) : List ByteArray := Lib.splitB ⟨#[10]⟩ 0 (Lib.countB (nlTrim l) ⟨#[10]⟩) (nlTrim l)

def SplitNl (s : ByteArray) (w : World) : Prop :=
  Calls Tryd.prog 24 #[.string s, .string ⟨#[10]⟩] w fun e w' =>
    e = .returned (.slice (some ⟨w.heap.size, 0, none⟩) (Lib.splitB ⟨#[10]⟩ 0 (Lib.countB s ⟨#[10]⟩) s).length (Lib.splitB ⟨#[10]⟩ 0 (Lib.countB s ⟨#[10]⟩) s).length) ∧
    w' = w.alloc (.cells ((Lib.splitB ⟨#[10]⟩ 0 (Lib.countB s ⟨#[10]⟩) s).map Value.string).toArray 9)
def TrimNl (l : List UInt8) (w : World) : Prop :=
  Calls Tryd.prog 25 #[.string ⟨l.toArray⟩, .string ⟨#[10]⟩] w fun e w' => e = .returned (.string (nlTrim l)) ∧ w' = w

/-- List at a folder that is empty or absent. -/
theorem list_none (mv : Value) (name : ByteArray) (a : Option Addr) (cap : Nat) (w : World)
    (hlook : (Instr.lookup 30 mv (.string name) false).run Tryd.prog w = .ok (.slice a 0 cap) w)
    (hconv : (convert 26 9 (.slice a 0 cap)).run Tryd.prog w = .ok (.string ⟨#[]⟩) w) :
    Calls Tryd.prog 16 #[mv, .string name] w fun e w' => e = .returned (.slice none 0 0) ∧ w' = w := by
  go_enter Tryd.func16, Tryd.ntmps16
  go_wp2
  go_ret
  exact ⟨rfl, rfl⟩

theorem list_some (mv : Value) (name : ByteArray) (a : Addr) (cap : Nat) (l : List UInt8) (w : World) (hne : l ≠ [])
    (hlook : (Instr.lookup 30 mv (.string name) false).run Tryd.prog w = .ok (.slice (some a) l.length cap) w)
    (hc : ∀ j (hj : j < l.length), w.cell? (a.add j) = some (.int .u8 (l[j].toNat : Int)))
    (hT : TrimNl l w) (hS : SplitNl (nlTrim l) w) :
    Calls Tryd.prog 16 #[mv, .string name] w fun e w' => e = .returned (.slice (some ⟨w.heap.size, 0, none⟩) (nlParts l).length (nlParts l).length) ∧ w' = w.alloc (.cells ((nlParts l).map Value.string).toArray 9) := by
  have hconv := run_convert_bytes_back (P := Tryd.prog) w 26 9 5 a cap l Tryd.underlying26 Tryd.underlying5 Tryd.underlying9 hc
  have he := isEmpty_not ⟨l.toArray⟩ (fun h => hne (List.length_eq_zero_iff.1 (by simpa [ByteArray.size] using h)))
  have hx : ∃ s : ByteArray, s = ⟨l.toArray⟩ := ⟨_, rfl⟩
  obtain ⟨s, hs⟩ := hx
  have HT : Hid (Calls Tryd.prog 25 #[.string s, .string ⟨#[10]⟩] w fun e w' => e = .returned (.string (nlTrim l)) ∧ w' = w) := by rw [hs]; exact hT
  have HS : Hid (SplitNl (nlTrim l) w) := hS
  rw [← hs] at hconv he
  clear hs hc hT hS hne
  have hx : ∃ n, n = l.length := ⟨_, rfl⟩
  obtain ⟨n, hn⟩ := hx
  rw [← hn] at hlook hconv
  clear hn
  go_enter Tryd.func16, Tryd.ntmps16
  go_wp2_with (first | (go_at_call 25; refine HT.out.mono ?_; rintro e w' ⟨rfl, rfl⟩) | (go_at_call 24; refine HS.out.mono ?_; rintro e w' ⟨rfl, rfl⟩))
  go_ret
  exact ⟨rfl, rfl⟩
end Go.Proofs.Qxb6602347aDoor
