import Derived.Test.Qxb6602438aDoorCo
import Derived.WalkSmall
import Derived.Deep.LoopGhost
import Derived.BigQuiet
import Derived.Deep.QuietTactic
import Derived.Deep.RegionHeld3
import Derived.RegionTactic
import Derived.Deep.RegionWith
namespace Go.Proofs.Qxb6602438aDoor
open Go.RowKit Go Go.PlainAid

theorem tok36 (k : Int) (t : ByteArray) (s : Option Addr) (w : World) : Calls Tryd.prog 36 #[.int .u8 k, .string t, .pointer s] w fun e w' => e = .returned (.agg #[.int .u8 k, .string t, .pointer s]) ∧ Below w.heap.size w w' := by
  go_enter Tryd.func36, Tryd.ntmps36
  go_wp2
  go_returns
  exact ⟨rfl, (Below.refl _ _).alloc (Nat.le_refl _) _⟩
theorem seg28 (d : Bool) (l : ByteArray) (a : Option Addr) (n c : Nat) (w : World) : Calls Tryd.prog 28 #[.bool d, .string l, .slice a n c] w fun e w' => e = .returned (.agg #[.bool d, .string l, .slice a n c]) ∧ Below w.heap.size w w' := by
  go_enter Tryd.func28, Tryd.ntmps28
  go_wp2
  go_returns
  exact ⟨rfl, (Below.refl _ _).alloc (Nat.le_refl _) _⟩
theorem pat18 (a b c : Bool) (s : Option Addr) (n cp : Nat) (e : Int) (f : Bool) (w : World) : Calls Tryd.prog 18 #[.bool a, .bool b, .bool c, .slice s n cp, .int .i64 e, .bool f] w fun e' w' => e' = .returned (.agg #[.bool a, .bool b, .bool c, .slice s n cp, .int .i64 e, .bool f]) ∧ Below w.heap.size w w' := by
  go_enter Tryd.func18, Tryd.ntmps18
  go_wp2
  go_returns
  exact ⟨rfl, (Below.refl _ _).alloc (Nat.le_refl _) _⟩
end Go.Proofs.Qxb6602438aDoor
