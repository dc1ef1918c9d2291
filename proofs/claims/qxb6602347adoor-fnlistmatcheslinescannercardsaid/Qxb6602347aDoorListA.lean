import Derived.Test.Qxb6602347aDoorHostA
import Derived.Deep.QuietTactic
import Derived.BigQuiet
namespace Go.Proofs.Qxb6602347aDoor
open Go.RowKit Go Go.PlainAid

theorem drewN_below (w : World) (n : Nat) : Below w.heap.size w (w.drewN n) := by
  refine ⟨rfl, rfl, rfl, Nat.le_refl _, fun _ _ => rfl⟩

set_option maxHeartbeats 1000000 in
/-- eqStrSlices at two slices that hold the same strings. -/
theorem eqs_same (xs : List ByteArray) (b1 o1 c1 b2 o2 c2 : Nat) (w : World) (hl : xs.length ≤ 1048577)
    (h1 : ∀ j, j < xs.length → w.cell? ⟨b1, o1 + j, none⟩ = some (.string (xs.getD j ByteArray.empty)))
    (h2 : ∀ j, j < xs.length → w.cell? ⟨b2, o2 + j, none⟩ = some (.string (xs.getD j ByteArray.empty))) :
    Calls Tryd.prog 19 #[.slice (some ⟨b1, o1, none⟩) xs.length c1, .slice (some ⟨b2, o2, none⟩) xs.length c2] w fun e w' => e = .returned (.bool true) ∧ ∃ n, w' = w.drewN n := by
  have hne : ((xs.length : Int) != (xs.length : Int)) = false := by simp
  go_enter Tryd.func19, Tryd.ntmps19
  go_wp2
  go_loopw [5] (fun i wr => ∃ k n : Nat, k ≤ xs.length ∧ i = .int .i64 k ∧ wr = w.drewN n) (fun i _ => xs.length - (intOf i).toNat)
  case atStart => exact ⟨0, 0, Nat.zero_le _, rfl, rfl⟩
  case round =>
    obtain ⟨k, n, hk, rfl, rfl⟩ := hrel
    by_cases hlt : k < xs.length
    · have g1 := h1 k hlt
      have g2 := h2 k hlt
      have hcx : ∃ s, s = xs.getD k ByteArray.empty := ⟨_, rfl⟩
      obtain ⟨s, hs⟩ := hcx
      rw [← hs] at g1 g2
      clear hs h1 h2
      go_wp2_with fail
      go_quiet (fail)
      go_wp2
      go_roundw
      case rel => exact ⟨k + 1, _, by omega, by go_num, rfl⟩
      case measure => simp [intOf]; omega
    · clear h1 h2
      go_wp2
      go_ret
      exact ⟨rfl, _, rfl⟩
end Go.Proofs.Qxb6602347aDoor
