import Derived.Test.Qxb6602347aDoorListD
import Derived.Test.Qxb6602347aDoorSpl
namespace Go.Proofs.Qxb6602347aDoor
open Go.RowKit Go Go.PlainAid Go.Maps Go.WideMaps Go.WideElems Go.ChangeMaps

/-- The call returned some bool, under true P holds; nothing has turned. -/
def RetB (P : Prop) (w : World) (e : Ending) (w' : World) : Prop := (∃ b : Bool, e = .returned (.bool b) ∧ (b = true → P)) ∧ w = w'

theorem zz20_big (P : Prop) (a : Option Addr) (len cap : Nat) (name : ByteArray) (w : World) (hl : len ≤ maxLen) (h : 1048576 < len) :
    Calls Tryd.prog 20 #[.slice a len cap, .string name] w (RetB P w) := by
  unfold maxLen at hl
  go_enter Tryd.func20, Tryd.ntmps20
  go_wp2
  all_goals (go_ret; exact ⟨⟨_, rfl, fun h => by cases h⟩, rfl⟩)

set_option maxHeartbeats 1000000 in
theorem zz20_any (xs : List ByteArray) (b off cap : Nat) (name : ByteArray) (w : World) (hn : name.size ≤ maxLen) (hl : xs.length ≤ 1048576)
    (hc : ∀ j, j < xs.length → w.cell? ⟨b, off + j, none⟩ = some (.string (xs.getD j ByteArray.empty))) (hsz : ∀ j, j < xs.length → (xs.getD j ByteArray.empty).size ≤ maxLen) :
    Calls Tryd.prog 20 #[.slice (some ⟨b, off, none⟩) xs.length cap, .string name] w (RetB (∀ j, j < xs.length → (xs.getD j ByteArray.empty).size ≤ 1048576) w) := by
  unfold maxLen at hn hsz
  have HC : Hid (∀ j, j < xs.length → w.cell? ⟨b, off + j, none⟩ = some (.string (xs.getD j ByteArray.empty))) := hc
  have HS : Hid (∀ j, j < xs.length → (xs.getD j ByteArray.empty).size ≤ 9223372036854775807) := hsz
  clear hc hsz
  go_enter Tryd.func20, Tryd.ntmps20
  go_wp2
  go_loop [5, 6] (fun t i => ∃ k z : Nat, k ≤ xs.length ∧ i = .int .i64 k ∧ t = .int .i64 z ∧ z ≤ 1048576 ∧ Hid (∀ j, j < k → (xs.getD j ByteArray.empty).size ≤ 1048576)) (fun _ i => xs.length - (intOf i).toNat)
  case atStart => exact ⟨0, xs.length, Nat.zero_le _, rfl, rfl, hl, fun j hj => by omega⟩
  case round =>
    obtain ⟨k, z, hk, rfl, rfl, hz, HZ⟩ := hrel
    by_cases hlt : k < xs.length
    · have g1 := HC.out k hlt
      have g2 := HS.out k hlt
      obtain ⟨s, hs⟩ : ∃ s, s = xs.getD k ByteArray.empty := ⟨_, rfl⟩
      rw [← hs] at g1 g2
      have HZ' : Hid (s.size ≤ 1048576 → ∀ j, j < k + 1 → (xs.getD j ByteArray.empty).size ≤ 1048576) := fun h j hj => by
        by_cases e : j = k
        · subst e; rw [← hs]; exact h
        · exact HZ.out j (by omega)
      clear hs
      by_cases h1 : 1048576 < s.size
      · go_wp2
        go_ret
        exact ⟨⟨_, rfl, fun h => by cases h⟩, rfl⟩
      by_cases h2 : 1048576 < z + s.size
      · go_wp2
        go_ret
        exact ⟨⟨_, rfl, fun h => by cases h⟩, rfl⟩
      go_wp2
      go_round
      case rel => exact ⟨k + 1, z + s.size, by omega, by go_num, by go_num, by omega, HZ'.out (by omega)⟩
      case measure => simp [intOf]; omega
    · obtain rfl : k = xs.length := by omega
      go_wp2
      all_goals (go_ret; exact ⟨⟨_, rfl, fun _ => HZ.out⟩, rfl⟩)
end Go.Proofs.Qxb6602347aDoor
