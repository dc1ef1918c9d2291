import Derived.Test.Qxb6602347aDoorListD
import Derived.Test.Qxb6602347aDoorSpl2
namespace Go.Proofs.Qxb6602347aDoor
open Go.RowKit Go Go.PlainAid Go.Maps Go.WideMaps Go.WideElems Go.ChangeMaps

set_option maxHeartbeats 1000000 in
/-- eqStrBytes at a string and a slice that holds its bytes. -/
theorem eqsb_same (s : ByteArray) (b o c n : Nat) (w : World) (hs : s.size = n) (hl : n ≤ 1048577)
    (h1 : ∀ j, j < n → w.cell? ⟨b, o + j, none⟩ = some (.int .u8 (bt s j))) :
    Calls Tryd.prog 17 #[.string s, .slice (some ⟨b, o, none⟩) n c] w fun e w' => e = .returned (.bool true) ∧ ∃ m, w' = w.drewN m := by
  have hne : ((n : Int) != (n : Int)) = false := by simp
  have hbt := get_bt s
  subst hs
  go_enter Tryd.func17, Tryd.ntmps17
  go_wp2
  go_loopw [5] (fun i wr => ∃ k n : Nat, k ≤ s.size ∧ i = .int .i64 k ∧ wr = w.drewN n) (fun i _ => s.size - (intOf i).toNat)
  case atStart => exact ⟨0, 0, Nat.zero_le _, rfl, rfl⟩
  case round =>
    obtain ⟨k, n, hk, rfl, rfl⟩ := hrel
    by_cases hlt : k < s.size
    · have g1 := h1 k hlt
      have hlt' : (k : Int) < (s.size : Int) := by omega
      clear h1
      go_wp2_with fail
      go_quiet (fail)
      go_wp2
      go_roundw
      case rel => exact ⟨k + 1, _, by omega, by go_num, rfl⟩
      case measure => simp [intOf]; omega
    · clear h1
      go_wp2
      go_ret
      exact ⟨rfl, _, rfl⟩

/-- The call returned some bool, under true P holds; nothing has turned. -/
def RetF (P : Prop) (w : World) (e : Ending) (w' : World) : Prop := (∃ b : Bool, e = .returned (.bool b) ∧ (b = true → P)) ∧ w = w'

theorem zz15_big (P : Prop) (a : Option Addr) (len cap : Nat) (name : ByteArray) (w : World) (hl : len ≤ maxLen) (h : 1048576 < len) :
    Calls Tryd.prog 15 #[.slice a len cap, .string name] w (RetF P w) := by
  unfold maxLen at hl
  go_enter Tryd.func15, Tryd.ntmps15
  go_wp2
  all_goals (go_ret; exact ⟨⟨_, rfl, fun h => by cases h⟩, rfl⟩)

set_option maxHeartbeats 1000000 in
theorem zz15_any (n : Nat) (nm : Nat → ByteArray) (va : Nat → Option Addr) (vl vc : Nat → Nat) (b off cap : Nat) (name : ByteArray) (w : World) (hn : name.size ≤ maxLen) (hl : n ≤ 1048576)
    (hcn : ∀ j, j < n → w.cell? ⟨b, off + j * 2, none⟩ = some (.string (nm j))) (hcv : ∀ j, j < n → w.cell? ⟨b, off + j * 2 + 1, none⟩ = some (.slice (va j) (vl j) (vc j)))
    (hsn : ∀ j, j < n → (nm j).size ≤ maxLen) (hsv : ∀ j, j < n → vl j ≤ maxLen) :
    Calls Tryd.prog 15 #[.slice (some ⟨b, off, none⟩) n cap, .string name] w (RetF (∀ j, j < n → (nm j).size ≤ 1048576 ∧ vl j ≤ 1048576) w) := by
  unfold maxLen at hn hsn hsv
  have HC : Hid (∀ j, j < n → w.cell? ⟨b, off + j * 2, none⟩ = some (.string (nm j))) := hcn
  have HV : Hid (∀ j, j < n → w.cell? ⟨b, off + j * 2 + 1, none⟩ = some (.slice (va j) (vl j) (vc j))) := hcv
  have HSN : Hid (∀ j, j < n → (nm j).size ≤ 2 ^ 63 - 1) := hsn
  have HSV : Hid (∀ j, j < n → vl j ≤ 2 ^ 63 - 1) := hsv
  clear hcn hcv hsn hsv
  go_enter Tryd.func15, Tryd.ntmps15
  go_wp2
  go_loop [5, 6] (fun t i => ∃ k z : Nat, k ≤ n ∧ i = .int .i64 k ∧ t = .int .i64 z ∧ z ≤ 1048576 ∧ Hid (∀ j, j < k → (nm j).size ≤ 1048576 ∧ vl j ≤ 1048576)) (fun _ i => n - (intOf i).toNat)
  case atStart => exact ⟨0, n, Nat.zero_le _, rfl, rfl, hl, fun j hj => by omega⟩
  case round =>
    obtain ⟨k, z, hk, rfl, rfl, hz, HZ⟩ := hrel
    by_cases hlt : k < n
    · have g1 := HC.out k hlt
      have g2 := HSN.out k hlt
      have g3 := HV.out k hlt
      have g4 := HSV.out k hlt
      obtain ⟨s, hs⟩ : ∃ s, s = nm k := ⟨_, rfl⟩
      obtain ⟨a1, ha⟩ : ∃ a, a = va k := ⟨_, rfl⟩
      obtain ⟨l1, hl1⟩ : ∃ l, l = vl k := ⟨_, rfl⟩
      obtain ⟨c1, hc1⟩ : ∃ c, c = vc k := ⟨_, rfl⟩
      rw [← hs] at g1 g2
      rw [← ha, ← hl1, ← hc1] at g3
      rw [← hl1] at g4
      have HZ' : Hid (s.size ≤ 1048576 → l1 ≤ 1048576 → ∀ j, j < k + 1 → (nm j).size ≤ 1048576 ∧ vl j ≤ 1048576) := fun h h' j hj => by
        by_cases e : j = k
        · subst e; rw [← hs, ← hl1]; exact ⟨h, h'⟩
        · exact HZ.out j (by omega)
      clear hs ha hl1 hc1
      by_cases h1 : 1048576 < s.size
      · go_wp2
        go_ret
        exact ⟨⟨_, rfl, fun h => by cases h⟩, rfl⟩
      by_cases h2 : 1048576 < z + s.size
      · go_wp2
        go_ret
        exact ⟨⟨_, rfl, fun h => by cases h⟩, rfl⟩
      by_cases h3 : 1048576 < l1
      · go_wp2
        go_ret
        exact ⟨⟨_, rfl, fun h => by cases h⟩, rfl⟩
      by_cases h4 : 1048576 < z + s.size + l1
      · go_wp2
        go_ret
        exact ⟨⟨_, rfl, fun h => by cases h⟩, rfl⟩
      go_wp2
      go_round
      case rel => exact ⟨k + 1, z + s.size + l1, by omega, by go_num, by go_num, by omega, HZ'.out (by omega) (by omega)⟩
      case measure => simp [intOf]; omega
    · obtain rfl : k = n := by omega
      go_wp2
      all_goals (go_ret; exact ⟨⟨_, rfl, fun _ => HZ.out⟩, rfl⟩)
end Go.Proofs.Qxb6602347aDoor
