import Derived.Test.Qxb6602347aDoorProg
import Derived.WalkKit
import Derived.Handy
import Derived.PlainAid
import Derived.Laws.IdiomStrings
namespace Go.Proofs.Qxb6602347aDoor
open Go.RowKit Go Go.PlainAid

/-- A byte that a label may hold: a letter, a digit, '-'. -/
def lbl (c : Int) : Bool := decide (97 ≤ c ∧ c ≤ 122 ∨ 65 ≤ c ∧ c ≤ 90 ∨ 48 ≤ c ∧ c ≤ 57 ∨ c = 45)
/-- A byte that a plain name may hold. -/
def pln (c : Int) : Bool := decide (97 ≤ c ∧ c ≤ 122 ∨ 65 ≤ c ∧ c ≤ 90 ∨ 48 ≤ c ∧ c ≤ 57 ∨ c = 45 ∨ c = 46 ∨ c = 95)
/-- What IsPlainName answers. -/
def plainB (s : ByteArray) : Bool := decide (1 ≤ s.size ∧ s.size ≤ 64 ∧ ∀ j, j < s.size → pln (bt s j) = true)

theorem plainB_of (s : ByteArray) (h1 : ¬ s.size = 0) (h2 : ¬ 64 < s.size) (h : ∀ j, j < s.size → pln (bt s j) = true) : plainB s = true := by
  unfold plainB; simp only [decide_eq_true_eq]; exact ⟨by omega, by omega, h⟩
theorem plainB_not (s : ByteArray) (k : Nat) (h1 : k < s.size) (h : pln (bt s k) = false) : plainB s = false := by
  unfold plainB; simp only [decide_eq_false_iff_not]; intro ⟨_, _, h3⟩; have := h3 k h1; rw [h] at this; cases this

/-- '[]byte(s)' as the walk meets it. -/
theorem conv_bytes (s : ByteArray) (w : World) : ∃ (cap : Nat) (C : Array Value) (fr : Nat × Nat),
    (convert 9 26 (.string s)).run Tryd.prog w = .ok (.slice (some ⟨w.heap.size, 0, none⟩) s.size cap) (w.alloc (.cells C 5 fr)).drew ∧
    ∀ j, j < s.size → (w.alloc (.cells C 5 fr)).cell? ⟨w.heap.size, j, none⟩ = some (.int .u8 (bt s j)) := by
  refine ⟨_, _, _, run_bytes_of_string (P := Tryd.prog) w 9 26 5 s Tryd.underlying9 Tryd.underlying26 Tryd.underlying5, fun j hj => ?_⟩
  rw [World.cell?_alloc_mark, bytesRow_at s _ j hj]
  unfold bt
  rw [dif_pos hj]
  rfl

theorem ret_bool {a b : Bool} (h : a = b) : Ending.returned (.bool a) = .returned (.bool b) := by rw [h]

set_option maxHeartbeats 1000000 in
theorem plain_any (s : ByteArray) (w : World) (hs : s.size ≤ 1048576) :
    Calls Tryd.prog 14 #[.string s] w fun e w' => e = .returned (.bool (plainB s)) ∧ Below w.heap.size w w' := by
  obtain ⟨cap, C, fr, hconv, hC⟩ := conv_bytes s w
  by_cases h0 : s.size = 0
  · have h0' : ((s.size : Int) == 0) = true := by simp [h0]
    have hp : plainB s = false := by unfold plainB; simp only [decide_eq_false_iff_not]; omega
    have HP : Hid (plainB s = false) := hp
    clear hp hC hconv
    go_enter Tryd.func14, Tryd.ntmps14
    go_wp2
    go_ret
    exact ⟨ret_bool HP.out.symm, Below.refl _ _⟩
  have h0' : ((s.size : Int) == 0) = false := by simp [h0]
  by_cases h64 : 64 < s.size
  · have hp : plainB s = false := by unfold plainB; simp only [decide_eq_false_iff_not]; omega
    have HP : Hid (plainB s = false) := hp
    clear hp hC hconv
    go_enter Tryd.func14, Tryd.ntmps14
    go_wp2
    go_ret
    exact ⟨ret_bool HP.out.symm, Below.refl _ _⟩
  have hb : Below w.heap.size w (w.alloc (.cells C 5 fr)).drew := ((Below.refl _ _).alloc (Nat.le_refl _) _).drew
  have HB : Hid (Below w.heap.size w (w.alloc (.cells C 5 fr)).drew) := hb
  clear hb
  go_enter Tryd.func14, Tryd.ntmps14
  go_wp2
  go_loop [18] (fun i => ∃ k : Nat, k ≤ s.size ∧ i = .int .i64 k ∧ ∀ j, j < k → pln (bt s j) = true) (fun i => s.size - (intOf i).toNat)
  case atStart => exact ⟨0, Nat.zero_le _, rfl, fun j hj => by omega⟩
  case round =>
    obtain ⟨k, hk, rfl, hall⟩ := hrel
    have HA : Hid (∀ j, j < k → pln (bt s j) = true) := hall
    clear hall
    by_cases hlt : k < s.size
    · have hcell := hC k hlt
      have b0 := bt_nonneg s k
      have b1 := bt_le s k
      have HT : Hid (pln (bt s k) = true → ∀ j, j < k + 1 → pln (bt s j) = true) := fun h j hj => by
        by_cases e : j = k
        · subst e; exact h
        · exact HA.out j (by omega)
      have HF : Hid (pln (bt s k) = false → plainB s = false) := fun h => plainB_not s k hlt h
      have hcx : ∃ c, c = bt s k := ⟨_, rfl⟩
      obtain ⟨c, hc⟩ := hcx
      rw [← hc] at HT HF hcell b0 b1
      clear hc hC HA hconv
      go_wp2
      all_goals first
        | (go_ret
           have hp : pln c = false := by unfold pln; simp only [decide_eq_false_iff_not]; simp at *; omega
           exact ⟨ret_bool (HF.out hp).symm, HB.out⟩)
        | (have hp : pln c = true := by unfold pln; simp only [decide_eq_true_eq]; simp at *; omega
           go_round
           case rel => exact ⟨k + 1, by omega, by go_num, HT.out hp⟩
           case measure => simp [intOf]; omega)
    · have hp : plainB s = true := plainB_of s h0 h64 (fun j hj => HA.out j (by omega))
      have HP : Hid (plainB s = true) := hp
      clear hp hC HA hconv
      go_wp2
      go_ret
      exact ⟨ret_bool HP.out.symm, HB.out⟩
end Go.Proofs.Qxb6602347aDoor
