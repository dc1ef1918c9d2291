import Derived.Test.Qxb6602718aDoorProg
import Derived.Test.Qxb6602718aDoorPl
import Derived.WalkKit
import Derived.Handy
import Derived.PlainAid
import Derived.Laws.IdiomStrings
namespace Go.Proofs.Qxb6602718aDoor
open Go.RowKit Go Go.PlainAid

theorem bt_get (s : ByteArray) (k : Nat) (hk : k < s.size) : bt s k = ((s.data.toList[k]'(by rw [Array.length_toList]; exact hk)).toNat : Int) := by
  unfold bt
  rw [dif_pos hk, Array.getElem_toList]
  rfl
theorem mem_bt (s : ByteArray) (c : UInt8) (h : c ∈ s.data.toList) : ∃ k, k < s.size ∧ bt s k = (c.toNat : Int) := by
  obtain ⟨j, hj, e⟩ := List.getElem_of_mem h
  have hj' : j < s.size := by rw [Array.length_toList] at hj; exact hj
  exact ⟨j, hj', by rw [bt_get s j hj', e]⟩

/-- The call returned some bool, under b it knows P; nothing has turned. -/
def RetC (b : Bool) (P : Prop) (w : World) (e : Ending) (w' : World) : Prop := (∃ x : Bool, e = .returned (.bool x) ∧ (x = b → P)) ∧ w = w'

def hexd (d : Bool) (c : Int) : Prop := (48 ≤ c ∧ c ≤ 57) ∨ (97 ≤ c ∧ c ≤ 102) ∨ (d = true ∧ c = 45)

def kpS : ByteArray := ⟨#[107, 117, 98, 101, 112, 111, 100, 115]⟩

theorem isEmpty_of (s : ByteArray) (h : s.size = 0) : s.toList.isEmpty = true := by
  rw [ByteArray.toList_eq]; obtain ⟨⟨l⟩⟩ := s
  have : l.length = 0 := h
  cases l with
  | nil => rfl
  | cons _ _ => simp at this
theorem isEmpty_not (s : ByteArray) (h : ¬ s.size = 0) : s.toList.isEmpty = false := by
  rw [ByteArray.toList_eq]; obtain ⟨⟨l⟩⟩ := s
  have : ¬ l.length = 0 := h
  cases l with
  | nil => simp at this
  | cons _ _ => rfl

set_option maxHeartbeats 1000000 in
theorem zz9 (s : ByteArray) (d : Bool) (w : World) (hs : s.size ≤ 1048576) :
    Calls Tryd.prog 9 #[.string s, .bool d] w (RetC true (HexD d s.data.toList) w) := by
  have hbt := get_bt s
  by_cases h0 : s.size = 0
  · have e0 := isEmpty_of s h0
    clear hbt
    go_enter Tryd.func9, Tryd.ntmps9
    go_wp2
    go_ret
    exact ⟨⟨_, rfl, fun h => by cases h⟩, rfl⟩
  have e0 := isEmpty_not s h0
  have HP : Hid ((∀ j, j < s.size → hexd d (bt s j)) → HexD d s.data.toList) := fun h => by
    refine ⟨fun e => h0 (by rw [Lib.size_eq, e]; rfl), fun c hc => ?_⟩
    obtain ⟨k, hk, e⟩ := mem_bt s c hc
    have hh := h k hk
    unfold hexd at hh
    rw [e] at hh
    rcases hh with hh | hh | hh
    · exact .inl ⟨by omega, by omega⟩
    · exact .inr (.inl ⟨by omega, by omega⟩)
    · exact .inr (.inr ⟨hh.1, by omega⟩)
  go_enter Tryd.func9, Tryd.ntmps9
  go_wp2
  go_loop [5] (fun i => ∃ k : Nat, k ≤ s.size ∧ i = .int .i64 k ∧ Hid (∀ j, j < k → hexd d (bt s j))) (fun i => s.size - (intOf i).toNat)
  case atStart => exact ⟨0, Nat.zero_le _, rfl, fun j hj => by omega⟩
  case round =>
    obtain ⟨k, hk, rfl, HA⟩ := hrel
    by_cases hlt : k < s.size
    · have b0 := bt_nonneg s k
      have b1 := bt_le s k
      have HT : Hid (hexd d (bt s k) → ∀ j, j < k + 1 → hexd d (bt s j)) := fun h j hj => by
        by_cases e : j = k
        · subst e; exact h
        · exact HA.out j (by omega)
      clear HP
      cases d with
      | true =>
        go_wp2
        all_goals first
          | (go_ret; exact ⟨⟨_, rfl, fun h => by cases h⟩, rfl⟩)
          | (go_round
             case rel => exact ⟨k + 1, by omega, by go_num, HT.out (by unfold hexd; simp at *; omega)⟩
             case measure => simp [intOf]; omega)
      | false =>
        go_wp2
        all_goals first
          | (go_ret; exact ⟨⟨_, rfl, fun h => by cases h⟩, rfl⟩)
          | (go_round
             case rel => exact ⟨k + 1, by omega, by go_num, HT.out (by unfold hexd; simp at *; omega)⟩
             case measure => simp [intOf]; omega)
    · obtain rfl : k = s.size := by omega
      go_wp2
      go_ret
      exact ⟨⟨_, rfl, fun _ => HP.out HA.out⟩, rfl⟩
end Go.Proofs.Qxb6602718aDoor
