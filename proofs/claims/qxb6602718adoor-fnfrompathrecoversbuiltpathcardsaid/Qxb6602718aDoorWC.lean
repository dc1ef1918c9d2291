import Derived.Test.Qxb6602718aDoorWB
import Derived.Test.Qxb6602718aDoorShelf
namespace Go.Proofs.Qxb6602718aDoor
open Go.RowKit Go Go.PlainAid

theorem hex_bt {d : Bool} {s : ByteArray} (h : HexD d s.data.toList) (k : Nat) (hk : k < s.size) : hexd d (bt s k) := by
  have hm := h.2 _ (List.getElem_mem (l := s.data.toList) (n := k) (by rw [Array.length_toList]; exact hk))
  rw [bt_get s k hk]
  unfold hexd
  rcases hm with hm | hm | hm
  · exact .inl ⟨by omega, by omega⟩
  · exact .inr (.inl ⟨by omega, by omega⟩)
  · exact .inr (.inr ⟨hm.1, by omega⟩)

set_option maxHeartbeats 1000000 in
theorem isid (s also : ByteArray) (d : Bool) (w : World) (h : HexD d s.data.toList)
    (hal : d = true → ∀ w, Calls Tryd.prog 41 #[.string also, .int .i32 45] w fun e w' => e = .returned (.bool true) ∧ w' = w) :
    Calls Tryd.prog 31 #[.string s, .string also] w fun e w' => e = .returned (.bool true) ∧ Below w.heap.size w w' := by
  have h0 : ¬ s.size = 0 := fun e => h.1 (nil_of e)
  have e0 := isEmpty_not s h0
  have hbt := get_bt s
  have HX : Hid (∀ k, k < s.size → hexd d (bt s k)) := fun k hk => hex_bt h k hk
  have HAL : Hid (d = true → ∀ w, Calls Tryd.prog 41 #[.string also, .int .i32 45] w fun e w' => e = .returned (.bool true) ∧ w' = w) := hal
  clear h hal
  go_enter Tryd.func31, Tryd.ntmps31
  go_wp2
  go_loopw [6] (fun _ wr => ∃ pos : Nat, pos ≤ s.size ∧ wr = w.iter s pos) (fun _ wr => s.size - wr.iterPos w.heap.size)
  case atStart => exact ⟨0, Nat.zero_le _, rfl⟩
  case round =>
    obtain ⟨pos, hpos, rfl⟩ := hrel
    by_cases hp : pos < s.size
    · have hx := HX.out pos hp
      have b0 := bt_nonneg s pos
      have b1 := bt_le s pos
      have hasc : (s[pos]'hp).toNat < 128 := by
        have e := hbt pos hp
        unfold hexd at hx
        omega
      have hnx : ∀ ty, (Instr.next (.pointer (some ⟨w.heap.size, 0, none⟩)) true ty).run Tryd.prog (w.iter s pos) = _ := fun ty => run_next_ascii w s pos ty hp hasc
      clear hasc
      rcases hx with hx | hx | hx
      · obtain ⟨hx1, hx2⟩ := hx
        clear HX HAL
        go_wp2
        go_roundw
        case rel => exact ⟨pos + 1, by omega, rfl⟩
        case measure => simp; omega
      · obtain ⟨hx1, hx2⟩ := hx
        clear HX HAL
        go_wp2
        go_roundw
        case rel => exact ⟨pos + 1, by omega, rfl⟩
        case measure => simp; omega
      · have HC : Hid (∀ w, Calls Tryd.prog 41 #[.string also, .int .i32 45] w fun e w' => e = .returned (.bool true) ∧ w' = w) := HAL.out hx.1
        have hx2 := hx.2
        clear HX HAL hx
        rw [hbt pos hp, hx2] at hnx
        go_wp2_with (go_at_call 41; refine (HC.out _).mono ?_; rintro e w' ⟨rfl, rfl⟩)
        go_roundw
        case rel => exact ⟨pos + 1, by omega, rfl⟩
        case measure => simp; omega
    · have hnx : ∀ ty, (Instr.next (.pointer (some ⟨w.heap.size, 0, none⟩)) true ty).run Tryd.prog (w.iter s pos) = _ := fun ty => run_next_end w s pos ty hp
      clear HX HAL
      go_wp2
      go_ret
      exact ⟨rfl, (Below.refl _ _).alloc (Nat.le_refl _) _⟩

/-- The two results of containerID. -/
def RetI (id : List UInt8) (w : World) (e : Ending) (w' : World) : Prop := (∃ I : ByteArray, e = .returned (.tuple #[.string I, .bool true]) ∧ I.data.toList = id) ∧ Below w.heap.size w w'

theorem extract_drop (s : ByteArray) (a b : List UInt8) (h : s.data.toList = a ++ b) : (s.extract a.length s.size).data.toList = b := by
  rw [← ByteArray.toList_eq, Lib.extract_toList, h]
  rw [List.drop_left]
  have hs : s.size = a.length + b.length := by rw [Lib.size_eq, h, List.length_append]
  rw [hs, show a.length + b.length - a.length = b.length by omega]
  exact List.take_length

set_option maxHeartbeats 1000000 in
theorem contid (seg : ByteArray) (rt id : List UInt8) (w : World) (hs : seg.size ≤ 1048576) (hn : Lib.trimSuffix seg.data.toList scopeL = rt ++ id) (hrt : rt = [] ∨ ∃ a', rt = a' ++ [45]) (hid : HexD false id) :
    Calls Tryd.prog 30 #[.string seg] w (RetI id w) := by
  have h45 : (45 : UInt8) ∉ id := hex_no hid 45 (by decide) (by decide) (by decide)
  have c1 := Tryd.strings_TrimSuffix seg ⟨#[46, 115, 99, 111, 112, 101]⟩ w (by omega)
  have hnd : (⟨(Lib.trimSuffix seg.data.toList (ByteArray.mk #[46, 115, 99, 111, 112, 101]).data.toList).toArray⟩ : ByteArray).data.toList = rt ++ id := hn
  have hnsz : (⟨(Lib.trimSuffix seg.data.toList (ByteArray.mk #[46, 115, 99, 111, 112, 101]).data.toList).toArray⟩ : ByteArray).size ≤ seg.size := by
    rw [Lib.size_eq]
    show (Lib.trimSuffix seg.data.toList _).length ≤ _
    rw [Lib.size_eq]
    unfold Lib.trimSuffix
    split
    · simp
    · exact Nat.le_refl _
  obtain ⟨nm, hnm⟩ : ∃ nm : ByteArray, nm = ⟨(Lib.trimSuffix seg.data.toList (ByteArray.mk #[46, 115, 99, 111, 112, 101]).data.toList).toArray⟩ := ⟨_, rfl⟩
  rw [← hnm] at c1 hnd hnsz
  have c2 := Tryd.strings_LastIndexByte nm 45 (by omega) w
  rw [last_drop nm rt id hnd h45 hrt] at c2
  have hnl : nm.size = rt.length + id.length := by rw [Lib.size_eq, hnd, List.length_append]
  have HD : Hid ((nm.extract rt.length nm.size).data.toList = id) := extract_drop nm rt id hnd
  obtain ⟨I, hI⟩ : ∃ I, I = nm.extract rt.length nm.size := ⟨_, rfl⟩
  rw [← hI] at HD
  have C3 : Hid (Calls Tryd.prog 31 #[.string I, .string ⟨#[]⟩] w fun e w' => e = .returned (.bool true) ∧ Below w.heap.size w w') := isid I ⟨#[]⟩ false w (by rw [HD.out]; exact hid) (fun h => by cases h)
  have C1 : Hid (Calls Tryd.prog 25 #[.string seg, .string ⟨#[46, 115, 99, 111, 112, 101]⟩] w fun e w' => e = .returned (.string nm) ∧ w' = w) := c1
  have C2 : Hid (Calls Tryd.prog 27 #[.string nm, .int .u8 45] w fun e w' => e = .returned (.int .i64 ((rt.length : Int) - 1)) ∧ w' = w) := c2
  have HI : Hid (I = nm.extract rt.length nm.size) := hI
  have hle : rt.length ≤ nm.size := by omega
  clear c1 c2 hnm hnd hn hrt hid h45 hI hnl
  go_enter Tryd.func30, Tryd.ntmps30
  go_wp2_with (first | (go_at_call 25; refine C1.out.mono ?_; rintro e w' ⟨rfl, rfl⟩) | (go_at_call 27; refine C2.out.mono ?_; rintro e w' ⟨rfl, rfl⟩))
  rw [← HI.out]
  refine C3.out.mono ?_
  rintro e w2 ⟨rfl, hb⟩
  clear C1 C2 C3 HI
  go_wp2
  go_ret2
  exact ⟨⟨I, rfl, HD.out⟩, hb⟩
end Go.Proofs.Qxb6602718aDoor
