import Derived.Test.Qxb6602823aDoorPl
import Derived.Test.Qxb6602823aDoorProg
import Derived.WalkKit
import Derived.Handy
import Derived.PlainAid
import Derived.WalkSpells
import Derived.Laws.IdiomStrings
import Derived.Deep.LoopGhost
import Derived.Lib.ItoaMem
namespace Go.Proofs.Qxb6602823aDoor
open Go.RowKit Go Go.PlainAid

def RetI (x : Int) (w : World) (e : Ending) (w' : World) : Prop := e = .returned (.string ⟨(Lib.itoa x).toArray⟩) ∧ Below w.heap.size w w'

/-- The digits of u; none for 0. -/
def dd (u : Nat) : List UInt8 := if u = 0 then [] else Lib.decDigits u
theorem dd_step (u : Nat) (h : 0 < u) : dd u = dd (u / 10) ++ [UInt8.ofNat (48 + u % 10)] := by
  unfold dd
  rw [if_neg (by omega), Lib.decDigits]
  split
  · rename_i h10
    rw [if_pos (by omega), Nat.mod_eq_of_lt h10]
    rfl
  · rw [if_neg (by omega)]

/-- The buffer: zeros, then the digits. -/
def bufV (ds : List UInt8) : Array Value := ((List.replicate (20 - ds.length) (0 : UInt8) ++ ds).map fun b => Value.int .u8 (b.toNat : Int)).toArray
theorem bufV_at (ds : List UInt8) (j : Nat) (h : j + ds.length < 20) : (bufV ds)[j]? = some (.int .u8 0) := by
  unfold bufV
  rw [List.getElem?_toArray, List.getElem?_map, List.getElem?_append_left (by rw [List.length_replicate]; omega), List.getElem?_replicate, if_pos (by omega)]
  rfl
theorem bufV_digit (ds : List UInt8) (i j : Nat) (h : i + ds.length = 20) (hj : j < ds.length) : (bufV ds)[i + j]? = some (.int .u8 ((ds[j]'hj).toNat : Int)) := by
  unfold bufV
  have hl : (List.replicate (20 - ds.length) (0 : UInt8)).length = i := by rw [List.length_replicate]; omega
  rw [List.getElem?_toArray, List.getElem?_map, List.getElem?_append_right (by omega), hl, Nat.add_sub_cancel_left, List.getElem?_eq_getElem hj]
  rfl
theorem bufV_set (ds : List UInt8) (j : Nat) (h : j + 1 + ds.length = 20) (c : UInt8) (n : Int) (hn : n = (c.toNat : Int)) : (bufV ds).setIfInBounds j (.int .u8 n) = bufV (c :: ds) := by
  subst hn
  unfold bufV
  rw [List.setIfInBounds_toArray, List.length_cons, ← List.map_set, show 20 - ds.length = j + 1 by omega, show 20 - (ds.length + 1) = j by omega, List.replicate_succ', List.append_assoc, List.set_append_right _ _ (by rw [List.length_replicate]; exact Nat.le_refl _), List.length_replicate, Nat.sub_self]
  rfl

theorem buf_facts (w : World) (ds : List UInt8) (j : Nat) (h : j + 1 + ds.length = 20) :
    (w.alloc (.cells (bufV ds) 44)).cell? ⟨w.heap.size, j, none⟩ = some (.int .u8 0) ∧ (w.alloc (.cells (bufV ds) 44)).frozen? ⟨w.heap.size, j, none⟩ = false := by
  refine ⟨?_, ?_⟩
  · rw [World.cell?_alloc_mark]; exact bufV_at ds j (by omega)
  · rw [World.frozen?_alloc_mark]; rfl
theorem pow_pos' {u i : Nat} (h : u < 10 ^ i) (hu : 0 < u) : ∃ j, i = j + 1 := by
  cases i with
  | zero => simp at h; omega
  | succ j => exact ⟨j, rfl⟩

theorem ret_itp {U : Nat} {ds : List UInt8} (hU : 0 < U) (h : dd U = dd 0 ++ ds) (w : World) : RetI (U : Int) w (.returned (.string ⟨ds.toArray⟩)) (w.alloc (.cells (bufV ds) 44)) := by
  have e : ds = Lib.decDigits U := by
    have : dd 0 = [] := rfl
    rw [this, List.nil_append] at h
    rw [← h]; unfold dd; rw [if_neg (by omega)]
  refine ⟨?_, (Below.refl _ _).alloc (Nat.le_refl _) _⟩
  rw [Lib.itoa_nonneg, e]
theorem ret_itn {U : Nat} {ds : List UInt8} (hU : 0 < U) (h : dd U = dd 0 ++ ds) (w : World) : RetI (-(U : Int)) w (.returned (.string (⟨#[45]⟩ ++ ⟨ds.toArray⟩))) (w.alloc (.cells (bufV ds) 44)) := by
  have e : ds = Lib.decDigits U := by
    have : dd 0 = [] := rfl
    rw [this, List.nil_append] at h
    rw [← h]; unfold dd; rw [if_neg (by omega)]
  refine ⟨?_, (Below.refl _ _).alloc (Nat.le_refl _) _⟩
  rw [Lib.itoa_neg U hU, e]
  refine congrArg (fun b => Ending.returned (Value.string b)) (ByteArray.ext (Array.toList_inj.1 ?_))
  rw [ByteArray.data_append, Array.toList_append]
  rfl
theorem dd_ne {U : Nat} {ds : List UInt8} (hU : 0 < U) (h : dd U = dd 0 ++ ds) : 0 < ds.length := by
  have e : ds = Lib.decDigits U := by
    have : dd 0 = [] := rfl
    rw [this, List.nil_append] at h
    rw [← h]; unfold dd; rw [if_neg (by omega)]
  rw [e, Lib.decDigits_length]
  exact Lib.nDigits_pos U
theorem itoa_zero : Lib.itoa 0 = [48] := by
  have := Lib.itoa_nonneg 0
  rw [Lib.decDigits_one (by omega)] at this
  exact this

set_option maxRecDepth 100000 in
theorem itoa13 (x : Int) (h0 : -9000000000000000000 ≤ x) (h1 : x ≤ 9000000000000000000) (w : World) : Calls Tryd.prog 13 #[.int .i64 x] w (RetI x w) := by
  by_cases hz : x = 0
  · subst hz
    go_enter Tryd.func13, Tryd.ntmps13
    go_wp2
    go_ret
    refine ⟨?_, Below.refl _ _⟩
    rw [itoa_zero]
    rfl
  by_cases hn : x < 0
  · obtain ⟨U, rfl⟩ : ∃ U : Nat, x = -(U : Int) := ⟨x.natAbs, by omega⟩
    have hU : 0 < U := by omega
    have HU : Hid (U < 10 ^ 20) := by show U < _; omega
    clear hz hn
    have hng : -(U : Int) < 0 := by omega
    have hfix : -(-(U : Int) + 1) + 1 = (U : Int) := by omega
    go_enter Tryd.func13, Tryd.ntmps13
    go_wp2
    go_loopg [4, 6] U (fun g s4 s6 wx => ∃ (u i : Nat) (ds : List UInt8), u = g ∧ s4 = .int .u64 u ∧ s6 = .int .i64 i ∧ i + ds.length = 20 ∧ u < 18446744073709551616 ∧ wx = w.alloc (.cells (bufV ds) 44) ∧ Hid (u < 10 ^ i) ∧ Hid (dd U = dd u ++ ds))
    case atStart => exact ⟨U, 20, [], rfl, rfl, rfl, rfl, by omega, rfl, HU, (List.append_nil _).symm⟩
    case round =>
      obtain ⟨u, i, ds, rfl, rfl, rfl, hi, hu, rfl, HP, HD⟩ := hrel
      by_cases hu0 : 0 < u
      · obtain ⟨j, rfl⟩ := pow_pos' HP.out hu0
        obtain ⟨g1, g2⟩ := buf_facts w ds j hi
        have HD' : Hid (dd U = dd (u / 10) ++ (UInt8.ofNat (48 + u % 10) :: ds)) := by
          show dd U = _
          rw [HD.out, dd_step u hu0, List.append_assoc]; rfl
        have HP' : Hid (u / 10 < 10 ^ j) := by
          have := HP.out
          rw [Nat.pow_succ] at this
          show u / 10 < 10 ^ j
          omega
        have HS : Hid ((bufV ds).setIfInBounds j (.int .u8 (48 + (u : Int) % 10)) = bufV (UInt8.ofNat (48 + u % 10) :: ds)) := bufV_set ds j hi _ _ (by
          rw [UInt8.toNat_ofNat', Nat.mod_eq_of_lt (by omega)]; omega)
        clear HD HP
        go_wp2
        go_roundg (u / 10)
        case measure => omega
        case rel => exact ⟨u / 10, j, UInt8.ofNat (48 + u % 10) :: ds, rfl, by go_num, rfl, by rw [List.length_cons]; omega, by omega, by rw [HS.out], HP', HD'⟩
      · obtain rfl : u = 0 := by omega
        have hlen : ds.length = 20 - i := by omega
        have hlz : (i : Int) ≤ 20 := by omega
        have hpos : 0 < ds.length := dd_ne hU HD.out
        have hne : ¬ 20 = i := by omega
        have hne' : ¬ i = 20 := by omega
        have hcv := run_convert_bytes_back (P := Tryd.prog) (w.alloc (.cells (bufV ds) 44)) 30 9 5 ⟨w.heap.size, i, none⟩ (20 - i) ds Tryd.underlying30 Tryd.underlying5 Tryd.underlying9 (fun j hj => by
          rw [Lib.add_plain, World.cell?_alloc_mark]; exact bufV_digit ds i j hi hj)
        rw [hlen] at hcv
        have HE : Hid (RetI (-(U : Int)) w (.returned (.string (⟨#[45]⟩ ++ ⟨ds.toArray⟩))) (w.alloc (.cells (bufV ds) 44))) := ret_itn hU HD.out w
        clear HD HP hlen hpos
        go_wp2
        go_ret
        exact HE.out
  · obtain ⟨U, rfl⟩ : ∃ U : Nat, x = (U : Int) := ⟨x.toNat, by omega⟩
    have hU : 0 < U := by omega
    have HU : Hid (U < 10 ^ 20) := by show U < _; omega
    clear hz hn
    go_enter Tryd.func13, Tryd.ntmps13
    go_wp2
    go_loopg [4, 6] U (fun g s4 s6 wx => ∃ (u i : Nat) (ds : List UInt8), u = g ∧ s4 = .int .u64 u ∧ s6 = .int .i64 i ∧ i + ds.length = 20 ∧ u < 18446744073709551616 ∧ wx = w.alloc (.cells (bufV ds) 44) ∧ Hid (u < 10 ^ i) ∧ Hid (dd U = dd u ++ ds))
    case atStart => exact ⟨U, 20, [], rfl, rfl, rfl, rfl, by omega, rfl, HU, (List.append_nil _).symm⟩
    case round =>
      obtain ⟨u, i, ds, rfl, rfl, rfl, hi, hu, rfl, HP, HD⟩ := hrel
      by_cases hu0 : 0 < u
      · obtain ⟨j, rfl⟩ := pow_pos' HP.out hu0
        obtain ⟨g1, g2⟩ := buf_facts w ds j hi
        have HD' : Hid (dd U = dd (u / 10) ++ (UInt8.ofNat (48 + u % 10) :: ds)) := by
          show dd U = _
          rw [HD.out, dd_step u hu0, List.append_assoc]; rfl
        have HP' : Hid (u / 10 < 10 ^ j) := by
          have := HP.out
          rw [Nat.pow_succ] at this
          show u / 10 < 10 ^ j
          omega
        have HS : Hid ((bufV ds).setIfInBounds j (.int .u8 (48 + (u : Int) % 10)) = bufV (UInt8.ofNat (48 + u % 10) :: ds)) := bufV_set ds j hi _ _ (by
          rw [UInt8.toNat_ofNat', Nat.mod_eq_of_lt (by omega)]; omega)
        clear HD HP
        go_wp2
        go_roundg (u / 10)
        case measure => omega
        case rel => exact ⟨u / 10, j, UInt8.ofNat (48 + u % 10) :: ds, rfl, by go_num, rfl, by rw [List.length_cons]; omega, by omega, by rw [HS.out], HP', HD'⟩
      · obtain rfl : u = 0 := by omega
        have hlen : ds.length = 20 - i := by omega
        have hlz : (i : Int) ≤ 20 := by omega
        have hpos : 0 < ds.length := dd_ne hU HD.out
        have hne : ¬ 20 = i := by omega
        have hne' : ¬ i = 20 := by omega
        have hcv := run_convert_bytes_back (P := Tryd.prog) (w.alloc (.cells (bufV ds) 44)) 30 9 5 ⟨w.heap.size, i, none⟩ (20 - i) ds Tryd.underlying30 Tryd.underlying5 Tryd.underlying9 (fun j hj => by
          rw [Lib.add_plain, World.cell?_alloc_mark]; exact bufV_digit ds i j hi hj)
        rw [hlen] at hcv
        have HE : Hid (RetI (U : Int) w (.returned (.string ⟨ds.toArray⟩)) (w.alloc (.cells (bufV ds) 44))) := ret_itp hU HD.out w
        clear HD HP hlen hpos
        go_wp2
        go_ret
        exact HE.out
end Go.Proofs.Qxb6602823aDoor
