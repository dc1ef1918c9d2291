import Derived.Test.Qxb6602347aDoorListB
import Derived.Maps.OwnSet
import Derived.StringKeys
namespace Go.Proofs.Qxb6602347aDoor
open Go.RowKit Go Go.PlainAid Go.Maps Go.WideMaps Go.WideElems Go.ChangeMaps

/-- The byte at k, as a number. -/
def li (l : List UInt8) (k : Nat) : Int := ((l.getD k 0).toNat : Int)
theorem li_at (l : List UInt8) (k : Nat) (h : k < l.length) : (l[k].toNat : Int) = li l k := by
  unfold li; rw [List.getD_eq_getElem?_getD, List.getElem?_eq_getElem h]; rfl
theorem li_bounds (l : List UInt8) (k : Nat) : 0 ≤ li l k ∧ li l k ≤ 255 := by
  unfold li; have := (l.getD k 0).toNat_lt; omega

/-- The cells of the copy while it is filled. -/
def u8v (b : UInt8) : Value := .int .u8 (b.toNat : Int)
def CB (l : List UInt8) (k : Nat) : Array Value := ((l.take k).map u8v ++ List.replicate (l.length + 1 - k) (Value.int .u8 0)).toArray
def CE (l : List UInt8) : Array Value := (l.map u8v ++ [Value.int .u8 10]).toArray

theorem CB_zero (l : List UInt8) : madeCells #[.int .u8 0] (l.length + 1) = CB l 0 := by
  apply Array.ext
  · simp [CB, madeCells]
  · intro i h1 h2
    simp [CB, madeCells, Nat.mod_one]
theorem CB_size (l : List UInt8) (k : Nat) (h : k ≤ l.length) : (CB l k).size = l.length + 1 := by simp [CB]; omega
theorem CB_get (l : List UInt8) (k : Nat) (h : k ≤ l.length) : (CB l k)[k]? = some (.int .u8 0) := by
  unfold CB
  have hlk : ((l.take k).map u8v).length = k := by simp; omega
  rw [List.getElem?_toArray, List.getElem?_append_right (by omega), hlk, List.getElem?_replicate, if_pos (by omega)]
theorem CB_set (l : List UInt8) (k : Nat) (h : k < l.length) : (CB l k).setIfInBounds k (.int .u8 (li l k)) = CB l (k + 1) := by
  apply Array.ext_getElem?
  intro j
  simp only [CB, List.setIfInBounds_toArray, List.getElem?_toArray]
  rw [List.getElem?_set]
  have hlk : ((l.take k).map u8v).length = k := by simp; omega
  have hlk1 : ((l.take (k + 1)).map u8v).length = k + 1 := by simp; omega
  by_cases hj : k = j
  · subst hj
    rw [if_pos rfl, if_pos (by simp; omega), List.getElem?_append_left (by omega)]
    simp [← li_at l k h, List.getElem?_eq_getElem h, u8v]
  · rw [if_neg hj]
    by_cases hlt : j < k
    · rw [List.getElem?_append_left (by omega), List.getElem?_append_left (by omega)]
      simp [hlt, show j < k + 1 by omega]
    · rw [List.getElem?_append_right (by omega), List.getElem?_append_right (by omega), hlk, hlk1, List.getElem?_replicate, List.getElem?_replicate]
      by_cases h2 : j - k < l.length + 1 - k
      · rw [if_pos h2, if_pos (by omega)]
      · rw [if_neg h2, if_neg (by omega)]
theorem CB_end (l : List UInt8) : (CB l l.length).setIfInBounds l.length (.int .u8 10) = CE l := by
  apply Array.ext_getElem?
  intro j
  simp only [CB, CE, List.setIfInBounds_toArray, List.getElem?_toArray, List.take_length, show l.length + 1 - l.length = 1 by omega, List.replicate_one]
  rw [List.getElem?_set]
  by_cases hj : l.length = j
  · subst hj
    rw [if_pos rfl, if_pos (by simp), List.getElem?_append_right (by simp)]
    simp
  · rw [if_neg hj]
    by_cases hlt : j < l.length
    · rw [List.getElem?_append_left (by simpa using hlt), List.getElem?_append_left (by simpa using hlt)]
    · rw [List.getElem?_eq_none (by simp; omega), List.getElem?_eq_none (by simp; omega)]
theorem CE_get (l : List UInt8) (j : Nat) (hj : j < (l ++ [10]).length) : (CE l)[j]? = some (.int .u8 ((l ++ [10])[j].toNat : Int)) := by
  have e : CE l = ((l ++ [10]).map u8v).toArray := by simp [CE, u8v]
  rw [e, List.getElem?_toArray, List.getElem?_map, List.getElem?_eq_getElem hj]
  rfl

/-- An element of a map, as it is. -/
def hR : Value → Option (DataW Value × List MemPlace) := fun v => some (.held v, [])
theorem keyLaw : Keyed Tryd.prog 9 := string_keyed Tryd.underlying9
theorem zero26 (w : World) : (zeroValue 26).run Tryd.prog w = .ok (.slice none 0 0) w := by kernel_rfl

/-- What a look-up gives. -/
theorem look_held {w : World} {b n : Nat} {D : DataW Value} (h : w.ownsMap Tryd.prog 9 hR b n D) {name : ByteArray} (hn : name.size ≤ maxLen) {v : Value} (hat : D.atKey (.string name.data.toList) (.held (.slice none 0 0)) = .held v) :
    (Instr.lookup 30 (.map (some b)) (.string name) false).run Tryd.prog w = .ok v w := by
  obtain ⟨v', ps, hrun, hv⟩ := h.lookup keyLaw Tryd.underlying30 (zero26 w) (zd := .held (.slice none 0 0)) (zp := []) rfl (keyOf_string_mk (s := name) Tryd.underlying9 hn)
  rw [hat] at hv
  simp [hR] at hv
  rw [hrun, hv.1]
end Go.Proofs.Qxb6602347aDoor
