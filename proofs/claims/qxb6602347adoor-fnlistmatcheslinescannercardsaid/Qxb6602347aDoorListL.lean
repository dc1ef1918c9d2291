import Derived.Test.Qxb6602347aDoorListD
import Derived.Test.Qxb6602347aDoorLift
import Derived.Test.Qxb6602347aDoorShelf
import Derived.Lib.SplitLaws
import Derived.OpenShut
namespace Go.Proofs.Qxb6602347aDoor
open Go.ChangeShapes Go.WideShapes Go.ChangeAt Go.RowKit Go.WideMaps Go.WideElems Go.PlainAid
open Go.ChangeMaps (open_string shut_string)

theorem laidOut : laidOutB Tryd.prog = true := by kernel_rfl

theorem splitNl_of (s : ByteArray) (w : World) (hsh : w.ShapedOpen Tryd.prog) (hs : s.size < 4294967281) : SplitNl s w := by
  have h := Tryd.strings_Split_shaped s ⟨#[10]⟩ w hsh hs (by decide)
  have e : (Lib.splitB ⟨#[10]⟩ 0 (Lib.countB s ⟨#[10]⟩) s).length = Lib.countB s ⟨#[10]⟩ + 1 := Lib.splitB_all ⟨#[10]⟩ (by decide) 0 _ s rfl
  unfold SplitNl
  rw [e]
  exact h

theorem trimNl_of (l : List UInt8) (w : World) (hl : l.length ≤ 9223372036854775807) : TrimNl l w :=
  Tryd.strings_TrimSuffix ⟨l.toArray⟩ ⟨#[10]⟩ w (by show l.toArray.size ≤ _; simpa using hl)

theorem nlTrim_size (l : List UInt8) : (nlTrim l).size ≤ l.length := by
  unfold nlTrim
  show (Lib.trimSuffix l [10]).toArray.size ≤ _
  unfold Lib.trimSuffix
  split <;> simp

theorem nlLib_of (w : World) (hsh : w.ShapedOpen Tryd.prog) : NlLib w := fun l hl w' hb =>
  ⟨trimNl_of l w' (by omega), splitNl_of _ w' (shaped_below hsh hb) (by have := nlTrim_size l; omega)⟩

/-- A slice of bytes that came in: nothing in it, or cells that hold the bytes l. -/
def IsBytes (w : World) (a : Option Addr) (len : Nat) (l : List UInt8) : Prop :=
  l.length = len ∧ (len = 0 ∨ ∃ b off, a = some ⟨b, off, none⟩ ∧ b < w.heap.size ∧ ∀ j, j < l.length → w.cell? ⟨b, off + j, none⟩ = some (.int .u8 (li l j)))

theorem cell_lt {w : World} {a : Addr} {v : Value} (h : w.cell? a = some v) : a.block < w.heap.size := by
  apply Classical.byContradiction
  intro hn
  have : w.heap[a.block]? = none := Array.getElem?_eq_none (by omega)
  simp [World.cell?, this] at h

theorem u8_of_wf {z : Int} (h : (Lit.int .u8 z).wf = true) : ((UInt8.ofNat z.toNat).toNat : Int) = z := by
  have := bounds_u8 h
  rw [UInt8.toNat_ofNat']
  omega

theorem bytes_of {H : Type} {enc : TypeId × Value → H} {W : World} {a : Option Addr} {len cap : Nat} {d : DataW H} {p : List MemPlace} {base : Nat} {sp : Nat → Bool} {held : Bool}
    (h : DataW.Trod enc Tryd.prog W base sp held 26 (.slice a len cap) d p) : len ≤ maxLen ∧ ∃ l, IsBytes W a len l := by
  obtain ⟨fuel, hf⟩ := h
  rcases open_ints Tryd.underlying26 Tryd.underlying5 (by kernel_rfl) hf with ⟨hcs, _⟩ | ⟨x, l, c, zs, hcs, _, hl, hm, hz, _, hcell, hwz⟩
  · simp [Value.cells] at hcs
    obtain ⟨rfl, rfl, rfl⟩ := hcs
    exact ⟨Nat.zero_le _, [], rfl, Or.inl rfl⟩
  · simp [Value.cells] at hcs
    obtain ⟨rfl, rfl, rfl⟩ := hcs
    have hzl : len ≤ zs.length := by rw [hz]; split <;> omega
    refine ⟨Nat.le_trans hl hm, (zs.take len).map (fun z => UInt8.ofNat z.toNat), by simp; omega, ?_⟩
    by_cases h0 : len = 0
    · exact Or.inl h0
    refine Or.inr ?_
    obtain ⟨b, off, spot⟩ := x
    have hc := hcell 0 (by omega)
    have hspot : spot = none := by simpa [Addr.add] using World.cell?_spot hc
    subst hspot
    refine ⟨b, off, rfl, cell_lt hc, fun j hj => ?_⟩
    have hj' : j < zs.length := by simp at hj; omega
    have hjl : j < len := by simp at hj; omega
    rw [← WideShapes.add_plain, hcell j hj']
    have hw := hwz _ (List.getElem_mem hj')
    simp only [li, List.getD_eq_getElem?_getD, List.getElem?_map, List.getElem?_take, if_pos hjl, List.getElem?_eq_getElem hj', Option.map_some, Option.getD_some]
    rw [u8_of_wf hw]
end Go.Proofs.Qxb6602347aDoor
