import Derived.Test.Qxb6602438aDoorPl
import Derived.Test.Qxb6602438aDoorProg
import Derived.WalkKit
import Derived.Handy
import Derived.PlainAid
import Derived.WalkSpells
import Derived.Laws.Shifts
namespace Go.Proofs.Qxb6602438aDoor
open Go.RowKit Go Go.PlainAid

/-- Is the byte c in the set of the four words? -/
def setB (ws : Nat → Int) (c : Nat) : Bool := bits BinOp.and IntKind.u64 (ws (c / 64)) (IntKind.u64.wrap (2 ^ (c % 64))) != 0

set_option maxRecDepth 100000 in
theorem contains (b o : Nat) (ws : Nat → Int) (c : Nat) (hc : c < 256) (w : World) (h : ∀ i, i < 4 → w.cell? ⟨b, o + i, none⟩ = some (.int .u64 (ws i))) :
    Calls Tryd.prog 39 #[.pointer (some ⟨b, o, none⟩), .int .u8 c] w fun e w' => e = .returned (.bool (setB ws c)) ∧ w = w' := by
  obtain ⟨q, hq⟩ : ∃ q, q = c / 64 := ⟨_, rfl⟩
  have hq4 : q < 4 := by omega
  have g := h q hq4
  have hqz : (c : Int) / 64 = (q : Int) := by omega
  have HR : Hid (Ending.returned (.bool (bits BinOp.and IntKind.u64 (ws q) (IntKind.u64.wrap (2 ^ (c % 64))) != 0)) = .returned (.bool (setB ws c))) := by
    rw [hq]; rfl
  clear h hq
  go_enter Tryd.func39, Tryd.ntmps39
  go_wp2
  go_ret
  exact ⟨HR.out, rfl⟩

/-! ### The memory -/
/-- A row of elements of sz cells each. -/
def RowAt {α : Type} (C : World → Nat → Nat → α → Prop) (sz : Nat) (w : World) (v : Value) (l : List α) : Prop :=
  ∃ (a : Option Addr) (cap : Nat), v = .slice a l.length cap ∧ (l = [] ∨ ∃ b off, a = some ⟨b, off, none⟩ ∧ b < w.heap.size ∧ ∀ j x, l[j]? = some x → C w b (off + j * sz) x)
/-- The set behind a token's pointer. -/
def SetAt (w : World) (tk : PTok) : Prop := ∀ b o, tk.s = some (b, o) → b < w.heap.size ∧ ∀ i, i < 4 → w.cell? ⟨b, o + i, none⟩ = some (.int .u64 (tk.ws i))
def ptrOf (s : Option (Nat × Nat)) : Value := .pointer (s.map fun p => ⟨p.1, p.2, none⟩)
structure TokAt (w : World) (b o : Nat) (tk : PTok) : Prop where
  k : w.cell? ⟨b, o, none⟩ = some (.int .u8 tk.k)
  t : w.cell? ⟨b, o + 1, none⟩ = some (.string tk.t)
  s : w.cell? ⟨b, o + 2, none⟩ = some (ptrOf tk.s)
  set : SetAt w tk
  kr : 0 ≤ tk.k ∧ tk.k ≤ 255
  tl : tk.t.size ≤ maxLen
/-- A glob: nil, or a row of tokens. -/
def ToksAt (w : World) (v : Value) : Option (List PTok) → Prop
  | none => v = .slice none 0 0
  | some ts => (∃ a n c, v = .slice (some a) n c) ∧ RowAt TokAt 3 w v ts ∧ ts.length ≤ maxLen
structure SegAt (w : World) (b o : Nat) (sg : PSeg) : Prop where
  ds : w.cell? ⟨b, o, none⟩ = some (.bool sg.ds)
  li : w.cell? ⟨b, o + 1, none⟩ = some (.string sg.li)
  g : ∃ v, w.cell? ⟨b, o + 2, none⟩ = some v ∧ ToksAt w v sg.g
  ll : sg.li.size ≤ maxLen
def SegsAt (w : World) (v : Value) (ss : List PSeg) : Prop := RowAt SegAt 3 w v ss ∧ ss.length ≤ maxLen
structure PatAt (w : World) (b o : Nat) (q : PPat) : Prop where
  ng : w.cell? ⟨b, o, none⟩ = some (.bool q.ng)
  dO : w.cell? ⟨b, o + 1, none⟩ = some (.bool q.dO)
  an : w.cell? ⟨b, o + 2, none⟩ = some (.bool q.an)
  segs : ∃ v, w.cell? ⟨b, o + 3, none⟩ = some v ∧ SegsAt w v q.segs
  el : w.cell? ⟨b, o + 4, none⟩ = some (.int .i64 q.el)
  sp : w.cell? ⟨b, o + 5, none⟩ = some (.bool q.sp)
  er : -9223372036854775808 ≤ q.el ∧ q.el ≤ 9223372036854775807
def PatsAt (w : World) (v : Value) (ps : List PPat) : Prop := RowAt PatAt 6 w v ps ∧ ps.length ≤ maxLen

/-! ### .. is kept where nothing that was there has turned -/
theorem below_cell {w w' : World} (hb : Below w.heap.size w w') {b o : Nat} {v : Value} (h : w.cell? ⟨b, o, none⟩ = some v) : w'.cell? ⟨b, o, none⟩ = some v := by
  have hlt : b < w.heap.size := by
    apply Classical.byContradiction
    intro hn
    have : w.heap[b]? = none := Array.getElem?_eq_none (by omega)
    simp [World.cell?, this] at h
  rw [hb.cell (by exact hlt)]
  exact h
theorem RowAt.keep {α : Type} {C : World → Nat → Nat → α → Prop} {sz : Nat} {w w' : World} {v : Value} {l : List α} (hb : Below w.heap.size w w') (hC : ∀ b o x, C w b o x → C w' b o x) (h : RowAt C sz w v l) : RowAt C sz w' v l := by
  obtain ⟨a, cap, e, h⟩ := h
  refine ⟨a, cap, e, h.imp id ?_⟩
  rintro ⟨b, off, e1, e2, e3⟩
  exact ⟨b, off, e1, Nat.lt_of_lt_of_le e2 hb.size, fun j x hx => hC _ _ _ (e3 j x hx)⟩
theorem TokAt.keep {w w' : World} (hb : Below w.heap.size w w') {b o : Nat} {tk : PTok} (h : TokAt w b o tk) : TokAt w' b o tk :=
  ⟨below_cell hb h.k, below_cell hb h.t, below_cell hb h.s, fun b o e => ⟨Nat.lt_of_lt_of_le (h.set b o e).1 hb.size, fun i hi => below_cell hb ((h.set b o e).2 i hi)⟩, h.kr, h.tl⟩
theorem ToksAt.keep {w w' : World} (hb : Below w.heap.size w w') {v : Value} {g : Option (List PTok)} (h : ToksAt w v g) : ToksAt w' v g := by
  cases g with
  | none => exact h
  | some ts => exact ⟨h.1, h.2.1.keep hb fun _ _ _ => TokAt.keep hb, h.2.2⟩
theorem SegAt.keep {w w' : World} (hb : Below w.heap.size w w') {b o : Nat} {sg : PSeg} (h : SegAt w b o sg) : SegAt w' b o sg := by
  obtain ⟨v, h1, h2⟩ := h.g
  exact ⟨below_cell hb h.ds, below_cell hb h.li, ⟨v, below_cell hb h1, h2.keep hb⟩, h.ll⟩
theorem SegsAt.keep {w w' : World} (hb : Below w.heap.size w w') {v : Value} {ss : List PSeg} (h : SegsAt w v ss) : SegsAt w' v ss := ⟨h.1.keep hb fun _ _ _ => SegAt.keep hb, h.2⟩
theorem PatAt.keep {w w' : World} (hb : Below w.heap.size w w') {b o : Nat} {q : PPat} (h : PatAt w b o q) : PatAt w' b o q := by
  obtain ⟨v, h1, h2⟩ := h.segs
  exact ⟨below_cell hb h.ng, below_cell hb h.dO, below_cell hb h.an, ⟨v, below_cell hb h1, h2.keep hb⟩, below_cell hb h.el, below_cell hb h.sp, h.er⟩
theorem PatsAt.keep {w w' : World} (hb : Below w.heap.size w w') {v : Value} {ps : List PPat} (h : PatsAt w v ps) : PatsAt w' v ps := ⟨h.1.keep hb fun _ _ _ => PatAt.keep hb, h.2⟩
end Go.Proofs.Qxb6602438aDoor
