import Derived.Test.Qxb6602438aDoorTb
namespace Go.Proofs.Qxb6602438aDoor
open Go.RowKit Go Go.PlainAid

/-- All that lay in w lies in w' as it did, in the blocks below B and from lo on. -/
def Agree (B lo : Nat) (w w' : World) : Prop := w.heap.size ≤ w'.heap.size ∧ ∀ b o v, (b < B ∨ lo ≤ b) → w.cell? ⟨b, o, none⟩ = some v → w'.cell? ⟨b, o, none⟩ = some v
theorem Agree.refl (B lo : Nat) (w : World) : Agree B lo w w := ⟨Nat.le_refl _, fun _ _ _ _ h => h⟩
theorem Agree.trans {B lo : Nat} {w1 w2 w3 : World} (h : Agree B lo w1 w2) (k : Agree B lo w2 w3) : Agree B lo w1 w3 := ⟨Nat.le_trans h.1 k.1, fun b o v hb hv => k.2 b o v hb (h.2 b o v hb hv)⟩
theorem Agree.mono {B B' lo lo' : Nat} {w w' : World} (h : Agree B lo w w') (hB : B' ≤ B) (hl : lo ≤ lo') : Agree B' lo' w w' := ⟨h.1, fun b o v hb hv => h.2 b o v (by omega) hv⟩
theorem Agree.of_below {B lo : Nat} {w w' : World} (h : Below w.heap.size w w') : Agree B lo w w' := ⟨h.size, fun _ _ _ _ hv => below_cell h hv⟩
theorem Agree.set {B lo : Nat} (w : World) {nb i : Nat} {v : Value} (h1 : B ≤ nb) (h2 : nb < lo) : Agree B lo w (w.setCell ⟨nb, i, none⟩ v) :=
  ⟨by rw [World.size_setCell]; exact Nat.le_refl _, fun b o u hb hu => by
    rw [World.cell?_setCell_other _ _ _ _ (by intro e; injection e; omega)]; exact hu⟩
theorem cell_lt' {w : World} {b o : Nat} {v : Value} (h : w.cell? ⟨b, o, none⟩ = some v) : b < w.heap.size := by
  apply Classical.byContradiction
  intro hn
  have : w.heap[b]? = none := Array.getElem?_eq_none (by omega)
  simp [World.cell?, this] at h
/-- .. the whole of w: by what lies in w. -/
def Keeps (w w' : World) : Prop := w.heap.size ≤ w'.heap.size ∧ ∀ b o v, w.cell? ⟨b, o, none⟩ = some v → w'.cell? ⟨b, o, none⟩ = some v
theorem Keeps.of_agree {lo : Nat} {w w' : World} (h : Agree w.heap.size lo w w') : Keeps w w' := ⟨h.1, fun b o v hv => h.2 b o v (.inl (cell_lt' hv)) hv⟩
theorem Keeps.of_below {w w' : World} (h : Below w.heap.size w w') : Keeps w w' := ⟨h.size, fun _ _ _ hv => below_cell h hv⟩
theorem Keeps.trans {w1 w2 w3 : World} (h : Keeps w1 w2) (k : Keeps w2 w3) : Keeps w1 w3 := ⟨Nat.le_trans h.1 k.1, fun b o v hv => k.2 b o v (h.2 b o v hv)⟩
/-- w was kept in w1, and w1 below w's size in w2. -/
theorem Keeps.then {lo : Nat} {w w1 w2 : World} (h : Keeps w w1) (k : Agree w.heap.size lo w1 w2) : Keeps w w2 := ⟨Nat.le_trans h.1 k.1, fun b o v hv => k.2 b o v (.inl (cell_lt' hv)) (h.2 b o v hv)⟩

theorem RowAt.kept {α : Type} {C : World → Nat → Nat → α → Prop} {sz : Nat} {w w' : World} {v : Value} {l : List α} (hb : Keeps w w') (hC : ∀ b o x, C w b o x → C w' b o x) (h : RowAt C sz w v l) : RowAt C sz w' v l := by
  obtain ⟨a, cap, e, h⟩ := h
  refine ⟨a, cap, e, h.imp id ?_⟩
  rintro ⟨b, off, e1, e2, e3⟩
  exact ⟨b, off, e1, Nat.lt_of_lt_of_le e2 hb.1, fun j x hx => hC _ _ _ (e3 j x hx)⟩
theorem SetAt.kept {w w' : World} (hb : Keeps w w') {tk : PTok} (h : SetAt w tk) : SetAt w' tk := fun b o e => ⟨Nat.lt_of_lt_of_le (h b o e).1 hb.1, fun i hi => hb.2 _ _ _ ((h b o e).2 i hi)⟩
theorem TokAt.kept {w w' : World} (hb : Keeps w w') {b o : Nat} {tk : PTok} (h : TokAt w b o tk) : TokAt w' b o tk :=
  ⟨hb.2 _ _ _ h.k, hb.2 _ _ _ h.t, hb.2 _ _ _ h.s, SetAt.kept hb h.set, h.kr, h.tl⟩
theorem ToksAt.kept {w w' : World} (hb : Keeps w w') {v : Value} {g : Option (List PTok)} (h : ToksAt w v g) : ToksAt w' v g := by
  cases g with
  | none => exact h
  | some ts => exact ⟨h.1, h.2.1.kept hb fun _ _ _ => TokAt.kept hb, h.2.2⟩
theorem SegAt.kept {w w' : World} (hb : Keeps w w') {b o : Nat} {sg : PSeg} (h : SegAt w b o sg) : SegAt w' b o sg := by
  obtain ⟨v, h1, h2⟩ := h.g
  exact ⟨hb.2 _ _ _ h.ds, hb.2 _ _ _ h.li, ⟨v, hb.2 _ _ _ h1, h2.kept hb⟩, h.ll⟩
theorem SegsAt.kept {w w' : World} (hb : Keeps w w') {v : Value} {ss : List PSeg} (h : SegsAt w v ss) : SegsAt w' v ss := ⟨h.1.kept hb fun _ _ _ => SegAt.kept hb, h.2⟩

/-! ### A new row, filled element by element -/
def setAll : World → Nat → Nat → List Value → World
  | w, _, _, [] => w
  | w, nb, o, v :: vs => setAll (w.setCell ⟨nb, o, none⟩ v) nb (o + 1) vs
theorem setAll_size : ∀ (vs : List Value) (w : World) (nb o : Nat), (setAll w nb o vs).heap.size = w.heap.size
  | [], _, _, _ => rfl
  | v :: vs, w, nb, o => by rw [setAll, setAll_size vs, World.size_setCell]
theorem setAll_other : ∀ (vs : List Value) (w : World) (nb o b i : Nat), (b ≠ nb ∨ i < o ∨ o + vs.length ≤ i) → (setAll w nb o vs).cell? ⟨b, i, none⟩ = w.cell? ⟨b, i, none⟩
  | [], _, _, _, _, _, _ => rfl
  | v :: vs, w, nb, o, b, i, h => by
    rw [List.length_cons] at h
    rw [setAll, setAll_other vs _ nb (o + 1) b i (by omega), World.cell?_setCell_other _ _ _ _ (by simp; omega)]
theorem setAll_same : ∀ (vs : List Value) (w : World) (nb o m : Nat), Room w nb m → o + vs.length ≤ m → ∀ i, i < vs.length → (setAll w nb o vs).cell? ⟨nb, o + i, none⟩ = vs[i]?
  | [], _, _, _, _, _, _, _, h => by simp at h
  | v :: vs, w, nb, o, m, hr, hm, i, hi => by
    rw [List.length_cons] at hm hi
    cases i with
    | zero =>
      obtain ⟨u, hu⟩ := (hr.2 o (by omega)).1
      rw [setAll, setAll_other vs _ nb (o + 1) nb (o + 0) (by omega)]
      exact World.cell?_setCell_same _ _ _ hu
    | succ i =>
      have := setAll_same vs (w.setCell ⟨nb, o, none⟩ v) nb (o + 1) m (hr.set o v) (by omega) i (by omega)
      rw [setAll, show o + (i + 1) = o + 1 + i by omega, this]
      rfl
theorem setAll_room : ∀ (vs : List Value) (w : World) (nb o m : Nat), Room w nb m → Room (setAll w nb o vs) nb m
  | [], _, _, _, _, h => h
  | v :: vs, _, nb, o, m, h => setAll_room vs _ nb (o + 1) m (h.set o v)
theorem setAll_below : ∀ (vs : List Value) (w0 w : World) (B nb o : Nat), B ≤ nb → Below B w0 w → Below B w0 (setAll w nb o vs)
  | [], _, _, _, _, _, _, h => h
  | v :: vs, w0, _, B, nb, o, hB, h => setAll_below vs w0 _ B nb (o + 1) hB (h.setCell (p := ⟨nb, o, none⟩) hB v)
theorem setAll_agree (vs : List Value) (w : World) (B lo nb o : Nat) (h1 : B ≤ nb) (h2 : nb < lo) : Agree B lo w (setAll w nb o vs) :=
  ⟨by rw [setAll_size]; exact Nat.le_refl _, fun b i u hb hu => by rw [setAll_other _ _ _ _ _ _ (by omega)]; exact hu⟩

structure Fill {α : Type} (C : World → Nat → Nat → α → Prop) (sz B : Nat) (w : World) (l : List α) (k : Nat) (wx : World) : Prop where
  old : B ≤ w.heap.size
  below : Below w.heap.size w wx
  room : Room wx w.heap.size (l.length * sz)
  done : ∀ j x, j < k → l[j]? = some x → ∃ vals : List Value, vals.length = sz ∧ (∀ i, i < sz → wx.cell? ⟨w.heap.size, j * sz + i, none⟩ = vals[i]?) ∧
    ∀ wy b o, Agree B (w.heap.size + 1) wx wy → (∀ i, i < sz → wy.cell? ⟨b, o + i, none⟩ = vals[i]?) → C wy b o x
theorem Fill.new {α : Type} {C : World → Nat → Nat → α → Prop} {sz B : Nat} {w : World} (l : List α) (hB : B ≤ w.heap.size) (cs : Array Value) (t : TypeId) (hcs : cs.size = l.length * sz) : Fill C sz B w l 0 (w.alloc (.cells cs t)) :=
  ⟨hB, (Below.refl _ _).alloc (Nat.le_refl _) _, hcs ▸ Room.new w cs t, fun _ _ h => by omega⟩
theorem Fill.call {α : Type} {C : World → Nat → Nat → α → Prop} {sz B : Nat} {w : World} {l : List α} {k : Nat} {wx w2 : World} (h : Fill C sz B w l k wx) (hb : Below wx.heap.size wx w2) : Fill C sz B w l k w2 :=
  ⟨h.old, h.below.trans (hb.mono h.below.size), h.room.keep hb, fun j x hj hx => by
    obtain ⟨vals, h1, h2, h3⟩ := h.done j x hj hx
    refine ⟨vals, h1, fun i hi => ?_, fun wy b o ha => h3 wy b o ((Agree.of_below hb).trans ha)⟩
    have := h2 i hi
    rw [List.getElem?_eq_getElem (by omega)] at this ⊢
    exact below_cell hb this⟩
theorem Fill.put {α : Type} {C : World → Nat → Nat → α → Prop} {sz B : Nat} {w : World} {l : List α} {k : Nat} {wx : World} (h : Fill C sz B w l k wx) (vals : List Value) (hv : vals.length = sz) (x : α) (hx : l[k]? = some x)
    (hd : ∀ wy b o, Agree B (w.heap.size + 1) wx wy → (∀ i, i < sz → wy.cell? ⟨b, o + i, none⟩ = vals[i]?) → C wy b o x) : Fill C sz B w l (k + 1) (setAll wx w.heap.size (k * sz) vals) := by
  have hk : k < l.length := (List.getElem?_eq_some_iff.1 hx).1
  have hm : k * sz + sz ≤ l.length * sz := by
    have := Nat.mul_le_mul_right sz (show k + 1 ≤ l.length from hk)
    rw [Nat.add_mul, Nat.one_mul] at this
    exact this
  have ha := setAll_agree vals wx B (w.heap.size + 1) w.heap.size (k * sz) h.old (Nat.lt_succ_self _)
  refine ⟨h.old, setAll_below vals w wx _ _ _ (Nat.le_refl _) h.below, setAll_room vals wx _ _ _ h.room, fun j y hj hy => ?_⟩
  by_cases e : j = k
  · subst e
    obtain rfl : x = y := Option.some.inj (hx.symm.trans hy)
    exact ⟨vals, hv, fun i hi => setAll_same vals wx _ _ _ h.room (by omega) i (by omega), fun wy b o hw => hd wy b o (ha.trans hw)⟩
  · obtain ⟨vs, h1, h2, h3⟩ := h.done j y (by omega) hy
    refine ⟨vs, h1, fun i hi => ?_, fun wy b o hw => h3 wy b o (ha.trans hw)⟩
    have : j * sz + sz ≤ k * sz := by
      have := Nat.mul_le_mul_right sz (show j + 1 ≤ k by omega)
      rw [Nat.add_mul, Nat.one_mul] at this
      exact this
    rw [setAll_other _ _ _ _ _ _ (by omega)]
    exact h2 i hi
theorem Fill.all {α : Type} {C : World → Nat → Nat → α → Prop} {sz B : Nat} {w : World} {l : List α} {wx : World} (h : Fill C sz B w l l.length wx) (cap : Nat) (wy : World) (ha : Agree B w.heap.size wx wy) :
    RowAt C sz wy (.slice (some ⟨w.heap.size, 0, none⟩) l.length cap) l := by
  refine ⟨_, cap, rfl, .inr ⟨w.heap.size, 0, rfl, Nat.lt_of_lt_of_le h.room.1 ha.1, fun j x hx => ?_⟩⟩
  obtain ⟨vals, h1, h2, h3⟩ := h.done j x (List.getElem?_eq_some_iff.1 hx).1 hx
  refine h3 wy _ _ (ha.mono (Nat.le_refl _) (Nat.le_succ _)) fun i hi => ?_
  have := h2 i hi
  rw [List.getElem?_eq_getElem (by omega)] at this ⊢
  rw [Nat.zero_add]
  exact ha.2 _ _ _ (.inr (Nat.le_refl _)) this
end Go.Proofs.Qxb6602438aDoor
