import Derived.Test.Qxb6602438aDoorMa
namespace Go.Proofs.Qxb6602438aDoor
open Go.RowKit Go Go.PlainAid

def RetR (r : Bool) (w : World) (e : Ending) (w' : World) : Prop := e = .returned (.bool r) ∧ Below w.heap.size w w'

theorem take_rev (ps : List PPat) (j : Nat) (q : PPat) (h : ps[j]? = some q) : (ps.take (j + 1)).reverse = q :: (ps.take j).reverse := by
  obtain ⟨h1, h2⟩ := List.getElem?_eq_some_iff.1 h
  rw [List.take_succ_eq_append_getElem h1, List.reverse_append, h2]
  rfl
theorem split23 (p : ByteArray) (w : World) (hp : p.size ≤ 1000000) (hsh : w.ShapedOpen Tryd.prog) :
    Calls Tryd.prog 23 #[.string p, .string ⟨#[47]⟩] w fun e w' => e = .returned (.slice (some ⟨w.heap.size, 0, none⟩) (elsOf p).length (elsOf p).length) ∧ w' = w.alloc (.cells ((elsOf p).map Value.string).toArray 9) := by
  have h := Tryd.strings_Split_shaped p ⟨#[47]⟩ w hsh (by omega) (by decide)
  have e : (elsOf p).length = Lib.countB p ⟨#[47]⟩ + 1 := Lib.splitB_all ⟨#[47]⟩ (by decide) 0 _ p rfl
  rw [e]
  exact h
theorem els_new (p : ByteArray) (w : World) (j : Nat) (x : ByteArray) (h : (elsOf p)[j]? = some x) : (w.alloc (.cells ((elsOf p).map Value.string).toArray 9)).cell? ⟨w.heap.size, 0 + j, none⟩ = some (.string x) := by
  rw [World.cell?_alloc_mark, List.getElem?_toArray, List.getElem?_map, Nat.zero_add, h]
  rfl
theorem els_bounds (p : ByteArray) (hp : p.size ≤ 100000) : (elsOf p).length ≤ 1000000 ∧ ∀ x ∈ elsOf p, x.size ≤ 1000000 := by
  refine ⟨?_, fun x hx => ?_⟩
  · have e : (elsOf p).length = Lib.countB p ⟨#[47]⟩ + 1 := Lib.splitB_all ⟨#[47]⟩ (by decide) 0 _ p rfl
    have := Lib.countB_le ⟨#[47]⟩ (by decide) p.size p (Nat.le_refl _)
    omega
  · have := split_small _ p x hx
    omega
theorem name_le (p : ByteArray) : (nameOf p).size ≤ p.size := by
  unfold nameOf
  rw [ByteArray.size_extract]; omega
/-- The call of matchElems over what lies in memory. -/
theorem elemsAt (ss : List PSeg) (p : ByteArray) (v : Value) (eb : Nat) (w : World) (hp : p.size ≤ 100000) (hok : ∀ sg ∈ ss, okS sg) (h : SegsAt w v ss)
    (he : ∀ j x, (elsOf p)[j]? = some x → w.cell? ⟨eb, 0 + j, none⟩ = some (.string x)) :
    Calls Tryd.prog 24 #[v, .slice (some ⟨eb, 0, none⟩) (elsOf p).length (elsOf p).length] w fun e w' => e = .returned (.bool (elemsB ss (elsOf p))) ∧ Below w.heap.size w w' := by
  obtain ⟨⟨a, cap, rfl, h⟩, hl⟩ := h
  obtain ⟨b1, b2⟩ := els_bounds p hp
  refine (elems ss (elsOf p) a cap eb 0 _ w hl b1 b2 hok (fun j x hx => ?_) he).mono fun _ _ h => ⟨h.1, ?_⟩
  · rcases h with rfl | ⟨b, off, e, _, h2⟩
    · simp at hx
    · exact ⟨b, off, e, h2 j x hx⟩
  · obtain ⟨k, e⟩ := h.2
    rw [e]; exact below_drewN (Below.refl _ _) k
theorem last_bounds (p : ByteArray) : -1 ≤ Lib.lastIndexByte p 47 ∧ Lib.lastIndexByte p 47 < p.size := by
  rcases Lib.lastIdx_spec p 47 p.size with ⟨h, _⟩ | ⟨i, h1, h2, _⟩
  · unfold Lib.lastIndexByte; rw [h]; omega
  · unfold Lib.lastIndexByte; rw [h2]; omega
theorem cnt_bounds (p : ByteArray) : 0 ≤ (Lib.countByte p.data.toList 47 : Int) ∧ (Lib.countByte p.data.toList 47 : Int) ≤ p.size := by
  refine ⟨by omega, ?_⟩
  have := List.count_le_length (a := (47 : UInt8)) (l := p.data.toList)
  rw [← Lib.size_eq] at this
  unfold Lib.countByte
  omega
end Go.Proofs.Qxb6602438aDoor
