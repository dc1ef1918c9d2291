import Derived.Test.Qxb6602438aDoorTa
import Derived.Deep.DeepCutAuto
import Derived.Laws.MakeOwn
namespace Go.Proofs.Qxb6602438aDoor
open Go.RowKit Go Go.PlainAid

/-- 'make([]T, n)' at whatever element type. -/
theorem make_any {P : Program} (t e : TypeId) (z : Value) (s bytes : Nat) (ht : P.underlying t = some (.slice e)) (hinfo : (P.info? e).map (fun i => (i.zero, i.size, i.bytes)) = some (some z, s, bytes))
    (n : Nat) (hb : bytes * n ≤ 281474976710656) (h63 : n ≤ 9223372036854775807) (w : World) :
    (Instr.makeSlice t (.int .i64 (n : Int)) (.int .i64 (n : Int))).run P w = .ok (.slice (some ⟨w.heap.size, 0, none⟩) n n) (w.alloc (.cells (madeCells z.cells (n * s)) e)) := by
  obtain ⟨i, hi, hzz⟩ := Option.map_eq_some_iff.1 hinfo
  simp only [Prod.mk.injEq] at hzz
  obtain ⟨hz, hs, hbb⟩ := hzz
  have hb' : (i.bytes : Int) * (n : Int) ≤ 281474976710656 := by
    have h : ((i.bytes * n : Nat) : Int) ≤ 281474976710656 := by rw [hbb]; omega
    rwa [Int.natCast_mul] at h
  have hr := run_make (P := P) w t e i z ht hi hz .i64 .i64 n n (by omega) (Int.le_refl _) hb' (by omega)
  simp only [Int.toNat_natCast, hs] at hr
  exact hr

/-- A new row of m cells in block nb that may be written. -/
def Room (w : World) (nb m : Nat) : Prop := nb < w.heap.size ∧ ∀ i, i < m → (∃ v, w.cell? ⟨nb, i, none⟩ = some v) ∧ w.frozen? ⟨nb, i, none⟩ = false
theorem Room.keep {w w' : World} {nb m : Nat} (hb : Below w.heap.size w w') (h : Room w nb m) : Room w' nb m :=
  ⟨Nat.lt_of_lt_of_le h.1 hb.size, fun i hi => by
    obtain ⟨⟨v, h1⟩, h2⟩ := h.2 i hi
    exact ⟨⟨v, below_cell hb h1⟩, by rw [hb.frozen (by exact h.1)]; exact h2⟩⟩
theorem Room.new (w : World) (C : Array Value) (t : TypeId) : Room (w.alloc (.cells C t)) w.heap.size C.size :=
  ⟨by rw [World.size_alloc]; omega, fun i hi => ⟨⟨C[i], by rw [World.cell?_alloc_mark, Array.getElem?_eq_getElem hi]⟩, by rw [World.frozen?_alloc_mark]; rfl⟩⟩
theorem Room.set {w : World} {nb m : Nat} (h : Room w nb m) (i : Nat) (v : Value) : Room (w.setCell ⟨nb, i, none⟩ v) nb m := by
  refine ⟨by rw [World.size_setCell]; exact h.1, fun j hj => ⟨?_, by rw [World.frozen?_setCell]; exact (h.2 j hj).2⟩⟩
  obtain ⟨u, hu⟩ := (h.2 j hj).1
  by_cases e : j = i
  · subst e
    exact ⟨v, World.cell?_setCell_same _ _ _ hu⟩
  · exact ⟨u, by rw [World.cell?_setCell_other _ _ _ _ (by first | (simp; done) | (simp; omega))]; exact hu⟩
end Go.Proofs.Qxb6602438aDoor
