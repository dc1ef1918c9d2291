import Derived.Test.Qxb6602823aDoorVb
namespace Go.Proofs.Qxb6602823aDoor
open Go.RowKit Go Go.PlainAid

theorem z41 : 2 ≤ Tryd.zeroCells41.size := of_decide_eq_true (by kernel_rfl)
theorem set2 (Z : Array Value) (a b : Value) (h : 2 ≤ Z.size) : ((Z.setIfInBounds 0 a).setIfInBounds 1 b)[0]? = some a ∧ ((Z.setIfInBounds 0 a).setIfInBounds 1 b)[1]? = some b := by
  refine ⟨?_, ?_⟩
  · rw [Array.getElem?_setIfInBounds_ne (by decide), Array.getElem?_setIfInBounds_self_of_lt (by omega)]
  · rw [Array.getElem?_setIfInBounds_self_of_lt (by rw [Array.size_setIfInBounds]; omega)]

/-- The new validator. -/
theorem vs_new (c : ByteArray) (cap B : Nat) (w : World) (hB : B < w.heap.size) (hb : ∀ j, j < c.size → w.cell? ⟨B, j, none⟩ = some (.int .u8 (bt c j))) :
    VS c cap w.heap.size B 0 (w.alloc (.cells ((Tryd.zeroCells41.setIfInBounds 0 (.slice (some ⟨B, 0, none⟩) c.size cap)).setIfInBounds 1 (.int .i64 0)) 41)) := by
  obtain ⟨s0, s1⟩ := set2 Tryd.zeroCells41 (.slice (some ⟨B, 0, none⟩) c.size cap) (.int .i64 0) z41
  refine ⟨?_, ?_, ?_, fun j hj => ?_, hB⟩
  · rw [World.cell?_alloc_mark]; exact s0
  · rw [World.cell?_alloc_mark]; exact s1
  · rw [World.frozen?_alloc_mark]; rfl
  · rw [((Below.refl w.heap.size w).alloc (Nat.le_refl _) _).cell (by exact hB)]
    exact hb j hj

set_option maxRecDepth 100000 in
set_option maxHeartbeats 4000000 in
theorem valid (c : ByteArray) (cap B : Nat) (hn : c.size ≤ 4000100) (hx : rd c.data.toList ≠ none) (w : World) (hB : B < w.heap.size) (hb : ∀ j, j < c.size → w.cell? ⟨B, j, none⟩ = some (.int .u8 (bt c j))) :
    Calls Tryd.prog 11 #[.slice (some ⟨B, 0, none⟩) c.size cap, .int .i64 0] w fun e w' => e = .returned (.tuple #[.bool true, .int .i64 c.size]) ∧ Below w.heap.size w w' := by
  obtain ⟨W, hW⟩ : ∃ W, W = w.alloc (.cells ((Tryd.zeroCells41.setIfInBounds 0 (.slice (some ⟨B, 0, none⟩) c.size cap)).setIfInBounds 1 (.int .i64 0)) 41) := ⟨_, rfl⟩
  have C : Hid (Calls Tryd.prog 16 #[.pointer (some ⟨w.heap.size, 0, none⟩)] W fun e w' => e = .returned (.bool true) ∧ VS c cap w.heap.size B c.size w' ∧ Below w.heap.size W w') := by
    rw [hW]; exact number c cap w.heap.size B hn hx _ (vs_new c cap B w hB hb)
  have HW : Hid (Below w.heap.size w W) := by rw [hW]; exact (Below.refl _ _).alloc (Nat.le_refl _) _
  clear hx hB hb
  go_enter Tryd.func11, Tryd.ntmps11
  go_upto_region 2 with fail
  rw [← hW]
  clear hW
  go_wp2_with (go_at_call 16; refine C.out.mono ?_; rintro e w' ⟨rfl, hV, hB⟩; have HV : Hid (VS c cap w.heap.size B c.size w') := hV; have HB : Hid (Below w.heap.size W w') := hB; clear hV hB)
  have e1 := HV.out.at'
  go_quiet (fail)
  go_wp2_with fail
  go_ret2
  exact ⟨rfl, below_drewN (HW.out.trans HB.out) _⟩
end Go.Proofs.Qxb6602823aDoor
