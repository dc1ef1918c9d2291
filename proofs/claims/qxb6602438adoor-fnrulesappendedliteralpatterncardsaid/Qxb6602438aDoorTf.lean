import Derived.Test.Qxb6602438aDoorTe
namespace Go.Proofs.Qxb6602438aDoor
open Go.RowKit Go Go.PlainAid

/-- No row is too long. -/
def shortP (q : PPat) : Prop := q.segs.length ≤ 1048576 ∧ ∀ sg ∈ q.segs, shortS sg

set_option maxRecDepth 100000 in
set_option maxHeartbeats 8000000 in
theorem pats11_main (ps : List PPat) (a : Option Addr) (cap : Nat) (w0 w : World) (hw : Keeps w0 w) (hl : ps.length ≤ 1048576) (hsh : ∀ q ∈ ps, shortP q)
    (h : ∀ j x, ps[j]? = some x → ∃ b off, a = some ⟨b, off, none⟩ ∧ PatAt w0 b (off + j * 6) x) :
    Calls Tryd.prog 11 #[.slice a ps.length cap] w (RetN (fun wy v => PatsAt wy v ps) w0.heap.size w) := by
  obtain ⟨N, hN⟩ : ∃ N, N = ps.length := ⟨_, rfl⟩
  have HN : Hid (N = ps.length) := hN
  have HH : Hid (∀ j x, ps[j]? = some x → ∃ b off, a = some ⟨b, off, none⟩ ∧ PatAt w0 b (off + j * 6) x) := h
  have HW : Hid (Keeps w0 w) := hw
  have HSH : Hid (∀ q ∈ ps, shortP q) := hsh
  rw [← hN] at hl ⊢
  clear h hw hN hsh
  obtain ⟨Cs, hCs, hmk⟩ := make_ex (P := Tryd.prog) 36 51 6 48 Tryd.underlying36 (by kernel_rfl) N ps.length HN.out (by omega) (by omega) w
  go_enter Tryd.func11, Tryd.ntmps11
  go_wp2_with fail
  have HF0 : Hid (Fill PatAt 6 w0.heap.size w ps 0 (w.alloc (.cells Cs 51))) := Fill.new ps HW.out.1 Cs 51 hCs.out
  clear hmk hCs
  go_loopg [4] N (fun g s4 wx => ∃ k : Nat, k ≤ N ∧ g = N - k ∧ s4 = .int .i64 k ∧ Hid (Fill PatAt 6 w0.heap.size w ps k wx))
  case atStart => exact ⟨0, Nat.zero_le _, rfl, rfl, HF0⟩
  case round =>
    clear HF0
    obtain ⟨k, hk, hgk, rfl, HF⟩ := hrel
    have HGK : Hid (_ = N - k) := hgk
    clear hgk
    by_cases hlt : k < N
    · have hlz : (k : Int) < (N : Int) := by omega
      obtain ⟨q, hq⟩ : ∃ q, ps[k]? = some q := ⟨_, List.getElem?_eq_getElem (by rw [← HN.out]; exact hlt)⟩
      obtain ⟨b, off, rfl, A0⟩ := HH.out k q hq
      have HK : Hid (Keeps w0 wr) := HW.out.trans (Keeps.of_below HF.out.below)
      obtain ⟨gv, g2, g3⟩ := A0.segs
      have c0 := HK.out.2 _ _ _ A0.ng
      have c1 := HK.out.2 _ _ _ A0.dO
      have c2 := HK.out.2 _ _ _ A0.an
      have c3 := HK.out.2 _ _ _ g2
      have c4 := HK.out.2 _ _ _ A0.el
      have c5 := HK.out.2 _ _ _ A0.sp
      have HQS := HSH.out q (List.mem_of_getElem? hq)
      obtain ⟨ga, gn, gc, hgv⟩ : ∃ a n c, gv = .slice a n c := by
        obtain ⟨⟨a, cap, e, _⟩, _⟩ := g3
        exact ⟨_, _, _, e⟩
      subst hgv
      have C19 : Hid (∀ wc, Keeps w0 wc → Calls Tryd.prog 19 #[.slice ga gn gc] wc (RetN (fun wy v => SegsAt wy v q.segs) w0.heap.size wc)) := fun wc hw => segs19 q.segs _ w0 wc hw HQS.1 HQS.2 g3
      obtain ⟨X0, h0⟩ : ∃ X, X = q.ng := ⟨_, rfl⟩
      obtain ⟨X1, h1⟩ : ∃ X, X = q.dO := ⟨_, rfl⟩
      obtain ⟨X2, h2⟩ : ∃ X, X = q.an := ⟨_, rfl⟩
      obtain ⟨X4, h4⟩ : ∃ X, X = q.el := ⟨_, rfl⟩
      obtain ⟨X5, h5⟩ : ∃ X, X = q.sp := ⟨_, rfl⟩
      rw [← h0] at c0
      rw [← h1] at c1
      rw [← h2] at c2
      rw [← h4] at c4
      rw [← h5] at c5
      have HD : Hid (∀ v wy b o, SegsAt wy v q.segs → (∀ i, i < 6 → wy.cell? ⟨b, o + i, none⟩ = [Value.bool X0, .bool X1, .bool X2, v, .int .i64 X4, .bool X5][i]?) → PatAt wy b o q) := fun v wy b o hv hc => by
        refine ⟨?_, ?_, ?_, ⟨v, hc 3 (by decide), hv⟩, ?_, ?_, A0.er⟩
        · rw [← h0]; exact hc 0 (by decide)
        · rw [← h1]; exact hc 1 (by decide)
        · rw [← h2]; exact hc 2 (by decide)
        · rw [← h4]; exact hc 4 (by decide)
        · rw [← h5]; exact hc 5 (by decide)
      have HX : Hid (ps[k]? = some q) := hq
      have hne : b ≠ w.heap.size := by have := cell_lt' A0.ng; have := HW.out.1; omega
      have hne' := hne.symm
      clear A0 h0 h1 h2 h4 h5 hq g2 g3 HQS
      go_upto_region 5 with fail
      go_region_held3 (fun w' => w'.cell? ⟨b, off + k * 6, none⟩ = some (.bool X0) ∧ w'.cell? ⟨b, off + k * 6 + 1, none⟩ = some (.bool X1) ∧ w'.cell? ⟨b, off + k * 6 + 2, none⟩ = some (.bool X2) ∧ w'.cell? ⟨b, off + k * 6 + 3, none⟩ = some (.slice ga gn gc)
          ∧ w'.cell? ⟨b, off + k * 6 + 4, none⟩ = some (.int .i64 X4) ∧ w'.cell? ⟨b, off + k * 6 + 5, none⟩ = some (.bool X5)) (go_keep)
        (first
          | (go_at_call 19; refine (C19.out _ ?_).mono ?_; exact HK.out; rintro e w1 ⟨na, nn, nc, rfl, hb, hg⟩; have d0 := below_cell (w := wr.drew) hb c0; have d1 := below_cell (w := wr.drew) hb c1; have d2 := below_cell (w := wr.drew) hb c2; have d3 := below_cell (w := wr.drew) hb c3; have d4 := below_cell (w := wr.drew) hb c4; have d5 := below_cell (w := wr.drew) hb c5;
              have HG : Hid (∀ wy, Agree w0.heap.size wr.heap.size w1 wy → SegsAt wy (.slice na nn nc) q.segs) := hg; have HF1 : Hid (Fill PatAt 6 w0.heap.size w ps k w1) := Fill.drawn HF.out hb; clear hb hg)
          | (go_at_call 18; refine (pat18 _ _ _ _ _ _ _ _ _).mono ?_; rintro e w' ⟨rfl, hb⟩; have e0 := below_cell hb d0; have e1 := below_cell hb d1; have e2 := below_cell hb d2; have e3 := below_cell hb d3; have e4 := below_cell hb d4; have e5 := below_cell hb d5;
              have HF2 : Hid (Fill PatAt 6 w0.heap.size w ps k w') := Fill.call HF1.out hb; have HG2 : Hid (∀ wy, Agree w0.heap.size wr.heap.size w' wy → SegsAt wy (.slice na nn nc) q.segs) := fun wy ha => HG.out wy ((Agree.of_below hb).trans ha); clear hb d0 d1 d2 d3 d4 d5 c0 c1 c2 c3 c4 c5;
              obtain ⟨_, r0, f0⟩ := HF2.out.spot0 HX.out (by decide); obtain ⟨_, r1, f1⟩ := HF2.out.spot HX.out 1 (by decide); obtain ⟨_, r2, f2⟩ := HF2.out.spot HX.out 2 (by decide); obtain ⟨_, r3, f3⟩ := HF2.out.spot HX.out 3 (by decide); obtain ⟨_, r4, f4⟩ := HF2.out.spot HX.out 4 (by decide); obtain ⟨_, r5, f5⟩ := HF2.out.spot HX.out 5 (by decide)))
      go_wp2_with fail
      go_roundg (N - (k + 1))
      case measure => have := HGK.out; omega
      case rel =>
        refine ⟨k + 1, hlt, rfl, by first | rfl | go_num | simp, HF2.out.put [.bool X0, .bool X1, .bool X2, .slice na nn nc, .int .i64 X4, .bool X5] rfl q HX.out fun wy b o ha hc => HD.out _ wy b o (HG2.out wy (ha.mono (Nat.le_refl _) ?_)) hc⟩
        have := HF.out.room.1
        omega
    · have hkN : k = N := by omega
      have HF' : Hid (Fill PatAt 6 w0.heap.size w ps ps.length wr) := by
        have := HF.out
        rw [hkN, HN.out] at this
        exact this
      go_wp2_with fail
      go_ret
      exact ⟨_, N, N, rfl, HF'.out.below, fun wy ha => ⟨by rw [HN.out]; exact HF'.out.all _ wy ha, by rw [← HN.out]; unfold maxLen; omega⟩⟩

theorem pats11 (ps : List PPat) (v : Value) (w0 w : World) (hw : Keeps w0 w) (hl : ps.length ≤ 1048576) (hsh : ∀ q ∈ ps, shortP q) (h : PatsAt w0 v ps) :
    Calls Tryd.prog 11 #[v] w (RetN (fun wy v => PatsAt wy v ps) w0.heap.size w) := by
  obtain ⟨⟨a, cap, rfl, h⟩, _⟩ := h
  refine pats11_main ps a cap w0 w hw hl hsh fun j x hx => ?_
  rcases h with rfl | ⟨b, off, e, _, h⟩
  · simp at hx
  · exact ⟨b, off, e, h j x hx⟩
end Go.Proofs.Qxb6602438aDoor
