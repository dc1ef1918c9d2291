import Derived.Test.Qxb6602438aDoorTd
namespace Go.Proofs.Qxb6602438aDoor
open Go.RowKit Go Go.PlainAid

/-- No row is too long. -/
def shortS (sg : PSeg) : Prop := ∀ ts, sg.g = some ts → ts.length ≤ 1048576

set_option maxRecDepth 100000 in
set_option maxHeartbeats 8000000 in
theorem segs19_main (ss : List PSeg) (a : Option Addr) (cap : Nat) (w0 w : World) (hw : Keeps w0 w) (hl : ss.length ≤ 1048576) (hsh : ∀ sg ∈ ss, shortS sg)
    (h : ∀ j x, ss[j]? = some x → ∃ b off, a = some ⟨b, off, none⟩ ∧ SegAt w0 b (off + j * 3) x) :
    Calls Tryd.prog 19 #[.slice a ss.length cap] w (RetN (fun wy v => SegsAt wy v ss) w0.heap.size w) := by
  obtain ⟨N, hN⟩ : ∃ N, N = ss.length := ⟨_, rfl⟩
  have HN : Hid (N = ss.length) := hN
  have HH : Hid (∀ j x, ss[j]? = some x → ∃ b off, a = some ⟨b, off, none⟩ ∧ SegAt w0 b (off + j * 3) x) := h
  have HW : Hid (Keeps w0 w) := hw
  have HSH : Hid (∀ sg ∈ ss, shortS sg) := hsh
  rw [← hN] at hl ⊢
  clear h hw hN hsh
  obtain ⟨Cs, hCs, hmk⟩ := make_ex (P := Tryd.prog) 49 63 3 48 Tryd.underlying49 (by kernel_rfl) N ss.length HN.out (by omega) (by omega) w
  go_enter Tryd.func19, Tryd.ntmps19
  go_wp2_with fail
  have HF0 : Hid (Fill SegAt 3 w0.heap.size w ss 0 (w.alloc (.cells Cs 63))) := Fill.new ss HW.out.1 Cs 63 hCs.out
  clear hmk hCs
  go_loopg [4] N (fun g s4 wx => ∃ k : Nat, k ≤ N ∧ g = N - k ∧ s4 = .int .i64 k ∧ Hid (Fill SegAt 3 w0.heap.size w ss k wx))
  case atStart => exact ⟨0, Nat.zero_le _, rfl, rfl, HF0⟩
  case round =>
    clear HF0
    obtain ⟨k, hk, hgk, rfl, HF⟩ := hrel
    have HGK : Hid (_ = N - k) := hgk
    clear hgk
    by_cases hlt : k < N
    · have hlz : (k : Int) < (N : Int) := by omega
      obtain ⟨sg, hsg⟩ : ∃ sg, ss[k]? = some sg := ⟨_, List.getElem?_eq_getElem (by rw [← HN.out]; exact hlt)⟩
      obtain ⟨b, off, rfl, A0⟩ := HH.out k sg hsg
      have HK : Hid (Keeps w0 wr) := HW.out.trans (Keeps.of_below HF.out.below)
      have A := A0.kept HK.out
      have c0 := A.ds
      have c1 := A.li
      obtain ⟨gv, g2, g3⟩ := A0.g
      have c2 := HK.out.2 _ _ _ g2
      obtain ⟨ga, gn, gc, hgv⟩ : ∃ a n c, gv = .slice a n c := by
        obtain ⟨ds, li, g⟩ := sg
        cases g with
        | none => exact ⟨_, _, _, g3⟩
        | some ts => obtain ⟨⟨a, n, c, e⟩, _⟩ := g3; exact ⟨_, _, _, e⟩
      subst hgv
      have C29 : Hid (∀ wc, Keeps w0 wc → Calls Tryd.prog 29 #[.slice ga gn gc] wc (RetN (fun wy v => ToksAt wy v sg.g) w0.heap.size wc)) := fun wc hw => toks29 sg.g _ w0 wc hw (HSH.out sg (List.mem_of_getElem? hsg)) g3
      obtain ⟨D, hD⟩ : ∃ D, D = sg.ds := ⟨_, rfl⟩
      obtain ⟨L, hL⟩ : ∃ L, L = sg.li := ⟨_, rfl⟩
      rw [← hD] at c0
      rw [← hL] at c1
      have HD : Hid (∀ v wy b o, ToksAt wy v sg.g → (∀ i, i < 3 → wy.cell? ⟨b, o + i, none⟩ = [Value.bool D, .string L, v][i]?) → SegAt wy b o sg) := fun v wy b o hv hc => by
        refine ⟨?_, ?_, ⟨v, hc 2 (by decide), hv⟩, A0.ll⟩
        · rw [← hD]; exact hc 0 (by decide)
        · rw [← hL]; exact hc 1 (by decide)
      have HX : Hid (ss[k]? = some sg) := hsg
      have hne : b ≠ w.heap.size := by have := cell_lt' A0.ds; have := HW.out.1; omega
      have hne' := hne.symm
      clear A A0 hD hL hsg g2 g3
      go_upto_region 5 with fail
      go_region_held3 (fun w' => w'.cell? ⟨b, off + k * 3, none⟩ = some (.bool D) ∧ w'.cell? ⟨b, off + k * 3 + 1, none⟩ = some (.string L) ∧ w'.cell? ⟨b, off + k * 3 + 2, none⟩ = some (.slice ga gn gc)) (go_keep)
        (first
          | (go_at_call 29; refine (C29.out _ ?_).mono ?_; exact HK.out; rintro e w1 ⟨na, nn, nc, rfl, hb, hg⟩; have d0 := below_cell (w := wr.drew) hb c0; have d1 := below_cell (w := wr.drew) hb c1; have d2 := below_cell (w := wr.drew) hb c2;
              have HG : Hid (∀ wy, Agree w0.heap.size wr.heap.size w1 wy → ToksAt wy (.slice na nn nc) sg.g) := hg; have HF1 : Hid (Fill SegAt 3 w0.heap.size w ss k w1) := Fill.drawn HF.out hb; have HS1 : Hid (wr.heap.size ≤ w1.heap.size) := hb.size; clear hb hg)
          | (go_at_call 28; refine (seg28 _ _ _ _ _ _).mono ?_; rintro e w' ⟨rfl, hb⟩; have e0 := below_cell hb d0; have e1 := below_cell hb d1; have e2 := below_cell hb d2;
              have HF2 : Hid (Fill SegAt 3 w0.heap.size w ss k w') := Fill.call HF1.out hb; have HG2 : Hid (∀ wy, Agree w0.heap.size wr.heap.size w' wy → ToksAt wy (.slice na nn nc) sg.g) := fun wy ha => HG.out wy ((Agree.of_below hb).trans ha); clear hb; obtain ⟨_, r0, f0⟩ := HF2.out.spot0 HX.out (by decide); obtain ⟨_, r1, f1⟩ := HF2.out.spot HX.out 1 (by decide); obtain ⟨_, r2, f2⟩ := HF2.out.spot HX.out 2 (by decide)))
      go_wp2_with fail
      go_roundg (N - (k + 1))
      case measure => have := HGK.out; omega
      case rel =>
        refine ⟨k + 1, hlt, rfl, by first | rfl | go_num | simp, HF2.out.put [.bool D, .string L, .slice na nn nc] rfl sg HX.out fun wy b o ha hc => HD.out _ wy b o (HG2.out wy (ha.mono (Nat.le_refl _) ?_)) hc⟩
        have := HF.out.room.1
        omega
    · have hkN : k = N := by omega
      have HF' : Hid (Fill SegAt 3 w0.heap.size w ss ss.length wr) := by
        have := HF.out
        rw [hkN, HN.out] at this
        exact this
      go_wp2_with fail
      go_ret
      exact ⟨_, N, N, rfl, HF'.out.below, fun wy ha => ⟨by rw [HN.out]; exact HF'.out.all _ wy ha, by rw [← HN.out]; unfold maxLen; omega⟩⟩

theorem segs19 (ss : List PSeg) (v : Value) (w0 w : World) (hw : Keeps w0 w) (hl : ss.length ≤ 1048576) (hsh : ∀ sg ∈ ss, shortS sg) (h : SegsAt w0 v ss) :
    Calls Tryd.prog 19 #[v] w (RetN (fun wy v => SegsAt wy v ss) w0.heap.size w) := by
  obtain ⟨⟨a, cap, rfl, h⟩, _⟩ := h
  refine segs19_main ss a cap w0 w hw hl hsh fun j x hx => ?_
  rcases h with rfl | ⟨b, off, e, _, h⟩
  · simp at hx
  · exact ⟨b, off, e, h j x hx⟩
end Go.Proofs.Qxb6602438aDoor
