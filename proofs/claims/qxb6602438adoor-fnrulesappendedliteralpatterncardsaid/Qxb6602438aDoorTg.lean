import Derived.Test.Qxb6602438aDoorTf
namespace Go.Proofs.Qxb6602438aDoor
open Go.RowKit Go Go.PlainAid

theorem PatAt.vals {w0 : World} {b o : Nat} {q : PPat} (A0 : PatAt w0 b o q) : ∃ X0 X1 X2 X4 X5 ga gn gc, (w0.cell? ⟨b, o, none⟩ = some (.bool X0) ∧ w0.cell? ⟨b, o + 1, none⟩ = some (.bool X1) ∧ w0.cell? ⟨b, o + 2, none⟩ = some (.bool X2) ∧ w0.cell? ⟨b, o + 3, none⟩ = some (.slice ga gn gc)
    ∧ w0.cell? ⟨b, o + 4, none⟩ = some (.int .i64 X4) ∧ w0.cell? ⟨b, o + 5, none⟩ = some (.bool X5)) ∧
    ∀ wy b o, Keeps w0 wy → (∀ i, i < 6 → wy.cell? ⟨b, o + i, none⟩ = [Value.bool X0, .bool X1, .bool X2, .slice ga gn gc, .int .i64 X4, .bool X5][i]?) → PatAt wy b o q := by
  obtain ⟨gv, g2, g3⟩ := A0.segs
  obtain ⟨ga, gn, gc, hgv⟩ : ∃ a n c, gv = .slice a n c := by
    obtain ⟨⟨a, cap, e, _⟩, _⟩ := g3
    exact ⟨_, _, _, e⟩
  subst hgv
  refine ⟨_, _, _, _, _, ga, gn, gc, ⟨A0.ng, A0.dO, A0.an, g2, A0.el, A0.sp⟩, fun wy b o hk hc => ?_⟩
  exact ⟨hc 0 (by decide), hc 1 (by decide), hc 2 (by decide), ⟨_, hc 3 (by decide), g3.kept hk⟩, hc 4 (by decide), hc 5 (by decide), A0.er⟩

set_option maxRecDepth 100000 in
set_option maxHeartbeats 8000000 in
theorem join9_main (ps qs : List PPat) (a a2 : Option Addr) (cap cap2 : Nat) (w : World) (hl : ps.length ≤ 1000000) (hl2 : qs.length ≤ 1000)
    (h : ∀ j x, ps[j]? = some x → ∃ b off, a = some ⟨b, off, none⟩ ∧ PatAt w b (off + j * 6) x) (h2 : ∀ j x, qs[j]? = some x → ∃ b off, a2 = some ⟨b, off, none⟩ ∧ PatAt w b (off + j * 6) x) :
    Calls Tryd.prog 9 #[.slice a ps.length cap, .slice a2 qs.length cap2] w (RetN (fun wy v => PatsAt wy v (ps ++ qs)) w.heap.size w) := by
  obtain ⟨N, hN⟩ : ∃ N, N = ps.length := ⟨_, rfl⟩
  have HN : Hid (N = ps.length) := hN
  obtain ⟨M, hM⟩ : ∃ M, M = qs.length := ⟨_, rfl⟩
  have HM : Hid (M = qs.length) := hM
  have HH : Hid (∀ j x, ps[j]? = some x → ∃ b off, a = some ⟨b, off, none⟩ ∧ PatAt w b (off + j * 6) x) := h
  have HH2 : Hid (∀ j x, qs[j]? = some x → ∃ b off, a2 = some ⟨b, off, none⟩ ∧ PatAt w b (off + j * 6) x) := h2
  rw [← hN] at hl ⊢
  rw [← hM] at hl2 ⊢
  clear h h2 hN hM
  obtain ⟨Cs, hCs, hmk⟩ := make_ex (P := Tryd.prog) 22 33 6 48 Tryd.underlying22 (by kernel_rfl) (N + M) (ps ++ qs).length (by rw [List.length_append, HN.out, HM.out]) (by omega) (by omega) w
  rw [Int.natCast_add] at hmk
  go_enter Tryd.func9, Tryd.ntmps9
  go_wp2_with fail
  have HF0 : Hid (Fill PatAt 6 w.heap.size w (ps ++ qs) 0 (w.alloc (.cells Cs 33))) := Fill.new _ (Nat.le_refl _) Cs 33 hCs.out
  clear hmk hCs
  go_loopg [6] N (fun g s6 wx => ∃ k : Nat, k ≤ N ∧ g = N - k ∧ s6 = .int .i64 k ∧ Hid (Fill PatAt 6 w.heap.size w (ps ++ qs) k wx))
  case atStart => exact ⟨0, Nat.zero_le _, rfl, rfl, HF0⟩
  case round =>
    clear HF0
    obtain ⟨k, hk, hgk, rfl, HF⟩ := hrel
    have HGK : Hid (_ = N - k) := hgk
    clear hgk
    by_cases hlt : k < N
    · have hlz : (k : Int) < (N : Int) := by omega
      have hlz2 : (k : Int) < (N : Int) + (M : Int) := by omega
      obtain ⟨q, hq⟩ : ∃ q, ps[k]? = some q := ⟨_, List.getElem?_eq_getElem (by rw [← HN.out]; exact hlt)⟩
      have HX : Hid ((ps ++ qs)[k]? = some q) := by rw [List.getElem?_append_left (by rw [← HN.out]; exact hlt)]; exact hq
      obtain ⟨b, off, rfl, A0⟩ := HH.out k q hq
      have HK : Hid (Keeps w wr) := Keeps.of_below HF.out.below
      obtain ⟨X0, X1, X2, X4, X5, ga, gn, gc, ⟨c0, c1, c2, c3, c4, c5⟩, hd⟩ := A0.vals
      have HD : Hid (∀ wy b o, Keeps w wy → (∀ i, i < 6 → wy.cell? ⟨b, o + i, none⟩ = [Value.bool X0, .bool X1, .bool X2, .slice ga gn gc, .int .i64 X4, .bool X5][i]?) → PatAt wy b o q) := hd
      replace c0 := HK.out.2 _ _ _ c0
      replace c1 := HK.out.2 _ _ _ c1
      replace c2 := HK.out.2 _ _ _ c2
      replace c3 := HK.out.2 _ _ _ c3
      replace c4 := HK.out.2 _ _ _ c4
      replace c5 := HK.out.2 _ _ _ c5
      have hne : b ≠ w.heap.size := by have := cell_lt' A0.ng; omega
      have hne' := hne.symm
      clear A0 hq hd
      obtain ⟨_, r0, f0⟩ := HF.out.spot0 HX.out (by decide)
      obtain ⟨_, r1, f1⟩ := HF.out.spot HX.out 1 (by decide)
      obtain ⟨_, r2, f2⟩ := HF.out.spot HX.out 2 (by decide)
      obtain ⟨_, r3, f3⟩ := HF.out.spot HX.out 3 (by decide)
      obtain ⟨_, r4, f4⟩ := HF.out.spot HX.out 4 (by decide)
      obtain ⟨_, r5, f5⟩ := HF.out.spot HX.out 5 (by decide)
      go_wp2_with fail
      go_roundg (N - (k + 1))
      case measure => have := HGK.out; omega
      case rel =>
        exact ⟨k + 1, hlt, rfl, by first | rfl | go_num | simp, HF.out.put [.bool X0, .bool X1, .bool X2, .slice ga gn gc, .int .i64 X4, .bool X5] rfl q HX.out fun wy b o ha hc => HD.out wy b o (HK.out.then ha) hc⟩
    · have hkN : k = N := by omega
      subst hkN
      go_wp2_with fail
      go_loopg [7] M (fun g s7 wx => ∃ j : Nat, j ≤ M ∧ g = M - j ∧ s7 = .int .i64 j ∧ Hid (Fill PatAt 6 w.heap.size w (ps ++ qs) (k + j) wx))
      case atStart => exact ⟨0, Nat.zero_le _, rfl, rfl, HF⟩
      case round =>
        clear HF HGK
        obtain ⟨j, hj, hgk, rfl, HF⟩ := hrel
        have HGK : Hid (_ = M - j) := hgk
        clear hgk
        by_cases hlt : j < M
        · have hlz : (j : Int) < (M : Int) := by omega
          have hlz2 : (k : Int) + (j : Int) < (k : Int) + (M : Int) := by omega
          obtain ⟨q, hq⟩ : ∃ q, qs[j]? = some q := ⟨_, List.getElem?_eq_getElem (by rw [← HM.out]; exact hlt)⟩
          have HX : Hid ((ps ++ qs)[k + j]? = some q) := by
            have e : k = ps.length := HN.out
            rw [List.getElem?_append_right (by omega), e, Nat.add_sub_cancel_left]; exact hq
          obtain ⟨b, off, rfl, A0⟩ := HH2.out j q hq
          have HK : Hid (Keeps w wr) := Keeps.of_below HF.out.below
          obtain ⟨X0, X1, X2, X4, X5, ga, gn, gc, ⟨c0, c1, c2, c3, c4, c5⟩, hd⟩ := A0.vals
          have HD : Hid (∀ wy b o, Keeps w wy → (∀ i, i < 6 → wy.cell? ⟨b, o + i, none⟩ = [Value.bool X0, .bool X1, .bool X2, .slice ga gn gc, .int .i64 X4, .bool X5][i]?) → PatAt wy b o q) := hd
          replace c0 := HK.out.2 _ _ _ c0
          replace c1 := HK.out.2 _ _ _ c1
          replace c2 := HK.out.2 _ _ _ c2
          replace c3 := HK.out.2 _ _ _ c3
          replace c4 := HK.out.2 _ _ _ c4
          replace c5 := HK.out.2 _ _ _ c5
          have hne : b ≠ w.heap.size := by have := cell_lt' A0.ng; omega
          have hne' := hne.symm
          clear A0 hq hd
          obtain ⟨_, r0, f0⟩ := HF.out.spot0 HX.out (by decide)
          obtain ⟨_, r1, f1⟩ := HF.out.spot HX.out 1 (by decide)
          obtain ⟨_, r2, f2⟩ := HF.out.spot HX.out 2 (by decide)
          obtain ⟨_, r3, f3⟩ := HF.out.spot HX.out 3 (by decide)
          obtain ⟨_, r4, f4⟩ := HF.out.spot HX.out 4 (by decide)
          obtain ⟨_, r5, f5⟩ := HF.out.spot HX.out 5 (by decide)
          go_wp2_with fail
          go_roundg (M - (j + 1))
          case measure => have := HGK.out; omega
          case rel =>
            exact ⟨j + 1, hlt, rfl, by first | rfl | go_num | simp, HF.out.put [.bool X0, .bool X1, .bool X2, .slice ga gn gc, .int .i64 X4, .bool X5] rfl q HX.out fun wy b o ha hc => HD.out wy b o (HK.out.then ha) hc⟩
        · have hjM : j = M := by omega
          have hlen : (ps ++ qs).length = k + M := by rw [List.length_append, HN.out, HM.out]
          have HL : Hid ((ps ++ qs).length = k + M) := hlen
          have HF' : Hid (Fill PatAt 6 w.heap.size w (ps ++ qs) (ps ++ qs).length wr) := by
            have := HF.out
            rw [hjM] at this
            rw [hlen]
            exact this
          clear hlen
          go_wp2_with fail
          go_ret
          exact ⟨_, k + M, k + M, rfl, HF'.out.below, fun wy ha => ⟨by rw [← HL.out]; exact HF'.out.all _ wy ha, by rw [HL.out]; unfold maxLen; omega⟩⟩

theorem join9 (ps qs : List PPat) (v v2 : Value) (w : World) (hl : ps.length ≤ 1000000) (hl2 : qs.length ≤ 1000) (h : PatsAt w v ps) (h2 : PatsAt w v2 qs) :
    Calls Tryd.prog 9 #[v, v2] w (RetN (fun wy v => PatsAt wy v (ps ++ qs)) w.heap.size w) := by
  obtain ⟨⟨a, cap, rfl, h⟩, _⟩ := h
  obtain ⟨⟨a2, cap2, rfl, h2⟩, _⟩ := h2
  refine join9_main ps qs a a2 cap cap2 w hl hl2 (fun j x hx => ?_) fun j x hx => ?_
  · rcases h with rfl | ⟨b, off, e, _, h⟩
    · simp at hx
    · exact ⟨b, off, e, h j x hx⟩
  · rcases h2 with rfl | ⟨b, off, e, _, h⟩
    · simp at hx
    · exact ⟨b, off, e, h j x hx⟩
end Go.Proofs.Qxb6602438aDoor
