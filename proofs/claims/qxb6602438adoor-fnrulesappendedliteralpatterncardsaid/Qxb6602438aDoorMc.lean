import Derived.Test.Qxb6602438aDoorMb
import Derived.Deep.DeepCutAuto
namespace Go.Proofs.Qxb6602438aDoor
open Go.RowKit Go Go.PlainAid

set_option maxRecDepth 100000 in
set_option maxHeartbeats 8000000 in
theorem matches12 (ps : List PPat) (p : ByteArray) (dir r : Bool) (R : Nat) (v : Value) (w : World) (hsh : ∀ w', Below w.heap.size w w' → w'.ShapedOpen Tryd.prog) (hp : p.size ≤ 100000)
    (hR : w.cell? ⟨R, 0, none⟩ = some v) (hP : PatsAt w v ps) (hEv : Ev p dir ps.reverse r) :
    Calls Tryd.prog 12 #[.pointer (some ⟨R, 0, none⟩), .string p, .bool dir] w (RetR r w) := by
  obtain ⟨⟨a, cap, rfl, h⟩, hl⟩ := hP
  unfold maxLen at hl
  by_cases hps : ps = []
  · subst hps
    have hr : r = false := hEv.inv_nil
    subst hr
    have C : Hid (Calls Tryd.prog 20 #[.pointer (some ⟨R, 0, none⟩)] w fun e w' => e = .returned (.bool true) ∧ w = w') := empty20 R 0 a cap w hR true rfl
    clear hEv h hsh hR
    go_enter Tryd.func12, Tryd.ntmps12
    go_wp2_with (go_at_call 20; refine C.out.mono ?_; rintro e w' ⟨rfl, rfl⟩)
    go_ret
    exact ⟨rfl, Below.refl _ _⟩
  obtain ⟨b, off, rfl, _, hc⟩ : ∃ b off, a = some ⟨b, off, none⟩ ∧ b < w.heap.size ∧ ∀ j x, ps[j]? = some x → PatAt w b (off + j * 6) x := h.resolve_left hps
  have hn0 : ps.length ≠ 0 := fun e => hps (List.length_eq_zero_iff.1 e)
  obtain ⟨N, hN⟩ : ∃ N, N = ps.length := ⟨_, rfl⟩
  have HN : Hid (N = ps.length) := hN
  rw [← hN] at hl hn0 hR
  have C20 : Hid (Calls Tryd.prog 20 #[.pointer (some ⟨R, 0, none⟩)] w fun e w' => e = .returned (.bool false) ∧ w = w') := empty20 R N _ cap w hR false (decide_eq_false hn0).symm
  have C21 : Hid (Calls Tryd.prog 21 #[.string p, .int .u8 47] w fun e w' => e = .returned (.int .i64 (Lib.lastIndexByte p 47)) ∧ w = w') :=
    (Tryd.strings_LastIndexByte p 47 (by omega) w).mono fun _ _ h => ⟨h.1, h.2.symm⟩
  have C22 : Hid (Calls Tryd.prog 22 #[.string p, .string ⟨#[47]⟩] w fun e w' => e = .returned (.int .i64 (Lib.countByte p.data.toList 47)) ∧ w = w') :=
    (Tryd.strings_Count_one p 47 w).mono fun _ _ h => ⟨h.1, h.2.symm⟩
  obtain ⟨lb1, lb2⟩ := last_bounds p
  obtain ⟨cb1, cb2⟩ := cnt_bounds p
  obtain ⟨NM, hNM⟩ : ∃ NM, p.extract (Lib.lastIndexByte p 47 + 1).toNat p.size = NM := ⟨_, rfl⟩
  have HNM : Hid (nameOf p = NM) := hNM
  obtain ⟨LI, hLI⟩ : ∃ LI, LI = Lib.lastIndexByte p 47 := ⟨_, rfl⟩
  rw [← hLI] at C21 lb1 lb2 hNM
  obtain ⟨CN, hCN⟩ : ∃ CN : Nat, CN = Lib.countByte p.data.toList 47 := ⟨_, rfl⟩
  have HCN : Hid (cntOf p = (CN : Int) + 1) := by show cntOf p = _; rw [hCN]; rfl
  rw [← hCN] at C22 cb1 cb2
  have HC : Hid (∀ j x, ps[j]? = some x → PatAt w b (off + j * 6) x) := hc
  have HSH : Hid (∀ w', Below w.heap.size w w' → w'.ShapedOpen Tryd.prog) := hsh
  have HR : Hid (w.cell? ⟨R, 0, none⟩ = some (.slice (some ⟨b, off, none⟩) N cap)) := hR
  have HE0 : Hid (Ev p dir (ps.take N).reverse r) := by rw [hN, List.take_length]; exact hEv
  have hl1 : LI + 1 ≤ (p.size : Int) := by omega
  have hl0 : 0 ≤ LI + 1 := by omega
  clear hc hsh hEv h hps hN hLI hCN
  go_enter Tryd.func12, Tryd.ntmps12
  go_wp2_with (first | (go_at_call 20; refine C20.out.mono ?_; rintro e w' ⟨rfl, rfl⟩) | (go_at_call 21; refine C21.out.mono ?_; rintro e w' ⟨rfl, rfl⟩) | (go_at_call 22; refine C22.out.mono ?_; rintro e w' ⟨rfl, rfl⟩))
  have HB0 : Hid (Below w.heap.size w w) := Below.refl _ _
  clear C20 C21 C22 hR
  go_loopg [9, 10] N (fun g s9 s10 wx => ∃ k : Nat, k ≤ N ∧ g = k ∧ s10 = .int .i64 ((k : Int) - 1) ∧ Hid (ElsV p wx s9) ∧ Hid (Below w.heap.size w wx) ∧ Hid (Ev p dir (ps.take k).reverse r))
  case atStart => exact ⟨N, Nat.le_refl _, rfl, rfl, .inl rfl, HB0, HE0⟩
  case round =>
    clear HE0 HB0
    obtain ⟨k, hk, hgk, rfl, HV, HB, HE⟩ := hrel
    have HGK : Hid (_ = k) := hgk
    clear hgk
    cases k with
    | zero =>
      have hr : r = false := HE.out.inv_nil
      subst hr
      go_wp2_with fail
      go_ret
      exact ⟨rfl, HB.out⟩
    | succ j =>
      rw [show (((j + 1 : Nat) : Int) - 1) = (j : Int) by omega]
      obtain ⟨q, hq⟩ : ∃ q, ps[j]? = some q := ⟨_, List.getElem?_eq_getElem (by rw [← HN.out]; omega)⟩
      have HI : Hid ((skipP q p dir = true ∧ Ev p dir (ps.take j).reverse r) ∨ (skipP q p dir = false ∧ okP q ∧ (matchP q p = true → r = !q.ng) ∧ (matchP q p = false → Ev p dir (ps.take j).reverse r))) := by
        have := HE.out
        rw [take_rev ps j q hq] at this
        exact this.inv
      have A := (HC.out j q hq).keep HB.out
      have HAA : Hid (PatAt wr b (off + j * 6) q) := A
      have cR := below_cell HB.out HR.out
      have c0 := A.ng
      have c1 := A.dO
      have c2 := A.an
      have c4 := A.el
      have c5 := A.sp
      have c6 := A.er
      obtain ⟨sv', c3, _⟩ := A.segs
      have hjz : (j : Int) < (N : Int) := by omega
      obtain ⟨D, hD⟩ : ∃ D, D = q.dO := ⟨_, rfl⟩
      obtain ⟨G, hG⟩ : ∃ G, G = q.ng := ⟨_, rfl⟩
      obtain ⟨AN, hAN⟩ : ∃ AN, AN = q.an := ⟨_, rfl⟩
      obtain ⟨EL, hEL⟩ : ∃ EL, EL = q.el := ⟨_, rfl⟩
      obtain ⟨SP, hSP⟩ : ∃ SP, SP = q.sp := ⟨_, rfl⟩
      have H1 : Hid (t1 q dir = (D && !dir)) := by show t1 q dir = _; rw [hD]; rfl
      have H2 : Hid (t2 q (cntOf p) = (decide ((CN : Int) + 1 < EL) || (!SP && (((CN : Int) + 1) != EL)))) := by show t2 q (cntOf p) = _; rw [HCN.out, hEL, hSP]; rfl
      have HAN : Hid (q.an = AN) := hAN.symm
      have HGG : Hid (q.ng = G) := hG.symm
      rw [← hG] at c0
      rw [← hD] at c1
      rw [← hAN] at c2
      rw [← hEL] at c4 c6
      rw [← hSP] at c5
      clear A hD hG hAN hEL hSP hq HE
      obtain ⟨X1, hX1⟩ : ∃ X1, X1 = (D && !dir) := ⟨_, rfl⟩
      rw [← hX1] at H1
      have HX1 : Hid (X1 = (D && !dir)) := hX1
      clear hX1
      go_upto_region 10 with fail
      go_cut [46] (fun sx wx => sx = .bool X1 ∧ wr = wx)
      case first =>
        cases D with
        | false =>
          go_wp2_with fail
          go_meet
          exact ⟨congrArg Value.bool HX1.out.symm, rfl⟩
        | true =>
          go_wp2_with fail
          go_meet
          exact ⟨congrArg Value.bool HX1.out.symm, rfl⟩
      case rest =>
      obtain ⟨rfl, rfl⟩ := hcut
      clear HX1 c1
      cases X1 with
      | true =>
        have HE' : Hid (Ev p dir (ps.take j).reverse r) := by
          rcases HI.out with h | h
          · exact h.2
          · have := h.1
            unfold skipP at this
            rw [H1.out] at this
            cases this
        clear HI H1 H2
        go_wp2_with fail
        go_roundg j
        case measure => have := HGK.out; omega
        case rel => exact ⟨j, by omega, rfl, by first | rfl | go_num | simp, HV, HB, HE'⟩
      | false =>
        have HSK : Hid (skipP q p dir = (AN && t2 q (cntOf p))) := by
          show skipP q p dir = _
          unfold skipP
          rw [H1.out, HAN.out]
          rfl
        clear H1
        go_upto_region 12 with fail
        cases AN with
        | false =>
          have HI2 : Hid (okP q ∧ (matchP q p = true → r = !q.ng) ∧ (matchP q p = false → Ev p dir (ps.take j).reverse r)) := by
            rcases HI.out with h | h
            · have := h.1
              rw [HSK.out] at this
              cases this
            · exact h.2
          have hne := HI2.out.1.1 HAN.out
          obtain ⟨sg, rest, hsegs⟩ : ∃ sg rest, q.segs = sg :: rest := by
            cases h : q.segs with
            | nil => exact absurd h hne
            | cons sg rest => exact ⟨sg, rest, rfl⟩
          obtain ⟨M, hM⟩ : ∃ M, M = matchP q p := ⟨_, rfl⟩
          have hM2 : M = segM sg NM := by
            rw [hM]
            unfold matchP
            rw [if_neg (by rw [HAN.out]; decide), hsegs, HNM.out]
          obtain ⟨sv2, d3, ⟨sa', scap, hsv, hrow⟩, hsl⟩ := HAA.out.segs
          obtain ⟨sb, so, rfl, _, hsc⟩ := hrow.resolve_left (by rw [hsegs]; simp)
          subst hsv
          have S0 := hsc 0 sg (by rw [hsegs]; rfl)
          have hls : 0 < q.segs.length := by rw [hsegs]; simp
          obtain ⟨SL, hSL⟩ : ∃ SL, SL = q.segs.length := ⟨_, rfl⟩
          rw [← hSL] at d3 hls hsl
          have hlsz : (0 : Int) < (SL : Int) := by omega
          have C25 : Hid (Calls Tryd.prog 25 #[.pointer (some ⟨sb, so, none⟩), .string NM] wr fun e w' => e = .returned (.bool M) ∧ ∃ k, w' = wr.drewN k) := by
            rw [hM2]
            refine seg25 sg NM sb so wr ?_ (HI2.out.1.2 sg (by rw [hsegs]; simp)) (by simpa using S0)
            have := name_le p
            rw [HNM.out] at this
            omega
          have HMT : Hid (M = true → r = !G) := fun h => by rw [← HGG.out]; exact HI2.out.2.1 (hM.symm.trans h)
          have HMF : Hid (M = false → Ev p dir (ps.take j).reverse r) := fun h => HI2.out.2.2 (hM.symm.trans h)
          clear HI HI2 HSK H2 c4 c5 c3 hsc S0 hM hM2 hsegs hne hSL hrow
          cases M with
          | true =>
            have HRR : Hid (r = !G) := HMT.out rfl
            clear HMT HMF
            go_wp2_with (go_at_call 25; refine C25.out.mono ?_; rintro e w' ⟨rfl, q', rfl⟩)
            go_ret
            exact ⟨by rw [HRR.out]; rfl, below_drewN HB.out q'⟩
          | false =>
            have HE' : Hid (Ev p dir (ps.take j).reverse r) := HMF.out rfl
            clear HMT HMF
            go_wp2_with (go_at_call 25; refine C25.out.mono ?_; rintro e w' ⟨rfl, q', rfl⟩)
            go_roundg j
            case measure => have := HGK.out; omega
            case rel => exact ⟨j, by omega, rfl, by first | rfl | go_num | simp, HV.out.keep (below_drewN (Below.refl _ _) q'), below_drewN HB.out q', HE'⟩
        | true =>
          obtain ⟨X2, hX2⟩ : ∃ X2, X2 = (decide ((CN : Int) + 1 < EL) || (!SP && (((CN : Int) + 1) != EL))) := ⟨_, rfl⟩
          have HX2 : Hid (X2 = (decide ((CN : Int) + 1 < EL) || (!SP && (((CN : Int) + 1) != EL)))) := hX2
          rw [← hX2] at H2
          rw [H2.out] at HSK
          clear hX2 H2
          go_upto_region 13 with fail
          go_cut [71] (fun sx wx => sx = .bool X2 ∧ wr = wx)
          case first =>
            by_cases h1 : (CN : Int) + 1 < EL
            · have HX : Hid (X2 = true) := by show X2 = _; rw [HX2.out, decide_eq_true h1]; rfl
              clear HX2
              go_wp2_with fail
              go_meet
              exact ⟨congrArg Value.bool HX.out.symm, rfl⟩
            · cases SP with
              | true =>
                have HX : Hid (X2 = false) := by show X2 = _; rw [HX2.out, decide_eq_false h1]; rfl
                clear HX2
                go_wp2_with fail
                go_meet
                exact ⟨congrArg Value.bool HX.out.symm, rfl⟩
              | false =>
                by_cases h2 : (CN : Int) + 1 = EL
                · have hb2 : (((CN : Int) + 1) != EL) = false := by rw [h2]; exact bne_self_eq_false _
                  have HX : Hid (X2 = false) := by show X2 = _; rw [HX2.out, decide_eq_false h1, hb2]; rfl
                  clear HX2 h2
                  go_wp2_with fail
                  go_meet
                  exact ⟨congrArg Value.bool HX.out.symm, rfl⟩
                · have hb2 : (((CN : Int) + 1) != EL) = true := bne_iff_ne.2 h2
                  have HX : Hid (X2 = true) := by show X2 = _; rw [HX2.out, decide_eq_false h1, hb2]; rfl
                  clear HX2 h2
                  go_wp2_with fail
                  go_meet
                  exact ⟨congrArg Value.bool HX.out.symm, rfl⟩
          case rest =>
          obtain ⟨rfl, rfl⟩ := hcut
          clear HX2 c4 c5 c6
          cases X2 with
          | true =>
            have HE' : Hid (Ev p dir (ps.take j).reverse r) := by
              rcases HI.out with h | h
              · exact h.2
              · have := h.1
                rw [HSK.out] at this
                cases this
            clear HI HSK
            go_wp2_with fail
            go_roundg j
            case measure => have := HGK.out; omega
            case rel => exact ⟨j, by omega, rfl, by first | rfl | go_num | simp, HV, HB, HE'⟩
          | false =>
            have HI2 : Hid (okP q ∧ (matchP q p = true → r = !q.ng) ∧ (matchP q p = false → Ev p dir (ps.take j).reverse r)) := by
              rcases HI.out with h | h
              · have := h.1
                rw [HSK.out] at this
                cases this
              · exact h.2
            obtain ⟨M, hM⟩ : ∃ M, M = matchP q p := ⟨_, rfl⟩
            have HM : Hid (M = elemsB q.segs (elsOf p)) := by
              show M = _
              rw [hM]
              unfold matchP
              rw [if_pos HAN.out]
            have HMT : Hid (M = true → r = !G) := fun h => by rw [← HGG.out]; exact HI2.out.2.1 (hM.symm.trans h)
            have HMF : Hid (M = false → Ev p dir (ps.take j).reverse r) := fun h => HI2.out.2.2 (hM.symm.trans h)
            have HOK : Hid (∀ sg ∈ q.segs, okS sg) := HI2.out.1.2
            clear HI HI2 HSK hM
            obtain ⟨LE, hLE⟩ : ∃ LE, LE = (elsOf p).length := ⟨_, rfl⟩
            have HLE : Hid (LE = (elsOf p).length) := hLE
            clear hLE
            have hnil := fun (w : World) (a : Option Addr) (n c : Nat) => Lib.run_eql_slice_nil (P := Tryd.prog) w 57 9 a n c 0 0 Tryd.underlying57
            clear c3 c2
            rcases HV.out with hu | ⟨eb, hu, h2, h3⟩
            · subst hu
              obtain ⟨W1, hW1⟩ : ∃ W1, W1 = (wr.alloc (.cells ((elsOf p).map Value.string).toArray 9)) := ⟨_, rfl⟩
              have C23 : Hid (Calls Tryd.prog 23 #[.string p, .string ⟨#[47]⟩] wr fun e w' => e = .returned (.slice (some ⟨wr.heap.size, 0, none⟩) LE LE) ∧ W1 = w') := by
                rw [HLE.out, hW1]; exact (split23 p wr (by omega) (HSH.out _ HB.out)).mono fun _ _ h => ⟨h.1, h.2.symm⟩
              have HW1 : Hid (Below wr.heap.size wr W1) := by rw [hW1]; exact (Below.refl _ _).alloc (Nat.le_refl _) _
              have HEL : Hid (∀ j x, (elsOf p)[j]? = some x → W1.cell? ⟨wr.heap.size, 0 + j, none⟩ = some (.string x)) := by rw [hW1]; exact els_new p wr
              have HEL1 : Hid (wr.heap.size < W1.heap.size) := by rw [hW1]; show _ < _; rw [World.size_alloc]; omega
              have HB1 : Hid (Below w.heap.size w W1) := HB.out.trans (HW1.out.mono HB.out.size)
              obtain ⟨sv2, d3, hsat⟩ := (HAA.out.keep HW1.out).segs
              have d3' := d3
              have C24 : Hid (Calls Tryd.prog 24 #[sv2, .slice (some ⟨wr.heap.size, 0, none⟩) LE LE] W1 fun e w' => e = .returned (.bool M) ∧ Below w.heap.size w w' ∧ Below W1.heap.size W1 w') := by
                rw [HLE.out, HM.out]
                exact (elemsAt q.segs p sv2 wr.heap.size W1 (by omega) HOK.out hsat HEL.out).mono fun _ _ h => ⟨h.1, HB1.out.trans (h.2.mono HB1.out.size), h.2⟩
              have HEV : Hid (∀ w', Below W1.heap.size W1 w' → ElsV p w' (.slice (some ⟨wr.heap.size, 0, none⟩) LE LE)) := fun w' hb => by
                rw [HLE.out]
                exact .inr ⟨wr.heap.size, rfl, Nat.lt_of_lt_of_le HEL1.out hb.size, fun j x hx => below_cell hb (HEL.out j x hx)⟩
              have cN : W1.cell? ⟨b, off + j * 6, none⟩ = some (.bool G) := below_cell HW1.out c0
              cases M with
              | true =>
                have HRR : Hid (r = !G) := HMT.out rfl
                clear HMT HMF hsat HEV HEL HM HOK
                clear hW1
                go_wp2_with (first | (go_at_call 23; refine C23.out.mono ?_; rintro e w1 ⟨rfl, rfl⟩) | (go_at_call 24; refine C24.out.mono ?_; rintro e w' ⟨rfl, hb3, hb4⟩; have cG := below_cell hb4 cN; have HB3 : Hid (Below w.heap.size w w') := hb3; have HB4 : Hid (Below W1.heap.size W1 w') := hb4; clear hb3 hb4))
                go_ret
                exact ⟨by rw [HRR.out]; rfl, HB3.out⟩
              | false =>
                have HE' : Hid (Ev p dir (ps.take j).reverse r) := HMF.out rfl
                clear HMT HMF hsat HEL HM HOK
                clear hW1
                go_wp2_with (first | (go_at_call 23; refine C23.out.mono ?_; rintro e w1 ⟨rfl, rfl⟩) | (go_at_call 24; refine C24.out.mono ?_; rintro e w' ⟨rfl, hb3, hb4⟩; have cG := below_cell hb4 cN; have HB3 : Hid (Below w.heap.size w w') := hb3; have HB4 : Hid (Below W1.heap.size W1 w') := hb4; clear hb3 hb4))
                go_roundg j
                case measure => have := HGK.out; omega
                case rel => exact ⟨j, by omega, rfl, by first | rfl | go_num | simp, HEV.out _ HB4.out, HB3, HE'⟩
            · rw [← HLE.out] at hu
              subst hu
              obtain ⟨W1, hW1⟩ : ∃ W1, W1 = wr := ⟨_, rfl⟩
              have HW1 : Hid (Below wr.heap.size wr W1) := by rw [hW1]; exact Below.refl _ _
              have HEL : Hid (∀ j x, (elsOf p)[j]? = some x → W1.cell? ⟨eb, 0 + j, none⟩ = some (.string x)) := by rw [hW1]; exact h3
              have HEL1 : Hid (eb < W1.heap.size) := by rw [hW1]; exact h2
              have HB1 : Hid (Below w.heap.size w W1) := HB.out.trans (HW1.out.mono HB.out.size)
              obtain ⟨sv2, d3, hsat⟩ := (HAA.out.keep HW1.out).segs
              have d3' := d3
              have C24 : Hid (Calls Tryd.prog 24 #[sv2, .slice (some ⟨eb, 0, none⟩) LE LE] W1 fun e w' => e = .returned (.bool M) ∧ Below w.heap.size w w' ∧ Below W1.heap.size W1 w') := by
                rw [HLE.out, HM.out]
                exact (elemsAt q.segs p sv2 eb W1 (by omega) HOK.out hsat HEL.out).mono fun _ _ h => ⟨h.1, HB1.out.trans (h.2.mono HB1.out.size), h.2⟩
              have HEV : Hid (∀ w', Below W1.heap.size W1 w' → ElsV p w' (.slice (some ⟨eb, 0, none⟩) LE LE)) := fun w' hb => by
                rw [HLE.out]
                exact .inr ⟨eb, rfl, Nat.lt_of_lt_of_le HEL1.out hb.size, fun j x hx => below_cell hb (HEL.out j x hx)⟩
              cases M with
              | true =>
                have HRR : Hid (r = !G) := HMT.out rfl
                clear HMT HMF hsat HEV HEL HM HOK
                subst hW1
                go_wp2_with (go_at_call 24; refine C24.out.mono ?_; rintro e w' ⟨rfl, hb3, hb4⟩; have cG := below_cell hb4 c0; have HB3 : Hid (Below w.heap.size w w') := hb3; have HB4 : Hid (Below W1.heap.size W1 w') := hb4; clear hb3 hb4)
                go_ret
                exact ⟨by rw [HRR.out]; rfl, HB3.out⟩
              | false =>
                have HE' : Hid (Ev p dir (ps.take j).reverse r) := HMF.out rfl
                clear HMT HMF hsat HEL HM HOK
                subst hW1
                go_wp2_with (go_at_call 24; refine C24.out.mono ?_; rintro e w' ⟨rfl, hb3, hb4⟩; have cG := below_cell hb4 c0; have HB3 : Hid (Below w.heap.size w w') := hb3; have HB4 : Hid (Below W1.heap.size W1 w') := hb4; clear hb3 hb4)
                go_roundg j
                case measure => have := HGK.out; omega
                case rel => exact ⟨j, by omega, rfl, by first | rfl | go_num | simp, HEV.out _ HB4.out, HB3, HE'⟩
end Go.Proofs.Qxb6602438aDoor
