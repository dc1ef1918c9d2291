import Derived.Test.Qxb6602823aDoorVa
import Derived.Deep.RegionWith
namespace Go.Proofs.Qxb6602823aDoor
open Go.RowKit Go Go.PlainAid

theorem below_at {V : Nat} {w0 w : World} (h : Below V w0 w) (q j : Nat) : Below V w0 ((w.drewN q).setCell ⟨V, 1, none⟩ (.int .i64 j)) := (below_drewN h q).setCell (Nat.le_refl _) _
theorem more' (c : ByteArray) (cap V B i : Nat) (ch : Nat) (hc0 : 0 < ch) (hc1 : ch < 256) (hi : i ≤ c.size) (w : World) (h : VS c cap V B i w) (b : Bool) (hb : b = decide (bt c i = ch)) :
    Hid (Calls Tryd.prog 24 #[.pointer (some ⟨V, 0, none⟩), .int .u8 ch] w fun e w' => e = .returned (.bool b) ∧ ∃ q, w' = w.drewN q) := more c cap V B i ch hc0 hc1 hi w h b hb
theorem digits' (c : ByteArray) (cap V B i : Nat) (hn : c.size ≤ 4000100) (hi : i ≤ c.size) (hs : i < sk c i) (w : World) (h : VS c cap V B i w) :
    Hid (Calls Tryd.prog 25 #[.pointer (some ⟨V, 0, none⟩)] w fun e w' => e = .returned (.bool true) ∧ VS c cap V B (sk c i) w' ∧ Below V w w') :=
  (digits c cap V B i hn hi w h).mono fun _ _ h => ⟨by rw [h.1, decide_eq_true hs], h.2⟩

def RetV (c : ByteArray) (cap V B : Nat) (w : World) (e : Ending) (w' : World) : Prop := e = .returned (.bool true) ∧ VS c cap V B c.size w' ∧ Below V w w'

set_option maxRecDepth 100000 in
set_option maxHeartbeats 4000000 in
theorem number (c : ByteArray) (cap V B : Nat) (hn : c.size ≤ 4000100) (hx : rd c.data.toList ≠ none) (w : World) (h : VS c cap V B 0 w) :
    Calls Tryd.prog 16 #[.pointer (some ⟨V, 0, none⟩)] w (RetV c cap V B w) := by
  have HX : Hid (rd c.data.toList ≠ none) := hx
  have HV : Hid (VS c cap V B 0 w) := h
  clear h hx
  obtain ⟨b, hb⟩ : ∃ b, b = decide (bt c 0 = 45) := ⟨_, rfl⟩
  have C := more' c cap V B 0 45 (by omega) (by omega) (Nat.zero_le _) w HV.out b hb
  have HB : Hid (b = decide (bt c 0 = 45)) := hb
  clear hb
  go_enter Tryd.func16, Tryd.ntmps16
  go_upto_if 4 with (go_at_call 24; refine C.out.mono ?_; rintro e w' ⟨rfl, q, rfl⟩)
  go_cut [] (fun wx => ∃ (i : Nat) (neg : Bool), i ≤ c.size ∧ Hid (VS c cap V B i wx) ∧ Hid (Below V w wx) ∧ Hid (rd c.data.toList = r2 neg (c.data.toList.drop i)))
  case first =>
    have e1 := HV.out.at'
    have e2 := HV.out.fr
    cases b
    · have HR : Hid (rd c.data.toList = r2 false (c.data.toList.drop 0)) := rd_pos c (of_decide_eq_false HB.out.symm)
      go_wp2_with fail
      go_meet
      exact ⟨0, false, Nat.zero_le _, HV.out.drewN q, below_drewN (Below.refl _ _) q, HR⟩
    · have hx : bt c 0 = 45 := of_decide_eq_true HB.out.symm
      have HR : Hid (rd c.data.toList = r2 true (c.data.toList.drop 1)) := rd_min c hx
      have hlt : 0 < c.size := bt_lt (by omega)
      clear hx
      go_wp2_with fail
      go_meet
      exact ⟨1, true, hlt, HV.out.set q 1, below_at (Below.refl _ _) q 1, HR⟩
  case rest =>
  clear HB C HV
  obtain ⟨i1, neg, hi1, HV, HW, HR1⟩ := hcut
  obtain ⟨b, hb⟩ : ∃ b, b = decide (bt c i1 = 48) := ⟨_, rfl⟩
  have C := more' c cap V B i1 48 (by omega) (by omega) hi1 wc HV.out b hb
  have HB : Hid (b = decide (bt c i1 = 48)) := hb
  clear hb
  go_upto_if 13 with (go_at_call 24; refine C.out.mono ?_; rintro e w' ⟨rfl, q, rfl⟩)
  go_cut [] (fun wx => ∃ (i : Nat) (ip : List UInt8), i ≤ c.size ∧ Hid (VS c cap V B i wx) ∧ Hid (Below V w wx) ∧ Hid (rd c.data.toList = r3 neg ip (c.data.toList.drop i)))
  case first =>
    have e1 := HV.out.at'
    have e2 := HV.out.fr
    cases b
    · have hx : ¬ bt c i1 = 48 := of_decide_eq_false HB.out.symm
      have hs : ¬ sk c i1 = i1 := fun e => HX.out (HR1.out.trans (r2_none c neg i1 hx e))
      have HR := HR1.out.trans (r2_some' c neg i1 hx hs)
      have HR' : Hid (rd c.data.toList = r3 neg ((c.data.toList.drop i1).take (sk c i1 - i1)) (c.data.toList.drop (sk c i1))) := HR
      have hlt : i1 < sk c i1 := by have := sk_ge c i1; omega
      have hle := sk_le c i1 hi1
      have D := digits' c cap V B i1 hn hi1 hlt (wc.drewN q) (HV.out.drewN q)
      have HW2 : Hid (Below V w (wc.drewN q)) := below_drewN HW.out q
      have HLE : Hid (sk c i1 ≤ c.size) := hle
      clear hx hs HR hlt hle e1 e2
      go_wp2_with (go_at_call 25; refine D.out.mono ?_; rintro e w' ⟨rfl, hV, hB⟩; have HV2 : Hid (VS c cap V B _ w') := hV; have HB2 : Hid (Below V _ w') := hB; clear hV hB)
      go_meet
      exact ⟨sk c i1, _, HLE.out, HV2, HW2.out.trans HB2.out, HR'⟩
    · have hx : bt c i1 = 48 := of_decide_eq_true HB.out.symm
      have HR : Hid (rd c.data.toList = r3 neg ((c.data.toList.drop i1).take (i1 + 1 - i1)) (c.data.toList.drop (i1 + 1))) := HR1.out.trans (r2_zero c neg i1 hx)
      have hlt : i1 < c.size := bt_lt (by omega)
      clear hx
      go_wp2_with fail
      go_meet
      exact ⟨i1 + 1, _, hlt, HV.out.set q (i1 + 1), below_at HW.out q (i1 + 1), HR⟩
  case rest =>
  clear HB C HV HW HR1
  obtain ⟨i2, ip, hi2, HV, HW, HR2⟩ := hcut
  obtain ⟨b, hb⟩ : ∃ b, b = decide (bt c i2 = 46) := ⟨_, rfl⟩
  have C := more' c cap V B i2 46 (by omega) (by omega) hi2 wc HV.out b hb
  have HB : Hid (b = decide (bt c i2 = 46)) := hb
  clear hb
  go_upto_if 25 with (go_at_call 24; refine C.out.mono ?_; rintro e w' ⟨rfl, q, rfl⟩)
  go_cut [] (fun wx => ∃ (i : Nat) (fd : List UInt8), i ≤ c.size ∧ Hid (VS c cap V B i wx) ∧ Hid (Below V w wx) ∧ Hid (rd c.data.toList = r4 neg ip fd (c.data.toList.drop i)))
  case first =>
    have e1 := HV.out.at'
    have e2 := HV.out.fr
    cases b
    · have hx : ¬ bt c i2 = 46 := of_decide_eq_false HB.out.symm
      have HR : Hid (rd c.data.toList = r4 neg ip ((c.data.toList.drop i2).take (i2 - i2)) (c.data.toList.drop i2)) := HR2.out.trans (r3_not c neg ip i2 hx)
      clear hx
      go_wp2_with fail
      go_meet
      exact ⟨i2, _, hi2, HV.out.drewN q, below_drewN HW.out q, HR⟩
    · have hx : bt c i2 = 46 := of_decide_eq_true HB.out.symm
      have hlt : i2 < c.size := bt_lt (by omega)
      have hs : ¬ sk c (i2 + 1) = i2 + 1 := fun e => HX.out (HR2.out.trans (r3_none c neg ip i2 hx e))
      have HR' : Hid (rd c.data.toList = r4 neg ip ((c.data.toList.drop (i2 + 1)).take (sk c (i2 + 1) - (i2 + 1))) (c.data.toList.drop (sk c (i2 + 1)))) := HR2.out.trans (r3_dot c neg ip i2 hx hs)
      have hlt2 : i2 + 1 < sk c (i2 + 1) := by have := sk_ge c (i2 + 1); omega
      have HLE : Hid (sk c (i2 + 1) ≤ c.size) := sk_le c (i2 + 1) hlt
      obtain ⟨W, hW⟩ : ∃ W, W = (wc.drewN q).setCell ⟨V, 1, none⟩ (.int .i64 ((i2 : Int) + 1)) := ⟨_, rfl⟩
      have HVW : Hid (VS c cap V B (i2 + 1) W) := by rw [hW]; exact HV.out.set q (i2 + 1)
      have HBW : Hid (Below V w W) := by rw [hW]; exact below_at HW.out q (i2 + 1)
      have D := digits' c cap V B (i2 + 1) hn hlt hlt2 W HVW.out
      clear hx hs hlt2
      go_upto_region 9 with fail
      rw [← hW]
      clear hW
      go_wp2_with (go_at_call 25; refine D.out.mono ?_; rintro e w' ⟨rfl, hV, hB⟩; have HV2 : Hid (VS c cap V B _ w') := hV; have HB2 : Hid (Below V _ w') := hB; clear hV hB)
      go_meet
      exact ⟨sk c (i2 + 1), _, HLE.out, HV2, HBW.out.trans HB2.out, HR'⟩
  case rest =>
  clear HB C HV HW HR2
  obtain ⟨f1, fd, hf1, HV, HW, HR3⟩ := hcut
  by_cases hxe : bt c f1 = 101 ∨ bt c f1 = 69
  · have HR4 : Hid (rd c.data.toList = r5 neg ip fd (c.data.toList.drop (f1 + 1))) := HR3.out.trans (r4_exp c neg ip fd f1 hxe)
    have hlt : f1 < c.size := bt_lt (by omega)
    go_upto_region 11 with fail
    go_cut [41] (fun sx wx => sx = .bool true ∧ Hid (VS c cap V B f1 wx) ∧ Hid (Below V w wx))
    case first =>
      rcases hxe with hx | hx
      · have C := more' c cap V B f1 101 (by omega) (by omega) hf1 wc HV.out true (decide_eq_true hx).symm
        clear hx
        go_wp2_with (go_at_call 24; refine C.out.mono ?_; rintro e w' ⟨rfl, q, rfl⟩)
        go_meet
        exact ⟨rfl, HV.out.drewN q, below_drewN HW.out q⟩
      · have C := more' c cap V B f1 101 (by omega) (by omega) hf1 wc HV.out false (decide_eq_false (by omega)).symm
        have C2 : Hid (∀ q, Calls Tryd.prog 24 #[.pointer (some ⟨V, 0, none⟩), .int .u8 69] (wc.drewN q) fun e w' => e = .returned (.bool true) ∧ ∃ q', w' = (wc.drewN q).drewN q') := fun q => (more' c cap V B f1 69 (by omega) (by omega) hf1 (wc.drewN q) (HV.out.drewN q) true (decide_eq_true hx).symm).out
        clear hx
        go_wp2_with (first | (go_at_call_of 24 (Value.int IntKind.u8 101); refine C.out.mono ?_; rintro e w' ⟨rfl, q, rfl⟩) | (go_at_call_of 24 (Value.int IntKind.u8 69); refine (C2.out _).mono ?_; rintro e w' ⟨rfl, q2, rfl⟩))
        go_meet
        exact ⟨rfl, HV.out.drewN (q + q2), below_drewN HW.out (q + q2)⟩
    case rest =>
    obtain ⟨rfl, HV', HW'⟩ := hcut
    clear HV HW HR3 hxe
    have e1 := HV'.out.at'
    have e2 := HV'.out.fr
    obtain ⟨W, hW⟩ : ∃ W, W = wc.setCell ⟨V, 1, none⟩ (.int .i64 ((f1 : Int) + 1)) := ⟨_, rfl⟩
    have HVW : Hid (VS c cap V B (f1 + 1) W) := by rw [hW]; exact HV'.out.set 0 (f1 + 1)
    have HBW : Hid (Below V w W) := by rw [hW]; exact below_at HW'.out 0 (f1 + 1)
    go_upto_region 13 with fail
    rw [← hW]
    clear hW e1 e2 HV' HW'
    obtain ⟨e0, he0⟩ : ∃ e0, e0 = f1 + 1 := ⟨_, rfl⟩
    rw [← he0] at HVW HR4
    have hle0 : e0 ≤ c.size := by omega
    clear he0 hlt
    go_cut [54] (fun sx wx => ∃ b : Bool, sx = .bool b ∧ Hid (b = decide (bt c e0 = 43 ∨ bt c e0 = 45)) ∧ Hid (VS c cap V B e0 wx) ∧ Hid (Below V w wx))
    case first =>
      by_cases hx : bt c e0 = 43
      · have C := more' c cap V B e0 43 (by omega) (by omega) hle0 W HVW.out true (decide_eq_true hx).symm
        have HD : Hid (true = decide (bt c e0 = 43 ∨ bt c e0 = 45)) := (decide_eq_true (.inl hx)).symm
        clear hx
        go_wp2_with (go_at_call 24; refine C.out.mono ?_; rintro e w' ⟨rfl, q, rfl⟩)
        go_meet
        exact ⟨true, rfl, HD, HVW.out.drewN q, below_drewN HBW.out q⟩
      · have C := more' c cap V B e0 43 (by omega) (by omega) hle0 W HVW.out false (decide_eq_false hx).symm
        by_cases hy : bt c e0 = 45
        · have C2 : Hid (∀ q, Calls Tryd.prog 24 #[.pointer (some ⟨V, 0, none⟩), .int .u8 45] (W.drewN q) fun e w' => e = .returned (.bool true) ∧ ∃ q', w' = (W.drewN q).drewN q') := fun q => (more' c cap V B e0 45 (by omega) (by omega) hle0 (W.drewN q) (HVW.out.drewN q) true (decide_eq_true hy).symm).out
          have HD : Hid (true = decide (bt c e0 = 43 ∨ bt c e0 = 45)) := (decide_eq_true (.inr hy)).symm
          clear hx hy
          go_wp2_with (first | (go_at_call_of 24 (Value.int IntKind.u8 43); refine C.out.mono ?_; rintro e w' ⟨rfl, q, rfl⟩) | (go_at_call_of 24 (Value.int IntKind.u8 45); refine (C2.out _).mono ?_; rintro e w' ⟨rfl, q2, rfl⟩))
          go_meet
          exact ⟨true, rfl, HD, HVW.out.drewN (q + q2), below_drewN HBW.out (q + q2)⟩
        · have C2 : Hid (∀ q, Calls Tryd.prog 24 #[.pointer (some ⟨V, 0, none⟩), .int .u8 45] (W.drewN q) fun e w' => e = .returned (.bool false) ∧ ∃ q', w' = (W.drewN q).drewN q') := fun q => (more' c cap V B e0 45 (by omega) (by omega) hle0 (W.drewN q) (HVW.out.drewN q) false (decide_eq_false hy).symm).out
          have HD : Hid (false = decide (bt c e0 = 43 ∨ bt c e0 = 45)) := (decide_eq_false (fun h => h.elim hx hy)).symm
          clear hx hy
          go_wp2_with (first | (go_at_call_of 24 (Value.int IntKind.u8 43); refine C.out.mono ?_; rintro e w' ⟨rfl, q, rfl⟩) | (go_at_call_of 24 (Value.int IntKind.u8 45); refine (C2.out _).mono ?_; rintro e w' ⟨rfl, q2, rfl⟩))
          go_meet
          exact ⟨false, rfl, HD, HVW.out.drewN (q + q2), below_drewN HBW.out (q + q2)⟩
    case rest =>
    obtain ⟨b, rfl, HD, HV, HW⟩ := hcut
    clear HVW HBW
    go_upto_if 54 with fail
    go_cut [] (fun wx => ∃ (i : Nat) (en : Bool), i ≤ c.size ∧ Hid (VS c cap V B i wx) ∧ Hid (Below V w wx) ∧ Hid (rd c.data.toList = r6 neg ip fd en (c.data.toList.drop i)))
    case first =>
      have e1 := HV.out.at'
      have e2 := HV.out.fr
      cases b
      · have hx := of_decide_eq_false HD.out.symm
        have HR : Hid (rd c.data.toList = r6 neg ip fd false (c.data.toList.drop e0)) := HR4.out.trans (r5_not c neg ip fd e0 (fun h => hx (.inl h)) (fun h => hx (.inr h)))
        clear hx
        go_wp2_with fail
        go_meet
        exact ⟨e0, false, hle0, HV, HW, HR⟩
      · have hx := of_decide_eq_true HD.out.symm
        have hlt : e0 < c.size := bt_lt (by omega)
        have HR : Hid (∃ en, rd c.data.toList = r6 neg ip fd en (c.data.toList.drop (e0 + 1))) := by
          rcases hx with hx | hx
          · exact ⟨false, HR4.out.trans (r5_plus c neg ip fd e0 hx)⟩
          · exact ⟨true, HR4.out.trans (r5_minus c neg ip fd e0 hx)⟩
        clear hx
        go_wp2_with fail
        go_meet
        obtain ⟨en, HR'⟩ := HR.out
        exact ⟨e0 + 1, en, hlt, HV.out.set 0 (e0 + 1), below_at HW.out 0 (e0 + 1), HR'⟩
    case rest =>
    clear HV HW HD HR4
    obtain ⟨i6, en, hi6, HV, HW, HR5⟩ := hcut
    have hs : ¬ sk c i6 = i6 := fun e => HX.out (HR5.out.trans (r6_none c neg ip fd en i6 e))
    have hend : sk c i6 = c.size := by
      have := HR5.out.trans (r6_is c neg ip fd en i6 hi6 hs)
      by_cases e : sk c i6 = c.size
      · exact e
      · rw [if_neg e] at this
        exact absurd this HX.out
    have hlt : i6 < sk c i6 := by have := sk_ge c i6; omega
    have D := digits' c cap V B i6 hn hi6 hlt _ HV.out
    rw [hend] at D
    clear hs hend hlt HR5
    go_wp2_with (go_at_call 25; refine D.out.mono ?_; rintro e w' ⟨rfl, hV, hB⟩; have HV2 : Hid (VS c cap V B _ w') := hV; have HB2 : Hid (Below V _ w') := hB; clear hV hB)
    go_ret
    exact ⟨rfl, HV2.out, HW.out.trans HB2.out⟩
  · have hend : f1 = c.size := by
      have := HR3.out.trans (r4_not c neg ip fd f1 hf1 hxe)
      by_cases e : f1 = c.size
      · exact e
      · rw [if_neg e] at this
        exact absurd this HX.out
    subst hend
    have C := more' c cap V B c.size 101 (by omega) (by omega) hf1 wc HV.out false (decide_eq_false (fun h => hxe (.inl h))).symm
    have C2 : Hid (∀ q, Calls Tryd.prog 24 #[.pointer (some ⟨V, 0, none⟩), .int .u8 69] (wc.drewN q) fun e w' => e = .returned (.bool false) ∧ ∃ q', w' = (wc.drewN q).drewN q') := fun q => (more' c cap V B c.size 69 (by omega) (by omega) hf1 (wc.drewN q) (HV.out.drewN q) false (decide_eq_false (fun h => hxe (.inr h))).symm).out
    have HF : Hid (∀ q q2, RetV c cap V B w (.returned (.bool true)) (wc.drewN (q + q2))) := fun q q2 => ⟨rfl, HV.out.drewN (q + q2), below_drewN HW.out (q + q2)⟩
    clear hxe HV HW HR3
    go_wp2_with (first | (go_at_call_of 24 (Value.int IntKind.u8 101); refine C.out.mono ?_; rintro e w' ⟨rfl, q, rfl⟩) | (go_at_call_of 24 (Value.int IntKind.u8 69); refine (C2.out _).mono ?_; rintro e w' ⟨rfl, q2, rfl⟩))
    go_ret
    exact HF.out q q2
end Go.Proofs.Qxb6602823aDoor
