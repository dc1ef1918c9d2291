import Derived.Test.Qxb6602823aDoorPlI
import Derived.Test.Qxb6602823aDoorProg
import Derived.WalkKit
import Derived.Handy
import Derived.WalkSpells
import Derived.Laws.IdiomStrings
import Derived.Deep.DeepCutAuto
import Derived.Deep.CutBlock
import Derived.Deep.LoopGhost
import Derived.Deep.QuietTactic
import Derived.BigQuiet
import Derived.WalkSmall
namespace Go.Proofs.Qxb6602823aDoor
open Go.RowKit Go Go.PlainAid

/-- zzIsDigit. -/
theorem isDigit (c : Int) (w : World) : Calls Tryd.prog 15 #[.int .u8 c] w fun e w' => e = .returned (.bool (decide (48 ≤ c) && decide (c ≤ 57))) ∧ w = w' := by
  by_cases h1 : 48 ≤ c
  · by_cases h2 : c ≤ 57
    · go_enter Tryd.func15, Tryd.ntmps15
      go_wp2_with fail
      go_ret
      simp; omega
    · go_enter Tryd.func15, Tryd.ntmps15
      go_wp2_with fail
      go_ret
      simp; omega
  · go_enter Tryd.func15, Tryd.ntmps15
    go_wp2_with fail
    go_ret
    simp; omega
theorem isDigit_yes (c : Int) (w : World) (h1 : 48 ≤ c) (h2 : c ≤ 57) : Hid (Calls Tryd.prog 15 #[.int .u8 c] w fun e w' => e = .returned (.bool true) ∧ w = w') := by
  have := isDigit c w
  rw [decide_eq_true h1, decide_eq_true h2] at this
  exact this
theorem isDigit_no (c : Int) (w : World) (h : ¬ (48 ≤ c ∧ c ≤ 57)) : Hid (Calls Tryd.prog 15 #[.int .u8 c] w fun e w' => e = .returned (.bool false) ∧ w = w') := by
  have := isDigit c w
  have e : (decide (48 ≤ c) && decide (c ≤ 57)) = false := by simp; omega
  rw [e] at this
  exact this

/-- zzReadNumber's answer. -/
def encN : Option Num → Value
  | none => .tuple #[.bool false, .bool false, .string ⟨#[]⟩, .int .i64 0, .int .i64 0, .bool false]
  | some x => .tuple #[.bool true, .bool x.neg, .string ⟨(x.ip ++ x.fd).toArray⟩, .int .i64 x.ip.length, .int .i64 (exOf x.ex).1, .bool (exOf x.ex).2]
def RetN (n : ByteArray) (w : World) (e : Ending) (w' : World) : Prop := e = .returned (encN (rd n.data.toList)) ∧ Below w.heap.size w w'

theorem results_tmp6 {fn : Func} {t1 t2 t3 t4 t5 t6 : Tmp} (h : fn.results = #[.tmp t1, .tmp t2, .tmp t3, .tmp t4, .tmp t5, .tmp t6]) (tmps : Array Value) (P : Program) (w : World) :
    (results fn tmps).run P w = .ok (.tuple #[tmps.getD t1 undef, tmps.getD t2 undef, tmps.getD t3 undef, tmps.getD t4 undef, tmps.getD t5 undef, tmps.getD t6 undef]) w := by
  simp [results, h]
theorem ret_none {n : ByteArray} {w : World} (h : rd n.data.toList = none) (w' : World) (hb : Below w.heap.size w w') : RetN n w (.returned (.tuple #[.bool false, .bool false, .string ⟨#[]⟩, .int .i64 0, .int .i64 0, .bool false])) w' := by
  unfold RetN
  rw [h]
  exact ⟨rfl, hb⟩

theorem exOf_of {n : ByteArray} {i e : Nat} {b : Bool} (h : feAt n i 0 false = (e, b)) (en : Bool) : exOf (some (en, (n.data.toList.drop i).takeWhile dgt)) = (if en = true then -(e : Int) else (e : Int), b) := by
  unfold feAt at h
  simp only [exOf, h]
theorem ext_list (n : ByteArray) (a b : Nat) : (n.extract a b).data.toList = (n.data.toList.drop a).take (b - a) := by
  rw [ByteArray.data_extract, Array.toList_extract, List.extract_eq_take_drop]
theorem ret_some {n : ByteArray} {w : World} {neg : Bool} {ip fd : List UInt8} {ex : Option (Bool × List UInt8)} {i1 i2 f0 f1 : Nat} {ev : Int} {big : Bool} (h : rd n.data.toList = some ⟨neg, ip, fd, ex⟩)
    (hip : ip = (n.data.toList.drop i1).take (i2 - i1)) (hfd : fd = (n.data.toList.drop f0).take (f1 - f0)) (he : exOf ex = (ev, big)) (h12 : i1 ≤ i2) (hi2 : i2 ≤ n.size) (_ : f0 ≤ f1) (_ : f1 ≤ n.size) (k : Nat) :
    RetN n w (.returned (.tuple #[.bool true, .bool neg, .string (n.extract i1 i2 ++ n.extract f0 f1), .int .i64 ((i2 : Int) - i1), .int .i64 ev, .bool big])) (w.drewN k) := by
  have hs : n.extract i1 i2 ++ n.extract f0 f1 = ⟨(ip ++ fd).toArray⟩ := by
    refine ByteArray.ext (Array.toList_inj.1 ?_)
    rw [ByteArray.data_append, Array.toList_append, ext_list, ext_list, ← hip, ← hfd]
  have hl : ip.length = i2 - i1 := by
    rw [hip, List.length_take, List.length_drop]
    have h2 : n.data.toList.length = n.size := Array.length_toList
    rw [h2]
    omega
  unfold RetN
  rw [h]
  refine ⟨?_, below_drewN (Below.refl _ _) k⟩
  show Ending.returned _ = Ending.returned (.tuple #[.bool true, .bool neg, .string ⟨(ip ++ fd).toArray⟩, .int .i64 (ip.length : Int), .int .i64 (exOf ex).1, .bool (exOf ex).2])
  rw [he, hs, show ((ip.length : Nat) : Int) = (i2 : Int) - i1 by omega]

set_option maxRecDepth 100000 in
set_option maxHeartbeats 8000000 in
theorem readNum (n : ByteArray) (w : World) (hn : n.size ≤ 4000000) : Calls Tryd.prog 10 #[.string n] w (RetN n w) := by
  have hbt := get_bt n
  go_enter Tryd.func10, Tryd.ntmps10
  go_upto_region 3 with fail
  go_cut [27] (fun sx wx => ∃ b : Bool, sx = .bool b ∧ Hid (b = decide (bt n 0 = 45)) ∧ w = wx)
  case first => as_aux_lemma =>
    by_cases hx : bt n 0 = 45
    · have hlt : 0 < n.size := bt_lt (by omega)
      have HX : Hid (true = decide (bt n 0 = 45)) := (decide_eq_true hx).symm
      go_wp2_with fail
      go_meet
      exact ⟨_, rfl, HX, rfl⟩
    · have HX : Hid (false = decide (bt n 0 = 45)) := (decide_eq_false hx).symm
      have ht : (bt n 0 == 45) = false := beq_eq_false_iff_ne.2 hx
      by_cases hlt : 0 < n.size
      · go_wp2_with fail
        go_meet
        exact ⟨_, rfl, HX, rfl⟩
      · go_wp2_with fail
        go_meet
        exact ⟨_, rfl, HX, rfl⟩
  case rest =>
  obtain ⟨b, rfl, HB, rfl⟩ := hcut
  go_upto_if 27 with fail
  go_cut [8, 9] (fun s8 s9 wx => w = wx ∧ ∃ (i : Nat) (neg : Bool), i ≤ n.size ∧ s8 = .int .i64 i ∧ s9 = .bool neg ∧ Hid (rd n.data.toList = r2 neg (n.data.toList.drop i)))
  case first => as_aux_lemma =>
    cases b
    rotate_left
    · have hx : bt n 0 = 45 := of_decide_eq_true HB.out.symm
      have hlt : 0 < n.size := bt_lt (by omega)
      have HR : Hid (rd n.data.toList = r2 true (n.data.toList.drop 1)) := rd_min n hx
      go_wp2_with fail
      go_meet
      exact ⟨rfl, 1, true, hlt, rfl, rfl, HR⟩
    · have hx : ¬ bt n 0 = 45 := of_decide_eq_false HB.out.symm
      have HR : Hid (rd n.data.toList = r2 false (n.data.toList.drop 0)) := rd_pos n hx
      go_wp2_with fail
      go_meet
      exact ⟨rfl, 0, false, Nat.zero_le _, rfl, rfl, HR⟩
  case rest =>
  obtain ⟨rfl, i1, neg, hi1, rfl, rfl, HR1⟩ := hcut
  clear HB
  go_upto_region 7 with fail
  go_cut [40] (fun sx wx => ∃ b : Bool, sx = .bool b ∧ Hid (b = decide (bt n i1 = 48)) ∧ w = wx)
  case first => as_aux_lemma =>
    by_cases hx : bt n i1 = 48
    · have hlt : i1 < n.size := bt_lt (by omega)
      have HX : Hid (true = decide (bt n i1 = 48)) := (decide_eq_true hx).symm
      go_wp2_with fail
      go_meet
      exact ⟨_, rfl, HX, rfl⟩
    · have HX : Hid (false = decide (bt n i1 = 48)) := (decide_eq_false hx).symm
      have ht : (bt n i1 == 48) = false := beq_eq_false_iff_ne.2 hx
      by_cases hlt : i1 < n.size
      · go_wp2_with fail
        go_meet
        exact ⟨_, rfl, HX, rfl⟩
      · go_wp2_with fail
        go_meet
        exact ⟨_, rfl, HX, rfl⟩
  case rest =>
  obtain ⟨b, rfl, HB, rfl⟩ := hcut
  go_upto_if 40 with fail
  go_cut [8] (fun s8 wx => w = wx ∧ ∃ j : Nat, i1 < j ∧ j ≤ n.size ∧ s8 = .int .i64 j ∧ Hid (rd n.data.toList = r3 neg ((n.data.toList.drop i1).take (j - i1)) (n.data.toList.drop j)))
  case first => as_aux_lemma =>
    cases b
    rotate_left
    · have hx : bt n i1 = 48 := of_decide_eq_true HB.out.symm
      have hlt : i1 < n.size := bt_lt (by omega)
      have HR : Hid (rd n.data.toList = r3 neg ((n.data.toList.drop i1).take (i1 + 1 - i1)) (n.data.toList.drop (i1 + 1))) := HR1.out.trans (r2_zero n neg i1 hx)
      go_wp2_with fail
      go_meet
      exact ⟨rfl, i1 + 1, by omega, by omega, by go_num, HR⟩
    · have hx : ¬ bt n i1 = 48 := of_decide_eq_false HB.out.symm
      have HX : Hid (¬ bt n i1 = 48) := hx
      go_wp2_with fail
      go_loopg [8] (n.size - i1) (fun g s8 wx => w = wx ∧ ∃ k : Nat, i1 ≤ k ∧ k ≤ n.size ∧ g = n.size - k ∧ s8 = .int .i64 k ∧ Hid (sk n k = sk n i1))
      case atStart => exact ⟨rfl, i1, Nat.le_refl _, hi1, rfl, rfl, rfl⟩
      case round =>
        obtain ⟨rfl, k, hk1, hk2, rfl, rfl, HS⟩ := hrel
        by_cases hd : 48 ≤ bt n k ∧ bt n k ≤ 57
        · have hlt : k < n.size := bt_lt (by omega)
          have C := isDigit_yes (bt n k) w hd.1 hd.2
          have HS' : Hid (sk n (k + 1) = sk n i1) := (sk_step n k hd.1 hd.2).symm.trans HS.out
          clear hd hx
          go_wp2_with (go_at_call 15; refine C.out.mono ?_; rintro e w' ⟨rfl, rfl⟩)
          go_roundg (n.size - (k + 1))
          case measure => omega
          case rel => exact ⟨rfl, k + 1, by omega, by omega, rfl, by go_num, HS'⟩
        · have hsk : k = sk n i1 := by rw [← HS.out]; exact (sk_end n k hd).symm
          have C := isDigit_no (bt n k) w hd
          clear hd hx
          by_cases hki : k = i1
          · have HN : Hid (rd n.data.toList = none) := HR1.out.trans (r2_none n neg i1 HX.out (by omega))
            subst hki
            clear hsk
            by_cases hlt : k < n.size
            · go_wp2_with (go_at_call 15; refine C.out.mono ?_; rintro e w' ⟨rfl, rfl⟩)
              (try simp only [Exit.inBlock, Exit.then]); refine bodyPost_ret (results_tmp6 rfl _ _ _) rfl ?_
              exact ret_none HN.out _ (Below.refl _ _)
            · go_wp2_with fail
              (try simp only [Exit.inBlock, Exit.then]); refine bodyPost_ret (results_tmp6 rfl _ _ _) rfl ?_
              exact ret_none HN.out _ (Below.refl _ _)
          · have HN : Hid (rd n.data.toList = r3 neg ((n.data.toList.drop i1).take (k - i1)) (n.data.toList.drop k)) := by
              have := HR1.out.trans (r2_some' n neg i1 HX.out (by omega))
              rw [← hsk] at this
              exact this
            clear hsk
            by_cases hlt : k < n.size
            · go_wp2_with (go_at_call 15; refine C.out.mono ?_; rintro e w' ⟨rfl, rfl⟩)
              go_meet
              exact ⟨rfl, k, by omega, hk2, rfl, HN⟩
            · go_wp2_with fail
              go_meet
              exact ⟨rfl, k, by omega, hk2, rfl, HN⟩
  case rest =>
  obtain ⟨rfl, i2, h12, hi2, rfl, HR2⟩ := hcut
  obtain ⟨ip, hip⟩ : ∃ ip, ip = (n.data.toList.drop i1).take (i2 - i1) := ⟨_, rfl⟩
  rw [← hip] at HR2
  have HIP : Hid (ip = (n.data.toList.drop i1).take (i2 - i1)) := hip
  clear hip HR1 HB
  go_upto_region 16 with fail
  go_cut [70] (fun sx wx => ∃ b : Bool, sx = .bool b ∧ Hid (b = decide (bt n i2 = 46)) ∧ w = wx)
  case first => as_aux_lemma =>
    by_cases hx : bt n i2 = 46
    · have hlt : i2 < n.size := bt_lt (by omega)
      have HX : Hid (true = decide (bt n i2 = 46)) := (decide_eq_true hx).symm
      go_wp2_with fail
      go_meet
      exact ⟨_, rfl, HX, rfl⟩
    · have HX : Hid (false = decide (bt n i2 = 46)) := (decide_eq_false hx).symm
      have ht : (bt n i2 == 46) = false := beq_eq_false_iff_ne.2 hx
      by_cases hlt : i2 < n.size
      · go_wp2_with fail
        go_meet
        exact ⟨_, rfl, HX, rfl⟩
      · go_wp2_with fail
        go_meet
        exact ⟨_, rfl, HX, rfl⟩
  case rest =>
  obtain ⟨b, rfl, HB, rfl⟩ := hcut
  go_upto_if 70 with fail
  go_cut [8, 12, 13] (fun s8 s12 s13 wx => w = wx ∧ ∃ f0 f1 : Nat, f0 ≤ f1 ∧ f1 ≤ n.size ∧ s8 = .int .i64 f1 ∧ s12 = .int .i64 f0 ∧ s13 = .int .i64 f1 ∧ Hid (rd n.data.toList = r4 neg ip ((n.data.toList.drop f0).take (f1 - f0)) (n.data.toList.drop f1)))
  case first => as_aux_lemma =>
    cases b
    rotate_left
    · have hx : bt n i2 = 46 := of_decide_eq_true HB.out.symm
      have hlt : i2 < n.size := bt_lt (by omega)
      have HX : Hid (bt n i2 = 46) := hx
      go_wp2_with fail
      go_loopg [8] (n.size - (i2 + 1)) (fun g s8 wx => w = wx ∧ ∃ k : Nat, i2 + 1 ≤ k ∧ k ≤ n.size ∧ g = n.size - k ∧ s8 = .int .i64 k ∧ Hid (sk n k = sk n (i2 + 1)))
      case atStart => exact ⟨rfl, i2 + 1, Nat.le_refl _, by omega, rfl, by go_num, rfl⟩
      case round =>
        obtain ⟨rfl, k, hk1, hk2, rfl, rfl, HS⟩ := hrel
        by_cases hd : 48 ≤ bt n k ∧ bt n k ≤ 57
        · have hlt : k < n.size := bt_lt (by omega)
          have C := isDigit_yes (bt n k) w hd.1 hd.2
          have HS' : Hid (sk n (k + 1) = sk n (i2 + 1)) := (sk_step n k hd.1 hd.2).symm.trans HS.out
          clear hd hx
          go_wp2_with (go_at_call 15; refine C.out.mono ?_; rintro e w' ⟨rfl, rfl⟩)
          go_roundg (n.size - (k + 1))
          case measure => omega
          case rel => exact ⟨rfl, k + 1, by omega, by omega, rfl, by go_num, HS'⟩
        · have hsk : k = sk n (i2 + 1) := by rw [← HS.out]; exact (sk_end n k hd).symm
          have C := isDigit_no (bt n k) w hd
          clear hd hx
          by_cases hki : k = i2 + 1
          · have HN : Hid (rd n.data.toList = none) := HR2.out.trans (r3_none n neg ip i2 HX.out (by omega))
            have hkz : ((k : Int) == (i2 : Int) + 1) = true := beq_iff_eq.2 (by omega)
            clear hsk hki
            by_cases hlt : k < n.size
            · go_wp2_with (go_at_call 15; refine C.out.mono ?_; rintro e w' ⟨rfl, rfl⟩)
              (try simp only [Exit.inBlock, Exit.then]); refine bodyPost_ret (results_tmp6 rfl _ _ _) rfl ?_
              exact ret_none HN.out _ (Below.refl _ _)
            · go_wp2_with fail
              (try simp only [Exit.inBlock, Exit.then]); refine bodyPost_ret (results_tmp6 rfl _ _ _) rfl ?_
              exact ret_none HN.out _ (Below.refl _ _)
          · have HN : Hid (rd n.data.toList = r4 neg ip ((n.data.toList.drop (i2 + 1)).take (k - (i2 + 1))) (n.data.toList.drop k)) := by
              have := HR2.out.trans (r3_dot n neg ip i2 HX.out (by omega))
              rw [← hsk] at this
              exact this
            have hkz : ((k : Int) == (i2 : Int) + 1) = false := beq_eq_false_iff_ne.2 (by omega)
            clear hsk hki
            by_cases hlt : k < n.size
            · go_wp2_with (go_at_call 15; refine C.out.mono ?_; rintro e w' ⟨rfl, rfl⟩)
              go_meet
              exact ⟨rfl, i2 + 1, k, by omega, hk2, rfl, by go_num, rfl, HN⟩
            · go_wp2_with fail
              go_meet
              exact ⟨rfl, i2 + 1, k, by omega, hk2, rfl, by go_num, rfl, HN⟩
    · have hx : ¬ bt n i2 = 46 := of_decide_eq_false HB.out.symm
      have HR : Hid (rd n.data.toList = r4 neg ip ((n.data.toList.drop i2).take (i2 - i2)) (n.data.toList.drop i2)) := HR2.out.trans (r3_not n neg ip i2 hx)
      go_wp2_with fail
      go_meet
      exact ⟨rfl, i2, i2, Nat.le_refl _, hi2, rfl, rfl, rfl, HR⟩
  case rest =>
  obtain ⟨rfl, f0, f1, hf01, hf1, rfl, rfl, rfl, HR3⟩ := hcut
  obtain ⟨fd, hfd⟩ : ∃ fd, fd = (n.data.toList.drop f0).take (f1 - f0) := ⟨_, rfl⟩
  rw [← hfd] at HR3
  have HFD : Hid (fd = (n.data.toList.drop f0).take (f1 - f0)) := hfd
  clear hfd HR2 HB
  go_upto_region 26 with fail
  go_cut [105] (fun sx wx => ∃ b : Bool, sx = .bool b ∧ Hid (b = decide (bt n f1 = 101 ∨ bt n f1 = 69)) ∧ w = wx)
  case first => as_aux_lemma =>
    by_cases hx : bt n f1 = 101
    · have hlt : f1 < n.size := bt_lt (by omega)
      have HX : Hid (true = decide (bt n f1 = 101 ∨ bt n f1 = 69)) := (decide_eq_true (.inl hx)).symm
      go_wp2_with fail
      go_meet
      exact ⟨_, rfl, HX, rfl⟩
    · have ht : (bt n f1 == 101) = false := beq_eq_false_iff_ne.2 hx
      by_cases hy : bt n f1 = 69
      · have hlt : f1 < n.size := bt_lt (by omega)
        have HX : Hid (true = decide (bt n f1 = 101 ∨ bt n f1 = 69)) := (decide_eq_true (.inr hy)).symm
        go_wp2_with fail
        go_meet
        exact ⟨_, rfl, HX, rfl⟩
      · have HX : Hid (false = decide (bt n f1 = 101 ∨ bt n f1 = 69)) := (decide_eq_false (fun h => h.elim hx hy)).symm
        have ht2 : (bt n f1 == 69) = false := beq_eq_false_iff_ne.2 hy
        by_cases hlt : f1 < n.size
        · go_wp2_with fail
          go_meet
          exact ⟨_, rfl, HX, rfl⟩
        · go_wp2_with fail
          go_meet
          exact ⟨_, rfl, HX, rfl⟩
  case rest =>
  obtain ⟨b, rfl, HB, rfl⟩ := hcut
  go_upto_if 105 with fail
  go_cut [8, 14, 15, 16, 17] (fun s8 s14 s15 _ _ wx => w = wx ∧ ∃ (j : Nat) (ex : Option (Bool × List UInt8)) (ev : Int) (big : Bool), j ≤ n.size ∧ s8 = .int .i64 j ∧ s14 = .int .i64 ev ∧ s15 = .bool big ∧ Hid (exOf ex = (ev, big)) ∧ Hid (rd n.data.toList = if j = n.size then some ⟨neg, ip, fd, ex⟩ else none))
  case first => as_aux_lemma =>
    cases b
    · have hx := of_decide_eq_false HB.out.symm
      have HR : Hid (rd n.data.toList = if f1 = n.size then some ⟨neg, ip, fd, none⟩ else none) := HR3.out.trans (r4_not n neg ip fd f1 hf1 hx)
      clear hx HB
      go_wp2_with fail
      go_meet
      exact ⟨rfl, f1, none, 0, false, hf1, rfl, rfl, rfl, rfl, HR⟩
    · have hx := of_decide_eq_true HB.out.symm
      have hlt : f1 < n.size := bt_lt (by omega)
      obtain ⟨e0, he0⟩ : ∃ e0, e0 = f1 + 1 := ⟨_, rfl⟩
      have hez : (f1 : Int) + 1 = (e0 : Int) := by omega
      have hee : e0 ≤ n.size := by omega
      have HR4 : Hid (rd n.data.toList = r5 neg ip fd (n.data.toList.drop e0)) := by rw [he0]; exact HR3.out.trans (r4_exp n neg ip fd f1 hx)
      clear hx HB he0 HR3
      go_upto_region 29 with fail
      go_cut [123] (fun sx wx => ∃ b : Bool, sx = .bool b ∧ Hid (b = decide (bt n e0 = 43 ∨ bt n e0 = 45)) ∧ w = wx)
      case first => as_aux_lemma =>
        by_cases hx : bt n e0 = 43
        · have hlt : e0 < n.size := bt_lt (by omega)
          have HX : Hid (true = decide (bt n e0 = 43 ∨ bt n e0 = 45)) := (decide_eq_true (.inl hx)).symm
          go_wp2_with fail
          go_meet
          exact ⟨_, rfl, HX, rfl⟩
        · have ht : (bt n e0 == 43) = false := beq_eq_false_iff_ne.2 hx
          by_cases hy : bt n e0 = 45
          · have hlt : e0 < n.size := bt_lt (by omega)
            have HX : Hid (true = decide (bt n e0 = 43 ∨ bt n e0 = 45)) := (decide_eq_true (.inr hy)).symm
            go_wp2_with fail
            go_meet
            exact ⟨_, rfl, HX, rfl⟩
          · have HX : Hid (false = decide (bt n e0 = 43 ∨ bt n e0 = 45)) := (decide_eq_false (fun h => h.elim hx hy)).symm
            have ht2 : (bt n e0 == 45) = false := beq_eq_false_iff_ne.2 hy
            by_cases hlt : e0 < n.size
            · go_wp2_with fail
              go_meet
              exact ⟨_, rfl, HX, rfl⟩
            · go_wp2_with fail
              go_meet
              exact ⟨_, rfl, HX, rfl⟩
      case rest =>
      obtain ⟨b, rfl, HB, rfl⟩ := hcut
      clear hez
      go_upto_if 123 with fail
      go_cut [8, 16] (fun s8 s16 wx => w = wx ∧ ∃ (e1 : Nat) (en : Bool), e1 ≤ n.size ∧ s8 = .int .i64 e1 ∧ s16 = .bool en ∧ Hid (rd n.data.toList = r6 neg ip fd en (n.data.toList.drop e1)))
      case first => as_aux_lemma =>
        cases b
        · have hx := of_decide_eq_false HB.out.symm
          have HR : Hid (rd n.data.toList = r6 neg ip fd false (n.data.toList.drop e0)) := HR4.out.trans (r5_not n neg ip fd e0 (fun h => hx (.inl h)) (fun h => hx (.inr h)))
          clear hx HB
          go_wp2_with fail
          go_meet
          exact ⟨rfl, e0, false, hee, rfl, rfl, HR⟩
        · have hx := of_decide_eq_true HB.out.symm
          have hlt : e0 < n.size := bt_lt (by omega)
          rcases hx with hx | hx
          · have HR : Hid (rd n.data.toList = r6 neg ip fd false (n.data.toList.drop (e0 + 1))) := HR4.out.trans (r5_plus n neg ip fd e0 hx)
            go_wp2_with fail
            go_meet
            exact ⟨rfl, e0 + 1, false, hlt, by go_num, rfl, HR⟩
          · have HR : Hid (rd n.data.toList = r6 neg ip fd true (n.data.toList.drop (e0 + 1))) := HR4.out.trans (r5_minus n neg ip fd e0 hx)
            go_wp2_with fail
            go_meet
            exact ⟨rfl, e0 + 1, true, hlt, by go_num, rfl, HR⟩
      case rest =>
      obtain ⟨rfl, e1, en, he1, rfl, rfl, HR5⟩ := hcut
      clear HB HR4
      go_wp2_with fail
      go_loopg [8, 14, 15] (n.size - e1) (fun g s8 s14 s15 wx => w = wx ∧ ∃ (k e : Nat) (b : Bool), e1 ≤ k ∧ k ≤ n.size ∧ g = n.size - k ∧ s8 = .int .i64 k ∧ s14 = .int .i64 e ∧ s15 = .bool b ∧ e ≤ 10000000009 ∧ Hid (b = false → e ≤ 1000000000) ∧ Hid (sk n k = sk n e1) ∧ Hid (feAt n k e b = feAt n e1 0 false))
      case atStart => exact ⟨rfl, e1, 0, false, Nat.le_refl _, he1, rfl, rfl, rfl, rfl, by omega, fun _ => by omega, rfl, rfl⟩
      case round =>
        obtain ⟨rfl, k, e, b, hk1, hk2, rfl, rfl, rfl, rfl, hle, HL, HS, HF⟩ := hrel
        by_cases hd : 48 ≤ bt n k ∧ bt n k ≤ 57
        · have hlt : k < n.size := bt_lt (by omega)
          have C := isDigit_yes (bt n k) w hd.1 hd.2
          have HS' : Hid (sk n (k + 1) = sk n e1) := (sk_step n k hd.1 hd.2).symm.trans HS.out
          cases b
          · have hl := HL.out rfl
            obtain ⟨d, hdd⟩ : ∃ d : Nat, bt n k = (d : Int) + 48 := ⟨(bt n k - 48).toNat, by omega⟩
            have hd9 : d ≤ 9 := by omega
            have HF' : Hid (feAt n (k + 1) (e * 10 + d) (decide (1000000000 < e * 10 + d)) = feAt n e1 0 false) := (feAt_step n k e d hdd hd9).symm.trans HF.out
            rw [hdd] at C
            clear hd HS HF
            by_cases hb : 1000000000 < e * 10 + d
            · have hbz : (1000000000 : Int) < (e : Int) * 10 + (d : Int) := by omega
              rw [decide_eq_true hb] at HF'
              go_wp2_with (go_at_call 15; refine C.out.mono ?_; rintro e w' ⟨rfl, rfl⟩)
              go_roundg (n.size - (k + 1))
              case measure => omega
              case rel => exact ⟨rfl, k + 1, e * 10 + d, true, by omega, by omega, rfl, by go_num, by go_num, rfl, by omega, (fun h => by cases h), HS', HF'⟩
            · have hbz : ¬ (1000000000 : Int) < (e : Int) * 10 + (d : Int) := by omega
              rw [decide_eq_false hb] at HF'
              go_wp2_with (go_at_call 15; refine C.out.mono ?_; rintro e w' ⟨rfl, rfl⟩)
              go_roundg (n.size - (k + 1))
              case measure => omega
              case rel => exact ⟨rfl, k + 1, e * 10 + d, false, by omega, by omega, rfl, by go_num, by go_num, rfl, by omega, (fun _ => by omega), HS', HF'⟩
          · have HF' : Hid (feAt n (k + 1) e true = feAt n e1 0 false) := (feAt_big n k e).symm.trans HF.out
            clear hd HS HF
            go_wp2_with (go_at_call 15; refine C.out.mono ?_; rintro e w' ⟨rfl, rfl⟩)
            go_roundg (n.size - (k + 1))
            case measure => omega
            case rel => exact ⟨rfl, k + 1, e, true, by omega, by omega, rfl, by go_num, rfl, rfl, hle, (fun h => by cases h), HS', HF'⟩
        · have hsk : k = sk n e1 := by rw [← HS.out]; exact (sk_end n k hd).symm
          have C := isDigit_no (bt n k) w hd
          have HF' : Hid (feAt n e1 0 false = (e, b)) := HF.out.symm.trans (feAt_end n k e b hd)
          clear hd HS HF
          by_cases hki : k = e1
          · have HN : Hid (rd n.data.toList = none) := HR5.out.trans (r6_none n neg ip fd en e1 (by omega))
            subst hki
            clear hsk
            by_cases hlt : k < n.size
            · go_wp2_with (go_at_call 15; refine C.out.mono ?_; rintro e w' ⟨rfl, rfl⟩)
              (try simp only [Exit.inBlock, Exit.then]); refine bodyPost_ret (results_tmp6 rfl _ _ _) rfl ?_
              exact ret_none HN.out _ (Below.refl _ _)
            · go_wp2_with fail
              (try simp only [Exit.inBlock, Exit.then]); refine bodyPost_ret (results_tmp6 rfl _ _ _) rfl ?_
              exact ret_none HN.out _ (Below.refl _ _)
          · have HN : Hid (rd n.data.toList = if k = n.size then some ⟨neg, ip, fd, some (en, (n.data.toList.drop e1).takeWhile dgt)⟩ else none) := by
              have := HR5.out.trans (r6_is n neg ip fd en e1 he1 (by omega))
              rw [← hsk] at this
              exact this
            have hkz : ((k : Int) == (e1 : Int)) = false := beq_eq_false_iff_ne.2 (by omega)
            clear hsk
            cases en
            · have HE : Hid (exOf (some (false, (n.data.toList.drop e1).takeWhile dgt)) = ((e : Int), b)) := exOf_of HF'.out false
              by_cases hlt : k < n.size
              · go_wp2_with (go_at_call 15; refine C.out.mono ?_; rintro e w' ⟨rfl, rfl⟩)
                go_meet
                exact ⟨rfl, k, _, _, b, hk2, rfl, rfl, rfl, HE, HN⟩
              · go_wp2_with fail
                go_meet
                exact ⟨rfl, k, _, _, b, hk2, rfl, rfl, rfl, HE, HN⟩
            · have HE : Hid (exOf (some (true, (n.data.toList.drop e1).takeWhile dgt)) = (-(e : Int), b)) := exOf_of HF'.out true
              by_cases hlt : k < n.size
              · go_wp2_with (go_at_call 15; refine C.out.mono ?_; rintro e w' ⟨rfl, rfl⟩)
                go_meet
                exact ⟨rfl, k, _, _, b, hk2, rfl, rfl, rfl, HE, HN⟩
              · go_wp2_with fail
                go_meet
                exact ⟨rfl, k, _, _, b, hk2, rfl, rfl, rfl, HE, HN⟩
  case rest =>
  obtain ⟨rfl, j, ex, ev, big, hj, rfl, rfl, rfl, HE, HR4⟩ := hcut
  by_cases hjn : j = n.size
  · have HF : Hid (rd n.data.toList = some ⟨neg, ip, fd, ex⟩) := by have := HR4.out; rw [if_pos hjn] at this; exact this
    have g1 : (i1 : Int) ≤ (i2 : Int) := by omega
    have g2 : (i2 : Int) ≤ (n.size : Int) := by omega
    have g3 : (f0 : Int) ≤ (f1 : Int) := by omega
    have g4 : (f1 : Int) ≤ (n.size : Int) := by omega
    subst hjn
    clear hbt
    go_wp2_with fail
    go_quiet (fail)
    go_wp2_with fail
    (try simp only [Exit.inBlock, Exit.then]); refine bodyPost_ret (results_tmp6 rfl _ _ _) rfl ?_
    exact ret_some HF.out HIP.out HFD.out HE.out (by omega) (by omega) hf01 hf1 _
  · have HF : Hid (rd n.data.toList = none) := by have := HR4.out; rw [if_neg hjn] at this; exact this
    have hjz : ((j : Int) != (n.size : Int)) = true := by simp; omega
    go_wp2_with fail
    (try simp only [Exit.inBlock, Exit.then]); refine bodyPost_ret (results_tmp6 rfl _ _ _) rfl ?_
    exact ret_none HF.out _ (Below.refl _ _)
end Go.Proofs.Qxb6602823aDoor
