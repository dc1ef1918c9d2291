import Derived.Test.Qxb6602823aDoorRdA
import Derived.Test.Qxb6602823aDoorIt
import Derived.Test.Qxb6602823aDoorCa
import Derived.RegionTactic
import Derived.Deep.RegionWith
namespace Go.Proofs.Qxb6602823aDoor
open Go.RowKit Go Go.PlainAid

/-! ### Leading and trailing zeros, by the place -/
theorem tl_step (D : ByteArray) (k : Nat) (h : bt D k = 48) : Lib.trimLeftB (D.data.toList.drop k) 48 = Lib.trimLeftB (D.data.toList.drop (k + 1)) 48 := by
  rw [bt_cons (k := 48) h (by decide)]
  rfl
theorem tl_end (D : ByteArray) (k : Nat) (h : ¬ bt D k = 48) : Lib.trimLeftB (D.data.toList.drop k) 48 = D.data.toList.drop k := by
  by_cases hlt : k < D.size
  · obtain ⟨x, e1, e2⟩ := bt_drop D k hlt
    rw [e1]
    unfold Lib.trimLeftB
    rw [List.dropWhile_cons, if_neg (by
      rw [beq_iff_eq]
      intro e
      exact h (by rw [e2, e]; rfl))]
  · rw [drop_end D (by omega)]
    rfl
theorem tr_step (l : List UInt8) : Lib.trimRightB (l ++ [48]) 48 = Lib.trimRightB l 48 := by
  unfold Lib.trimRightB
  rw [List.reverse_append]
  rfl
theorem tr_end (l : List UInt8) (c : UInt8) (h : c ≠ 48) : Lib.trimRightB (l ++ [c]) 48 = l ++ [c] := by
  unfold Lib.trimRightB
  rw [List.reverse_append, List.reverse_singleton, List.singleton_append, List.dropWhile_cons, if_neg (by rw [beq_iff_eq]; exact h), List.reverse_cons, List.reverse_reverse]
/-- The piece from k up to m, the byte at m with it. -/
theorem piece_snoc (D : ByteArray) (k m : Nat) (hk : k ≤ m) (hm : m < D.size) : ∃ x : UInt8, bt D m = (x.toNat : Int) ∧ (D.data.toList.drop k).take (m + 1 - k) = (D.data.toList.drop k).take (m - k) ++ [x] := by
  obtain ⟨x, e1, e2⟩ := bt_drop D m hm
  refine ⟨x, e2, ?_⟩
  have h2 : D.data.toList.length = D.size := Array.length_toList
  have hl : m - k < (D.data.toList.drop k).length := by rw [List.length_drop, h2]; omega
  rw [show m + 1 - k = (m - k) + 1 by omega, List.take_succ_eq_append_getElem hl, List.getElem_drop]
  have e3 : D.data.toList[m]? = some x := by
    have := congrArg List.head? e1
    rw [List.head?_drop] at this
    exact this
  have e4 : D.data.toList[k + (m - k)]? = some x := by rw [show k + (m - k) = m by omega]; exact e3
  rw [(List.getElem?_eq_some_iff.1 e4).2]

/-- zzCanonModel's answer. -/
def encM (n : ByteArray) : Option Num → Value
  | none => .tuple #[.bool false, .string ⟨#[]⟩]
  | some x => .tuple #[.bool true, .string ⟨(canonB n.data.toList x).toArray⟩]
def RetM (n : ByteArray) (w : World) (e : Ending) (w' : World) : Prop := e = .returned (encM n (rd n.data.toList)) ∧ Below w.heap.size w w'

theorem retM {n : ByteArray} {x : Num} {w w' : World} (h : rd n.data.toList = some x) {s : ByteArray} (hs : RetS (canonB n.data.toList x) w (.returned (.string s)) w') :
    RetM n w (.returned (.tuple #[.bool true, .string s])) w' := by
  refine ⟨?_, hs.2⟩
  rw [h]
  have := hs.1
  injection this with this
  injection this with this
  rw [this]
  rfl

set_option maxRecDepth 100000 in
set_option maxHeartbeats 4000000 in
theorem model (n : ByteArray) (w : World) (hn : n.size ≤ 4000000) : Calls Tryd.prog 7 #[.string n] w (RetM n w) := by
  have C10 : Hid (Calls Tryd.prog 10 #[.string n] w (RetN n w)) := readNum n w hn
  cases hrd : rd n.data.toList with
  | none =>
    have C : Hid (Calls Tryd.prog 10 #[.string n] w fun e w' => e = .returned (.tuple #[.bool false, .bool false, .string ⟨#[]⟩, .int .i64 0, .int .i64 0, .bool false]) ∧ Below w.heap.size w w') :=
      C10.out.mono fun _ _ h => ⟨by have := h.1; rw [hrd] at this; exact this, h.2⟩
    have HR : Hid (∀ w', Below w.heap.size w w' → RetM n w (.returned (.tuple #[.bool false, .string ⟨#[]⟩])) w') := fun w' hb => ⟨by rw [hrd]; rfl, hb⟩
    clear C10 hrd
    go_enter Tryd.func7, Tryd.ntmps7
    go_wp2_with (go_at_call 10; refine C.out.mono ?_; rintro e w' ⟨rfl, hB⟩; have HB : Hid (Below w.heap.size w w') := hB; clear hB)
    go_ret2
    exact HR.out _ HB.out
  | some x =>
    obtain ⟨P, E, hS⟩ := rd_some hrd
    obtain ⟨DG, hDG⟩ : ∃ DG : ByteArray, DG = ⟨(x.ip ++ x.fd).toArray⟩ := ⟨_, rfl⟩
    obtain ⟨ev, hev⟩ : ∃ ev, ev = (exOf x.ex).1 := ⟨_, rfl⟩
    obtain ⟨ng, hng⟩ : ∃ ng, ng = x.neg := ⟨_, rfl⟩
    obtain ⟨pl, hpl⟩ : ∃ pl, pl = x.ip.length := ⟨_, rfl⟩
    obtain ⟨big, hbig⟩ : ∃ big, big = (exOf x.ex).2 := ⟨_, rfl⟩
    have C : Hid (Calls Tryd.prog 10 #[.string n] w fun e w' => e = .returned (.tuple #[.bool true, .bool ng, .string DG, .int .i64 pl, .int .i64 ev, .bool big]) ∧ Below w.heap.size w w') :=
      C10.out.mono fun _ _ h => ⟨by have := h.1; rw [hrd] at this; rw [hDG, hev, hng, hpl, hbig]; exact this, h.2⟩
    have hDl : DG.data.toList = x.ip ++ x.fd := by rw [hDG]
    cases big with
    | true =>
      have HT : Hid (∀ w', Below w.heap.size w w' → RetM n w (.returned (.tuple #[.bool true, .string (⟨#[126]⟩ ++ n)])) w') := fun w' hb => retM hrd (ret_tilde hbig.symm hb)
      clear C10 hrd hS hDG hev hng hpl hbig hDl
      go_enter Tryd.func7, Tryd.ntmps7
      go_wp2_with (go_at_call 10; refine C.out.mono ?_; rintro e w' ⟨rfl, hB⟩; have HB : Hid (Below w.heap.size w w') := hB; clear hB)
      go_ret2
      exact HT.out _ HB.out
    | false =>
      obtain ⟨_, hv1, hv2⟩ := (parse_ex hS).1 hbig.symm
      rw [← hev] at hv1 hv2
      have hsz : DG.size ≤ 4000000 ∧ pl ≤ 4000000 := by
        have hlen := congrArg List.length hS.eq
        have hP : x.fd.length ≤ P.length := by rcases hS.frac with ⟨rfl, h2⟩ | ⟨h2, _⟩ <;> rw [h2] <;> simp
        rw [← Lib.size_eq] at hlen
        simp only [List.length_append] at hlen
        rw [Lib.size_eq, hDl, List.length_append]
        omega
      obtain ⟨hs1, hs2⟩ := hsz
      have F0 : Hid (sigOf x = [] → ∀ w', Below w.heap.size w w' → RetM n w (.returned (.tuple #[.bool true, .string ⟨#[48]⟩])) w') := fun hs w' hb => retM hrd (ret_zero hbig.symm hs hb)
      have F1 : Hid (∀ k m : Nat, k ≤ DG.size → sigOf x ≠ [] → (DG.data.toList.drop k).take (m + 1 - k) = sigOf x → powOf x = (pl : Int) + ev - (k : Int) → ∀ w', Below w.heap.size w w' →
          RetM n w (.returned (.tuple #[.bool true, .string (⟨(sgOf ng).toArray⟩ ++ ⟨#[48, 46]⟩ ++ DG.extract k (m + 1) ++ ⟨#[101]⟩ ++ ⟨(Lib.itoa ((pl : Int) + ev - (k : Int))).toArray⟩)])) w') := fun k m _ hs h1 h2 w' hb => by
        refine retM hrd ?_
        have := ret_form (n := n) hbig.symm hs hb
        rw [← h2, hng, list_ba (DG.extract k (m + 1)) (sigOf x) (by rw [ext_list, h1])]
        exact this
      have HSG : Hid (sigOf x = Lib.trimRightB (Lib.trimLeftB DG.data.toList 48) 48) := by show sigOf x = _; rw [hDl]; rfl
      have HPW : Hid (powOf x = (pl : Int) + ev - ((DG.size : Int) - (Lib.trimLeftB DG.data.toList 48).length)) := by
        show powOf x = _
        rw [Lib.size_eq, hDl, hpl, hev]; rfl
      have hbt := get_bt DG
      clear C10 hrd hS hDG hev hng hpl hbig hDl
      go_enter Tryd.func7, Tryd.ntmps7
      go_wp2_with (go_at_call 10; refine C.out.mono ?_; rintro e w' ⟨rfl, hB⟩; have HB : Hid (Below w.heap.size w w') := hB; clear hB)
      go_loopg [10] DG.size (fun g s10 wx => w' = wx ∧ ∃ k : Nat, k ≤ DG.size ∧ g = DG.size - k ∧ s10 = .int .i64 k ∧ Hid (Lib.trimLeftB DG.data.toList 48 = Lib.trimLeftB (DG.data.toList.drop k) 48))
      case atStart => exact ⟨rfl, 0, Nat.zero_le _, rfl, rfl, rfl⟩
      case round =>
        obtain ⟨rfl, k, hk, rfl, rfl, HK⟩ := hrel
        by_cases hx : bt DG k = 48
        · have hlt : k < DG.size := bt_lt (by omega)
          have HK' : Hid (Lib.trimLeftB DG.data.toList 48 = Lib.trimLeftB (DG.data.toList.drop (k + 1)) 48) := HK.out.trans (tl_step DG k hx)
          clear HK
          go_wp2_with fail
          go_roundg (DG.size - (k + 1))
          case measure => omega
          case rel => exact ⟨rfl, k + 1, by omega, rfl, by go_num, HK'⟩
        · have HK' : Hid (Lib.trimLeftB DG.data.toList 48 = DG.data.toList.drop k) := HK.out.trans (tl_end DG k hx)
          have ht : (bt DG k == 48) = false := beq_eq_false_iff_ne.2 hx
          have HX : Hid (¬ bt DG k = 48) := hx
          clear HK hx
          by_cases hke : k = DG.size
          · have HZ : Hid (sigOf x = []) := by
              show sigOf x = []
              rw [HSG.out, HK'.out, drop_end DG (by omega)]
              rfl
            subst hke
            go_wp2_with fail
            go_ret2
            exact F0.out HZ.out _ HB.out
          · have hlt : k < DG.size := by omega
            have hke' : ((k : Int) == (DG.size : Int)) = false := beq_eq_false_iff_ne.2 (by omega)
            have HP : Hid (powOf x = (pl : Int) + ev - (k : Int)) := by
              show powOf x = _
              rw [HPW.out, HK'.out, List.length_drop, ← Lib.size_eq]
              omega
            have HS1 : Hid (sigOf x = Lib.trimRightB (DG.data.toList.drop k) 48) := by show sigOf x = _; rw [HSG.out, HK'.out]
            clear HSG HPW F0
            obtain ⟨m0, hm0⟩ : ∃ m0 : Nat, DG.size = m0 + 1 := ⟨DG.size - 1, by omega⟩
            have hmz : (DG.size : Int) - 1 = (m0 : Int) := by omega
            go_wp2_with fail
            go_loopg [11] (m0 - k) (fun g s11 wx => w' = wx ∧ ∃ m : Nat, k ≤ m ∧ m ≤ m0 ∧ g = m - k ∧ s11 = .int .i64 m ∧ Hid (sigOf x = Lib.trimRightB ((DG.data.toList.drop k).take (m + 1 - k)) 48))
            case atStart =>
              refine ⟨rfl, m0, by omega, Nat.le_refl _, rfl, rfl, ?_⟩
              show sigOf x = _
              rw [List.take_of_length_le (by rw [List.length_drop, ← Lib.size_eq]; omega)]
              exact HS1.out
            case round =>
              obtain ⟨rfl, m, hkm, hmm, rfl, rfl, HM⟩ := hrel
              have hlm : m < DG.size := by omega
              by_cases hx : bt DG m = 48 ∧ k < m
              · obtain ⟨m1, rfl⟩ : ∃ m1, m = m1 + 1 := ⟨m - 1, by omega⟩
                have HM' : Hid (sigOf x = Lib.trimRightB ((DG.data.toList.drop k).take (m1 + 1 - k)) 48) := by
                  obtain ⟨y, e1, e2⟩ := piece_snoc DG k (m1 + 1) (by omega) hlm
                  have hy : y = 48 := u8_of (e1.symm.trans hx.1)
                  show sigOf x = _
                  rw [HM.out, e2, hy, tr_step]
                have hx1 := hx.1
                have hx2 : (k : Int) < (m1 : Int) + 1 := by omega
                clear HM hx
                go_wp2_with fail
                go_roundg (m1 - k)
                case measure => omega
                case rel => exact ⟨rfl, m1, by omega, by omega, rfl, by go_num, HM'⟩
              · have hx48 : ¬ bt DG m = 48 := fun h => by
                  by_cases hkm' : k = m
                  · subst hkm'; exact HX.out h
                  · exact hx ⟨h, by omega⟩
                have HM' : Hid ((DG.data.toList.drop k).take (m + 1 - k) = sigOf x ∧ sigOf x ≠ []) := by
                  obtain ⟨y, e1, e2⟩ := piece_snoc DG k m hkm hlm
                  have hy : y ≠ 48 := fun e => hx48 (by rw [e1, e]; rfl)
                  have : sigOf x = (DG.data.toList.drop k).take (m - k) ++ [y] := by rw [HM.out, e2, tr_end _ _ hy]
                  exact ⟨by rw [this, e2], by rw [this]; simp⟩
                have htm : (bt DG m == 48) = false := beq_eq_false_iff_ne.2 hx48
                obtain ⟨M1, hM1⟩ : ∃ M1, M1 = m + 1 := ⟨_, rfl⟩
                have hMz : (m : Int) + 1 = (M1 : Int) := by omega
                obtain ⟨PC, hPC⟩ : ∃ PC : ByteArray, DG.extract k M1 = PC := ⟨_, rfl⟩
                obtain ⟨IT, hIT⟩ : ∃ IT : ByteArray, IT = ⟨(Lib.itoa ((pl : Int) + ev - (k : Int))).toArray⟩ := ⟨_, rfl⟩
                have gIT : IT.size ≤ 21 := by rw [hIT, Lib.size_mk]; exact Lib.itoa_length_le _ (by omega) (by omega)
                have gPC : PC.size ≤ 4000000 := by rw [← hPC, ByteArray.size_extract]; omega
                have C13 : Hid (∀ w2, Below w.heap.size w w2 → Calls Tryd.prog 13 #[.int .i64 ((pl : Int) + ev - (k : Int))] w2 fun e w3 => e = .returned (.string IT) ∧ Below w.heap.size w w3) := fun w2 hb => (itoa13 _ (by omega) (by omega) w2).mono fun _ _ h => ⟨by rw [hIT]; exact h.1, hb.trans (h.2.mono hb.size)⟩
                have q1 : (M1 : Int) ≤ (DG.size : Int) := by omega
                have q2 : (k : Int) ≤ (M1 : Int) := by omega
                have q3 : M1 ≤ DG.size := by omega
                have q4 : k ≤ M1 := by omega
                obtain ⟨SN, hSN⟩ : ∃ SN : ByteArray, SN = ⟨(sgOf ng).toArray⟩ := ⟨_, rfl⟩
                have gSN : SN.size ≤ 1 := by rw [hSN, Lib.size_mk]; unfold sgOf; split <;> simp
                have w1 : IntKind.i64.wrap (M1 : Int) = (M1 : Int) := IntWalk.i64_in _ ⟨by omega, by omega⟩
                have w2 : IntKind.i64.wrap ((pl : Int) + ev) = (pl : Int) + ev := IntWalk.i64_in _ ⟨by omega, by omega⟩
                have w3 : IntKind.i64.wrap ((pl : Int) + ev - (k : Int)) = (pl : Int) + ev - (k : Int) := IntWalk.i64_in _ ⟨by omega, by omega⟩
                have s1 : ¬ 9223372036854775807 < SN.size + 2 := by omega
                have s2 : ¬ 9223372036854775807 < SN.size + 2 + PC.size := by omega
                have s3 : ¬ 9223372036854775807 < SN.size + 2 + PC.size + 1 := by omega
                have s4 : ¬ 9223372036854775807 < SN.size + 2 + PC.size + 1 + IT.size := by omega
                have HSN : Hid (SN = ⟨(sgOf ng).toArray⟩) := hSN
                have FF : Hid (∀ w', Below w.heap.size w w' → RetM n w (.returned (.tuple #[.bool true, .string (SN ++ ⟨#[48, 46]⟩ ++ PC ++ ⟨#[101]⟩ ++ IT)])) w') := by
                  have := F1.out k m (by omega) HM'.out.2 HM'.out.1 HP.out
                  rw [← hSN, ← hM1, hPC, ← hIT] at this
                  exact this
                clear HM HM' hx hx48 F1 HP HS1 HX hIT hSN
                go_upto_if 57 with fail
                all_goals (
                  go_cut [12] (fun s12 wx => s12 = .string SN ∧ w' = wx)
                  case first =>
                    cases ng with
                    | true =>
                      go_wp2_with fail
                      go_meet
                      exact ⟨congrArg Value.string HSN.out.symm, rfl⟩
                    | false =>
                      go_wp2_with fail
                      go_meet
                      exact ⟨congrArg Value.string HSN.out.symm, rfl⟩
                  case rest =>
                    obtain ⟨rfl, rfl⟩ := hcut
                    clear HSN
                    clear hm0 hmz hM1 hbt hmm hkm hlm hlt hk
                    go_wp2_with fail
                    go_region_with (go_at_call 13; refine (C13.out _ (by first | exact HB.out | exact below_drewN HB.out _ | exact HB.out.drew)).mono ?_; rintro e w3 ⟨rfl, hB⟩; have HB3 : Hid (Below w.heap.size w w3) := hB; clear hB)
                    all_goals (
                      go_wp2_with fail
                      go_ret2
                      exact FF.out _ HB3.out))
end Go.Proofs.Qxb6602823aDoor
