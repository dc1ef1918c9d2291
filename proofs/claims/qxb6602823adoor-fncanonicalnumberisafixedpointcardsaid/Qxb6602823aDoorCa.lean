import Derived.Test.Qxb6602823aDoorPlC
import Derived.Test.Qxb6602823aDoorShelf
import Derived.WalkKit
import Derived.Handy
import Derived.PlainAid
import Derived.WalkSpells
import Derived.WalkSmall
import Derived.Laws.IdiomStrings
import Derived.Deep.DeepCutAuto
import Derived.Deep.QuietTactic
import Derived.BigQuiet
namespace Go.Proofs.Qxb6602823aDoor
open Go.RowKit Go Go.PlainAid Go.Sort

/-- What the worlds that come bear. -/
def Env (w : World) : Prop := ∀ w', Below w.heap.size w w' → w'.ShapedOpen Tryd.prog ∧ (∃ tp p, w'.var? Tryd.prog "strconv.ErrRange" = some #[.iface tp p]) ∧ Lib.TabIs Tryd.prog w' "internal/strconv.uint64pow10" .u64 Lib.pow10Tab
theorem Env.step {w w' : World} (h : Env w) (hb : Below w.heap.size w w') : Env w' := fun w'' hb' => h w'' (hb.trans (hb'.mono hb.size))

def RetS (l : List UInt8) (w : World) (e : Ending) (w' : World) : Prop := e = .returned (.string ⟨l.toArray⟩) ∧ Below w.heap.size w w'

theorem list_ba (a : ByteArray) (l : List UInt8) (h : a.data.toList = l) : a = ⟨l.toArray⟩ := by
  subst h
  rfl

/-- What is called on the mantissa. -/
structure CanCalls (x : Num) (P : List UInt8) (IPP IPb FDb DG TL SG IT : ByteArray) (ev pw : Int) : Prop where
  c19 : ∀ w, Calls Tryd.prog 19 #[.string ⟨(mant x P).toArray⟩, .string ⟨#[45]⟩] w fun e w' => e = .returned (.tuple #[.string IPP, .bool x.neg]) ∧ w = w'
  c20 : ∀ w, w.ShapedOpen Tryd.prog → Calls Tryd.prog 20 #[.string IPP, .string ⟨#[46]⟩] w fun e w' => (∃ b, e = .returned (.tuple #[.string IPb, .string FDb, .bool b])) ∧ Below w.heap.size w w'
  cat : IPb ++ FDb = DG
  c21 : ∀ w, Calls Tryd.prog 21 #[.string DG, .string ⟨#[48]⟩] w fun e w' => e = .returned (.string TL) ∧ w = w'
  c22 : ∀ w, Calls Tryd.prog 22 #[.string TL, .string ⟨#[48]⟩] w fun e w' => e = .returned (.string SG) ∧ w = w'
  c23 : ∀ w, Lib.TabIs Tryd.prog w "internal/strconv.uint64pow10" .u64 Lib.pow10Tab → Calls Tryd.prog 23 #[.int .i64 pw, .int .i64 10] w fun e w' => e = .returned (.string IT) ∧ Below w.heap.size w w'
  pow : pw = (IPb.size : Int) + ev - ((DG.size : Int) - (TL.size : Int))
  l1 : IPb.size ≤ 4000000
  l2 : DG.size ≤ 4000000
  l3 : TL.size ≤ DG.size
  l4 : FDb.size ≤ 4000000
  l5 : SG.size ≤ 4000000
  l6 : IT.size ≤ 21
  mi : x.neg = false → (⟨(mant x P).toArray⟩ : ByteArray) = IPP
  sg0 : SG.size = 0 → sigOf x = []
  sg1 : ¬ SG.size = 0 → sigOf x ≠ []
  sg : SG = ⟨(sigOf x).toArray⟩
  it : IT = ⟨(Lib.itoa (powOf x)).toArray⟩

theorem grow_below (w : World) (k : Nat) (os : Array Obj) : Below w.heap.size w (grow (w.drewN k) os) := by
  refine ⟨rfl, rfl, rfl, ?_, fun j hj => ?_⟩
  · show w.heap.size ≤ (w.heap ++ os).size
    rw [Array.size_append]; omega
  · show (w.heap ++ os)[j]? = w.heap[j]?
    rw [Array.getElem?_append_left hj]
theorem isEmpty_of (s : ByteArray) (h : s.size = 0) : s.toList.isEmpty = true := by
  rw [ByteArray.toList_eq]; obtain ⟨⟨l⟩⟩ := s
  have : l.length = 0 := h
  cases l with
  | nil => rfl
  | cons _ _ => simp at this
theorem isEmpty_not (s : ByteArray) (h : ¬ s.size = 0) : s.toList.isEmpty = false := by
  rw [ByteArray.toList_eq]; obtain ⟨⟨l⟩⟩ := s
  have : ¬ l.length = 0 := h
  cases l with
  | nil => simp at this
  | cons _ _ => rfl
theorem par_below {w w' : World} (h : w' = w ∨ ∃ t, w' = Lib.bytesWorld w 5 t) : Below w.heap.size w w' := by
  rcases h with rfl | ⟨t, rfl⟩
  · exact Below.refl _ _
  · refine ⟨rfl, rfl, rfl, ?_, fun j hj => Lib.bytesWorld_at_old w 5 t j hj⟩
    rw [Lib.bytesWorld_size]; omega
theorem canCalls {l : List UInt8} {x : Num} {P E : List UInt8} (h : Shape l x P E) (hl : l.length ≤ 4000000) (he : -1000000000 ≤ (exOf x.ex).1 ∧ (exOf x.ex).1 ≤ 1000000000) :
    ∃ IPP IPb FDb DG TL SG IT ev pw, ev = (exOf x.ex).1 ∧ CanCalls x P IPP IPb FDb DG TL SG IT ev pw := by
  have hlen : l.length = (sgOf x.neg).length + (x.ip.length + P.length) + E.length := by rw [h.eq]; simp; omega
  have hP : x.fd.length ≤ P.length := by rcases h.frac with ⟨rfl, h2⟩ | ⟨h2, _⟩ <;> rw [h2] <;> simp
  have htl : (Lib.trimLeftB (x.ip ++ x.fd) 48).length ≤ (x.ip ++ x.fd).length := (List.dropWhile_sublist _).length_le
  rw [List.length_append] at htl
  refine ⟨⟨(x.ip ++ P).toArray⟩, ⟨x.ip.toArray⟩, ⟨x.fd.toArray⟩, ⟨(x.ip ++ x.fd).toArray⟩, ⟨(Lib.trimLeftB (x.ip ++ x.fd) 48).toArray⟩, ⟨(sigOf x).toArray⟩, ⟨(Lib.itoa (powOf x)).toArray⟩, _, powOf x, rfl, ?_, ?_, ?_, ?_, ?_, ?_, ?_, ?_, ?_, ?_, ?_, ?_, ?_, ?_, ?_, ?_, rfl, rfl⟩
  · intro w
    have := Tryd.strings_CutPrefix ⟨(mant x P).toArray⟩ ⟨#[45]⟩ w
    simp only at this
    rw [(pre_mant h).1, (pre_mant h).2] at this
    exact this.mono fun _ _ h => ⟨h.1, h.2.symm⟩
  · intro w hw
    have := Tryd.strings_Cut_shaped ⟨(x.ip ++ P).toArray⟩ ⟨#[46]⟩ w hw (by rw [Lib.size_mk, List.length_append]; omega)
    simp only at this
    rw [(cut_mant h).1, (cut_mant h).2] at this
    refine this.mono fun _ _ h => ⟨⟨_, h.1⟩, ?_⟩
    obtain ⟨n, e⟩ := h.2
    rw [e]
    exact below_drewN (Below.refl _ _) n
  · refine ByteArray.ext (Array.toList_inj.1 ?_)
    rw [ByteArray.data_append, Array.toList_append]
  · intro w
    have := Tryd.strings_TrimLeft_one ⟨(x.ip ++ x.fd).toArray⟩ 48 (by decide) w
    exact this.mono fun _ _ h => ⟨h.1, h.2.symm⟩
  · intro w
    have := Tryd.strings_TrimRight_one ⟨(Lib.trimLeftB (x.ip ++ x.fd) 48).toArray⟩ 48 (by decide) w (by rw [Lib.size_mk]; omega)
    exact this.mono fun _ _ h => ⟨h.1, h.2.symm⟩
  · intro w hw
    have hp : -9223372036854775808 ≤ powOf x ∧ powOf x ≤ 9223372036854775807 := by
      unfold powOf
      rw [List.length_append]
      omega
    refine (Tryd.strconv_FormatInt_10 (powOf x) hp.1 hp.2 w hw).mono fun _ _ h => ⟨h.1, ?_⟩
    obtain ⟨k, os, e⟩ := h.2
    rw [e]
    exact grow_below w k os
  · rw [Lib.size_mk, Lib.size_mk, Lib.size_mk]; rfl
  · rw [Lib.size_mk]; omega
  · rw [Lib.size_mk, List.length_append]; omega
  · rw [Lib.size_mk, Lib.size_mk, List.length_append]; exact htl
  · rw [Lib.size_mk]; omega
  · have : (sigOf x).length ≤ (Lib.trimLeftB (x.ip ++ x.fd) 48).length := by
      unfold sigOf Lib.trimRightB
      rw [List.length_reverse]
      refine Nat.le_trans (List.dropWhile_sublist _).length_le ?_
      rw [List.length_reverse]
      exact Nat.le_refl _
    rw [Lib.size_mk]; omega
  · rw [Lib.size_mk]
    refine Lib.itoa_length_le _ ?_ ?_
    · unfold powOf; rw [List.length_append]; omega
    · unfold powOf; rw [List.length_append]; omega
  · intro hn
    unfold mant
    rw [hn]
    rfl
  · rw [Lib.size_mk]; exact List.length_eq_zero_iff.1
  · rw [Lib.size_mk]; exact mt List.length_eq_zero_iff.2

theorem ret_tilde {n : ByteArray} {x : Num} {w w' : World} (h : (exOf x.ex).2 = true) (hb : Below w.heap.size w w') : RetS (canonB n.data.toList x) w (.returned (.string (⟨#[126]⟩ ++ n))) w' := by
  refine ⟨?_, hb⟩
  unfold canonB
  rw [if_pos h]
  refine congrArg (fun b => Ending.returned (Value.string b)) (ByteArray.ext (Array.toList_inj.1 ?_))
  rw [ByteArray.data_append, Array.toList_append]
  rfl
theorem ret_zero {n : ByteArray} {x : Num} {w w' : World} (h : (exOf x.ex).2 = false) (hs : sigOf x = []) (hb : Below w.heap.size w w') : RetS (canonB n.data.toList x) w (.returned (.string ⟨#[48]⟩)) w' := by
  refine ⟨?_, hb⟩
  unfold canonB
  rw [if_neg (by rw [h]; decide), if_pos hs]
theorem ret_form {n : ByteArray} {x : Num} {w w' : World} (h : (exOf x.ex).2 = false) (hs : sigOf x ≠ []) (hb : Below w.heap.size w w') :
    RetS (canonB n.data.toList x) w (.returned (.string (⟨(sgOf x.neg).toArray⟩ ++ ⟨#[48, 46]⟩ ++ ⟨(sigOf x).toArray⟩ ++ ⟨#[101]⟩ ++ ⟨(Lib.itoa (powOf x)).toArray⟩))) w' := by
  refine ⟨?_, hb⟩
  unfold canonB
  rw [if_neg (by rw [h]; decide), if_neg hs]
  refine congrArg (fun b => Ending.returned (Value.string b)) (ByteArray.ext (Array.toList_inj.1 ?_))
  simp [ByteArray.data_append]

/-- The mantissa and the exponent's text, as the walk holds them. -/
theorem parts {n : ByteArray} {x : Num} {P : List UInt8} {c : UInt8} {t : List UInt8} (h : Shape n.data.toList x P (c :: t)) :
    n.extract 0 (mant x P).length = ⟨(mant x P).toArray⟩ ∧ n.extract ((mant x P).length + 1) n.size = ⟨t.toArray⟩ ∧ (mant x P).length < n.size := by
  have e : n.data.toList = mant x P ++ c :: t := h.eq
  refine ⟨?_, ?_, ?_⟩
  · rw [Lib.extract_upto, e, List.take_left]
  · rw [Lib.extract_from, e, show (mant x P).length + 1 = (mant x P ++ [c]).length by simp, show mant x P ++ c :: t = (mant x P ++ [c]) ++ t by simp, List.drop_left]
  · rw [Lib.size_eq, e]
    simp

set_option maxRecDepth 100000 in
set_option maxHeartbeats 4000000 in
theorem canon (n : ByteArray) (x : Num) (P E : List UInt8) (hS : Shape n.data.toList x P E) (w : World) (hn : n.size ≤ 4000000) (hE : Env w) : Calls Tryd.prog 14 #[.string n] w (RetS (canonB n.data.toList x) w) := by
  have C17 : Hid (Calls Tryd.prog 17 #[.string n, .string ⟨#[101, 69]⟩] w fun e w' => e = .returned (.int .i64 (Lib.indexAny n.data.toList [101, 69])) ∧ Below w.heap.size w w') :=
    Tryd.strings_IndexAny_laid n ⟨#[101, 69]⟩ w (by omega) (by decide) (ascii hS) (fun j b hb => by
      have : b ∈ ([101, 69] : List UInt8) := List.mem_of_getElem? hb
      rcases List.mem_cons.1 this with rfl | this
      · decide
      · rw [List.mem_singleton] at this; subst this; decide)
  have HE : Hid (Env w) := hE
  have HS : Hid (Shape n.data.toList x P E) := hS
  obtain ⟨X, hX⟩ : ∃ X : ByteArray, X = ⟨(expT E).toArray⟩ := ⟨_, rfl⟩
  have HX : Hid (X = ⟨(expT E).toArray⟩) := hX
  clear hE hS hX
  go_enter Tryd.func14, Tryd.ntmps14
  go_upto_region 2 with fail
  go_cut [5] (fun s5 wx => s5 = .int .i64 (Lib.indexAny n.data.toList [101, 69]) ∧ Hid (Below w.heap.size w wx))
  case first =>
    go_wp2_with (go_at_call 17; refine C17.out.mono ?_; rintro e w' ⟨rfl, hB⟩)
    go_meet
    exact ⟨rfl, hB⟩
  case rest =>
  obtain ⟨rfl, HB1⟩ := hcut
  go_upto_if 21 with fail
  go_cut [3, 4, 5] (fun s3 s4 _ wx => s3 = .string ⟨(mant x P).toArray⟩ ∧ s4 = .string X ∧ Hid (Below w.heap.size w wx))
  case first =>
    cases E with
    | nil =>
      have hi := idx_none HS.out
      have HM : Hid (n = ⟨(mant x P).toArray⟩) := list_ba _ _ (HS.out.eq.trans (List.append_nil _))
      rw [hi]
      go_wp2_with fail
      go_meet
      exact ⟨congrArg Value.string HM.out, by rw [HX.out]; rfl, HB1⟩
    | cons c t =>
      have hi := idx_some HS.out
      obtain ⟨p1, p2, p3⟩ := parts HS.out
      obtain ⟨m, hm⟩ : ∃ m, m = (mant x P).length := ⟨_, rfl⟩
      rw [← hm] at hi p1 p2 p3
      rw [hi]
      have p4 : (m : Int) ≤ (n.size : Int) := by omega
      have p5 : (m : Int) + 1 ≤ (n.size : Int) := by omega
      clear hi hm
      go_wp2_with fail
      go_quiet (fail)
      go_wp2_with fail
      go_meet
      exact ⟨rfl, by rw [HX.out]; rfl, below_drewN HB1.out _⟩
  case rest =>
  obtain ⟨rfl, rfl, HB2⟩ := hcut
  clear HB1 C17
  have hXl : X.data.toList = expT E := by rw [HX.out]
  have hXs : X.size ≤ 4000001 := by
    rw [Lib.size_eq, hXl]
    have e := congrArg List.length HS.out.eq
    rw [← Lib.size_eq, List.length_append] at e
    cases E with
    | nil => simp [expT]
    | cons c t => simp only [expT, List.length_cons] at e ⊢; omega
  cases hbig : (exOf x.ex).2 with
  | true =>
    have HT : Hid (∀ w', Below w.heap.size w w' → RetS (canonB n.data.toList x) w (.returned (.string (⟨#[126]⟩ ++ n))) w') := fun w' hb => ret_tilde hbig hb
    rcases (parse_ex HS.out).2 hbig with hp | ⟨v, hp, hv⟩
    · rw [← hXl] at hp
      obtain ⟨tp, q, hvar⟩ := (HE.out _ HB2.out).2.1
      have C18 : Hid (Calls Tryd.prog 18 #[.string X, .int .i64 10, .int .i64 64] wc fun e w' => (∃ (v : Int) (N : Nat), e = .returned (.tuple #[.int .i64 v, .iface 73 (.pointer (some ⟨N, 0, none⟩))])) ∧ Below w.heap.size w w') :=
        (Tryd.strconv_ParseInt_10_at64_range_var X (by omega) hp tp q wc hvar).mono fun _ _ ⟨N, h1, _, _, h4⟩ => ⟨⟨_, N, h1⟩, HB2.out.trans (h4.mono HB2.out.size)⟩
      clear hp hvar hXl hbig
      go_wp2_with (go_at_call 18; refine C18.out.mono ?_; rintro e w' ⟨⟨v, N, rfl⟩, hB⟩; have HB : Hid (Below w.heap.size w w') := hB; clear hB)
      go_ret
      exact HT.out _ HB.out
    · rw [← hXl] at hp
      have C18 : Hid (Calls Tryd.prog 18 #[.string X, .int .i64 10, .int .i64 64] wc fun e w' => e = .returned (.tuple #[.int .i64 v, .nilIface]) ∧ Below w.heap.size w w') :=
        (Tryd.strconv_ParseInt_10_at64_ok X (by omega) v hp wc).mono fun _ _ ⟨h1, h2⟩ => ⟨h1, HB2.out.trans ((par_below h2).mono HB2.out.size)⟩
      clear hp hXl hbig
      rcases hv with hv | hv
      · go_wp2_with (go_at_call 18; refine C18.out.mono ?_; rintro e w' ⟨rfl, hB⟩; have HB : Hid (Below w.heap.size w w') := hB; clear hB)
        go_ret
        exact HT.out _ HB.out
      · have hv' : ¬ 1000000000 < v := by omega
        go_wp2_with (go_at_call 18; refine C18.out.mono ?_; rintro e w' ⟨rfl, hB⟩; have HB : Hid (Below w.heap.size w w') := hB; clear hB)
        go_ret
        exact HT.out _ HB.out
  | false =>
    obtain ⟨hp, hv1, hv2⟩ := (parse_ex HS.out).1 hbig
    rw [← hXl] at hp
    obtain ⟨IPP, IPb, FDb, DG, TL, SG, IT, ev, pw, hev, CC⟩ := canCalls HS.out (by rw [← Lib.size_eq]; exact hn) ⟨hv1, hv2⟩
    have F0 : Hid (SG.size = 0 → ∀ w', Below w.heap.size w w' → RetS (canonB n.data.toList x) w (.returned (.string ⟨#[48]⟩)) w') := fun hs w' hb => ret_zero hbig (CC.sg0 hs) hb
    have F1 : Hid (¬ SG.size = 0 → ∀ w', Below w.heap.size w w' → RetS (canonB n.data.toList x) w (.returned (.string (⟨(sgOf x.neg).toArray⟩ ++ ⟨#[48, 46]⟩ ++ SG ++ ⟨#[101]⟩ ++ IT))) w') := fun hs w' hb => by
      have := ret_form (n := n) hbig (CC.sg1 hs) hb
      rw [CC.sg, CC.it]
      exact this
    rw [← hev] at hp hv1 hv2
    have C18 : Hid (Calls Tryd.prog 18 #[.string X, .int .i64 10, .int .i64 64] wc fun e w' => e = .returned (.tuple #[.int .i64 ev, .nilIface]) ∧ Below w.heap.size w w') :=
        (Tryd.strconv_ParseInt_10_at64_ok X (by omega) ev hp wc).mono fun _ _ ⟨h1, h2⟩ => ⟨h1, HB2.out.trans ((par_below h2).mono HB2.out.size)⟩
    have hv3 : ¬ 1000000000 < ev := by omega
    have hv4 : ¬ ev < -1000000000 := by omega
    obtain ⟨Mb, hMb⟩ : ∃ Mb : ByteArray, Mb = ⟨(mant x P).toArray⟩ := ⟨_, rfl⟩
    have C19 : Hid (∀ w, Calls Tryd.prog 19 #[.string Mb, .string ⟨#[45]⟩] w fun e w' => e = .returned (.tuple #[.string IPP, .bool x.neg]) ∧ w = w') := by rw [hMb]; exact CC.c19
    have HMI : Hid (x.neg = false → Mb = IPP) := fun h => hMb.trans (CC.mi h)
    rw [← hMb]
    have HCC : Hid (CanCalls x P IPP IPb FDb DG TL SG IT ev pw) := CC
    obtain ⟨ng, hng⟩ : ∃ ng, ng = x.neg := ⟨_, rfl⟩
    obtain ⟨SN, hSN⟩ : ∃ SN : ByteArray, SN = ⟨(sgOf x.neg).toArray⟩ := ⟨_, rfl⟩
    have HSN : Hid (SN = ⟨(sgOf ng).toArray⟩) := by show SN = _; rw [hng]; exact hSN
    rw [← hSN] at F1
    have g7 : SN.size ≤ 1 := by rw [hSN, Lib.size_mk]; unfold sgOf; split <;> simp
    rw [← hng] at C19 HMI
    clear hp hXl hbig hev CC hMb hng hSN HX HS
    go_upto_region 9 with (go_at_call 18; refine C18.out.mono ?_; rintro e w' ⟨rfl, hB⟩; have HB : Hid (Below w.heap.size w w') := hB; clear hB)
    clear HB2 C18
    go_upto_if 51 with (go_at_call 19; refine (C19.out _).mono ?_; rintro e w' ⟨rfl, rfl⟩)
    go_cut [3, 8] (fun s3 s8 wx => s3 = .string IPP ∧ s8 = .string SN ∧ w' = wx)
    case first =>
      cases ng with
      | true =>
        go_wp2_with fail
        go_meet
        exact ⟨rfl, congrArg Value.string HSN.out.symm, rfl⟩
      | false =>
        have HM2 : Hid (Mb = IPP) := HMI.out rfl
        clear HMI
        go_wp2_with fail
        go_meet
        exact ⟨congrArg Value.string HM2.out, congrArg Value.string HSN.out.symm, rfl⟩
    case rest =>
    obtain ⟨rfl, rfl, rfl⟩ := hcut
    clear C19 HSN HMI
    have C20 : Hid (Calls Tryd.prog 20 #[.string IPP, .string ⟨#[46]⟩] w' fun e w'' => (∃ b, e = .returned (.tuple #[.string IPb, .string FDb, .bool b])) ∧ Below w.heap.size w w'') :=
      (HCC.out.c20 w' (HE.out _ HB.out).1).mono fun _ _ h => ⟨h.1, HB.out.trans (h.2.mono HB.out.size)⟩
    have C21 : Hid (∀ w, Calls Tryd.prog 21 #[.string DG, .string ⟨#[48]⟩] w fun e w' => e = .returned (.string TL) ∧ w = w') := HCC.out.c21
    have C22 : Hid (∀ w, Calls Tryd.prog 22 #[.string TL, .string ⟨#[48]⟩] w fun e w' => e = .returned (.string SG) ∧ w = w') := HCC.out.c22
    have C23 : Hid (∀ w2, Below w.heap.size w w2 → Calls Tryd.prog 23 #[.int .i64 ((IPb.size : Int) + ev - ((DG.size : Int) - (TL.size : Int))), .int .i64 10] w2 fun e w3 => e = .returned (.string IT) ∧ Below w.heap.size w w3) := fun w2 hb => by
      have := HCC.out.c23 w2 (HE.out _ hb).2.2
      rw [HCC.out.pow] at this
      exact this.mono fun _ _ h => ⟨h.1, hb.trans (h.2.mono hb.size)⟩
    have hcat := HCC.out.cat
    have g1 := HCC.out.l1
    have g2 := HCC.out.l2
    have g3 := HCC.out.l3
    have g4 := HCC.out.l4
    have g5 := HCC.out.l5
    have g6 := HCC.out.l6
    clear HCC HB
    by_cases hs : SG.size = 0
    · have he := isEmpty_of SG hs
      go_wp2_with (first | (go_at_call 20; refine C20.out.mono ?_; rintro e w2 ⟨⟨b, rfl⟩, hB⟩; have HB : Hid (Below w.heap.size w w2) := hB; clear hB) | (go_at_call 21; refine (C21.out _).mono ?_; rintro e w' ⟨rfl, rfl⟩) | (go_at_call 22; refine (C22.out _).mono ?_; rintro e w' ⟨rfl, rfl⟩))
      go_ret
      exact F0.out hs _ HB.out
    · have he := isEmpty_not SG hs
      go_wp2_with (first | (go_at_call 20; refine C20.out.mono ?_; rintro e w2 ⟨⟨b, rfl⟩, hB⟩; have HB : Hid (Below w.heap.size w w2) := hB; clear hB) | (go_at_call 21; refine (C21.out _).mono ?_; rintro e w' ⟨rfl, rfl⟩) | (go_at_call 22; refine (C22.out _).mono ?_; rintro e w' ⟨rfl, rfl⟩) | (go_at_call 23; refine (C23.out _ HB.out).mono ?_; rintro e w3 ⟨rfl, hB⟩; have HB3 : Hid (Below w.heap.size w w3) := hB; clear hB))
      go_ret
      exact F1.out hs _ HB3.out
end Go.Proofs.Qxb6602823aDoor
