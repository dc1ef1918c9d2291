import Derived.Test.Qxb6602718aDoorWA
import Derived.WalkSpells
namespace Go.Proofs.Qxb6602718aDoor
open Go.RowKit Go Go.PlainAid

theorem infix_at {p l : List UInt8} (h : p <:+: l) : ∃ i, i + p.length ≤ l.length ∧ (l.drop i).take p.length = p := by
  obtain ⟨a, b, rfl⟩ := h
  exact ⟨a.length, by simp, by simp⟩

set_option maxHeartbeats 1000000 in
theorem zz8 (s : ByteArray) (w : World) (hs : s.size ≤ 1048576) :
    Calls Tryd.prog 8 #[.string s, .string ⟨#[107, 117, 98, 101, 112, 111, 100, 115]⟩] w (RetC false (¬ kpL <:+: s.data.toList) w) := by
  go_enter Tryd.func8, Tryd.ntmps8
  go_wp2
  go_loop [5] (fun i => ∃ k : Nat, k ≤ s.size ∧ i = .int .i64 k ∧ Hid (∀ j, j < k → ((s.extract j (j + 8)).toList == [107, 117, 98, 101, 112, 111, 100, 115]) = false)) (fun i => s.size - (intOf i).toNat)
  case atStart => exact ⟨0, Nat.zero_le _, rfl, fun j hj => by omega⟩
  case round =>
    obtain ⟨k, hk, rfl, HA⟩ := hrel
    by_cases h8 : k + 8 ≤ s.size
    · by_cases he : ((s.extract k (k + 8)).toList == [107, 117, 98, 101, 112, 111, 100, 115]) = true
      · go_wp2
        go_ret
        exact ⟨⟨_, rfl, fun h => by cases h⟩, rfl⟩
      have he' : ((s.extract k (k + 8)).toList == [107, 117, 98, 101, 112, 111, 100, 115]) = false := by simpa using he
      have HA' : Hid (∀ j, j < k + 1 → ((s.extract j (j + 8)).toList == [107, 117, 98, 101, 112, 111, 100, 115]) = false) := fun j hj => by
        by_cases e : j = k
        · subst e; exact he'
        · exact HA.out j (by omega)
      clear he
      go_wp2
      go_round
      case rel => exact ⟨k + 1, by omega, by go_num, HA'⟩
      case measure => simp [intOf]; omega
    · have HN : Hid (¬ kpL <:+: s.data.toList) := fun h => by
        obtain ⟨i, h1, h2⟩ := infix_at h
        have h1' : i + 8 ≤ s.size := by rw [Lib.size_eq]; exact h1
        have := HA.out i (by omega)
        rw [Lib.extract_toList, show i + 8 - i = 8 by omega] at this
        rw [show (s.data.toList.drop i).take 8 = [107, 117, 98, 101, 112, 111, 100, 115] from h2] at this
        cases this
      go_wp2
      go_ret
      exact ⟨⟨_, rfl, fun _ => HN.out⟩, rfl⟩

/-- The call returned some string of which P holds; nothing has turned. -/
def RetS (P : List UInt8 → Prop) (w : World) (e : Ending) (w' : World) : Prop := (∃ S : ByteArray, e = .returned (.string S) ∧ P S.data.toList) ∧ w = w'

def burL : List UInt8 := [98, 117, 114, 115, 116, 97, 98, 108, 101]
def besL : List UInt8 := [98, 101, 115, 116, 101, 102, 102, 111, 114, 116]
def IsQ (l : List UInt8) : Prop := l = [] ∨ l = burL ∨ l = besL
def IsR (l : List UInt8) : Prop := l = [] ∨ l = [99, 114, 105, 45, 99, 111, 110, 116, 97, 105, 110, 101, 114, 100, 45] ∨ l = [99, 114, 105, 111, 45] ∨ l = [100, 111, 99, 107, 101, 114, 45]

theorem qos (q : Int) (w : World) : Calls Tryd.prog 17 #[.int .u8 q] w (RetS IsQ w) := by
  go_enter Tryd.func17, Tryd.ntmps17
  go_wp2
  · go_ret
    exact ⟨⟨_, rfl, Or.inr (Or.inl rfl)⟩, rfl⟩
  · go_ret
    exact ⟨⟨_, rfl, Or.inr (Or.inr rfl)⟩, rfl⟩
  · go_ret
    exact ⟨⟨_, rfl, Or.inl rfl⟩, rfl⟩

theorem runt (q : Int) (w : World) : Calls Tryd.prog 18 #[.int .u8 q] w (RetS IsR w) := by
  go_enter Tryd.func18, Tryd.ntmps18
  go_wp2
  · go_ret
    exact ⟨⟨_, rfl, Or.inr (Or.inl rfl)⟩, rfl⟩
  · go_ret
    exact ⟨⟨_, rfl, Or.inr (Or.inr (Or.inl rfl))⟩, rfl⟩
  · go_ret
    exact ⟨⟨_, rfl, Or.inr (Or.inr (Or.inr rfl))⟩, rfl⟩
  · go_ret
    exact ⟨⟨_, rfl, Or.inl rfl⟩, rfl⟩

def u8v (b : UInt8) : Value := .int .u8 (b.toNat : Int)
/-- '-' turned to '_'. -/
def sw (c : UInt8) : UInt8 := if c = 45 then 95 else c
def SB (l : List UInt8) (k : Nat) : Array Value := ((l.take k).map (fun c => u8v (sw c)) ++ List.replicate (l.length - k) (Value.int .u8 0)).toArray

theorem SB_zero (l : List UInt8) : madeCells #[.int .u8 0] l.length = SB l 0 := by
  apply Array.ext
  · simp [SB, madeCells]
  · intro i h1 h2
    simp [SB, madeCells, Nat.mod_one]
theorem SB_size (l : List UInt8) (k : Nat) (h : k ≤ l.length) : (SB l k).size = l.length := by simp [SB]; omega
theorem SB_get (l : List UInt8) (k : Nat) (h : k < l.length) : (SB l k)[k]? = some (.int .u8 0) := by
  unfold SB
  have hlk : ((l.take k).map (fun c => u8v (sw c))).length = k := by simp; omega
  rw [List.getElem?_toArray, List.getElem?_append_right (by omega), hlk, List.getElem?_replicate, if_pos (by omega)]
theorem SB_set (l : List UInt8) (k : Nat) (h : k < l.length) (x : Int) (hx : x = ((sw l[k]).toNat : Int)) : (SB l k).setIfInBounds k (.int .u8 x) = SB l (k + 1) := by
  subst hx
  apply Array.ext_getElem?
  intro j
  simp only [SB, List.setIfInBounds_toArray, List.getElem?_toArray]
  rw [List.getElem?_set]
  have hlk : ((l.take k).map (fun c => u8v (sw c))).length = k := by simp; omega
  have hlk1 : ((l.take (k + 1)).map (fun c => u8v (sw c))).length = k + 1 := by simp; omega
  by_cases hj : k = j
  · subst hj
    rw [if_pos rfl, if_pos (by simp; omega), List.getElem?_append_left (by omega)]
    simp [List.getElem?_eq_getElem h, u8v]
  · rw [if_neg hj]
    by_cases hlt : j < k
    · rw [List.getElem?_append_left (by omega), List.getElem?_append_left (by omega)]
      simp [hlt, show j < k + 1 by omega]
    · rw [List.getElem?_append_right (by omega), List.getElem?_append_right (by omega), hlk, hlk1, List.getElem?_replicate, List.getElem?_replicate]
      by_cases h2 : j - k < l.length - k
      · rw [if_pos h2, if_pos (by omega)]
      · rw [if_neg h2, if_neg (by omega)]
theorem SB_end (l : List UInt8) (j : Nat) (hj : j < (l.map sw).length) : (SB l l.length)[j]? = some (.int .u8 (((l.map sw)[j]).toNat : Int)) := by
  have hj' : j < l.length := by simpa using hj
  simp [SB, u8v, List.getElem?_eq_getElem hj']

set_option maxHeartbeats 1000000 in
theorem swap (s : ByteArray) (w : World) (hs : s.size ≤ 1048576) :
    Calls Tryd.prog 19 #[.string s, .int .u8 45, .int .u8 95] w fun e w' => e = .returned (.string ⟨(s.data.toList.map sw).toArray⟩) ∧ w' = w.alloc (.cells (SB s.data.toList s.data.toList.length) 5) := by
  have hbt := get_bt s
  have hsz : s.data.toList.length = s.size := (Lib.size_eq s).symm
  have hmk : (Instr.makeSlice 34 (.int .i64 ↑s.size) (.int .i64 ↑s.size)).run Tryd.prog w = .ok (.slice (some ⟨w.heap.size, 0, none⟩) s.size s.size) (w.alloc (.cells (SB s.data.toList 0) 5)) := by
    obtain ⟨i0, hi, hz0, hz1, hz2⟩ := info_parts (show (Tryd.prog.info? 5).map (fun i => (i.zero, i.size, i.bytes)) = some (some (.int .u8 0), 1, 1) by kernel_rfl)
    have := run_make (P := Tryd.prog) w 34 5 i0 (.int .u8 0) Tryd.underlying34 hi hz0 .i64 .i64 ↑s.size ↑s.size (by omega) (by omega) (by rw [hz2]; omega) (by omega)
    rw [hz1, Int.toNat_natCast, Nat.mul_one] at this
    rw [this, ← SB_zero, hsz]
    rfl
  have hback := run_convert_bytes_back (P := Tryd.prog) (w.alloc (.cells (SB s.data.toList s.data.toList.length) 5)) 34 9 5 ⟨w.heap.size, 0, none⟩ s.size (s.data.toList.map sw) Tryd.underlying34 Tryd.underlying5 Tryd.underlying9 (fun j hj => by
    rw [WideShapes.add_plain, Nat.zero_add, World.cell?_alloc_mark, SB_end _ j hj])
  rw [List.length_map, hsz] at hback
  have HB : Hid ((convert 34 9 (.slice (some ⟨w.heap.size, 0, none⟩) s.size s.size)).run Tryd.prog (w.alloc (.cells (SB s.data.toList s.size) 5)) = .ok (.string ⟨(s.data.toList.map sw).toArray⟩) (w.alloc (.cells (SB s.data.toList s.size) 5))) := hback
  clear hback
  have HG : Hid (∀ k, k < s.size → (SB s.data.toList k)[k]? = some (.int .u8 0) ∧ (SB s.data.toList k).size = s.size ∧ (SB s.data.toList k).setIfInBounds k (.int .u8 (if bt s k = 45 then 95 else bt s k)) = SB s.data.toList (k + 1)) := fun k hk => by
    refine ⟨SB_get _ k (by omega), by rw [SB_size _ k (by omega), hsz], SB_set _ k (by omega) _ ?_⟩
    rw [bt_get s k hk]
    unfold sw
    by_cases e : s.data.toList[k]'(by omega) = 45
    · rw [e]; rfl
    · rw [if_neg e, if_neg]
      intro h
      apply e
      refine UInt8.toNat_inj.1 ?_
      have h45 : (45 : UInt8).toNat = 45 := rfl
      rw [h45]
      omega
  go_enter Tryd.func19, Tryd.ntmps19
  go_wp2
  go_loopw [8] (fun i wr => ∃ k : Nat, k ≤ s.size ∧ i = .int .i64 k ∧ wr = w.alloc (.cells (SB s.data.toList k) 5)) (fun i _ => s.size - (intOf i).toNat)
  case atStart => exact ⟨0, Nat.zero_le _, rfl, rfl⟩
  case round =>
    obtain ⟨k, hk, rfl, rfl⟩ := hrel
    clear hmk
    by_cases hlt : k < s.size
    · obtain ⟨g1, g2, g3⟩ := HG.out k hlt
      by_cases he : (bt s k == 45) = true
      · have he2 : bt s k = 45 := beq_iff_eq.1 he
        rw [if_pos he2] at g3
        clear he2
        go_wp2
        go_roundw
        case rel => exact ⟨k + 1, by omega, by go_num, rfl⟩
        case measure => simp [intOf]; omega
      · have he' : (bt s k == 45) = false := by simpa using he
        have he2 : ¬ bt s k = 45 := beq_eq_false_iff_ne.1 he'
        rw [if_neg he2] at g3
        clear he2 he
        go_wp2
        go_roundw
        case rel => exact ⟨k + 1, by omega, by go_num, rfl⟩
        case measure => simp [intOf]; omega
    · obtain rfl : k = s.size := by omega
      have hconv := HB.out
      clear HB HG
      go_wp2
      go_ret
      exact ⟨rfl, by rw [hsz]⟩

/-- A prefix and segments behind it, a slash ahead of each. -/
def J (pfx : List UInt8) (segs : List (List UInt8)) : List UInt8 := pfx ++ segs.flatMap (fun x => 47 :: x)
def kpsL : List UInt8 := [107, 117, 98, 101, 112, 111, 100, 115, 46, 115, 108, 105, 99, 101]
def segsOf (sysd : Bool) (q rt uid id : List UInt8) : List (List UInt8) :=
  if sysd then [kpsL] ++ (if q = [] then [] else [kpdL ++ (q ++ sliceL)]) ++ [kpdL ++ ((if q = [] then [] else q ++ [45]) ++ (podL ++ (uid.map sw ++ sliceL))), rt ++ (id ++ scopeL)]
  else [kpL] ++ (if q = [] then [] else [q]) ++ [podL ++ uid, rt ++ id]
def tailOf (tail : List UInt8) : List UInt8 := if tail = [] then [] else 47 :: tail

/-- What the builder's answer is. -/
def Built (sysd : Bool) (pfx uid id tail : List UInt8) (w : World) (e : Ending) (w' : World) : Prop :=
  (∃ (S : ByteArray) (q rt : List UInt8), e = .returned (.string S) ∧ IsQ q ∧ IsR rt ∧ S.data.toList = J pfx (segsOf sysd q rt uid id) ++ tailOf tail) ∧ Below w.heap.size w w'

theorem app_data (a b : ByteArray) : (a ++ b).data.toList = a.data.toList ++ b.data.toList := by simp
theorem nil_of {s : ByteArray} (h : s.size = 0) : s.data.toList = [] := List.length_eq_zero_iff.1 (by rw [← Lib.size_eq]; exact h)
theorem not_nil_of {s : ByteArray} (h : ¬ s.size = 0) : ¬ s.data.toList = [] := fun e => h (by rw [Lib.size_eq, e]; rfl)
theorem IsQ.size {s : ByteArray} (h : IsQ s.data.toList) : s.size ≤ 10 := by
  rw [Lib.size_eq]; rcases h with h | h | h <;> rw [h] <;> decide
theorem IsR.size {s : ByteArray} (h : IsR s.data.toList) : s.size ≤ 15 := by
  rw [Lib.size_eq]; rcases h with h | h | h | h <;> rw [h] <;> decide

set_option maxHeartbeats 2000000 in
theorem build (pfx uid id tail : ByteArray) (sysd : Bool) (q r : Int) (w : World) (h1 : pfx.size ≤ 262144) (h2 : uid.size ≤ 262144) (h3 : id.size ≤ 262144) (h4 : tail.size ≤ 262144) :
    Calls Tryd.prog 10 #[.string pfx, .bool sysd, .int .u8 q, .int .u8 r, .string uid, .string id, .string tail] w (Built sysd pfx.data.toList uid.data.toList id.data.toList tail.data.toList w) := by
  have HQ : Hid (Calls Tryd.prog 17 #[.int .u8 q] w (RetS IsQ w)) := qos q w
  have HR : Hid (Calls Tryd.prog 18 #[.int .u8 r] w (RetS IsR w)) := runt r w
  have HW : Hid (Calls Tryd.prog 19 #[.string uid, .int .u8 45, .int .u8 95] w fun e w' => e = .returned (.string ⟨(uid.data.toList.map sw).toArray⟩) ∧ w' = w.alloc (.cells (SB uid.data.toList uid.data.toList.length) 5)) := swap uid w (by omega)
  have hus : (⟨(uid.data.toList.map sw).toArray⟩ : ByteArray).size = uid.size := by
    show (uid.data.toList.map sw).toArray.size = uid.size
    rw [List.size_toArray, List.length_map, ← Lib.size_eq]
  obtain ⟨U, hU⟩ : ∃ U : ByteArray, U = ⟨(uid.data.toList.map sw).toArray⟩ := ⟨_, rfl⟩
  have HUd : Hid (U.data.toList = uid.data.toList.map sw) := by rw [hU]; rfl
  rw [← hU] at HW hus
  have hus' : U.size ≤ 262144 := by omega
  have HBA : Hid (Below w.heap.size w (w.alloc (.cells (SB uid.data.toList uid.data.toList.length) 5))) := (Below.refl _ _).alloc (Nat.le_refl _) _
  have HBR : Hid (Below w.heap.size w w) := Below.refl _ _
  clear hU hus
  by_cases ht : tail.size = 0
  · have et := isEmpty_of tail ht
    have HT : Hid (tailOf tail.data.toList = []) := by unfold tailOf; exact if_pos (nil_of ht)
    cases sysd with
    | true =>
      go_enter Tryd.func10, Tryd.ntmps10
      go_wp2_with (go_at_call 17; refine HQ.out.mono ?_; rintro e w' ⟨⟨Sq, rfl, hq⟩, rfl⟩)
      refine HR.out.mono ?_
      rintro e w' ⟨⟨Sr, rfl, hr⟩, rfl⟩
      have sq := hq.size
      have sr := hr.size
      have HIQ : Hid (IsQ Sq.data.toList) := hq
      have HIR : Hid (IsR Sr.data.toList) := hr
      clear hq hr
      by_cases hq0 : Sq.size = 0
      · have eq := isEmpty_of Sq hq0
        go_wp2_with (go_at_call 19; refine HW.out.mono ?_; rintro e w' ⟨rfl, rfl⟩)
        go_ret
        refine ⟨⟨_, _, _, rfl, HIQ.out, HIR.out, ?_⟩, HBA.out⟩
        rw [HT.out]
        simp only [app_data, HUd.out, segsOf, nil_of hq0, J, if_true]
        simp [kpsL, kpdL, podL, sliceL, scopeL]
      · have eq := isEmpty_not Sq hq0
        go_wp2_with (go_at_call 19; refine HW.out.mono ?_; rintro e w' ⟨rfl, rfl⟩)
        go_ret
        refine ⟨⟨_, _, _, rfl, HIQ.out, HIR.out, ?_⟩, HBA.out⟩
        rw [HT.out]
        simp only [app_data, HUd.out, segsOf, if_neg (not_nil_of hq0), J, if_true]
        simp [kpsL, kpdL, podL, sliceL, scopeL]
    | false =>
      go_enter Tryd.func10, Tryd.ntmps10
      go_wp2_with (go_at_call 17; refine HQ.out.mono ?_; rintro e w' ⟨⟨Sq, rfl, hq⟩, rfl⟩)
      refine HR.out.mono ?_
      rintro e w' ⟨⟨Sr, rfl, hr⟩, rfl⟩
      have sq := hq.size
      have sr := hr.size
      have HIQ : Hid (IsQ Sq.data.toList) := hq
      have HIR : Hid (IsR Sr.data.toList) := hr
      clear hq hr
      by_cases hq0 : Sq.size = 0
      · have eq := isEmpty_of Sq hq0
        go_wp2
        go_ret
        refine ⟨⟨_, _, _, rfl, HIQ.out, HIR.out, ?_⟩, HBR.out⟩
        rw [HT.out]
        simp only [app_data, segsOf, nil_of hq0, J, Bool.false_eq_true, if_false]
        simp [kpL, podL]
      · have eq := isEmpty_not Sq hq0
        go_wp2
        go_ret
        refine ⟨⟨_, _, _, rfl, HIQ.out, HIR.out, ?_⟩, HBR.out⟩
        rw [HT.out]
        simp only [app_data, segsOf, if_neg (not_nil_of hq0), J, Bool.false_eq_true, if_false]
        simp [kpL, podL]
  · have et := isEmpty_not tail ht
    have HT : Hid (tailOf tail.data.toList = 47 :: tail.data.toList) := by unfold tailOf; exact if_neg (not_nil_of ht)
    cases sysd with
    | true =>
      go_enter Tryd.func10, Tryd.ntmps10
      go_wp2_with (go_at_call 17; refine HQ.out.mono ?_; rintro e w' ⟨⟨Sq, rfl, hq⟩, rfl⟩)
      refine HR.out.mono ?_
      rintro e w' ⟨⟨Sr, rfl, hr⟩, rfl⟩
      have sq := hq.size
      have sr := hr.size
      have HIQ : Hid (IsQ Sq.data.toList) := hq
      have HIR : Hid (IsR Sr.data.toList) := hr
      clear hq hr
      by_cases hq0 : Sq.size = 0
      · have eq := isEmpty_of Sq hq0
        go_wp2_with (go_at_call 19; refine HW.out.mono ?_; rintro e w' ⟨rfl, rfl⟩)
        go_ret
        refine ⟨⟨_, _, _, rfl, HIQ.out, HIR.out, ?_⟩, HBA.out⟩
        rw [HT.out]
        simp only [app_data, HUd.out, segsOf, nil_of hq0, J, if_true]
        simp [kpsL, kpdL, podL, sliceL, scopeL]
      · have eq := isEmpty_not Sq hq0
        go_wp2_with (go_at_call 19; refine HW.out.mono ?_; rintro e w' ⟨rfl, rfl⟩)
        go_ret
        refine ⟨⟨_, _, _, rfl, HIQ.out, HIR.out, ?_⟩, HBA.out⟩
        rw [HT.out]
        simp only [app_data, HUd.out, segsOf, if_neg (not_nil_of hq0), J, if_true]
        simp [kpsL, kpdL, podL, sliceL, scopeL]
    | false =>
      go_enter Tryd.func10, Tryd.ntmps10
      go_wp2_with (go_at_call 17; refine HQ.out.mono ?_; rintro e w' ⟨⟨Sq, rfl, hq⟩, rfl⟩)
      refine HR.out.mono ?_
      rintro e w' ⟨⟨Sr, rfl, hr⟩, rfl⟩
      have sq := hq.size
      have sr := hr.size
      have HIQ : Hid (IsQ Sq.data.toList) := hq
      have HIR : Hid (IsR Sr.data.toList) := hr
      clear hq hr
      by_cases hq0 : Sq.size = 0
      · have eq := isEmpty_of Sq hq0
        go_wp2
        go_ret
        refine ⟨⟨_, _, _, rfl, HIQ.out, HIR.out, ?_⟩, HBR.out⟩
        rw [HT.out]
        simp only [app_data, segsOf, nil_of hq0, J, Bool.false_eq_true, if_false]
        simp [kpL, podL]
      · have eq := isEmpty_not Sq hq0
        go_wp2
        go_ret
        refine ⟨⟨_, _, _, rfl, HIQ.out, HIR.out, ?_⟩, HBR.out⟩
        rw [HT.out]
        simp only [app_data, segsOf, if_neg (not_nil_of hq0), J, Bool.false_eq_true, if_false]
        simp [kpL, podL]
end Go.Proofs.Qxb6602718aDoor
