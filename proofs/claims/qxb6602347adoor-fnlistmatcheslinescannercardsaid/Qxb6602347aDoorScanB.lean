import Derived.Test.Qxb6602347aDoorScanA
import Derived.Test.Qxb6602347aDoorListL
namespace Go.Proofs.Qxb6602347aDoor
open Go.RowKit Go Go.PlainAid Go.Maps Go.WideMaps Go.WideElems Go.ChangeMaps

/-- The map behind k stores. -/
def Dk (nm : Nat → ByteArray) (va : Nat → Option Addr) (vl vc : Nat → Nat) : Nat → DataW Value
  | 0 => .map []
  | k + 1 => (Dk nm va vl vc k).put (.string (nm k).data.toList) (.held (.slice (va k) (vl k) (vc k)))

theorem Dk_map (nm : Nat → ByteArray) (va : Nat → Option Addr) (vl vc : Nat → Nat) : ∀ k, IsMap (Dk nm va vl vc k)
  | 0 => ⟨[], rfl⟩
  | k + 1 => by
    obtain ⟨es, e⟩ := Dk_map nm va vl vc k
    rw [Dk, e]
    exact ⟨_, rfl⟩

theorem Dk_hit (nm : Nat → ByteArray) (va : Nat → Option Addr) (vl vc : Nat → Nat) (q : Nat) (name : ByteArray) (h : ((nm q).toList == name.toList) = true) (z : DataW Value) :
    (Dk nm va vl vc (q + 1)).atKey (.string name.data.toList) z = .held (.slice (va q) (vl q) (vc q)) := by
  have e : (nm q).data.toList = name.data.toList := by
    have := beq_iff_eq.1 h
    rwa [ByteArray.toList_eq, ByteArray.toList_eq] at this
  rw [Dk, e]
  exact atKey_put_same (Dk_map nm va vl vc q) (show WideAt.IsKeyLit (.string name.data.toList) from trivial) _ _
theorem Dk_miss (nm : Nat → ByteArray) (va : Nat → Option Addr) (vl vc : Nat → Nat) (q : Nat) (name : ByteArray) (h : ((nm q).toList == name.toList) = false) (z : DataW Value) :
    (Dk nm va vl vc (q + 1)).atKey (.string name.data.toList) z = (Dk nm va vl vc q).atKey (.string name.data.toList) z := by
  rw [Dk]
  refine atKey_put_other ?_ _ _
  intro e
  have e' : name.data.toList = (nm q).data.toList := by injection e
  have := beq_eq_false_iff_ne.1 h
  rw [ByteArray.toList_eq, ByteArray.toList_eq] at this
  exact this e'.symm

theorem quiet_more {P : Program} {f : FuncId} {args : Array Value} {W : World} {m x : Nat} {v : Value} (h : Calls P f args (W.drewN (m + x)) fun e w' => e = .returned v ∧ ∃ n, w' = (W.drewN (m + x)).drewN n) :
    Calls P f args (W.drewN (m + x)) fun e w' => e = .returned v ∧ ∃ n, w' = W.drewN (m + n) :=
  h.mono fun _ _ ⟨he, n, hn⟩ => ⟨he, x + n, by rw [hn, World.drewN_drewN, Nat.add_assoc]⟩

theorem conv_empty (a : Option Addr) (c : Nat) (w : World) : (convert 26 9 (.slice a 0 c)).run Tryd.prog w = .ok (.string ⟨#[]⟩) w := by
  cases a with
  | none =>
    rw [run_convert_bytes_string w 26 9 5 none 0 c Tryd.underlying26 Tryd.underlying5 Tryd.underlying9]
    rfl
  | some x => exact run_convert_bytes_back (P := Tryd.prog) w 26 9 5 x c [] Tryd.underlying26 Tryd.underlying5 Tryd.underlying9 (fun j hj => by simp at hj)

theorem parts_out (l : List UInt8) : (nlParts l).map (·.data.toList) = outL l := by
  unfold nlParts
  rw [Lib.splitB_data]
  exact splitK_spl _ _ (Nat.le_refl _)

/-- What a piece of List's is, at a place where the scanner says which. -/
theorem piece_at {l x : List UInt8} {k : Nat} (h : (outL l)[k]? = some x) : ((nlParts l).getD k ByteArray.empty).data.toList = x := by
  rw [← parts_out, List.getElem?_map] at h
  cases hp : (nlParts l)[k]? with
  | none => rw [hp] at h; simp at h
  | some y => rw [hp] at h; simp at h; rw [List.getD_eq_getElem?_getD, hp]; exact h

theorem bt_piece (s : ByteArray) (l : List UInt8) (st i : Nat) (hs : s.data.toList = (l.take i).drop st) (h2 : i ≤ l.length) :
    s.size = i - st ∧ ∀ j, j < i - st → bt s j = li l (st + j) := by
  have hsz : s.size = i - st := by rw [Lib.size_eq, hs]; simp; omega
  refine ⟨hsz, fun j hj => ?_⟩
  unfold bt
  rw [dif_pos (by omega)]
  have e : s.data.toList[j]? = some (l.getD (st + j) 0) := by
    rw [hs, List.getElem?_drop, List.getElem?_take, if_pos (by omega), List.getD_eq_getElem?_getD, List.getElem?_eq_getElem (by omega)]
    rfl
  have hj' : j < s.data.size := by show j < s.size; omega
  rw [Array.getElem?_toList, Array.getElem?_eq_getElem hj'] at e
  have e2 : s[j]'(by omega) = l.getD (st + j) 0 := Option.some.inj e
  rw [e2]
  rfl

set_option maxRecDepth 100000 in
set_option maxHeartbeats 4000000 in
theorem law6_main (n : Nat) (nm : Nat → ByteArray) (va : Nat → Option Addr) (vl vc : Nat → Nat) (bs : Nat → List UInt8) (b off cap : Nat) (name : ByteArray) (w : World) (hx : 1 ≤ n) (hlm : n ≤ maxLen) (hn : name.size ≤ maxLen)
    (hcn : ∀ j, j < n → w.cell? ⟨b, off + j * 2, none⟩ = some (.string (nm j))) (hcv : ∀ j, j < n → w.cell? ⟨b, off + j * 2 + 1, none⟩ = some (.slice (va j) (vl j) (vc j)))
    (hsn : ∀ j, j < n → (nm j).size ≤ maxLen) (hsv : ∀ j, j < n → vl j ≤ maxLen) (hbs : ∀ j, j < n → vl j ≤ vc j ∧ IsBytes w (va j) (vl j) (bs j))
    (hb : b < w.heap.size) (hLib : NlLib w) :
    Calls Tryd.prog 6 #[.slice (some ⟨b, off, none⟩) n cap, .string name] w fun e w' => e = .returned (.bool true) ∧ Below w.heap.size w w' := by
  have Z : Hid (Calls Tryd.prog 15 #[.slice (some ⟨b, off, none⟩) n cap, .string name] w (RetF (∀ j, j < n → (nm j).size ≤ 1048576 ∧ vl j ≤ 1048576) w)) := by
    by_cases h : 1048576 < n
    · exact zz15_big _ _ _ _ _ _ hlm h
    · exact zz15_any n nm va vl vc b off cap name w hn (by omega) hcn hcv hsn hsv
  have HC : Hid (∀ j, j < n → w.cell? ⟨b, off + j * 2, none⟩ = some (.string (nm j))) := hcn
  have HV : Hid (∀ j, j < n → w.cell? ⟨b, off + j * 2 + 1, none⟩ = some (.slice (va j) (vl j) (vc j))) := hcv
  have HBS : Hid (∀ j, j < n → vl j ≤ vc j ∧ IsBytes w (va j) (vl j) (bs j)) := hbs
  have HLIB : Hid (NlLib w) := hLib
  unfold maxLen at hlm hn
  clear hcn hcv hsn hsv hbs hLib
  go_enter Tryd.func6, Tryd.ntmps6
  go_wp2_with fail
  refine Z.out.mono ?_
  rintro e w' ⟨⟨bb, rfl, hbb⟩, rfl⟩
  clear Z
  cases bb with
  | false =>
    go_wp2
    go_ret
    exact ⟨rfl, Below.refl _ _⟩
  | true =>
  have HS : Hid (∀ j, j < n → (nm j).size ≤ 1048576 ∧ vl j ≤ 1048576) := hbb rfl
  clear hbb
  by_cases big1 : 65536 < n
  · go_wp2
    go_ret
    exact ⟨rfl, Below.refl _ _⟩
  by_cases big2 : 1048576 < name.size
  · go_wp2
    go_ret
    exact ⟨rfl, Below.refl _ _⟩
  go_wp2
  go_loopw [5, 6] (fun t i wr => ∃ k z m : Nat, k ≤ n ∧ i = .int .i64 k ∧ t = .int .i64 z ∧ z ≤ 1048576 ∧ wr = w.drewN m) (fun _ i _ => n - (intOf i).toNat)
  case atStart => exact ⟨0, name.size, 0, Nat.zero_le _, rfl, rfl, by omega, rfl⟩
  case round =>
    obtain ⟨k, z, m, hk, rfl, rfl, hz, rfl⟩ := hrel
    by_cases hlt : k < n
    · have g1 := HC.out k hlt
      have g2 := HS.out k hlt
      have g3 := HV.out k hlt
      obtain ⟨s, hs⟩ : ∃ s, s = nm k := ⟨_, rfl⟩
      obtain ⟨a1, ha⟩ : ∃ a, a = va k := ⟨_, rfl⟩
      obtain ⟨l1, hl1⟩ : ∃ l, l = vl k := ⟨_, rfl⟩
      obtain ⟨c1, hc1⟩ : ∃ c, c = vc k := ⟨_, rfl⟩
      rw [← hs, ← hl1] at g2
      rw [← hs] at g1
      rw [← ha, ← hl1, ← hc1] at g3
      obtain ⟨g2a, g2b⟩ := g2
      clear hs ha hl1 hc1
      have hlt' : (k : Int) < (n : Int) := by omega
      by_cases h2 : 1048576 < z + (48 + s.size + l1)
      · go_wp2_with fail
        go_quiet (fail)
        go_wp2
        go_ret
        exact ⟨rfl, drewN_below _ _⟩
      go_wp2_with fail
      go_quiet (fail)
      go_wp2
      go_roundw
      case rel => exact ⟨k + 1, z + (48 + s.size + l1), _, by omega, by go_num, by go_num, by omega, rfl⟩
      case measure => simp [intOf]; omega
    have hmm := @run_makeMap Tryd.prog
    go_wp2
    go_loopw [8] (fun i wr => ∃ k : Nat, k ≤ n ∧ i = .int .i64 k ∧ wr.ownsMap Tryd.prog 9 hR w.heap.size k (Dk nm va vl vc k) ∧ Below w.heap.size w wr) (fun i _ => n - (intOf i).toNat)
    case atStart => exact ⟨0, Nat.zero_le _, rfl, World.ownsMap_made (w.drewN m) Tryd.prog 9 hR, (drewN_below w m).alloc (Nat.le_refl _) _⟩
    case round =>
      clear hmm hk hlt
      obtain ⟨k, hk, rfl, hown, hnx⟩ := hrel
      by_cases hlt : k < n
      · have g1 : wr.cell? ⟨b, off + k * 2, none⟩ = some (.string (nm k)) := (hnx.cell (by exact hb)).trans (HC.out k hlt)
        have g3 : wr.cell? ⟨b, off + k * 2 + 1, none⟩ = some (.slice (va k) (vl k) (vc k)) := (hnx.cell (by exact hb)).trans (HV.out k hlt)
        obtain ⟨wM, hrunM, hownM, hgM⟩ := hown.drew.update keyLaw Tryd.underlying30 (by unfold maxLen; omega) (keyOf_string_mk (s := nm k) Tryd.underlying9 (by have := (HS.out k hlt).1; unfold maxLen; omega)) (val := .slice (va k) (vl k) (vc k)) rfl
        have hlt' : (k : Int) < (n : Int) := by omega
        have HNX : Hid (Below w.heap.size w wM) := hnx.drew.grown hgM hnx.size (fun j hj => by cases hj; exact Nat.le_refl _)
        have HOM : Hid (wM.ownsMap Tryd.prog 9 hR w.heap.size (k + 1) (Dk nm va vl vc (k + 1))) := hownM
        clear hownM hgM hown hnx
        go_wp2
        go_region
        go_wp2
        go_roundw
        case rel => exact ⟨k + 1, by omega, by go_num, HOM.out, HNX.out⟩
        case measure => simp [intOf]; omega
      obtain rfl : k = n := by omega
      go_wp2
      go_loop [9, 10] (fun v i => ∃ (q : Nat) (a : Option Addr) (l c : Nat) (by' : List UInt8), q ≤ k ∧ i = .int .i64 q ∧ v = .slice a l c ∧ l ≤ 1048576 ∧ l ≤ c ∧ Hid (IsBytes w a l by' ∧ (Dk nm va vl vc q).atKey (.string name.data.toList) (.held (.slice none 0 0)) = .held (.slice a l c))) (fun _ i => k - (intOf i).toNat)
      case atStart => exact ⟨0, none, 0, 0, [], Nat.zero_le _, rfl, rfl, Nat.zero_le _, Nat.zero_le _, ⟨rfl, Or.inl rfl⟩, rfl⟩
      case round =>
        obtain ⟨q, a, l, c, by', hq, rfl, rfl, hl, hlc, HR⟩ := hrel
        by_cases hlq : q < k
        · have g1 : wr.cell? ⟨b, off + q * 2, none⟩ = some (.string (nm q)) := (hnx.cell (by exact hb)).trans (HC.out q hlq)
          have g3 : wr.cell? ⟨b, off + q * 2 + 1, none⟩ = some (.slice (va q) (vl q) (vc q)) := (hnx.cell (by exact hb)).trans (HV.out q hlq)
          by_cases he : ((nm q).toList == name.toList) = true
          · have HR' : Hid (IsBytes w (va q) (vl q) (bs q) ∧ (Dk nm va vl vc (q + 1)).atKey (.string name.data.toList) (.held (.slice none 0 0)) = .held (.slice (va q) (vl q) (vc q))) := ⟨(HBS.out q hlq).2, Dk_hit nm va vl vc q name he _⟩
            have hvq := (HS.out q hlq).2
            have hvc := (HBS.out q hlq).1
            go_wp2
            go_round
            case rel => exact ⟨q + 1, va q, vl q, vc q, bs q, by omega, by go_num, rfl, hvq, hvc, HR'⟩
            case measure => simp [intOf]; omega
          · have he' : ((nm q).toList == name.toList) = false := by simpa using he
            have HR' : Hid (IsBytes w a l by' ∧ (Dk nm va vl vc (q + 1)).atKey (.string name.data.toList) (.held (.slice none 0 0)) = .held (.slice a l c)) := ⟨HR.out.1, by rw [Dk_miss nm va vl vc q name he']; exact HR.out.2⟩
            clear he
            go_wp2
            go_round
            case rel => exact ⟨q + 1, a, l, c, by', by omega, by go_num, rfl, hl, hlc, HR'⟩
            case measure => simp [intOf]; omega
        obtain rfl : q = k := by omega
        have L1 := look_held hown (name := name) (by unfold maxLen; omega) HR.out.2
        obtain ⟨⟨rfl, hby⟩, _⟩ := HR.out
        have hnil := fun (w : World) (a : Option Addr) (n c : Nat) => Lib.run_eql_slice_nil (P := Tryd.prog) w 31 9 a n c 0 0 Tryd.underlying31
        by_cases h0 : by'.length = 0
        · rw [h0] at L1
          have K := list_none (.map (some w.heap.size)) name a c wr L1 (conv_empty a c wr)
          have K' : Hid (Calls Tryd.prog 16 #[.map (some w.heap.size), .string name] wr fun e w' => e = .returned (.slice none 0 0) ∧ wr = w') := K.mono fun e w' h => ⟨h.1, h.2.symm⟩
          have hz0 : ((by'.length : Int) == 0) = true := by rw [h0]; rfl
          clear K L1 h0 hby HR
          go_wp2_with (go_at_call 16; refine K'.out.mono ?_; rintro e w' ⟨rfl, rfl⟩)
          go_ret
          exact ⟨rfl, hnx⟩
        rcases hby with hby | ⟨b2, o2, rfl, hb2, hc2⟩
        · exact absurd hby h0
        have c2 : ∀ j (hj : j < by'.length), wr.cell? ((⟨b2, o2, none⟩ : Addr).add j) = some (.int .u8 (by'[j].toNat : Int)) := fun j hj => by
          rw [WideShapes.add_plain, hnx.cell (by exact hb2), hc2 j hj, li_at by' j hj]
        have K : Hid (Calls Tryd.prog 16 #[.map (some w.heap.size), .string name] wr fun e w' => e = .returned (.slice (some ⟨wr.heap.size, 0, none⟩) (nlParts by').length (nlParts by').length) ∧ w' = wr.alloc (.cells ((nlParts by').map Value.string).toArray 9)) :=
          list_some (.map (some w.heap.size)) name ⟨b2, o2, none⟩ c by' wr (by intro e; rw [e] at h0; exact h0 rfl) L1 c2 (HLIB.out by' (by omega) wr hnx).1 (HLIB.out by' (by omega) wr hnx).2
        have hz0 : ((by'.length : Int) == 0) = false := beq_eq_false_iff_ne.2 (by omega)
        have HC2 : Hid (∀ j, j < by'.length → (wr.alloc (.cells ((nlParts by').map Value.string).toArray 9)).cell? ⟨b2, o2 + j, none⟩ = some (.int .u8 (li by' j))) := fun j hj => by
          have hB : Below w.heap.size w (wr.alloc (.cells ((nlParts by').map Value.string).toArray 9)) := hnx.alloc hnx.size _
          rw [hB.cell (by exact hb2), hc2 j hj]
        have HP2 : Hid (∀ j, j < (nlParts by').length → (wr.alloc (.cells ((nlParts by').map Value.string).toArray 9)).cell? ⟨wr.heap.size, 0 + j, none⟩ = some (.string ((nlParts by').getD j ByteArray.empty))) := fun j hj => parts_cell _ _ j hj
        have HBE : Hid (Below w.heap.size w (wr.alloc (.cells ((nlParts by').map Value.string).toArray 9))) := hnx.alloc hnx.size _
        have HNE : Hid (by' ≠ []) := by intro e; rw [e] at h0; exact h0 rfl
        have hpl : (nlParts by').length ≤ 1048577 := by
          have h1 := Lib.splitB_length_le ⟨#[10]⟩ 0 (Lib.countB (nlTrim by') ⟨#[10]⟩) (nlTrim by')
          have h2 := Lib.countB_le ⟨#[10]⟩ (by decide) (nlTrim by').size (nlTrim by') (Nat.le_refl _)
          have h3 := nlTrim_size by'
          unfold nlParts
          omega
        clear L1 c2 hc2 HR hown hnx HC HV HBS HLIB HS h0
        go_wp2_with (go_at_call 16; refine K.out.mono ?_; rintro e w' ⟨rfl, rfl⟩)
        clear K hnil
        obtain ⟨W, hW⟩ : ∃ W, W = wr.alloc (.cells ((nlParts by').map Value.string).toArray 9) := ⟨_, rfl⟩
        rw [← hW] at HC2 HP2 HBE ⊢
        clear hW
        go_loopw [12, 13, 14] (fun kk st i w2 => ∃ i' k' s' m : Nat, i = .int .i64 i' ∧ kk = .int .i64 k' ∧ st = .int .i64 s' ∧ s' ≤ i' ∧ i' ≤ by'.length ∧ k' ≤ i' ∧ Hid (Scan by' i' k' s') ∧ w2 = W.drewN m) (fun _ _ i _ => by'.length - (intOf i).toNat)
        case atStart => exact ⟨0, 0, 0, 0, rfl, rfl, rfl, Nat.le_refl _, Nat.zero_le _, Nat.le_refl _, scan_zero by', rfl⟩
        case round =>
          obtain ⟨i', k', s', m, rfl, rfl, rfl, hsi, hil, hki, HSC, rfl⟩ := hrel
          by_cases hil' : i' < by'.length
          · have g1 := HC2.out i' hil'
            by_cases hc10 : (li by' i' == 10) = true
            · have e10 : by'[i'] = 10 := by
                have h1 := li_at by' i' hil'
                have h2 : li by' i' = 10 := beq_iff_eq.1 hc10
                rw [h2] at h1
                exact UInt8.toNat_inj.1 (by omega : by'[i'].toNat = 10)
              obtain ⟨hk1, hk2⟩ := scan_hit HSC.out hil' e10
              have hk3 : k' < (nlParts by').length := by rw [← parts_out, List.length_map] at hk1; exact hk1
              have hd : decide (((nlParts by').length : Int) ≤ (k' : Int)) = false := by simp; omega
              have g2 := HP2.out k' hk3
              rw [Nat.zero_add] at g2
              have hps := piece_at hk2
              obtain ⟨s, hs⟩ : ∃ s, s = (nlParts by').getD k' ByteArray.empty := ⟨_, rfl⟩
              rw [← hs] at g2 hps
              obtain ⟨hsz, hbt⟩ := bt_piece s by' s' i' hps (by omega)
              have HE : Hid (∀ m, Calls Tryd.prog 17 #[.string s, .slice (some ⟨b2, o2 + s', none⟩) (i' - s') (c - s')] (W.drewN m) fun e w' => e = .returned (.bool true) ∧ ∃ n, w' = (W.drewN m).drewN n) := fun m =>
                eqsb_same s b2 (o2 + s') (c - s') (i' - s') (W.drewN m) hsz (by omega) (fun j hj => by
                  rw [hbt j hj, Nat.add_assoc]
                  exact HC2.out (s' + j) (by omega))
              have HSC' : Hid (Scan by' (i' + 1) (k' + 1) (i' + 1)) := scan_cut HSC.out hil' e10
              have hk3' : (k' : Int) < ((nlParts by').length : Int) := by omega
              have b1 : (s' : Int) ≤ (i' : Int) := by omega
              have b2' : (i' : Int) ≤ (c : Int) := by omega
              have hcs : ¬ c = s' := by omega
              clear hs hps hsz hbt hk1 hk2 e10
              go_wp2
              go_quiet ((go_at_call 17; exact quiet_more (HE.out _)))
              go_wp2
              go_roundw
              case rel => exact ⟨i' + 1, k' + 1, i' + 1, _, by go_num, by go_num, by go_num, by omega, by omega, by omega, HSC', rfl⟩
              case measure => simp [intOf]; omega
            · have hc10' : (li by' i' == 10) = false := by simpa using hc10
              have HSC' : Hid (Scan by' (i' + 1) k' s') := scan_step HSC.out hil' (fun e => by
                have := li_at by' i' hil'
                rw [e] at this
                rw [← this] at hc10
                exact hc10 rfl)
              clear hc10
              go_wp2
              go_roundw
              case rel => exact ⟨i' + 1, k', s', m, by go_num, rfl, rfl, by omega, by omega, by omega, HSC', rfl⟩
              case measure => simp [intOf]; omega
          · obtain rfl : i' = by'.length := by omega
            by_cases hst : s' < by'.length
            · obtain ⟨hk1, hk2, hk4⟩ := scan_tail HSC.out hst
              have hk3 : k' < (nlParts by').length := by rw [← parts_out, List.length_map] at hk1; exact hk1
              have hk5 : (nlParts by').length = k' + 1 := by rw [← parts_out, List.length_map] at hk4; exact hk4
              have hd : decide (((nlParts by').length : Int) ≤ (k' : Int)) = false := by simp; omega
              have heq : (((k' : Int) + 1) == ((nlParts by').length : Int)) = true := beq_iff_eq.2 (by omega)
              have g2 := HP2.out k' hk3
              rw [Nat.zero_add] at g2
              have hps := piece_at hk2
              obtain ⟨s, hs⟩ : ∃ s, s = (nlParts by').getD k' ByteArray.empty := ⟨_, rfl⟩
              rw [← hs] at g2 hps
              obtain ⟨hsz, hbt⟩ := bt_piece s by' s' by'.length (by rw [List.take_length]; exact hps) (Nat.le_refl _)
              have HE : Hid (∀ m, Calls Tryd.prog 17 #[.string s, .slice (some ⟨b2, o2 + s', none⟩) (by'.length - s') (c - s')] (W.drewN m) fun e w' => e = .returned (.bool true) ∧ ∃ n, w' = (W.drewN m).drewN n) := fun m =>
                eqsb_same s b2 (o2 + s') (c - s') (by'.length - s') (W.drewN m) hsz (by omega) (fun j hj => by
                  rw [hbt j hj, Nat.add_assoc]
                  exact HC2.out (s' + j) (by omega))
              have hk3' : (k' : Int) < ((nlParts by').length : Int) := by omega
              have hcs : ¬ c = s' := by omega
              clear hs hps hsz hbt hk1 hk2 hk4 hk5
              go_wp2
              go_quiet ((go_at_call 17; exact quiet_more (HE.out _)))
              go_wp2
              go_ret
              exact ⟨rfl, HBE.out.trans ((drewN_below _ _).mono HBE.out.size)⟩
            · have hk4 := scan_none HNE.out HSC.out hst
              have hk5 : (nlParts by').length = k' := by rw [← parts_out, List.length_map] at hk4; exact hk4
              have heq : ((k' : Int) == ((nlParts by').length : Int)) = true := beq_iff_eq.2 (by omega)
              clear hk4 hk5
              go_wp2
              go_ret
              exact ⟨rfl, HBE.out.trans ((drewN_below _ _).mono HBE.out.size)⟩
end Go.Proofs.Qxb6602347aDoor
