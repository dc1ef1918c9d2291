import Derived.Test.Qxb6602438aDoorCo
import Derived.Test.Qxb6602438aDoorShelf
import Derived.WalkSmall
import Derived.Laws.IdiomStrings
import Derived.Deep.LoopGhost
import Derived.Deep.QuietTactic
import Derived.BigQuiet
import Derived.Lib.TrimByte
namespace Go.Proofs.Qxb6602438aDoor
open Go.RowKit Go Go.PlainAid

def actG (ts : List PTok) (name : ByteArray) (t n : Nat) : Move :=
  match ts[t]? with
  | none => .fail
  | some tk => if tk.k = 2 then .star else if tk.k = 1 then .adv 1 else if tk.k = 3 then (if setB tk.ws (bt name n).toNat = true then .adv 1 else .fail)
    else if tk.k = 0 then (if Lib.hasPrefix (name.data.toList.drop n) tk.t.data.toList = true then .adv tk.t.size else .fail) else .fail
def finG (ts : List PTok) (t : Nat) : Bool := (ts.drop t).all fun tk => tk.k == 2
def globB (ts : List PTok) (name : ByteArray) : Bool := ans ts.length name.size (actG ts name) (finG ts)
def okG (ts : List PTok) : Prop := ∀ tk ∈ ts, tk.k = 3 → tk.s ≠ none

theorem actG_adv (ts : List PTok) (name : ByteArray) (t n d : Nat) (_ : t < ts.length) (hn : n < name.size) (h : actG ts name t n = .adv d) : n + d ≤ name.size := by
  unfold actG at h
  split at h
  · cases h
  · rename_i tk _
    split at h
    · cases h
    · split at h
      · injection h with h; omega
      · split at h
        · split at h
          · injection h with h; omega
          · cases h
        · split at h
          · split at h
            · rename_i hp
              injection h with h
              have h1 := (List.isPrefixOf_iff_prefix.1 hp).length_le
              rw [List.length_drop, ← Lib.size_eq, ← Lib.size_eq] at h1
              omega
            · cases h
          · cases h
theorem finG_step (ts : List PTok) (t : Nat) (tk : PTok) (h : ts[t]? = some tk) : finG ts t = ((tk.k == 2) && finG ts (t + 1)) := by
  unfold finG
  obtain ⟨h1, h2⟩ := List.getElem?_eq_some_iff.1 h
  rw [List.drop_eq_getElem_cons h1, List.all_cons, h2]
theorem finG_end (ts : List PTok) (t : Nat) (h : ts.length ≤ t) : finG ts t = true := by
  unfold finG
  rw [List.drop_eq_nil_of_le h]
  rfl
theorem quiet_more {P : Program} {f : FuncId} {args : Array Value} {W : World} {m x : Nat} {v : Value} (h : Calls P f args (W.drewN (m + x)) fun e w' => e = .returned v ∧ W.drewN (m + x) = w') :
    Calls P f args (W.drewN (m + x)) fun e w' => e = .returned v ∧ ∃ n, w' = W.drewN (m + n) :=
  h.mono fun _ _ ⟨he, hn⟩ => ⟨he, x, hn.symm⟩

def RetQ (b : Bool) (w : World) (e : Ending) (w' : World) : Prop := e = .returned (.bool b) ∧ ∃ k, w' = w.drewN k
def sv (sp : Nat) : Value := .int .i64 ((sp : Int) - 1)

set_option maxRecDepth 100000 in
set_option maxHeartbeats 8000000 in
theorem glob (ts : List PTok) (name : ByteArray) (b off cap : Nat) (w : World) (hl : ts.length ≤ maxLen) (hn : name.size ≤ 1000000) (hok : okG ts)
    (hc : ∀ j x, ts[j]? = some x → TokAt w b (off + j * 3) x) :
    Calls Tryd.prog 35 #[.slice (some ⟨b, off, none⟩) ts.length cap, .string name] w (RetQ (globB ts name) w) := by
  have hbt := get_bt name
  unfold maxLen at hl
  obtain ⟨T, hT⟩ : ∃ T, T = ts.length := ⟨_, rfl⟩
  have HT : Hid (T = ts.length) := hT
  have HC : Hid (∀ j x, ts[j]? = some x → TokAt w b (off + j * 3) x) := hc
  have HO : Hid (okG ts) := hok
  obtain ⟨B, hB⟩ : ∃ B, B = globB ts name := ⟨_, rfl⟩
  have HR0 : Hid (Runs T name.size (actG ts name) (finG ts) B start) := by rw [hB, hT]; exact Runs.start _ _ _ _
  rw [← hB]
  rw [← hT] at hl ⊢
  clear hc hok hT hB
  go_enter Tryd.func35, Tryd.ntmps35
  go_wp2_with fail
  go_loopg [5, 6, 7, 8] (mu T name.size start) (fun g s5 s6 s7 s8 wx => ∃ (s : St) (m : Nat), g = mu T name.size s ∧ s5 = .int .i64 s.t ∧ s6 = .int .i64 s.n ∧ s7 = .int .i64 ((s.sp : Int) - 1) ∧ s8 = .int .i64 s.sa ∧ wx = w.drewN m ∧ Hid (Runs T name.size (actG ts name) (finG ts) B s))
  case atStart => exact ⟨start, 0, rfl, rfl, rfl, rfl, rfl, rfl, HR0⟩
  case round =>
    clear HR0
    obtain ⟨⟨t, n, sp, sa⟩, m, rfl, rfl, rfl, rfl, rfl, rfl, HR⟩ := hrel
    have hI := HR.out.1
    have it : t ≤ T := hI.t
    have in' : n ≤ name.size := hI.n
    have isp : sp ≤ t := hI.sp
    have isa : sa ≤ n := hI.sa
    clear hI
    by_cases hlt : n < name.size
    · have hlz : (n : Int) < (name.size : Int) := by omega
      have HA : Hid (∀ t n d, t < T → n < name.size → actG ts name t n = .adv d → n + d ≤ name.size) := fun t n d h1 h2 h3 => actG_adv ts name t n d (by rw [← HT.out]; exact h1) h2 h3
      by_cases htl : t < T
      · have htz : (t : Int) < (T : Int) := by omega
        obtain ⟨tk, htk⟩ : ∃ tk, ts[t]? = some tk := ⟨_, List.getElem?_eq_getElem (by rw [← HT.out]; exact htl)⟩
        have A := HC.out t tk htk
        have c1 := A.k
        have c2 := A.t
        have c3 := A.s
        have c4 := A.set
        have c5 := A.kr
        have c6 := A.tl
        unfold maxLen at c6
        have HACT : Hid (actG ts name t n = if tk.k = 2 then .star else if tk.k = 1 then .adv 1 else if tk.k = 3 then (if setB tk.ws (bt name n).toNat = true then .adv 1 else .fail) else if tk.k = 0 then (if Lib.hasPrefix (name.data.toList.drop n) tk.t.data.toList = true then .adv tk.t.size else .fail) else .fail) := by
          show actG ts name t n = _
          unfold actG
          rw [htk]
        have HSTEP : Hid (step T (actG ts name) ⟨t, n, sp, sa⟩ = match actG ts name t n with
          | .star => some ⟨t + 1, n, t + 1, n⟩
          | .adv d => some ⟨t + 1, n + d, sp, sa⟩
          | .fail => back ⟨t, n, sp, sa⟩) := by
          show step T (actG ts name) ⟨t, n, sp, sa⟩ = _
          unfold step
          rw [if_pos htl]
          cases actG ts name t n <;> rfl
        obtain ⟨K, hK⟩ : ∃ K, K = tk.k := ⟨_, rfl⟩
        rw [← hK] at c1 c5
        have H3 : Hid (K = 3 → tk.s ≠ none) := fun h => HO.out tk (List.mem_of_getElem? htk) (by rw [← hK]; exact h)
        rw [← hK] at HACT
        clear A hK htk
        by_cases k2 : K = 2
        · subst k2
          have HST : Hid (step T (actG ts name) ⟨t, n, sp, sa⟩ = some ⟨t + 1, n, t + 1, n⟩) := by
            show step T (actG ts name) ⟨t, n, sp, sa⟩ = _
            rw [HSTEP.out, HACT.out, if_pos rfl]
          clear HACT HSTEP H3 c2 c3 c4 c5 c6
          obtain ⟨HN, HM⟩ := HR.out.next (s' := ⟨t + 1, n, t + 1, n⟩) (HA.out) hlt HST.out
          have HN' : Hid (Runs T name.size (actG ts name) (finG ts) B ⟨t + 1, n, t + 1, n⟩) := HN
          have HM' : Hid (mu T name.size ⟨t + 1, n, t + 1, n⟩ < mu T name.size ⟨t, n, sp, sa⟩) := HM
          clear HR HST HN HM
          go_wp2_with fail
          go_roundg (mu T name.size ⟨t + 1, n, t + 1, n⟩)
          case measure => exact HM'.out
          case rel => exact ⟨⟨t + 1, n, t + 1, n⟩, _, rfl, by first | rfl | go_num | simp, by first | rfl | go_num | simp, by first | rfl | go_num | simp, rfl, rfl, HN'⟩
        have b2 : (K == 2) = false := beq_eq_false_iff_ne.2 k2
        by_cases k1 : K = 1
        · subst k1
          have HST : Hid (step T (actG ts name) ⟨t, n, sp, sa⟩ = some ⟨t + 1, n + 1, sp, sa⟩) := by
            show step T (actG ts name) ⟨t, n, sp, sa⟩ = _
            rw [HSTEP.out, HACT.out, if_neg k2, if_pos rfl]
          clear HACT HSTEP H3 c2 c3 c4 c5 c6 b2
          obtain ⟨HN, HM⟩ := HR.out.next (s' := ⟨t + 1, n + 1, sp, sa⟩) (HA.out) hlt HST.out
          have HN' : Hid (Runs T name.size (actG ts name) (finG ts) B ⟨t + 1, n + 1, sp, sa⟩) := HN
          have HM' : Hid (mu T name.size ⟨t + 1, n + 1, sp, sa⟩ < mu T name.size ⟨t, n, sp, sa⟩) := HM
          clear HR HST HN HM
          go_wp2_with fail
          go_roundg (mu T name.size ⟨t + 1, n + 1, sp, sa⟩)
          case measure => exact HM'.out
          case rel => exact ⟨⟨t + 1, n + 1, sp, sa⟩, _, rfl, by first | rfl | go_num | simp, by first | rfl | go_num | simp, rfl, rfl, rfl, HN'⟩
        have b1 : (K == 1) = false := beq_eq_false_iff_ne.2 k1
        by_cases k3 : K = 3
        · obtain ⟨sb, so, hs⟩ : ∃ sb so, tk.s = some (sb, so) := by
            cases h : tk.s with
            | none => exact absurd h (H3.out k3)
            | some p => exact ⟨p.1, p.2, rfl⟩
          have D := (c4 sb so hs).2
          have c3' : w.cell? ⟨b, off + t * 3 + 2, none⟩ = some (.pointer (some ⟨sb, so, none⟩)) := by rw [c3, hs]; rfl
          obtain ⟨cb, hcb⟩ : ∃ cb : Nat, bt name n = (cb : Int) := ⟨(bt name n).toNat, by have := bt_nonneg name n; omega⟩
          have hcb2 : cb < 256 := by have := bt_le name n; omega
          obtain ⟨sbit, hsb⟩ : ∃ sbit, sbit = setB tk.ws cb := ⟨_, rfl⟩
          have C39 : Hid (∀ m, Calls Tryd.prog 39 #[.pointer (some ⟨sb, so, none⟩), .int .u8 cb] (w.drewN m) fun e w' => e = .returned (.bool sbit) ∧ w.drewN m = w') := fun m => by
            rw [hsb]; exact contains sb so tk.ws cb hcb2 (w.drewN m) D
          have hcbn : (bt name n).toNat = cb := by omega
          rw [hcbn, ← hsb] at HACT
          subst k3
          clear c3 c4 c5 c6 c2 H3 hs D hcbn hsb
          cases sbit with
          | true =>
            have HST : Hid (step T (actG ts name) ⟨t, n, sp, sa⟩ = some ⟨t + 1, n + 1, sp, sa⟩) := by
              show step T (actG ts name) ⟨t, n, sp, sa⟩ = _
              rw [HSTEP.out, HACT.out, if_neg k2, if_neg k1, if_pos rfl, if_pos rfl]
            clear HACT HSTEP
            obtain ⟨HN, HM⟩ := HR.out.next (s' := ⟨t + 1, n + 1, sp, sa⟩) (HA.out) hlt HST.out
            have HN' : Hid (Runs T name.size (actG ts name) (finG ts) B ⟨t + 1, n + 1, sp, sa⟩) := HN
            have HM' : Hid (mu T name.size ⟨t + 1, n + 1, sp, sa⟩ < mu T name.size ⟨t, n, sp, sa⟩) := HM
            clear HR HST HN HM
            go_wp2_with fail
            go_quiet ((go_at_call 39; exact quiet_more (C39.out _)))
            go_wp2_with fail
            go_roundg (mu T name.size ⟨t + 1, n + 1, sp, sa⟩)
            case measure => exact HM'.out
            case rel => exact ⟨⟨t + 1, n + 1, sp, sa⟩, _, rfl, by first | rfl | go_num | simp, by first | rfl | go_num | simp, rfl, rfl, rfl, HN'⟩
          | false =>
            have HST : Hid (step T (actG ts name) ⟨t, n, sp, sa⟩ = back ⟨t, n, sp, sa⟩) := by
              show step T (actG ts name) ⟨t, n, sp, sa⟩ = _
              rw [HSTEP.out, HACT.out, if_neg k2, if_neg k1, if_pos rfl, if_neg (by decide)]
            clear HACT HSTEP
            by_cases hsp : sp = 0
            · have HF : Hid (B = false) := HR.out.fails hlt (by rw [HST.out]; unfold back; exact if_pos hsp)
              have HQ : Hid (∀ k, RetQ B w (.returned (.bool false)) (w.drewN k)) := fun k => ⟨by rw [HF.out], k, rfl⟩
              subst hsp
              clear HR HST HF
              go_wp2_with fail
              go_quiet ((go_at_call 39; exact quiet_more (C39.out _)))
              go_wp2_with fail
              go_ret
              exact HQ.out _
            · obtain ⟨HN, HM⟩ := HR.out.next (s' := ⟨sp, sa + 1, sp, sa + 1⟩) (HA.out) hlt (by rw [HST.out]; unfold back; exact if_neg hsp)
              have HN' : Hid (Runs T name.size (actG ts name) (finG ts) B ⟨sp, sa + 1, sp, sa + 1⟩) := HN
              have HM' : Hid (mu T name.size ⟨sp, sa + 1, sp, sa + 1⟩ < mu T name.size ⟨t, n, sp, sa⟩) := HM
              have hs1 : ¬ (sp : Int) - 1 < 0 := by omega
              clear HR HST HN HM
              go_wp2_with fail
              go_quiet ((go_at_call 39; exact quiet_more (C39.out _)))
              go_wp2_with fail
              go_roundg (mu T name.size ⟨sp, sa + 1, sp, sa + 1⟩)
              case measure => exact HM'.out
              case rel => exact ⟨⟨sp, sa + 1, sp, sa + 1⟩, _, rfl, by first | rfl | go_num | simp, by first | rfl | go_num | simp, rfl, by first | rfl | go_num | simp, rfl, HN'⟩
        have b3 : (K == 3) = false := beq_eq_false_iff_ne.2 k3
        clear H3 c3 c4
        by_cases k0 : K = 0
        · obtain ⟨tx, htx⟩ : ∃ tx, tx = tk.t := ⟨_, rfl⟩
          rw [← htx] at c2 c6
          obtain ⟨pf, hpf⟩ : ∃ pf, pf = Lib.hasPrefix (name.data.toList.drop n) tk.t.data.toList := ⟨_, rfl⟩
          obtain ⟨nm, hnm⟩ : ∃ nm, name.extract n name.size = nm := ⟨_, rfl⟩
          have C40 : Hid (∀ m, Calls Tryd.prog 40 #[.string nm, .string tx] (w.drewN m) fun e w' => e = .returned (.bool pf) ∧ w.drewN m = w') := fun m => by
            have := Tryd.strings_HasPrefix nm tx (w.drewN m)
            rw [← hnm, Lib.extract_from, htx] at this
            simp only at this
            rw [← hpf] at this
            rw [← hnm, Lib.extract_from, htx]
            exact this.mono fun _ _ h => ⟨h.1, h.2.symm⟩
          rw [← hpf, ← htx] at HACT
          have hp5 : pf = true → n + tx.size ≤ name.size := fun h => by
            have h2 := List.isPrefixOf_iff_prefix.1 (hpf.symm.trans h)
            have h1 := h2.length_le
            rw [List.length_drop, ← Lib.size_eq, ← Lib.size_eq, ← htx] at h1
            omega
          subst k0
          clear hpf htx c5
          cases pf with
          | true =>
            have HST : Hid (step T (actG ts name) ⟨t, n, sp, sa⟩ = some ⟨t + 1, n + tx.size, sp, sa⟩) := by
              show step T (actG ts name) ⟨t, n, sp, sa⟩ = _
              rw [HSTEP.out, HACT.out, if_neg k2, if_neg k1, if_neg k3, if_pos rfl, if_pos rfl]
            have hp6 := hp5 rfl
            clear HACT HSTEP hp5
            obtain ⟨HN, HM⟩ := HR.out.next (s' := ⟨t + 1, n + tx.size, sp, sa⟩) (HA.out) hlt HST.out
            have HN' : Hid (Runs T name.size (actG ts name) (finG ts) B ⟨t + 1, n + tx.size, sp, sa⟩) := HN
            have HM' : Hid (mu T name.size ⟨t + 1, n + tx.size, sp, sa⟩ < mu T name.size ⟨t, n, sp, sa⟩) := HM
            clear HR HST HN HM
            go_wp2_with fail
            go_quiet ((go_at_call 40; exact quiet_more (C40.out _)))
            go_wp2_with fail
            go_roundg (mu T name.size ⟨t + 1, n + tx.size, sp, sa⟩)
            case measure => exact HM'.out
            case rel => exact ⟨⟨t + 1, n + tx.size, sp, sa⟩, _, rfl, by first | rfl | go_num | simp, by first | rfl | go_num | simp, rfl, rfl, rfl, HN'⟩
          | false =>
            have HST : Hid (step T (actG ts name) ⟨t, n, sp, sa⟩ = back ⟨t, n, sp, sa⟩) := by
              show step T (actG ts name) ⟨t, n, sp, sa⟩ = _
              rw [HSTEP.out, HACT.out, if_neg k2, if_neg k1, if_neg k3, if_pos rfl, if_neg (by decide)]
            clear HACT HSTEP hp5
            by_cases hsp : sp = 0
            · have HF : Hid (B = false) := HR.out.fails hlt (by rw [HST.out]; unfold back; exact if_pos hsp)
              have HQ : Hid (∀ k, RetQ B w (.returned (.bool false)) (w.drewN k)) := fun k => ⟨by rw [HF.out], k, rfl⟩
              subst hsp
              clear HR HST HF
              go_wp2_with fail
              go_quiet ((go_at_call 40; exact quiet_more (C40.out _)))
              go_wp2_with fail
              go_ret
              exact HQ.out _
            · obtain ⟨HN, HM⟩ := HR.out.next (s' := ⟨sp, sa + 1, sp, sa + 1⟩) (HA.out) hlt (by rw [HST.out]; unfold back; exact if_neg hsp)
              have HN' : Hid (Runs T name.size (actG ts name) (finG ts) B ⟨sp, sa + 1, sp, sa + 1⟩) := HN
              have HM' : Hid (mu T name.size ⟨sp, sa + 1, sp, sa + 1⟩ < mu T name.size ⟨t, n, sp, sa⟩) := HM
              have hs1 : ¬ (sp : Int) - 1 < 0 := by omega
              clear HR HST HN HM
              go_wp2_with fail
              go_quiet ((go_at_call 40; exact quiet_more (C40.out _)))
              go_wp2_with fail
              go_roundg (mu T name.size ⟨sp, sa + 1, sp, sa + 1⟩)
              case measure => exact HM'.out
              case rel => exact ⟨⟨sp, sa + 1, sp, sa + 1⟩, _, rfl, by first | rfl | go_num | simp, by first | rfl | go_num | simp, rfl, by first | rfl | go_num | simp, rfl, HN'⟩
        have b0 : (K == 0) = false := beq_eq_false_iff_ne.2 k0
        have HST : Hid (step T (actG ts name) ⟨t, n, sp, sa⟩ = back ⟨t, n, sp, sa⟩) := by
          show step T (actG ts name) ⟨t, n, sp, sa⟩ = _
          rw [HSTEP.out, HACT.out, if_neg k2, if_neg k1, if_neg k3, if_neg k0]
        clear HACT HSTEP c2 c5 c6
        by_cases hsp : sp = 0
        · have HF : Hid (B = false) := HR.out.fails hlt (by rw [HST.out]; unfold back; exact if_pos hsp)
          have HQ : Hid (∀ k, RetQ B w (.returned (.bool false)) (w.drewN k)) := fun k => ⟨by rw [HF.out], k, rfl⟩
          subst hsp
          clear HR HST HF
          go_wp2_with fail
          go_ret
          exact HQ.out _
        · obtain ⟨HN, HM⟩ := HR.out.next (s' := ⟨sp, sa + 1, sp, sa + 1⟩) (HA.out) hlt (by rw [HST.out]; unfold back; exact if_neg hsp)
          have HN' : Hid (Runs T name.size (actG ts name) (finG ts) B ⟨sp, sa + 1, sp, sa + 1⟩) := HN
          have HM' : Hid (mu T name.size ⟨sp, sa + 1, sp, sa + 1⟩ < mu T name.size ⟨t, n, sp, sa⟩) := HM
          have hs1 : ¬ (sp : Int) - 1 < 0 := by omega
          clear HR HST HN HM
          go_wp2_with fail
          go_roundg (mu T name.size ⟨sp, sa + 1, sp, sa + 1⟩)
          case measure => exact HM'.out
          case rel => exact ⟨⟨sp, sa + 1, sp, sa + 1⟩, _, rfl, by first | rfl | go_num | simp, by first | rfl | go_num | simp, rfl, by first | rfl | go_num | simp, rfl, HN'⟩
      · have HST : Hid (step T (actG ts name) ⟨t, n, sp, sa⟩ = back ⟨t, n, sp, sa⟩) := by
          show step T (actG ts name) ⟨t, n, sp, sa⟩ = _
          unfold step
          exact if_neg htl
        have htz : ¬ (t : Int) < (T : Int) := by omega
        by_cases hsp : sp = 0
        · have HF : Hid (B = false) := HR.out.fails hlt (by rw [HST.out]; unfold back; exact if_pos hsp)
          have HQ : Hid (∀ k, RetQ B w (.returned (.bool false)) (w.drewN k)) := fun k => ⟨by rw [HF.out], k, rfl⟩
          subst hsp
          clear HR HST HF
          go_wp2_with fail
          go_ret
          exact HQ.out _
        · obtain ⟨HN, HM⟩ := HR.out.next (s' := ⟨sp, sa + 1, sp, sa + 1⟩) (HA.out) hlt (by rw [HST.out]; unfold back; exact if_neg hsp)
          have HN' : Hid (Runs T name.size (actG ts name) (finG ts) B ⟨sp, sa + 1, sp, sa + 1⟩) := HN
          have HM' : Hid (mu T name.size ⟨sp, sa + 1, sp, sa + 1⟩ < mu T name.size ⟨t, n, sp, sa⟩) := HM
          have hs1 : ¬ (sp : Int) - 1 < 0 := by omega
          clear HR HST HN HM
          go_wp2_with fail
          go_roundg (mu T name.size ⟨sp, sa + 1, sp, sa + 1⟩)
          case measure => exact HM'.out
          case rel => exact ⟨⟨sp, sa + 1, sp, sa + 1⟩, _, rfl, by first | rfl | go_num | simp, by first | rfl | go_num | simp, rfl, by first | rfl | go_num | simp, rfl, HN'⟩
    · have HE : Hid (B = finG ts t) := HR.out.ends hlt
      have hlz : ¬ (n : Int) < (name.size : Int) := by omega
      clear HR
      go_wp2_with fail
      go_loopg [5] (T - t) (fun g s5 wx => ∃ (k q : Nat), k ≤ T ∧ g = T - k ∧ s5 = .int .i64 k ∧ wx = w.drewN q ∧ Hid (B = finG ts k))
      case atStart => exact ⟨t, m, it, rfl, rfl, rfl, HE⟩
      case round =>
        clear HE
        obtain ⟨k, q, hk, rfl, rfl, rfl, HE⟩ := hrel
        by_cases hkl : k < T
        · have hkz : (k : Int) < (T : Int) := by omega
          obtain ⟨tk, htk⟩ : ∃ tk, ts[k]? = some tk := ⟨_, List.getElem?_eq_getElem (by rw [← HT.out]; exact hkl)⟩
          have A := HC.out k tk htk
          have c1 := A.k
          have HF := finG_step ts k tk htk
          obtain ⟨K, hK⟩ : ∃ K, K = tk.k := ⟨_, rfl⟩
          rw [← hK] at c1 HF
          clear A hK htk
          by_cases k2 : K = 2
          · have HE' : Hid (B = finG ts (k + 1)) := by
              show B = _
              rw [HE.out, HF, k2]
              rfl
            subst k2
            clear HE HF
            go_wp2_with fail
            go_roundg (T - (k + 1))
            case measure => omega
            case rel => exact ⟨k + 1, _, by omega, rfl, by first | rfl | go_num | simp, rfl, HE'⟩
          · have HE' : Hid (B = false) := by
              show B = _
              rw [HE.out, HF, beq_eq_false_iff_ne.2 k2]
              rfl
            have b2 : (K == 2) = false := beq_eq_false_iff_ne.2 k2
            have bT : ((k : Int) == (T : Int)) = false := beq_eq_false_iff_ne.2 (by omega)
            have HQ : Hid (∀ k, RetQ B w (.returned (.bool false)) (w.drewN k)) := fun k => ⟨by rw [HE'.out], k, rfl⟩
            clear HE HF k2
            go_wp2_with fail
            go_ret
            exact HQ.out _
        · have HE' : Hid (B = true) := by
            show B = _
            rw [HE.out, finG_end ts k (by rw [← HT.out]; omega)]
          have HQ : Hid (∀ k, RetQ B w (.returned (.bool true)) (w.drewN k)) := fun k => ⟨by rw [HE'.out], k, rfl⟩
          obtain rfl : k = T := by omega
          clear HE
          go_wp2_with fail
          go_ret
          exact HQ.out _
end Go.Proofs.Qxb6602438aDoor
