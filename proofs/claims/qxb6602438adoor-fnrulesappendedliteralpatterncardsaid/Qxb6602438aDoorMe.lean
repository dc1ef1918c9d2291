import Derived.Test.Qxb6602438aDoorEl
namespace Go.Proofs.Qxb6602438aDoor
open Go.RowKit Go Go.PlainAid

def actE (ss : List PSeg) (els : List ByteArray) (t n : Nat) : Move :=
  match ss[t]? with
  | none => .fail
  | some sg => if sg.ds = true then .star else (match els[n]? with
    | none => .fail
    | some x => if segM sg x = true then .adv 1 else .fail)
def finE (ss : List PSeg) (t : Nat) : Bool := (ss.drop t).all fun sg => sg.ds
def elemsB (ss : List PSeg) (els : List ByteArray) : Bool := ans ss.length els.length (actE ss els) (finE ss)

theorem actE_adv (ss : List PSeg) (els : List ByteArray) (t n d : Nat) (hn : n < els.length) (h : actE ss els t n = .adv d) : n + d ≤ els.length := by
  unfold actE at h
  split at h
  · cases h
  · split at h
    · cases h
    · split at h
      · cases h
      · split at h
        · injection h with h; omega
        · cases h
theorem finE_step (ss : List PSeg) (t : Nat) (sg : PSeg) (h : ss[t]? = some sg) : finE ss t = (sg.ds && finE ss (t + 1)) := by
  unfold finE
  obtain ⟨h1, h2⟩ := List.getElem?_eq_some_iff.1 h
  rw [List.drop_eq_getElem_cons h1, List.all_cons, h2]
theorem finE_end (ss : List PSeg) (t : Nat) (h : ss.length ≤ t) : finE ss t = true := by
  unfold finE
  rw [List.drop_eq_nil_of_le h]
  rfl
theorem quiet_draw {P : Program} {f : FuncId} {args : Array Value} {W : World} {m x : Nat} {v : Value} (h : Calls P f args (W.drewN (m + x)) fun e w' => e = .returned v ∧ ∃ n, w' = (W.drewN (m + x)).drewN n) :
    Calls P f args (W.drewN (m + x)) fun e w' => e = .returned v ∧ ∃ n, w' = W.drewN (m + n) :=
  h.mono fun _ _ ⟨he, n, hn⟩ => ⟨he, x + n, by rw [hn, World.drewN_drewN, Nat.add_assoc]⟩
theorem SegAt.drewN {w : World} {b o : Nat} {sg : PSeg} (h : SegAt w b o sg) (k : Nat) : SegAt (w.drewN k) b o sg := h.keep (below_drewN (Below.refl _ _) k)

set_option maxRecDepth 100000 in
set_option maxHeartbeats 8000000 in
theorem elems (ss : List PSeg) (els : List ByteArray) (a : Option Addr) (cap eb eo ecap : Nat) (w : World) (hl : ss.length ≤ maxLen) (he : els.length ≤ 1000000) (hes : ∀ x ∈ els, x.size ≤ 1000000) (hok : ∀ sg ∈ ss, okS sg)
    (hc : ∀ j x, ss[j]? = some x → ∃ b off, a = some ⟨b, off, none⟩ ∧ SegAt w b (off + j * 3) x) (hec : ∀ j x, els[j]? = some x → w.cell? ⟨eb, eo + j, none⟩ = some (.string x)) :
    Calls Tryd.prog 24 #[.slice a ss.length cap, .slice (some ⟨eb, eo, none⟩) els.length ecap] w (RetQ (elemsB ss els) w) := by
  unfold maxLen at hl
  obtain ⟨T, hT⟩ : ∃ T, T = ss.length := ⟨_, rfl⟩
  obtain ⟨N, hN⟩ : ∃ N, N = els.length := ⟨_, rfl⟩
  have HT : Hid (T = ss.length) := hT
  have HNN : Hid (N = els.length) := hN
  have HC : Hid (∀ j x, ss[j]? = some x → ∃ b off, a = some ⟨b, off, none⟩ ∧ SegAt w b (off + j * 3) x) := hc
  have HEC : Hid (∀ j x, els[j]? = some x → w.cell? ⟨eb, eo + j, none⟩ = some (.string x)) := hec
  have HES : Hid (∀ x ∈ els, x.size ≤ 1000000) := hes
  have HO : Hid (∀ sg ∈ ss, okS sg) := hok
  obtain ⟨B, hB⟩ : ∃ B, B = elemsB ss els := ⟨_, rfl⟩
  have HR0 : Hid (Runs T N (actE ss els) (finE ss) B start) := by rw [hB, hT, hN]; exact Runs.start _ _ _ _
  rw [← hB]
  rw [← hT] at hl ⊢
  rw [← hN] at he ⊢
  clear hc hok hT hB hN hec hes
  go_enter Tryd.func24, Tryd.ntmps24
  go_wp2_with fail
  go_loopg [5, 6, 7, 8] (mu T N start) (fun g s5 s6 s7 s8 wx => ∃ (s : St) (m : Nat), g = mu T N s ∧ s5 = .int .i64 s.t ∧ s6 = .int .i64 s.n ∧ s7 = .int .i64 ((s.sp : Int) - 1) ∧ s8 = .int .i64 s.sa ∧ wx = w.drewN m ∧ Hid (Runs T N (actE ss els) (finE ss) B s))
  case atStart => exact ⟨start, 0, rfl, rfl, rfl, rfl, rfl, rfl, HR0⟩
  case round =>
    clear HR0
    obtain ⟨⟨t, n, sp, sa⟩, m, rfl, rfl, rfl, rfl, rfl, rfl, HR⟩ := hrel
    have hI := HR.out.1
    have it : t ≤ T := hI.t
    have in' : n ≤ N := hI.n
    have isp : sp ≤ t := hI.sp
    have isa : sa ≤ n := hI.sa
    clear hI
    by_cases hlt : n < N
    · have hlz : (n : Int) < (N : Int) := by omega
      have HA : Hid (∀ t n d, t < T → n < N → actE ss els t n = .adv d → n + d ≤ N) := fun t n d _ h2 h3 => by rw [HNN.out] at h2 ⊢; exact actE_adv ss els t n d h2 h3
      by_cases htl : t < T
      · have htz : (t : Int) < (T : Int) := by omega
        obtain ⟨sg, hsg⟩ : ∃ sg, ss[t]? = some sg := ⟨_, List.getElem?_eq_getElem (by rw [← HT.out]; exact htl)⟩
        obtain ⟨x, hx⟩ : ∃ x, els[n]? = some x := ⟨_, List.getElem?_eq_getElem (by rw [← HNN.out]; exact hlt)⟩
        obtain ⟨b, off, ha, A⟩ := HC.out t sg hsg
        have c1 := A.ds
        have c2 := HEC.out n x hx
        have HACT : Hid (actE ss els t n = if sg.ds = true then .star else if segM sg x = true then .adv 1 else .fail) := by
          show actE ss els t n = _
          unfold actE
          rw [hsg, hx]
        have HSTEP : Hid (step T (actE ss els) ⟨t, n, sp, sa⟩ = match actE ss els t n with
          | .star => some ⟨t + 1, n, t + 1, n⟩
          | .adv d => some ⟨t + 1, n + d, sp, sa⟩
          | .fail => back ⟨t, n, sp, sa⟩) := by
          show step T (actE ss els) ⟨t, n, sp, sa⟩ = _
          unfold step
          rw [if_pos htl]
          cases actE ss els t n <;> rfl
        obtain ⟨M, hM⟩ : ∃ M, M = segM sg x := ⟨_, rfl⟩
        have C25 : Hid (∀ m, Calls Tryd.prog 25 #[.pointer (some ⟨b, off + t * 3, none⟩), .string x] (w.drewN m) fun e w' => e = .returned (.bool M) ∧ ∃ n, w' = (w.drewN m).drewN n) := fun m => by
          rw [hM]; exact seg25 sg x b (off + t * 3) (w.drewN m) (HES.out x (List.mem_of_getElem? hx)) (HO.out sg (List.mem_of_getElem? hsg)) (A.drewN m)
        obtain ⟨D, hD⟩ : ∃ D, D = sg.ds := ⟨_, rfl⟩
        rw [← hD] at c1 HACT
        rw [← hM] at HACT
        subst ha
        clear A hD hM hsg hx
        cases D with
        | true =>
          have HST : Hid (step T (actE ss els) ⟨t, n, sp, sa⟩ = some ⟨t + 1, n, t + 1, n⟩) := by
            show step T (actE ss els) ⟨t, n, sp, sa⟩ = _
            rw [HSTEP.out, HACT.out, if_pos rfl]
          clear HACT HSTEP c2 C25
          obtain ⟨HN, HM⟩ := HR.out.next (s' := ⟨t + 1, n, t + 1, n⟩) (HA.out) hlt HST.out
          have HN' : Hid (Runs T N (actE ss els) (finE ss) B ⟨t + 1, n, t + 1, n⟩) := HN
          have HM' : Hid (mu T N ⟨t + 1, n, t + 1, n⟩ < mu T N ⟨t, n, sp, sa⟩) := HM
          clear HR HST HN HM
          go_wp2_with fail
          go_roundg (mu T N ⟨t + 1, n, t + 1, n⟩)
          case measure => exact HM'.out
          case rel => exact ⟨⟨t + 1, n, t + 1, n⟩, _, rfl, by first | rfl | go_num | simp, by first | rfl | go_num | simp, by first | rfl | go_num | simp, by first | rfl | go_num | simp, rfl, HN'⟩
        | false =>
          cases M with
          | true =>
            have HST : Hid (step T (actE ss els) ⟨t, n, sp, sa⟩ = some ⟨t + 1, n + 1, sp, sa⟩) := by
              show step T (actE ss els) ⟨t, n, sp, sa⟩ = _
              rw [HSTEP.out, HACT.out, if_neg (by decide), if_pos rfl]
            clear HACT HSTEP
            obtain ⟨HN, HM⟩ := HR.out.next (s' := ⟨t + 1, n + 1, sp, sa⟩) (HA.out) hlt HST.out
            have HN' : Hid (Runs T N (actE ss els) (finE ss) B ⟨t + 1, n + 1, sp, sa⟩) := HN
            have HM' : Hid (mu T N ⟨t + 1, n + 1, sp, sa⟩ < mu T N ⟨t, n, sp, sa⟩) := HM
            clear HR HST HN HM
            go_wp2_with fail
            go_quiet ((go_at_call 25; exact quiet_draw (C25.out _)))
            go_wp2_with fail
            go_roundg (mu T N ⟨t + 1, n + 1, sp, sa⟩)
            case measure => exact HM'.out
            case rel => exact ⟨⟨t + 1, n + 1, sp, sa⟩, _, rfl, by first | rfl | go_num | simp, by first | rfl | go_num | simp, by first | rfl | go_num | simp, by first | rfl | go_num | simp, rfl, HN'⟩
          | false =>
            have HST : Hid (step T (actE ss els) ⟨t, n, sp, sa⟩ = back ⟨t, n, sp, sa⟩) := by
              show step T (actE ss els) ⟨t, n, sp, sa⟩ = _
              rw [HSTEP.out, HACT.out, if_neg (by decide), if_neg (by decide)]
            clear HACT HSTEP
            by_cases hsp : sp = 0
            · have HF : Hid (B = false) := HR.out.fails hlt (by rw [HST.out]; unfold back; exact if_pos hsp)
              have HQ : Hid (∀ k, RetQ B w (.returned (.bool false)) (w.drewN k)) := fun k => ⟨by rw [HF.out], k, rfl⟩
              subst hsp
              clear HR HST HF
              go_wp2_with fail
              go_quiet ((go_at_call 25; exact quiet_draw (C25.out _)))
              go_wp2_with fail
              go_ret
              exact HQ.out _
            · obtain ⟨HN, HM⟩ := HR.out.next (s' := ⟨sp, sa + 1, sp, sa + 1⟩) (HA.out) hlt (by rw [HST.out]; unfold back; exact if_neg hsp)
              have HN' : Hid (Runs T N (actE ss els) (finE ss) B ⟨sp, sa + 1, sp, sa + 1⟩) := HN
              have HM' : Hid (mu T N ⟨sp, sa + 1, sp, sa + 1⟩ < mu T N ⟨t, n, sp, sa⟩) := HM
              have hs1 : (0 : Int) ≤ (sp : Int) - 1 := by omega
              clear HR HST HN HM
              go_wp2_with fail
              go_quiet ((go_at_call 25; exact quiet_draw (C25.out _)))
              go_wp2_with fail
              go_roundg (mu T N ⟨sp, sa + 1, sp, sa + 1⟩)
              case measure => exact HM'.out
              case rel => exact ⟨⟨sp, sa + 1, sp, sa + 1⟩, _, rfl, by first | rfl | go_num | simp, by first | rfl | go_num | simp, rfl, by first | rfl | go_num | simp, rfl, HN'⟩
      · have HST : Hid (step T (actE ss els) ⟨t, n, sp, sa⟩ = back ⟨t, n, sp, sa⟩) := by
          show step T (actE ss els) ⟨t, n, sp, sa⟩ = _
          unfold step
          exact if_neg htl
        have htz : decide (t < T) = false := decide_eq_false htl
        by_cases hsp : sp = 0
        · have HF : Hid (B = false) := HR.out.fails hlt (by rw [HST.out]; unfold back; exact if_pos hsp)
          have HQ : Hid (∀ k, RetQ B w (.returned (.bool false)) (w.drewN k)) := fun k => ⟨by rw [HF.out], k, rfl⟩
          subst hsp
          clear HR HST HF
          go_wp2_with fail
          go_quiet (fail)
          go_wp2_with fail
          go_ret
          exact HQ.out _
        · obtain ⟨HN, HM⟩ := HR.out.next (s' := ⟨sp, sa + 1, sp, sa + 1⟩) (HA.out) hlt (by rw [HST.out]; unfold back; exact if_neg hsp)
          have HN' : Hid (Runs T N (actE ss els) (finE ss) B ⟨sp, sa + 1, sp, sa + 1⟩) := HN
          have HM' : Hid (mu T N ⟨sp, sa + 1, sp, sa + 1⟩ < mu T N ⟨t, n, sp, sa⟩) := HM
          have hs1 : (0 : Int) ≤ (sp : Int) - 1 := by omega
          clear HR HST HN HM
          go_wp2_with fail
          go_quiet (fail)
          go_wp2_with fail
          go_roundg (mu T N ⟨sp, sa + 1, sp, sa + 1⟩)
          case measure => exact HM'.out
          case rel => exact ⟨⟨sp, sa + 1, sp, sa + 1⟩, _, rfl, by first | rfl | go_num | simp, by first | rfl | go_num | simp, rfl, by first | rfl | go_num | simp, rfl, HN'⟩
    · have HE : Hid (B = finE ss t) := HR.out.ends hlt
      have hlz : ¬ (n : Int) < (N : Int) := by omega
      clear HR
      go_wp2_with fail
      go_loopg [5] (T - t) (fun g s5 wx => ∃ (k q : Nat), k ≤ T ∧ g = T - k ∧ s5 = .int .i64 k ∧ wx = w.drewN q ∧ Hid (B = finE ss k))
      case atStart => exact ⟨t, m, it, rfl, rfl, rfl, HE⟩
      case round =>
        clear HE
        obtain ⟨k, q, hk, rfl, rfl, rfl, HE⟩ := hrel
        by_cases hkl : k < T
        · have hkz : (k : Int) < (T : Int) := by omega
          obtain ⟨sg, hsg⟩ : ∃ sg, ss[k]? = some sg := ⟨_, List.getElem?_eq_getElem (by rw [← HT.out]; exact hkl)⟩
          obtain ⟨b, off, ha, A⟩ := HC.out k sg hsg
          have c1 := A.ds
          have HF := finE_step ss k sg hsg
          obtain ⟨D, hD⟩ : ∃ D, D = sg.ds := ⟨_, rfl⟩
          rw [← hD] at c1 HF
          subst ha
          clear A hD hsg
          cases D with
          | true =>
            have HE' : Hid (B = finE ss (k + 1)) := by
              show B = _
              rw [HE.out, HF]
              rfl
            clear HE HF
            go_wp2_with fail
            go_roundg (T - (k + 1))
            case measure => omega
            case rel => exact ⟨k + 1, _, by omega, rfl, by go_num, rfl, HE'⟩
          | false =>
            have HE' : Hid (B = false) := by
              show B = _
              rw [HE.out, HF]
              rfl
            have bT : ((k : Int) == (T : Int)) = false := beq_eq_false_iff_ne.2 (by omega)
            have HQ : Hid (∀ k, RetQ B w (.returned (.bool false)) (w.drewN k)) := fun k => ⟨by rw [HE'.out], k, rfl⟩
            clear HE HF
            go_wp2_with fail
            go_ret
            exact HQ.out _
        · have HE' : Hid (B = true) := by
            show B = _
            rw [HE.out, finE_end ss k (by rw [← HT.out]; omega)]
          have HQ : Hid (∀ k, RetQ B w (.returned (.bool true)) (w.drewN k)) := fun k => ⟨by rw [HE'.out], k, rfl⟩
          obtain rfl : k = T := by omega
          clear HE
          go_wp2_with fail
          go_ret
          exact HQ.out _
end Go.Proofs.Qxb6602438aDoor
