import Derived.Test.Qxb6602438aDoorTa
import Derived.Deep.DeepCutAuto
namespace Go.Proofs.Qxb6602438aDoor
open Go.RowKit Go Go.PlainAid

def okT (l : List PTok) : Prop := ∀ tk ∈ l, tk.k = 3 → tk.s ≠ none
def okSg (sg : PSeg) : Prop := ∀ ts, sg.g = some ts → okT ts
def okPt (q : PPat) : Prop := (q.an = false → q.segs ≠ []) ∧ ∀ sg ∈ q.segs, okSg sg
/-- A Boolean comes back; if it is 'true', then P; the world is as it was. -/
def RetB (P : Prop) (w : World) (e : Ending) (w' : World) : Prop := (∃ b, e = .returned (.bool b) ∧ (b = true → P)) ∧ w = w'

theorem RowAt.opened {α : Type} {C : World → Nat → Nat → α → Prop} {sz : Nat} {w : World} {v : Value} {l : List α} (h : RowAt C sz w v l) :
    ∃ a cap, v = .slice a l.length cap ∧ ∀ j x, l[j]? = some x → ∃ b off, a = some ⟨b, off, none⟩ ∧ C w b (off + j * sz) x := by
  obtain ⟨a, cap, rfl, h⟩ := h
  refine ⟨a, cap, rfl, fun j x hx => ?_⟩
  rcases h with rfl | ⟨b, off, e, _, h⟩
  · simp at hx
  · exact ⟨b, off, e, h j x hx⟩
theorem ToksAt.opened {w : World} {v : Value} {g : Option (List PTok)} (h : ToksAt w v g) :
    ∃ l a cap, v = .slice a l.length cap ∧ l.length ≤ maxLen ∧ (∀ ts, g = some ts → ts = l) ∧ ∀ j x, l[j]? = some x → ∃ b off, a = some ⟨b, off, none⟩ ∧ TokAt w b (off + j * 3) x := by
  cases g with
  | none => exact ⟨[], none, 0, h, Nat.zero_le _, (fun _ e => by cases e), fun j x hx => by simp at hx⟩
  | some ts =>
    obtain ⟨a, cap, e, hh⟩ := h.2.1.opened
    exact ⟨ts, a, cap, e, h.2.2, (fun _ e => (Option.some.inj e).symm), hh⟩

set_option maxRecDepth 100000 in
set_option maxHeartbeats 8000000 in
theorem glob27 (l : List PTok) (a : Option Addr) (cap : Nat) (w : World) (hl : l.length ≤ maxLen) (h : ∀ j x, l[j]? = some x → ∃ b off, a = some ⟨b, off, none⟩ ∧ TokAt w b (off + j * 3) x) :
    Calls Tryd.prog 27 #[.slice a l.length cap] w (RetB (okT l) w) := by
  unfold maxLen at hl
  obtain ⟨N, hN⟩ : ∃ N, N = l.length := ⟨_, rfl⟩
  have HN : Hid (N = l.length) := hN
  have HH : Hid (∀ j x, l[j]? = some x → ∃ b off, a = some ⟨b, off, none⟩ ∧ TokAt w b (off + j * 3) x) := h
  rw [← hN] at hl ⊢
  clear h hN
  go_enter Tryd.func27, Tryd.ntmps27
  go_wp2_with fail
  go_loopg [3] N (fun g s3 wx => ∃ k : Nat, k ≤ N ∧ g = N - k ∧ s3 = .int .i64 k ∧ Hid (∀ j x, j < k → l[j]? = some x → x.k = 3 → x.s ≠ none) ∧ w = wx)
  case atStart => exact ⟨0, Nat.zero_le _, rfl, rfl, (fun _ _ h => by omega), rfl⟩
  case round =>
    obtain ⟨k, hk, hgk, rfl, HF, rfl⟩ := hrel
    have HGK : Hid (_ = N - k) := hgk
    clear hgk
    by_cases hlt : k < N
    · have hlz : (k : Int) < (N : Int) := by omega
      obtain ⟨tk, htk⟩ : ∃ tk, l[k]? = some tk := ⟨_, List.getElem?_eq_getElem (by rw [← HN.out]; exact hlt)⟩
      obtain ⟨b, off, rfl, A⟩ := HH.out k tk htk
      have c0 := A.k
      have c2 := A.s
      have HNX : Hid ((tk.k = 3 → tk.s ≠ none) → ∀ j x, j < k + 1 → l[j]? = some x → x.k = 3 → x.s ≠ none) := fun h j x hj hx => by
        by_cases e : j = k
        · subst e
          obtain rfl : tk = x := Option.some.inj (htk.symm.trans hx)
          exact h
        · exact HF.out j x (by omega) hx
      clear A htk
      by_cases h3 : tk.k = 3
      · rw [h3] at c0
        cases hs : tk.s with
        | none =>
          rw [hs] at c2
          have c2' : w.cell? ⟨b, off + k * 3 + 2, none⟩ = some (.pointer none) := c2
          clear HNX c2 hs h3
          go_wp2_with fail
          go_ret
          exact ⟨⟨false, rfl, fun h => by cases h⟩, rfl⟩
        | some pp =>
          rw [hs] at c2
          have c2' : w.cell? ⟨b, off + k * 3 + 2, none⟩ = some (.pointer (some ⟨pp.1, pp.2, none⟩)) := c2
          have HQ : Hid (∀ j x, j < k + 1 → l[j]? = some x → x.k = 3 → x.s ≠ none) := HNX.out fun _ => by rw [hs]; exact fun e => by cases e
          clear HNX c2 hs h3
          go_wp2_with fail
          go_roundg (N - (k + 1))
          case measure => have := HGK.out; omega
          case rel => exact ⟨k + 1, hlt, rfl, by first | rfl | go_num | simp, HQ, rfl⟩
      · have HQ : Hid (∀ j x, j < k + 1 → l[j]? = some x → x.k = 3 → x.s ≠ none) := HNX.out fun h => absurd h h3
        obtain ⟨K, hK⟩ : ∃ K, K = tk.k := ⟨_, rfl⟩
        rw [← hK] at c0 h3
        have h3' : (K == 3) = false := beq_eq_false_iff_ne.2 h3
        clear HNX c2 hK
        go_wp2_with fail
        go_roundg (N - (k + 1))
        case measure => have := HGK.out; omega
        case rel => exact ⟨k + 1, hlt, rfl, by first | rfl | go_num | simp, HQ, rfl⟩
    · have HR : Hid (okT l) := fun tk ht => by
        obtain ⟨j, hj, e⟩ := List.getElem_of_mem ht
        exact HF.out j tk (by rw [← HN.out] at hj; omega) (by rw [List.getElem?_eq_getElem hj, e])
      go_wp2_with fail
      go_ret
      exact ⟨⟨true, rfl, fun _ => HR.out⟩, rfl⟩
theorem glob27' (g : Option (List PTok)) (v : Value) (w : World) (h : ToksAt w v g) : Calls Tryd.prog 27 #[v] w (RetB (∀ ts, g = some ts → okT ts) w) := by
  obtain ⟨l, a, cap, rfl, h1, h2, h3⟩ := h.opened
  exact (glob27 l a cap w h1 h3).mono fun _ _ ⟨⟨b, e, hb⟩, hw⟩ => ⟨⟨b, e, fun ht ts hts => by rw [h2 ts hts]; exact hb ht⟩, hw⟩

set_option maxRecDepth 100000 in
set_option maxHeartbeats 8000000 in
theorem segs17 (ss : List PSeg) (v : Value) (w : World) (h : SegsAt w v ss) : Calls Tryd.prog 17 #[v] w (RetB (∀ sg ∈ ss, okSg sg) w) := by
  obtain ⟨h, hl⟩ := h
  unfold maxLen at hl
  obtain ⟨a, cap, rfl, hh⟩ := h.opened
  obtain ⟨N, hN⟩ : ∃ N, N = ss.length := ⟨_, rfl⟩
  have HN : Hid (N = ss.length) := hN
  have HH : Hid (∀ j x, ss[j]? = some x → ∃ b off, a = some ⟨b, off, none⟩ ∧ SegAt w b (off + j * 3) x) := hh
  rw [← hN] at hl ⊢
  clear h hh hN
  go_enter Tryd.func17, Tryd.ntmps17
  go_wp2_with fail
  go_loopg [3] N (fun g s3 wx => ∃ k : Nat, k ≤ N ∧ g = N - k ∧ s3 = .int .i64 k ∧ Hid (∀ j x, j < k → ss[j]? = some x → okSg x) ∧ w = wx)
  case atStart => exact ⟨0, Nat.zero_le _, rfl, rfl, (fun _ _ h => by omega), rfl⟩
  case round =>
    obtain ⟨k, hk, hgk, rfl, HF, rfl⟩ := hrel
    have HGK : Hid (_ = N - k) := hgk
    clear hgk
    by_cases hlt : k < N
    · have hlz : (k : Int) < (N : Int) := by omega
      obtain ⟨sg, hsg⟩ : ∃ sg, ss[k]? = some sg := ⟨_, List.getElem?_eq_getElem (by rw [← HN.out]; exact hlt)⟩
      obtain ⟨b, off, rfl, A⟩ := HH.out k sg hsg
      obtain ⟨gv, c2, g3⟩ := A.g
      have C27 : Hid (Calls Tryd.prog 27 #[gv] w (RetB (okSg sg) w)) := glob27' sg.g gv w g3
      have HNX : Hid (okSg sg → ∀ j x, j < k + 1 → ss[j]? = some x → okSg x) := fun h j x hj hx => by
        by_cases e : j = k
        · subst e
          obtain rfl : sg = x := Option.some.inj (hsg.symm.trans hx)
          exact h
        · exact HF.out j x (by omega) hx
      clear A hsg g3
      go_wp2_with fail
      refine C27.out.mono ?_
      rintro e w' ⟨⟨bb, rfl, hbb⟩, rfl⟩
      cases bb with
      | false =>
        go_wp2_with fail
        go_ret
        exact ⟨⟨false, rfl, fun h => by cases h⟩, rfl⟩
      | true =>
        have HQ : Hid (∀ j x, j < k + 1 → ss[j]? = some x → okSg x) := HNX.out (hbb rfl)
        clear HNX hbb
        go_wp2_with fail
        go_roundg (N - (k + 1))
        case measure => have := HGK.out; omega
        case rel => exact ⟨k + 1, hlt, rfl, by first | rfl | go_num | simp, HQ, rfl⟩
    · have HR : Hid (∀ sg ∈ ss, okSg sg) := fun sg ht => by
        obtain ⟨j, hj, e⟩ := List.getElem_of_mem ht
        exact HF.out j sg (by rw [← HN.out] at hj; omega) (by rw [List.getElem?_eq_getElem hj, e])
      go_wp2_with fail
      go_ret
      exact ⟨⟨true, rfl, fun _ => HR.out⟩, rfl⟩

set_option maxRecDepth 100000 in
set_option maxHeartbeats 8000000 in
theorem pats8 (ps : List PPat) (v : Value) (w : World) (h : PatsAt w v ps) : Calls Tryd.prog 8 #[v] w (RetB (∀ q ∈ ps, okPt q) w) := by
  obtain ⟨h, hl⟩ := h
  unfold maxLen at hl
  obtain ⟨a, cap, rfl, hh⟩ := h.opened
  obtain ⟨N, hN⟩ : ∃ N, N = ps.length := ⟨_, rfl⟩
  have HN : Hid (N = ps.length) := hN
  have HH : Hid (∀ j x, ps[j]? = some x → ∃ b off, a = some ⟨b, off, none⟩ ∧ PatAt w b (off + j * 6) x) := hh
  rw [← hN] at hl ⊢
  clear h hh hN
  go_enter Tryd.func8, Tryd.ntmps8
  go_wp2_with fail
  go_loopg [3] N (fun g s3 wx => ∃ k : Nat, k ≤ N ∧ g = N - k ∧ s3 = .int .i64 k ∧ Hid (∀ j x, j < k → ps[j]? = some x → okPt x) ∧ w = wx)
  case atStart => exact ⟨0, Nat.zero_le _, rfl, rfl, (fun _ _ h => by omega), rfl⟩
  case round =>
    obtain ⟨k, hk, hgk, rfl, HF, rfl⟩ := hrel
    have HGK : Hid (_ = N - k) := hgk
    clear hgk
    by_cases hlt : k < N
    · have hlz : (k : Int) < (N : Int) := by omega
      obtain ⟨q, hq⟩ : ∃ q, ps[k]? = some q := ⟨_, List.getElem?_eq_getElem (by rw [← HN.out]; exact hlt)⟩
      obtain ⟨b, off, rfl, A⟩ := HH.out k q hq
      obtain ⟨gv, c3, g3⟩ := A.segs
      have c2 := A.an
      have C17 : Hid (Calls Tryd.prog 17 #[gv] w (RetB (∀ sg ∈ q.segs, okSg sg) w)) := segs17 q.segs gv w g3
      obtain ⟨sa, sc, rfl, _⟩ := g3.1.opened
      have HNX : Hid (okPt q → ∀ j x, j < k + 1 → ps[j]? = some x → okPt x) := fun h j x hj hx => by
        by_cases e : j = k
        · subst e
          obtain rfl : q = x := Option.some.inj (hq.symm.trans hx)
          exact h
        · exact HF.out j x (by omega) hx
      obtain ⟨SN, hSN⟩ : ∃ SN, SN = q.segs.length := ⟨_, rfl⟩
      have HNE : Hid (SN ≠ 0 → q.segs ≠ []) := fun h e => h (by rw [hSN, e]; rfl)
      rw [← hSN] at c3 C17
      clear A hq g3 hSN
      cases hX : q.an with
      | false =>
        rw [hX] at c2
        by_cases h0 : SN = 0
        · subst h0
          clear hX
          go_wp2_with fail
          go_ret
          exact ⟨⟨false, rfl, fun h => by cases h⟩, rfl⟩
        · have h0' : ((SN : Int) == 0) = false := beq_eq_false_iff_ne.2 (by omega)
          have HOK : Hid ((∀ sg ∈ q.segs, okSg sg) → okPt q) := fun h => ⟨fun _ => HNE.out h0, h⟩
          clear hX
          go_wp2_with fail
          refine C17.out.mono ?_
          rintro e w' ⟨⟨bb, rfl, hbb⟩, rfl⟩
          cases bb with
          | false =>
            go_wp2_with fail
            go_ret
            exact ⟨⟨false, rfl, fun h => by cases h⟩, rfl⟩
          | true =>
            have HQ : Hid (∀ j x, j < k + 1 → ps[j]? = some x → okPt x) := HNX.out (HOK.out (hbb rfl))
            clear HNX hbb HOK
            go_wp2_with fail
            go_roundg (N - (k + 1))
            case measure => have := HGK.out; omega
            case rel => exact ⟨k + 1, hlt, rfl, by first | rfl | go_num | simp, HQ, rfl⟩
      | true =>
        rw [hX] at c2
        have HOK : Hid ((∀ sg ∈ q.segs, okSg sg) → okPt q) := fun h => ⟨(fun e => by rw [hX] at e; cases e), h⟩
        clear hX
        go_wp2_with fail
        refine C17.out.mono ?_
        rintro e w' ⟨⟨bb, rfl, hbb⟩, rfl⟩
        cases bb with
        | false =>
          go_wp2_with fail
          go_ret
          exact ⟨⟨false, rfl, fun h => by cases h⟩, rfl⟩
        | true =>
          have HQ : Hid (∀ j x, j < k + 1 → ps[j]? = some x → okPt x) := HNX.out (HOK.out (hbb rfl))
          clear HNX hbb HOK
          go_wp2_with fail
          go_roundg (N - (k + 1))
          case measure => have := HGK.out; omega
          case rel => exact ⟨k + 1, hlt, rfl, by first | rfl | go_num | simp, HQ, rfl⟩
    · have HR : Hid (∀ q ∈ ps, okPt q) := fun q ht => by
        obtain ⟨j, hj, e⟩ := List.getElem_of_mem ht
        exact HF.out j q (by rw [← HN.out] at hj; omega) (by rw [List.getElem?_eq_getElem hj, e])
      go_wp2_with fail
      go_ret
      exact ⟨⟨true, rfl, fun _ => HR.out⟩, rfl⟩
end Go.Proofs.Qxb6602438aDoor
