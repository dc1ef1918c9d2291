import Derived.Test.Qxb6602438aDoorUb
import Derived.Test.Qxb6602438aDoorTf
namespace Go.Proofs.Qxb6602438aDoor
open Go.RowKit Go Go.PlainAid

set_option maxRecDepth 100000 in
set_option maxHeartbeats 16000000 in
theorem zz5 (ps : List PPat) (v : Value) (p lit : ByteArray) (dir ng dOn : Bool) (w : World) (h : PatsAt w v ps) (hp : p.size ≤ maxLen) (hq : lit.size ≤ maxLen) :
    Calls Tryd.prog 5 #[v, .string p, .bool dir, .string lit, .bool ng, .bool dOn] w (RetB (∀ q ∈ ps, shortP q) w) := by
  obtain ⟨h, hl⟩ := h
  unfold maxLen at hl hp hq
  obtain ⟨a, cap, rfl, hh⟩ := h.opened
  obtain ⟨N, hN⟩ : ∃ N, N = ps.length := ⟨_, rfl⟩
  have HN : Hid (N = ps.length) := hN
  have HH : Hid (∀ j x, ps[j]? = some x → ∃ b off, a = some ⟨b, off, none⟩ ∧ PatAt w b (off + j * 6) x) := hh
  rw [← hN] at hl ⊢
  clear h hh hN
  have HNO : Hid (RetB (∀ q ∈ ps, shortP q) w (.returned (.bool false)) w) := ⟨⟨false, rfl, fun h => by cases h⟩, rfl⟩
  by_cases big : 1048576 < N
  · go_enter Tryd.func5, Tryd.ntmps5
    go_wp2_with fail
    go_ret
    exact HNO.out
  go_enter Tryd.func5, Tryd.ntmps5
  go_wp2_with fail
  go_loopg [13, 14] N (fun g s13 s14 wx => ∃ (k : Nat) (t : Int), k ≤ N ∧ g = N - k ∧ s14 = .int .i64 k ∧ s13 = .int .i64 t ∧ 0 ≤ t ∧ t ≤ 1048576 ∧ Hid (∀ j x, j < k → ps[j]? = some x → shortP x) ∧ w = wx)
  case atStart => exact ⟨0, N, Nat.zero_le _, rfl, rfl, rfl, by omega, by omega, (fun _ _ h => by omega), rfl⟩
  case round =>
    clear hl
    obtain ⟨k, t, hk, hgk, rfl, rfl, h1, h2, HF, rfl⟩ := hrel
    have HGK : Hid (_ = N - k) := hgk
    clear hgk
    by_cases hlt : k < N
    · have hlz : (k : Int) < (N : Int) := by omega
      obtain ⟨q, hq'⟩ : ∃ q, ps[k]? = some q := ⟨_, List.getElem?_eq_getElem (by rw [← HN.out]; exact hlt)⟩
      obtain ⟨b, off, rfl, A⟩ := HH.out k q hq'
      obtain ⟨gv, c3, g3⟩ := A.segs
      obtain ⟨g3, gl⟩ := g3
      unfold maxLen at gl
      obtain ⟨sa, sc, rfl, hsa⟩ := g3.opened
      obtain ⟨M, hM⟩ : ∃ M, M = q.segs.length := ⟨_, rfl⟩
      have HM : Hid (M = q.segs.length) := hM
      have HSA : Hid (∀ j x, q.segs[j]? = some x → ∃ b off, sa = some ⟨b, off, none⟩ ∧ SegAt w b (off + j * 3) x) := hsa
      have HNX : Hid (shortP q → ∀ j x, j < k + 1 → ps[j]? = some x → shortP x) := fun h j x hj hx => by
        by_cases e : j = k
        · subst e
          obtain rfl : q = x := Option.some.inj (hq'.symm.trans hx)
          exact h
        · exact HF.out j x (by omega) hx
      rw [← hM] at c3 gl
      clear A hq' g3 hM hsa HF
      by_cases bm : 1048576 < M
      · go_wp2_with fail
        go_ret
        exact HNO.out
      by_cases bt : 1048576 < t + (M : Int)
      · go_wp2_with fail
        go_ret
        exact HNO.out
      go_wp2_with fail
      go_loopg [13, 15] M (fun g s13 s15 wx => ∃ (j : Nat) (t : Int), j ≤ M ∧ g = M - j ∧ s15 = .int .i64 j ∧ s13 = .int .i64 t ∧ 0 ≤ t ∧ t ≤ 1048576 ∧ Hid (∀ i x, i < j → q.segs[i]? = some x → shortS x) ∧ w = wx)
      case atStart => exact ⟨0, t + M, Nat.zero_le _, rfl, rfl, rfl, by omega, by omega, (fun _ _ h => by omega), rfl⟩
      case round =>
        clear h1 h2 bt
        obtain ⟨j, t, hj, hgj, rfl, rfl, h1, h2, HS, rfl⟩ := hrel
        have HGJ : Hid (_ = M - j) := hgj
        clear hgj
        by_cases hjt : j < M
        · have hjz : (j : Int) < (M : Int) := by omega
          obtain ⟨sg, hsg⟩ : ∃ sg, q.segs[j]? = some sg := ⟨_, List.getElem?_eq_getElem (by rw [← HM.out]; exact hjt)⟩
          obtain ⟨b2, off2, rfl, A⟩ := HSA.out j sg hsg
          obtain ⟨gv2, e2, g4⟩ := A.g
          have e1 := A.li
          have ll := A.ll
          obtain ⟨ts, ta, tc, rfl, tl, hts, hta⟩ := g4.opened
          unfold maxLen at ll tl
          obtain ⟨R, hR⟩ : ∃ R, R = ts.length := ⟨_, rfl⟩
          have HR : Hid (R = ts.length) := hR
          have HTA : Hid (∀ j x, ts[j]? = some x → ∃ b off, ta = some ⟨b, off, none⟩ ∧ TokAt w b (off + j * 3) x) := hta
          have HNS : Hid (R ≤ 1048576 → ∀ i x, i < j + 1 → q.segs[i]? = some x → shortS x) := fun h i x hi hx => by
            by_cases e : i = j
            · subst e
              obtain rfl : sg = x := Option.some.inj (hsg.symm.trans hx)
              exact fun ts' h' => by rw [hts ts' h', ← hR]; exact h
            · exact HS.out i x (by omega) hx
          obtain ⟨L, hL⟩ : ∃ L, L = sg.li := ⟨_, rfl⟩
          rw [← hL] at e1 ll
          rw [← hR] at e2 tl
          clear A hsg g4 hts hta hL hR HS
          by_cases bl : 1048576 < L.size
          · go_wp2_with fail
            go_ret
            exact HNO.out
          by_cases bt : 1048576 < t + (L.size : Int)
          · go_wp2_with fail
            go_ret
            exact HNO.out
          by_cases br : 1048576 < R
          · go_wp2_with fail
            go_ret
            exact HNO.out
          by_cases bt2 : 1048576 < t + (L.size : Int) + (R : Int)
          · go_wp2_with fail
            go_ret
            exact HNO.out
          have HQ2 : Hid (∀ i x, i < j + 1 → q.segs[i]? = some x → shortS x) := HNS.out (by omega)
          clear HNS
          go_wp2_with fail
          go_loopg [13, 16] R (fun g s13 s16 wx => ∃ (i : Nat) (t : Int), i ≤ R ∧ g = R - i ∧ s16 = .int .i64 i ∧ s13 = .int .i64 t ∧ 0 ≤ t ∧ t ≤ 1048576 ∧ w = wx)
          case atStart => exact ⟨0, t + L.size + R, Nat.zero_le _, rfl, rfl, rfl, by omega, by omega, rfl⟩
          case round =>
            clear h1 h2 bt bt2
            obtain ⟨i, t, hi, hgi, rfl, rfl, h1, h2, rfl⟩ := hrel
            have HGI : Hid (_ = R - i) := hgi
            clear hgi
            by_cases hit : i < R
            · have hiz : (i : Int) < (R : Int) := by omega
              obtain ⟨tk, htk⟩ : ∃ tk, ts[i]? = some tk := ⟨_, List.getElem?_eq_getElem (by rw [← HR.out]; exact hit)⟩
              obtain ⟨b3, off3, rfl, A⟩ := HTA.out i tk htk
              have x1 := A.t
              have xl := A.tl
              unfold maxLen at xl
              obtain ⟨T, hT⟩ : ∃ T, T = tk.t := ⟨_, rfl⟩
              rw [← hT] at x1 xl
              clear A htk hT
              by_cases b5 : 1048576 < T.size
              · go_wp2_with fail
                go_ret
                exact HNO.out
              by_cases b6 : 1048576 < t + (T.size : Int)
              · go_wp2_with fail
                go_ret
                exact HNO.out
              go_wp2_with fail
              go_roundg (R - (i + 1))
              case measure => have := HGI.out; omega
              case rel => exact ⟨i + 1, t + T.size, hit, rfl, by first | rfl | go_num | simp, rfl, by omega, by omega, rfl⟩
            · go_wp2_with fail
              go_roundg (M - (j + 1))
              case measure => have := HGJ.out; omega
              case rel => exact ⟨j + 1, t, hjt, rfl, by first | rfl | go_num | simp, rfl, h1, h2, HQ2, rfl⟩
        · have HQ3 : Hid (∀ j x, j < k + 1 → ps[j]? = some x → shortP x) := HNX.out ⟨by rw [← HM.out]; omega, fun sg hs => by
            obtain ⟨i, hi, e⟩ := List.getElem_of_mem hs
            exact HS.out i sg (by rw [← HM.out] at hi; omega) (by rw [List.getElem?_eq_getElem hi, e])⟩
          clear HS HNX
          go_wp2_with fail
          go_roundg (N - (k + 1))
          case measure => have := HGK.out; omega
          case rel => exact ⟨k + 1, t, hlt, rfl, by first | rfl | go_num | simp, rfl, h1, h2, HQ3, rfl⟩
    · have HR : Hid (∀ q ∈ ps, shortP q) := fun q ht => by
        obtain ⟨j, hj, e⟩ := List.getElem_of_mem ht
        exact HF.out j q (by rw [← HN.out] at hj; omega) (by rw [List.getElem?_eq_getElem hj, e])
      by_cases b1 : 1048576 < p.size
      · go_wp2_with fail
        go_ret
        exact HNO.out
      by_cases b2 : 1048576 < t + (p.size : Int)
      · go_wp2_with fail
        go_ret
        exact HNO.out
      by_cases b3 : 1048576 < lit.size
      · go_wp2_with fail
        go_ret
        exact HNO.out
      by_cases b4 : 1048576 < t + (p.size : Int) + (lit.size : Int)
      · go_wp2_with fail
        go_ret
        exact HNO.out
      go_wp2_with fail
      go_ret
      exact ⟨⟨true, rfl, fun _ => HR.out⟩, rfl⟩
end Go.Proofs.Qxb6602438aDoor
