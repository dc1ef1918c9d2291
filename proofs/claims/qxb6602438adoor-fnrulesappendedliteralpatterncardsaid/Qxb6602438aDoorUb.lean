import Derived.Test.Qxb6602438aDoorUa
namespace Go.Proofs.Qxb6602438aDoor
open Go.RowKit Go Go.PlainAid

/-- A small number comes back; the world is as it was. -/
def RetI (w : World) (e : Ending) (w' : World) : Prop := (∃ t : Int, e = .returned (.int .i64 t) ∧ 0 ≤ t ∧ t ≤ 2097152) ∧ w = w'

set_option maxRecDepth 100000 in
theorem add15 (t n : Int) (w : World) (h1 : 0 ≤ t) (h2 : t ≤ 2097152) (h3 : 0 ≤ n) (h4 : n ≤ 9223372036854775807) : Calls Tryd.prog 15 #[.int .i64 t, .int .i64 n] w (RetI w) := by
  by_cases a : 1048576 < t
  · go_enter Tryd.func15, Tryd.ntmps15
    go_wp2
    go_ret
    exact ⟨⟨_, rfl, by decide, by decide⟩, rfl⟩
  · by_cases b : 1048576 < n
    · go_enter Tryd.func15, Tryd.ntmps15
      go_wp2
      all_goals (go_ret; exact ⟨⟨_, rfl, by decide, by decide⟩, rfl⟩)
    · go_enter Tryd.func15, Tryd.ntmps15
      go_wp2
      go_ret
      exact ⟨⟨t + n, rfl, by omega, by omega⟩, rfl⟩

set_option maxRecDepth 100000 in
set_option maxHeartbeats 8000000 in
theorem glob26 (g : Option (List PTok)) (v : Value) (t0 : Int) (w : World) (h1 : 0 ≤ t0) (h2 : t0 ≤ 2097152) (h : ToksAt w v g) : Calls Tryd.prog 26 #[.int .i64 t0, v] w (RetI w) := by
  obtain ⟨l, a, cap, rfl, hl, _, hh⟩ := h.opened
  unfold maxLen at hl
  obtain ⟨N, hN⟩ : ∃ N, N = l.length := ⟨_, rfl⟩
  have HN : Hid (N = l.length) := hN
  have HH : Hid (∀ j x, l[j]? = some x → ∃ b off, a = some ⟨b, off, none⟩ ∧ TokAt w b (off + j * 3) x) := hh
  have C15 : Hid (∀ t n : Int, 0 ≤ t → t ≤ 2097152 → 0 ≤ n → n ≤ 9223372036854775807 → Calls Tryd.prog 15 #[.int .i64 t, .int .i64 n] w (RetI w)) := fun t n => add15 t n w
  rw [← hN] at hl ⊢
  clear h hh hN
  by_cases big : 1048576 < N
  · go_enter Tryd.func26, Tryd.ntmps26
    go_wp2
    go_ret
    exact ⟨⟨_, rfl, by decide, by decide⟩, rfl⟩
  go_enter Tryd.func26, Tryd.ntmps26
  go_wp2_with fail
  go_loopg [0, 5] N (fun g s0 s5 wx => ∃ (k : Nat) (t : Int), k ≤ N ∧ g = N - k ∧ s5 = .int .i64 k ∧ s0 = .int .i64 t ∧ 0 ≤ t ∧ t ≤ 2097152 ∧ w = wx)
  case atStart => exact ⟨0, t0, Nat.zero_le _, rfl, rfl, rfl, h1, h2, rfl⟩
  case round =>
    clear h1 h2
    obtain ⟨k, t, hk, hgk, rfl, rfl, h1, h2, rfl⟩ := hrel
    have HGK : Hid (_ = N - k) := hgk
    clear hgk
    by_cases hlt : k < N
    · have hlz : (k : Int) < (N : Int) := by omega
      by_cases htt : t ≤ 1048576
      · obtain ⟨tk, htk⟩ : ∃ tk, l[k]? = some tk := ⟨_, List.getElem?_eq_getElem (by rw [← HN.out]; exact hlt)⟩
        obtain ⟨b, off, rfl, A⟩ := HH.out k tk htk
        have c1 := A.t
        have c2 := A.s
        have tl := A.tl
        unfold maxLen at tl
        obtain ⟨T, hT⟩ : ∃ T, T = tk.t := ⟨_, rfl⟩
        rw [← hT] at c1 tl
        clear A htk hT
        go_wp2_with fail
        refine (C15.out _ _ h1 h2 (by decide) (by decide)).mono ?_
        rintro e w' ⟨⟨t1, rfl, l1, u1⟩, rfl⟩
        clear h1 h2 htt
        go_wp2_with fail
        refine (C15.out _ _ l1 u1 (by omega) (by omega)).mono ?_
        rintro e w' ⟨⟨t2, rfl, l2, u2⟩, rfl⟩
        clear l1 u1
        cases hs : tk.s with
        | none =>
          rw [hs] at c2
          have c2' : w.cell? ⟨b, off + k * 3 + 2, none⟩ = some (.pointer none) := c2
          clear c2 hs
          go_wp2_with fail
          go_roundg (N - (k + 1))
          case measure => have := HGK.out; omega
          case rel => exact ⟨k + 1, t2, hlt, rfl, by first | rfl | go_num | simp, rfl, l2, u2, rfl⟩
        | some pp =>
          rw [hs] at c2
          have c2' : w.cell? ⟨b, off + k * 3 + 2, none⟩ = some (.pointer (some ⟨pp.1, pp.2, none⟩)) := c2
          clear c2 hs
          go_wp2_with fail
          refine (C15.out _ _ l2 u2 (by decide) (by decide)).mono ?_
          rintro e w' ⟨⟨t3, rfl, l3, u3⟩, rfl⟩
          clear l2 u2
          go_wp2_with fail
          go_roundg (N - (k + 1))
          case measure => have := HGK.out; omega
          case rel => exact ⟨k + 1, t3, hlt, rfl, by first | rfl | go_num | simp, rfl, l3, u3, rfl⟩
      · go_wp2_with fail
        go_ret
        exact ⟨⟨t, rfl, h1, h2⟩, rfl⟩
    · go_wp2_with fail
      go_ret
      exact ⟨⟨t, rfl, h1, h2⟩, rfl⟩

set_option maxRecDepth 100000 in
set_option maxHeartbeats 8000000 in
theorem seg16 (ss : List PSeg) (v : Value) (t0 : Int) (w : World) (h1 : 0 ≤ t0) (h2 : t0 ≤ 2097152) (h : SegsAt w v ss) : Calls Tryd.prog 16 #[.int .i64 t0, v] w (RetI w) := by
  obtain ⟨h, hl⟩ := h
  unfold maxLen at hl
  obtain ⟨a, cap, rfl, hh⟩ := h.opened
  obtain ⟨N, hN⟩ : ∃ N, N = ss.length := ⟨_, rfl⟩
  have HN : Hid (N = ss.length) := hN
  have HH : Hid (∀ j x, ss[j]? = some x → ∃ b off, a = some ⟨b, off, none⟩ ∧ SegAt w b (off + j * 3) x) := hh
  have C15 : Hid (∀ t n : Int, 0 ≤ t → t ≤ 2097152 → 0 ≤ n → n ≤ 9223372036854775807 → Calls Tryd.prog 15 #[.int .i64 t, .int .i64 n] w (RetI w)) := fun t n => add15 t n w
  rw [← hN] at hl ⊢
  clear h hh hN
  by_cases big : 1048576 < N
  · go_enter Tryd.func16, Tryd.ntmps16
    go_wp2
    go_ret
    exact ⟨⟨_, rfl, by decide, by decide⟩, rfl⟩
  go_enter Tryd.func16, Tryd.ntmps16
  go_wp2_with fail
  go_loopg [0, 5] N (fun g s0 s5 wx => ∃ (k : Nat) (t : Int), k ≤ N ∧ g = N - k ∧ s5 = .int .i64 k ∧ s0 = .int .i64 t ∧ 0 ≤ t ∧ t ≤ 2097152 ∧ w = wx)
  case atStart => exact ⟨0, t0, Nat.zero_le _, rfl, rfl, rfl, h1, h2, rfl⟩
  case round =>
    clear h1 h2
    obtain ⟨k, t, hk, hgk, rfl, rfl, h1, h2, rfl⟩ := hrel
    have HGK : Hid (_ = N - k) := hgk
    clear hgk
    by_cases hlt : k < N
    · have hlz : (k : Int) < (N : Int) := by omega
      by_cases htt : t ≤ 1048576
      · obtain ⟨sg, hsg⟩ : ∃ sg, ss[k]? = some sg := ⟨_, List.getElem?_eq_getElem (by rw [← HN.out]; exact hlt)⟩
        obtain ⟨b, off, rfl, A⟩ := HH.out k sg hsg
        have c1 := A.li
        obtain ⟨gv, c2, g3⟩ := A.g
        have tl := A.ll
        unfold maxLen at tl
        have C26 : Hid (∀ t : Int, 0 ≤ t → t ≤ 2097152 → Calls Tryd.prog 26 #[.int .i64 t, gv] w (RetI w)) := fun t h1 h2 => glob26 sg.g gv t w h1 h2 g3
        obtain ⟨T, hT⟩ : ∃ T, T = sg.li := ⟨_, rfl⟩
        rw [← hT] at c1 tl
        clear A hsg hT g3
        go_wp2_with fail
        refine (C15.out _ _ h1 h2 (by decide) (by decide)).mono ?_
        rintro e w' ⟨⟨t1, rfl, l1, u1⟩, rfl⟩
        clear h1 h2 htt
        go_wp2_with fail
        refine (C15.out _ _ l1 u1 (by omega) (by omega)).mono ?_
        rintro e w' ⟨⟨t2, rfl, l2, u2⟩, rfl⟩
        clear l1 u1
        go_wp2_with fail
        refine (C26.out _ l2 u2).mono ?_
        rintro e w' ⟨⟨t3, rfl, l3, u3⟩, rfl⟩
        clear l2 u2
        go_wp2_with fail
        go_roundg (N - (k + 1))
        case measure => have := HGK.out; omega
        case rel => exact ⟨k + 1, t3, hlt, rfl, by first | rfl | go_num | simp, rfl, l3, u3, rfl⟩
      · go_wp2_with fail
        go_ret
        exact ⟨⟨t, rfl, h1, h2⟩, rfl⟩
    · go_wp2_with fail
      go_ret
      exact ⟨⟨t, rfl, h1, h2⟩, rfl⟩

set_option maxRecDepth 100000 in
set_option maxHeartbeats 8000000 in
theorem pat6 (ps : List PPat) (v : Value) (t0 : Int) (w : World) (h1 : 0 ≤ t0) (h2 : t0 ≤ 2097152) (h : PatsAt w v ps) : Calls Tryd.prog 6 #[.int .i64 t0, v] w (RetI w) := by
  obtain ⟨h, hl⟩ := h
  unfold maxLen at hl
  obtain ⟨a, cap, rfl, hh⟩ := h.opened
  obtain ⟨N, hN⟩ : ∃ N, N = ps.length := ⟨_, rfl⟩
  have HN : Hid (N = ps.length) := hN
  have HH : Hid (∀ j x, ps[j]? = some x → ∃ b off, a = some ⟨b, off, none⟩ ∧ PatAt w b (off + j * 6) x) := hh
  have C15 : Hid (∀ t n : Int, 0 ≤ t → t ≤ 2097152 → 0 ≤ n → n ≤ 9223372036854775807 → Calls Tryd.prog 15 #[.int .i64 t, .int .i64 n] w (RetI w)) := fun t n => add15 t n w
  rw [← hN] at hl ⊢
  clear h hh hN
  by_cases big : 1048576 < N
  · go_enter Tryd.func6, Tryd.ntmps6
    go_wp2
    go_ret
    exact ⟨⟨_, rfl, by decide, by decide⟩, rfl⟩
  go_enter Tryd.func6, Tryd.ntmps6
  go_wp2_with fail
  go_loopg [0, 5] N (fun g s0 s5 wx => ∃ (k : Nat) (t : Int), k ≤ N ∧ g = N - k ∧ s5 = .int .i64 k ∧ s0 = .int .i64 t ∧ 0 ≤ t ∧ t ≤ 2097152 ∧ w = wx)
  case atStart => exact ⟨0, t0, Nat.zero_le _, rfl, rfl, rfl, h1, h2, rfl⟩
  case round =>
    clear h1 h2
    obtain ⟨k, t, hk, hgk, rfl, rfl, h1, h2, rfl⟩ := hrel
    have HGK : Hid (_ = N - k) := hgk
    clear hgk
    by_cases hlt : k < N
    · have hlz : (k : Int) < (N : Int) := by omega
      by_cases htt : t ≤ 1048576
      · obtain ⟨q, hq⟩ : ∃ q, ps[k]? = some q := ⟨_, List.getElem?_eq_getElem (by rw [← HN.out]; exact hlt)⟩
        obtain ⟨b, off, rfl, A⟩ := HH.out k q hq
        obtain ⟨gv, c2, g3⟩ := A.segs
        have C16 : Hid (∀ t : Int, 0 ≤ t → t ≤ 2097152 → Calls Tryd.prog 16 #[.int .i64 t, gv] w (RetI w)) := fun t h1 h2 => seg16 q.segs gv t w h1 h2 g3
        clear A hq g3
        go_wp2_with fail
        refine (C15.out _ _ h1 h2 (by decide) (by decide)).mono ?_
        rintro e w' ⟨⟨t1, rfl, l1, u1⟩, rfl⟩
        clear h1 h2 htt
        go_wp2_with fail
        refine (C16.out _ l1 u1).mono ?_
        rintro e w' ⟨⟨t3, rfl, l3, u3⟩, rfl⟩
        clear l1 u1
        go_wp2_with fail
        go_roundg (N - (k + 1))
        case measure => have := HGK.out; omega
        case rel => exact ⟨k + 1, t3, hlt, rfl, by first | rfl | go_num | simp, rfl, l3, u3, rfl⟩
      · go_wp2_with fail
        go_ret
        exact ⟨⟨t, rfl, h1, h2⟩, rfl⟩
    · go_wp2_with fail
      go_ret
      exact ⟨⟨t, rfl, h1, h2⟩, rfl⟩
end Go.Proofs.Qxb6602438aDoor
