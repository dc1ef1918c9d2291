import Derived.Test.Qxb6602438aDoorTc
import Derived.Deep.Slices
import Derived.OpenShut
import Derived.Deep.Strs
import Derived.Laws.IdiomArrays
namespace Go.Proofs.Qxb6602438aDoor
open Go.ChangeShapes Go.WideShapes Go.ChangeAt Go.RowKit Go.WideMaps Go.WideElems Go.PlainAid

theorem list_of {α : Type} {q : Nat → α → Prop} : ∀ n, (∀ i, i < n → ∃ x, q i x) → ∃ l : List α, l.length = n ∧ ∀ j x, l[j]? = some x → q j x
  | 0, _ => ⟨[], rfl, fun _ _ h => by simp at h⟩
  | n + 1, h => by
    obtain ⟨l, h1, h2⟩ := list_of n fun i hi => h i (by omega)
    obtain ⟨y, hy⟩ := h n (by omega)
    refine ⟨l ++ [y], by rw [List.length_append, h1]; rfl, fun j x hx => ?_⟩
    by_cases hj : j < n
    · rw [List.getElem?_append_left (by omega)] at hx
      exact h2 j x hx
    · have hj' : j < (l ++ [y]).length := (List.getElem?_eq_some_iff.1 hx).1
      rw [List.length_append, h1] at hj'
      have e : j = n := by simp at hj'; omega
      subst e
      rw [List.getElem?_append_right (by omega), h1, Nat.sub_self] at hx
      obtain rfl : y = x := Option.some.inj hx
      exact hy

section
variable {H : Type} {enc : TypeId × Value → H} {W : World} {base : Nat} {sp : Nat → Bool} {held : Bool}

theorem row_of {α : Type} {C : World → Nat → Nat → α → Prop} {t e : TypeId} {sz fuel : Nat} {v : Value} {x : DataW H × List MemPlace} (ht : Tryd.prog.underlying t = some (.slice e)) (hsz : Tryd.prog.cellsOf e = sz) (hpos : 0 < sz)
    (hel : ∀ (n : Nat) (cs : List Value) (x : DataW H × List MemPlace) (b off : Nat), cs.length = sz → (∀ i, i < sz → W.cell? ⟨b, off + i, none⟩ = cs[i]?) → DataW.trod enc Tryd.prog W base sp held n e cs = some x → ∃ y, C W b off y)
    (h : DataW.trod enc Tryd.prog W base sp held fuel t [v] = some x) : (v = .slice none 0 0 ∧ RowAt C sz W v []) ∨ (∃ a n c, v = .slice (some a) n c) ∧ ∃ l, RowAt C sz W v l ∧ l.length ≤ maxLen := by
  rcases Deep.open_slice ht h with ⟨hcs, _⟩ | ⟨a, len, cap, m, n, D, Pl, hcs, _, hl, hm, hmm, _, he⟩
  · obtain rfl : v = .slice none 0 0 := by simpa using hcs
    exact .inl ⟨rfl, none, 0, rfl, .inl rfl⟩
  · obtain rfl : v = .slice (some a) len cap := by simpa using hcs
    refine .inr ⟨⟨a, len, cap, rfl⟩, ?_⟩
    rw [hsz] at he
    have hlm : len ≤ m := by rw [hmm]; split <;> omega
    by_cases h0 : len = 0
    · subst h0
      exact ⟨[], ⟨some a, cap, rfl, .inl rfl⟩, Nat.zero_le _⟩
    obtain ⟨b, off, spot⟩ := a
    obtain ⟨cs0, hc0, _⟩ := he 0 (by omega)
    obtain ⟨_, hlen0, hcc⟩ := World.cells?_some hc0
    have hc := hcc 0 hpos
    obtain ⟨v0, hv0⟩ : ∃ v, cs0[0]? = some v := ⟨_, List.getElem?_eq_getElem (by omega)⟩
    rw [hv0] at hc
    have hspot : spot = none := by simpa [Addr.add] using World.cell?_spot hc
    subst hspot
    rw [WideShapes.add_plain, WideShapes.add_plain] at hc
    obtain ⟨l, l1, l2⟩ := list_of (q := fun j y => C W b (off + j * sz) y) len fun i hi => by
      obtain ⟨cs, h1, h2⟩ := he i (by omega)
      obtain ⟨_, hlen, hc⟩ := World.cells?_some h1
      exact hel n cs _ b (off + i * sz) hlen (fun k hk => by have := hc k hk; rwa [WideShapes.add_plain, WideShapes.add_plain] at this) h2
    exact ⟨l, ⟨some ⟨b, off, none⟩, cap, by rw [l1], .inr ⟨b, off, rfl, cell_lt' hc, l2⟩⟩, by rw [l1]; omega⟩

theorem set_of {n : Nat} {v : Value} {x : DataW H × List MemPlace} (h : DataW.trod enc Tryd.prog W base sp held n 41 [v] = some x) :
    ∃ (s : Option (Nat × Nat)) (ws : Nat → Int), v = ptrOf s ∧ ∀ b o, s = some (b, o) → b < W.heap.size ∧ ∀ i, i < 4 → W.cell? ⟨b, o + i, none⟩ = some (.int .u64 (ws i)) := by
  rcases DataW.trod_pointer Tryd.underlying41 h with ⟨hcs, _⟩ | ⟨a, cs, y, m, _, hcs, _, hc, ht⟩
  · obtain rfl : v = .pointer none := by simpa using hcs
    exact ⟨none, fun _ => 0, rfl, fun _ _ e => by cases e⟩
  · obtain rfl : v = .pointer (some a) := by simpa using hcs
    have c109 : Tryd.prog.cellsOf 109 = 4 := by kernel_rfl
    rw [c109] at hc
    obtain ⟨_, hlen, hcc⟩ := World.cells?_some hc
    obtain ⟨b, off, spot⟩ := a
    have hc0 := hcc 0 (by decide)
    obtain ⟨v0, hv0⟩ : ∃ v, cs[0]? = some v := ⟨_, List.getElem?_eq_getElem (by omega)⟩
    rw [hv0] at hc0
    have hspot : spot = none := by simpa [Addr.add] using World.cell?_spot hc0
    subst hspot
    rw [WideShapes.add_plain] at hc0
    have c86 : Tryd.prog.cellsOf 86 = 1 := by kernel_rfl
    match cs, hlen with
    | [u0, u1, u2, u3], _ =>
      obtain ⟨y0, y1, y2, y3, k, _, t0, t1, t2, t3⟩ := trod_array4 Tryd.underlying109 c86 ht
      obtain ⟨n0, e0, _, _⟩ := DataW.trod_int Tryd.underlying86 t0
      obtain ⟨n1, e1, _, _⟩ := DataW.trod_int Tryd.underlying86 t1
      obtain ⟨n2, e2, _, _⟩ := DataW.trod_int Tryd.underlying86 t2
      obtain ⟨n3, e3, _, _⟩ := DataW.trod_int Tryd.underlying86 t3
      simp only [List.cons.injEq, and_true] at e0 e1 e2 e3
      subst e0 e1 e2 e3
      refine ⟨some (b, off), fun i => [n0, n1, n2, n3].getD i 0, rfl, fun b' o' e => ?_⟩
      obtain ⟨rfl, rfl⟩ : b = b' ∧ off = o' := by simpa using e
      refine ⟨cell_lt' hc0, fun i hi => ?_⟩
      have := hcc i hi
      rw [WideShapes.add_plain] at this
      rw [this]
      match i, hi with
      | 0, _ => rfl
      | 1, _ => rfl
      | 2, _ => rfl
      | 3, _ => rfl

theorem tok_of {n : Nat} {cs : List Value} {x : DataW H × List MemPlace} {b off : Nat} (hlen : cs.length = 3) (hc : ∀ i, i < 3 → W.cell? ⟨b, off + i, none⟩ = cs[i]?) (h : DataW.trod enc Tryd.prog W base sp held n 43 cs = some x) : ∃ tk, TokAt W b off tk := by
  obtain ⟨y0, y1, y2, m, _, _, t0, t1, t2⟩ := Deep.trod_struct3 Tryd.underlying43 h
  have c5 : Tryd.prog.cellsOf 5 = 1 := by kernel_rfl
  have c9 : Tryd.prog.cellsOf 9 = 1 := by kernel_rfl
  have c41 : Tryd.prog.cellsOf 41 = 1 := by kernel_rfl
  match cs, hlen with
  | [u0, u1, u2], _ =>
    simp only [c5, List.drop_zero, List.take_succ_cons, List.take_zero] at t0
    simp only [c9, List.drop_succ_cons, List.drop_zero, List.take_succ_cons, List.take_zero] at t1
    simp only [c41, List.drop_succ_cons, List.drop_zero, List.take_succ_cons, List.take_zero] at t2
    obtain ⟨k, e0, _, hk⟩ := DataW.trod_int Tryd.underlying5 t0
    obtain ⟨s, e1, _, hs⟩ := DataW.trod_string Tryd.underlying9 t1
    obtain ⟨st, ws, e2, hst⟩ := set_of t2
    simp only [List.cons.injEq, and_true] at e0 e1
    subst e0 e1 e2
    have hk' : 0 ≤ k ∧ k ≤ 255 := by
      have h2 : (decide (IntKind.u8.min ≤ k) && decide (k ≤ IntKind.u8.max)) = true := hk
      rw [Bool.and_eq_true] at h2
      exact ⟨of_decide_eq_true h2.1, of_decide_eq_true h2.2⟩
    exact ⟨⟨k, s, st, ws⟩, hc 0 (by decide), hc 1 (by decide), hc 2 (by decide), hst, hk', hs⟩

theorem toks_of {n : Nat} {v : Value} {x : DataW H × List MemPlace} (h : DataW.trod enc Tryd.prog W base sp held n 28 [v] = some x) : ∃ g, ToksAt W v g := by
  rcases row_of (C := TokAt) Tryd.underlying28 (sz := 3) (by kernel_rfl) (by decide) (fun n cs x b off h1 h2 h3 => tok_of h1 h2 h3) h with ⟨h, _⟩ | ⟨h1, l, h2, h3⟩
  · exact ⟨none, h⟩
  · exact ⟨some l, h1, h2, h3⟩

theorem seg_of {n : Nat} {cs : List Value} {x : DataW H × List MemPlace} {b off : Nat} (hlen : cs.length = 3) (hc : ∀ i, i < 3 → W.cell? ⟨b, off + i, none⟩ = cs[i]?) (h : DataW.trod enc Tryd.prog W base sp held n 30 cs = some x) : ∃ sg, SegAt W b off sg := by
  obtain ⟨y0, y1, y2, m, _, _, t0, t1, t2⟩ := Deep.trod_struct3 Tryd.underlying30 h
  have c4 : Tryd.prog.cellsOf 4 = 1 := by kernel_rfl
  have c9 : Tryd.prog.cellsOf 9 = 1 := by kernel_rfl
  have c28 : Tryd.prog.cellsOf 28 = 1 := by kernel_rfl
  match cs, hlen with
  | [u0, u1, u2], _ =>
    simp only [c4, List.drop_zero, List.take_succ_cons, List.take_zero] at t0
    simp only [c9, List.drop_succ_cons, List.drop_zero, List.take_succ_cons, List.take_zero] at t1
    simp only [c28, List.drop_succ_cons, List.drop_zero, List.take_succ_cons, List.take_zero] at t2
    obtain ⟨k, e0, _⟩ := DataW.trod_bool Tryd.underlying4 t0
    obtain ⟨s, e1, _, hs⟩ := DataW.trod_string Tryd.underlying9 t1
    obtain ⟨g, hg⟩ := toks_of t2
    simp only [List.cons.injEq, and_true] at e0 e1
    subst e0 e1
    exact ⟨⟨k, s, g⟩, hc 0 (by decide), hc 1 (by decide), ⟨u2, hc 2 (by decide), hg⟩, hs⟩

theorem segs_of {n : Nat} {v : Value} {x : DataW H × List MemPlace} (h : DataW.trod enc Tryd.prog W base sp held n 31 [v] = some x) : ∃ ss, SegsAt W v ss := by
  rcases row_of (C := SegAt) Tryd.underlying31 (sz := 3) (by kernel_rfl) (by decide) (fun n cs x b off h1 h2 h3 => seg_of h1 h2 h3) h with ⟨_, h⟩ | ⟨_, l, h2, h3⟩
  · exact ⟨[], h, Nat.zero_le _⟩
  · exact ⟨l, h2, h3⟩

theorem pat_of {n : Nat} {cs : List Value} {x : DataW H × List MemPlace} {b off : Nat} (hlen : cs.length = 6) (hc : ∀ i, i < 6 → W.cell? ⟨b, off + i, none⟩ = cs[i]?) (h : DataW.trod enc Tryd.prog W base sp held n 33 cs = some x) : ∃ q, PatAt W b off q := by
  obtain ⟨xs, m, _, _, _, hx, ht⟩ := DataW.trod_struct Tryd.underlying33 h
  have c4 : Tryd.prog.cellsOf 4 = 1 := by kernel_rfl
  have c3 : Tryd.prog.cellsOf 3 = 1 := by kernel_rfl
  have c31 : Tryd.prog.cellsOf 31 = 1 := by kernel_rfl
  match cs, hlen, xs, hx with
  | [u0, u1, u2, u3, u4, u5], _, [y0, y1, y2, y3, y4, y5], _ =>
    have t0 : DataW.trod enc Tryd.prog W base sp held m 4 [u0] = some y0 := by
      have h2 : DataW.trod enc Tryd.prog W base sp held m 4 (List.take (Tryd.prog.cellsOf 4) (List.drop 0 [u0, u1, u2, u3, u4, u5])) = some y0 := ht 0 _ rfl
      rw [c4] at h2
      exact h2
    have t1 : DataW.trod enc Tryd.prog W base sp held m 4 [u1] = some y1 := by
      have h2 : DataW.trod enc Tryd.prog W base sp held m 4 (List.take (Tryd.prog.cellsOf 4) (List.drop 1 [u0, u1, u2, u3, u4, u5])) = some y1 := ht 1 _ rfl
      rw [c4] at h2
      exact h2
    have t2 : DataW.trod enc Tryd.prog W base sp held m 4 [u2] = some y2 := by
      have h2 : DataW.trod enc Tryd.prog W base sp held m 4 (List.take (Tryd.prog.cellsOf 4) (List.drop 2 [u0, u1, u2, u3, u4, u5])) = some y2 := ht 2 _ rfl
      rw [c4] at h2
      exact h2
    have t3 : DataW.trod enc Tryd.prog W base sp held m 31 [u3] = some y3 := by
      have h2 : DataW.trod enc Tryd.prog W base sp held m 31 (List.take (Tryd.prog.cellsOf 31) (List.drop 3 [u0, u1, u2, u3, u4, u5])) = some y3 := ht 3 _ rfl
      rw [c31] at h2
      exact h2
    have t4 : DataW.trod enc Tryd.prog W base sp held m 3 [u4] = some y4 := by
      have h2 : DataW.trod enc Tryd.prog W base sp held m 3 (List.take (Tryd.prog.cellsOf 3) (List.drop 4 [u0, u1, u2, u3, u4, u5])) = some y4 := ht 4 _ rfl
      rw [c3] at h2
      exact h2
    have t5 : DataW.trod enc Tryd.prog W base sp held m 4 [u5] = some y5 := by
      have h2 : DataW.trod enc Tryd.prog W base sp held m 4 (List.take (Tryd.prog.cellsOf 4) (List.drop 5 [u0, u1, u2, u3, u4, u5])) = some y5 := ht 5 _ rfl
      rw [c4] at h2
      exact h2
    obtain ⟨b0, e0, _⟩ := DataW.trod_bool (x := y0) Tryd.underlying4 t0
    obtain ⟨b1, e1, _⟩ := DataW.trod_bool (x := y1) Tryd.underlying4 t1
    obtain ⟨b2, e2, _⟩ := DataW.trod_bool (x := y2) Tryd.underlying4 t2
    obtain ⟨ss, hss⟩ := segs_of (x := y3) t3
    obtain ⟨k, e4, _, hk⟩ := DataW.trod_int (x := y4) Tryd.underlying3 t4
    obtain ⟨b5, e5, _⟩ := DataW.trod_bool (x := y5) Tryd.underlying4 t5
    simp only [List.cons.injEq, and_true] at e0 e1 e2 e4 e5
    subst e0 e1 e2 e4 e5
    have hk' : -9223372036854775808 ≤ k ∧ k ≤ 9223372036854775807 := by
      have h2 : (decide (IntKind.i64.min ≤ k) && decide (k ≤ IntKind.i64.max)) = true := hk
      rw [Bool.and_eq_true] at h2
      exact ⟨of_decide_eq_true h2.1, of_decide_eq_true h2.2⟩
    exact ⟨⟨b0, b1, b2, ss, k, b5⟩, hc 0 (by decide), hc 1 (by decide), hc 2 (by decide), ⟨u3, hc 3 (by decide), hss⟩, hc 4 (by decide), hc 5 (by decide), hk'⟩

theorem pats_of {a : Option Addr} {len cap : Nat} {d : DataW H} {p : List MemPlace} (h : DataW.Trod enc Tryd.prog W base sp held 22 (.slice a len cap) d p) : ∃ ps, PatsAt W (.slice a len cap) ps := by
  obtain ⟨fuel, hf⟩ := h
  rcases row_of (C := PatAt) Tryd.underlying22 (sz := 6) (by kernel_rfl) (by decide) (fun n cs x b off h1 h2 h3 => pat_of h1 h2 h3) (by simpa [Value.cells] using hf) with ⟨_, h⟩ | ⟨_, l, h2, h3⟩
  · exact ⟨[], h, Nat.zero_le _⟩
  · exact ⟨l, h2, h3⟩
end
end Go.Proofs.Qxb6602438aDoor
