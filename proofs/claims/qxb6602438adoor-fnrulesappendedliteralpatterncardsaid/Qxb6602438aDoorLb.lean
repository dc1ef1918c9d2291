import Derived.Test.Qxb6602438aDoorLa
namespace Go.Proofs.Qxb6602438aDoor
open Go.RowKit Go Go.PlainAid

set_option maxRecDepth 100000 in
set_option maxHeartbeats 8000000 in
theorem law3 (ps : List PPat) (v : Value) (p lit : ByteArray) (dir ng dO : Bool) (w : World) (hsh : ∀ w', Below w.heap.size w w' → w'.ShapedOpen Tryd.prog) (h : PatsAt w v ps) (hp : p.size ≤ maxLen) (hq : lit.size ≤ maxLen) :
    Calls Tryd.prog 3 #[v, .string p, .bool dir, .string lit, .bool ng, .bool dO] w fun e w' => e = .returned (.bool true) ∧ Below w.heap.size w w' := by
  have C5 : Hid (Calls Tryd.prog 5 #[v, .string p, .bool dir, .string lit, .bool ng, .bool dO] w (RetB (∀ q ∈ ps, shortP q) w)) := zz5 ps v p lit dir ng dO w h hp hq
  have C6 : Hid (∀ t : Int, 0 ≤ t → t ≤ 2097152 → Calls Tryd.prog 6 #[.int .i64 t, v] w (RetI w)) := fun t h1 h2 => pat6 ps v t w h1 h2 h
  have C7 : Hid (Calls Tryd.prog 7 #[.string p] w fun e w' => e = .returned (.string (nameOf' p)) ∧ w = w') := last7 p w hp
  have C8 : Hid (Calls Tryd.prog 8 #[v] w (RetB (∀ q ∈ ps, okPt q) w)) := pats8 ps v w h
  have C9 : Hid (ps.length ≤ 1000000 → Calls Tryd.prog 9 #[v, .slice (some ⟨w.heap.size + 1, 0, none⟩) 1 1] ((w.alloc (litSeg lit)).alloc (litPat ng dO w.heap.size)) fun e w' => ∃ a n c, e = .returned (.slice a n c) ∧ Below w.heap.size w w' ∧ PatsAt w' (.slice a n c) (ps ++ [litP ng dO lit])) :=
    fun hl => join_lit ps v ng dO lit w h hl hq
  have HP : Hid (PatsAt w v ps) := h
  have HSH : Hid (∀ w', Below w.heap.size w w' → w'.ShapedOpen Tryd.prog) := hsh
  unfold maxLen at hp hq
  obtain ⟨⟨a, cap, rfl, hrow⟩, hl⟩ := h
  clear hrow
  unfold maxLen at hl
  obtain ⟨N, hN⟩ : ∃ N, N = ps.length := ⟨_, rfl⟩
  have HN : Hid (N = ps.length) := hN
  rw [← hN] at hl C5 C6 C8 C9 HP ⊢
  obtain ⟨NM, hNM⟩ : ∃ NM, nameOf' p = NM := ⟨_, rfl⟩
  have HD0 : Hid (decB p dir dO lit = ((dir || !dO) && (lit.toList == NM.toList))) := by rw [← hNM]; rfl
  rw [hNM] at C7
  clear hsh hN hNM
  go_enter Tryd.func3, Tryd.ntmps3
  go_wp2_with fail
  refine C5.out.mono ?_
  rintro e w' ⟨⟨b5, rfl, hb5⟩, rfl⟩
  clear C5
  cases b5 with
  | false =>
    go_wp2_with fail
    go_ret
    exact ⟨rfl, Below.refl _ _⟩
  | true =>
  have HS : Hid (∀ q ∈ ps, shortP q) := hb5 rfl
  clear hb5
  by_cases b1 : 4096 < N
  · go_wp2_with fail
    go_ret
    exact ⟨rfl, Below.refl _ _⟩
  by_cases b2 : 4096 < p.size
  · go_wp2_with fail
    go_ret
    exact ⟨rfl, Below.refl _ _⟩
  by_cases b3 : 4096 < lit.size
  · go_wp2_with fail
    go_ret
    exact ⟨rfl, Below.refl _ _⟩
  go_wp2_with fail
  refine (C6.out _ (by omega) (by omega)).mono ?_
  rintro e w' ⟨⟨t6, rfl, l6, u6⟩, rfl⟩
  clear C6
  by_cases b4 : 1048576 < t6
  · go_wp2_with fail
    go_ret
    exact ⟨rfl, Below.refl _ _⟩
  obtain ⟨D, hD⟩ : ∃ D, D = decB p dir dO lit := ⟨_, rfl⟩
  have HD : Hid (D = decB p dir dO lit) := hD
  clear hD
  go_upto_region 9 with fail
  go_cut [13] (fun s13 wx => s13 = .bool D ∧ w = wx)
  case first =>
    cases dir with
    | true =>
      go_wp2_with (go_at_call 7; refine C7.out.mono ?_; rintro e w' ⟨rfl, rfl⟩)
      go_meet
      exact ⟨by rw [HD.out, HD0.out]; rfl, rfl⟩
    | false =>
      cases dO with
      | true =>
        go_wp2_with fail
        go_meet
        exact ⟨by rw [HD.out, HD0.out]; rfl, rfl⟩
      | false =>
        go_wp2_with (go_at_call 7; refine C7.out.mono ?_; rintro e w' ⟨rfl, rfl⟩)
        go_meet
        exact ⟨by rw [HD.out, HD0.out]; rfl, rfl⟩
  case rest =>
  obtain ⟨rfl, rfl⟩ := hcut
  clear C7 HD0
  have C11 : Hid (∀ (l : List PPat) (v : Value) (w' : World), l.length ≤ 1048576 → (∀ q ∈ l, shortP q) → PatsAt w' v l → Calls Tryd.prog 11 #[v] w' fun e w2 => ∃ a n c, e = .returned (.slice a n c) ∧ Below w'.heap.size w' w2 ∧ PatsAt w2 (.slice a n c) l) := fun l v w' => pats11' l v w'
  have C10 : Hid (∀ (l : List PPat) (a : Option Addr) (n c : Nat) (w' : World), PatsAt w' (.slice a n c) l → Calls Tryd.prog 10 #[.slice a n c] w' fun e w2 => ∃ R, e = .returned (.pointer (some ⟨R, 0, none⟩)) ∧ Below w'.heap.size w' w2 ∧ w2.cell? ⟨R, 0, none⟩ = some (.slice a n c) ∧ PatsAt w2 (.slice a n c) l) := fun l a n c w' => rules10' l a n c w'
  have C12 : Hid (∀ (l : List PPat) (r : Bool) (R : Nat) (v : Value) (w' : World), Below w.heap.size w w' → w'.cell? ⟨R, 0, none⟩ = some v → PatsAt w' v l → Ev p dir l.reverse r → Calls Tryd.prog 12 #[.pointer (some ⟨R, 0, none⟩), .string p, .bool dir] w' (RetR r w')) := fun l r R v w' hb hR hl hE =>
    matches12 l p dir r R v w' (fun w2 hb2 => HSH.out w2 (hb.trans (hb2.mono hb.size))) (by omega) hR hl hE
  have HSA : Hid (∀ q ∈ ps ++ [litP ng dO lit], shortP q) := fun q hq => by
    rcases List.mem_append.1 hq with h | h
    · exact HS.out q h
    · rw [List.mem_singleton] at h
      rw [h]; exact litP_short ng dO lit
  have HLA : Hid ((ps ++ [litP ng dO lit]).length ≤ 1048576) := by
    show (ps ++ [litP ng dO lit]).length ≤ 1048576
    rw [List.length_append, ← HN.out]
    show N + 1 ≤ 1048576
    omega
  cases D with
  | true =>
    have HE : Hid (Ev p dir (ps ++ [litP ng dO lit]).reverse (!ng)) := ev_true ng ps HD.out.symm
    clear C8 HD
    go_wp2_with fail
    refine (C9.out (by omega)).mono ?_
    rintro e w1 ⟨a1, n1, c1, rfl, hb1, hp1⟩
    have HB1 : Hid (Below w.heap.size w w1) := hb1
    have HP1 : Hid (PatsAt w1 (.slice a1 n1 c1) (ps ++ [litP ng dO lit])) := hp1
    clear C9 hb1 hp1
    go_wp2_with fail
    refine (C11.out (ps ++ [litP ng dO lit]) _ _ HLA.out HSA.out HP1.out).mono ?_
    rintro e w2 ⟨a2, n2, c2, rfl, hb2, hp2⟩
    have HB2 : Hid (Below w.heap.size w w2) := HB1.out.trans (hb2.mono HB1.out.size)
    have HP2 : Hid (PatsAt w2 (.slice a2 n2 c2) (ps ++ [litP ng dO lit])) := hp2
    clear hb2 hp2 HB1 HP1 HLA HSA
    go_wp2_with fail
    refine (C10.out (ps ++ [litP ng dO lit]) _ _ _ _ HP2.out).mono ?_
    rintro e w3 ⟨R, rfl, hb3, hc3, hp3⟩
    have HB3 : Hid (Below w.heap.size w w3) := HB2.out.trans (hb3.mono HB2.out.size)
    have HC3 : Hid (w3.cell? ⟨R, 0, none⟩ = some (.slice a2 n2 c2)) := hc3
    have HP3 : Hid (PatsAt w3 (.slice a2 n2 c2) (ps ++ [litP ng dO lit])) := hp3
    clear hb3 hc3 hp3 HB2 HP2
    go_wp2_with fail
    refine (C12.out (ps ++ [litP ng dO lit]) _ R _ _ HB3.out HC3.out HP3.out HE.out).mono ?_
    rintro e w4 ⟨rfl, hb4⟩
    have HB4 : Hid (Below w.heap.size w w4) := HB3.out.trans (hb4.mono HB3.out.size)
    clear hb4 HB3 HC3 HP3
    go_wp2_with fail
    go_ret
    exact ⟨by cases ng <;> rfl, HB4.out⟩
  | false =>
    go_wp2_with fail
    refine C8.out.mono ?_
    rintro e w' ⟨⟨b8, rfl, hb8⟩, rfl⟩
    clear C8
    cases b8 with
    | false =>
      go_wp2_with fail
      go_ret
      exact ⟨rfl, Below.refl _ _⟩
    | true =>
    obtain ⟨r, hr⟩ := Ev.all (p := p) (dir := dir) ps.reverse fun q hq => hb8 rfl q (List.mem_reverse.1 hq)
    have HEP : Hid (Ev p dir ps.reverse r) := hr
    have HE : Hid (Ev p dir (ps ++ [litP ng dO lit]).reverse r) := ev_false ng ps HD.out.symm hr
    clear HD hb8 hr
    go_wp2_with fail
    refine (C9.out (by omega)).mono ?_
    rintro e w1 ⟨a1, n1, c1, rfl, hb1, hp1⟩
    have HB1 : Hid (Below w.heap.size w w1) := hb1
    have HP1 : Hid (PatsAt w1 (.slice a1 n1 c1) (ps ++ [litP ng dO lit])) := hp1
    clear C9 hb1 hp1
    go_wp2_with fail
    refine (C11.out (ps ++ [litP ng dO lit]) _ _ HLA.out HSA.out HP1.out).mono ?_
    rintro e w2 ⟨a2, n2, c2, rfl, hb2, hp2⟩
    have HB2 : Hid (Below w.heap.size w w2) := HB1.out.trans (hb2.mono HB1.out.size)
    have HP2 : Hid (PatsAt w2 (.slice a2 n2 c2) (ps ++ [litP ng dO lit])) := hp2
    clear hb2 hp2 HB1 HP1 HLA HSA
    go_wp2_with fail
    refine (C10.out (ps ++ [litP ng dO lit]) _ _ _ _ HP2.out).mono ?_
    rintro e w3 ⟨R, rfl, hb3, hc3, hp3⟩
    have HB3 : Hid (Below w.heap.size w w3) := HB2.out.trans (hb3.mono HB2.out.size)
    have HC3 : Hid (w3.cell? ⟨R, 0, none⟩ = some (.slice a2 n2 c2)) := hc3
    have HP3 : Hid (PatsAt w3 (.slice a2 n2 c2) (ps ++ [litP ng dO lit])) := hp3
    clear hb3 hc3 hp3 HB2 HP2
    go_wp2_with fail
    refine (C12.out (ps ++ [litP ng dO lit]) _ R _ _ HB3.out HC3.out HP3.out HE.out).mono ?_
    rintro e w4 ⟨rfl, hb4⟩
    have HB4 : Hid (Below w.heap.size w w4) := HB3.out.trans (hb4.mono HB3.out.size)
    clear hb4 HB3 HC3 HP3
    have HP4 : Hid (PatsAt w4 (.slice a N cap) ps) := HP.out.keep HB4.out
    go_wp2_with fail
    refine (C11.out ps _ _ (by rw [← HN.out]; omega) HS.out HP4.out).mono ?_
    rintro e w5 ⟨a5, n5, c5, rfl, hb5, hp5⟩
    have HB5 : Hid (Below w.heap.size w w5) := HB4.out.trans (hb5.mono HB4.out.size)
    have HP5 : Hid (PatsAt w5 (.slice a5 n5 c5) ps) := hp5
    clear hb5 hp5 HB4 HP4
    go_wp2_with fail
    refine (C10.out ps _ _ _ _ HP5.out).mono ?_
    rintro e w6 ⟨R6, rfl, hb6, hc6, hp6⟩
    have HB6 : Hid (Below w.heap.size w w6) := HB5.out.trans (hb6.mono HB5.out.size)
    have HC6 : Hid (w6.cell? ⟨R6, 0, none⟩ = some (.slice a5 n5 c5)) := hc6
    have HP6 : Hid (PatsAt w6 (.slice a5 n5 c5) ps) := hp6
    clear hb6 hc6 hp6 HB5 HP5
    go_wp2_with fail
    refine (C12.out ps _ R6 _ _ HB6.out HC6.out HP6.out HEP.out).mono ?_
    rintro e w7 ⟨rfl, hb7⟩
    have HB7 : Hid (Below w.heap.size w w7) := HB6.out.trans (hb7.mono HB6.out.size)
    clear hb7 HB6 HC6 HP6
    go_wp2_with fail
    go_ret
    exact ⟨by cases r <;> rfl, HB7.out⟩
end Go.Proofs.Qxb6602438aDoor
