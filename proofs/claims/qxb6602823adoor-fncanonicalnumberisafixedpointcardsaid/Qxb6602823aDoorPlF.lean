import Derived.Test.Qxb6602823aDoorPlC
/-! PLAIN LAW: the canonical form is a number, and its own canonical form. No Go in sight. -/
namespace Go.Proofs.Qxb6602823aDoor
open Go

theorem tw_stop (a b : List UInt8) (c : UInt8) (h : ∀ x ∈ a, dgt x = true) (hc : dgt c = false) : (a ++ c :: b).takeWhile dgt = a ∧ (a ++ c :: b).dropWhile dgt = c :: b := by
  induction a with
  | nil => simp [hc]
  | cons x t ih =>
    have h1 := h x (by simp)
    have h2 := ih (fun y hy => h y (by simp [hy]))
    rw [List.cons_append, List.takeWhile_cons, List.dropWhile_cons, if_pos h1, if_pos h1, h2.1, h2.2]
    exact ⟨rfl, rfl⟩
theorem tw_all (a : List UInt8) (h : ∀ x ∈ a, dgt x = true) : a.takeWhile dgt = a ∧ a.dropWhile dgt = [] := by
  induction a with
  | nil => exact ⟨rfl, rfl⟩
  | cons x t ih =>
    have h1 := h x (by simp)
    have h2 := ih (fun y hy => h y (by simp [hy]))
    rw [List.takeWhile_cons, List.dropWhile_cons, if_pos h1, if_pos h1, h2.1, h2.2]
    exact ⟨rfl, rfl⟩

/-! ### The numeral -/
theorem dv_snoc : ∀ (l : List UInt8) (a : Nat) (c : UInt8), dv a (l ++ [c]) = dv a l * 10 + (c.toNat - 48)
  | [], _, _ => rfl
  | d :: r, a, c => dv_snoc r (a * 10 + (d.toNat - 48)) c
theorem u8_digit (u : Nat) (h : u < 10) : (UInt8.ofNat (48 + u)).toNat = 48 + u := by
  rw [UInt8.toNat_ofNat', Nat.mod_eq_of_lt (by omega)]
theorem dec_all (u : Nat) : (∀ c ∈ Lib.decDigits u, dgt c = true) ∧ Lib.decDigits u ≠ [] ∧ dv 0 (Lib.decDigits u) = u := by
  induction u using Nat.strongRecOn with
  | _ u ih =>
    rw [Lib.decDigits]
    split
    · rename_i h
      refine ⟨fun c hc => ?_, by simp, ?_⟩
      · rw [List.mem_singleton] at hc
        subst hc
        rw [dgt_iff, u8_digit u h]
        omega
      · show 0 * 10 + ((UInt8.ofNat (48 + u)).toNat - 48) = u
        rw [u8_digit u h]; omega
    · rename_i h
      obtain ⟨h1, h2, h3⟩ := ih (u / 10) (by omega)
      refine ⟨fun c hc => ?_, by simp, ?_⟩
      · rcases List.mem_append.1 hc with hc | hc
        · exact h1 c hc
        · rw [List.mem_singleton] at hc
          subst hc
          rw [dgt_iff, u8_digit _ (Nat.mod_lt _ (by omega))]
          omega
      · rw [dv_snoc, h3, u8_digit _ (Nat.mod_lt _ (by omega))]
        omega
theorem itoa_parts (p : Int) : Lib.itoa p = sgOf (decide (p < 0)) ++ Lib.decDigits p.natAbs := by
  unfold Lib.itoa sgOf
  by_cases h : p < 0
  · rw [if_pos h, decide_eq_true h, if_pos rfl]; rfl
  · rw [if_neg h, decide_eq_false h, if_neg (by decide), List.nil_append, show p.toNat = p.natAbs by omega]

/-! ### The significant digits -/
theorem tl_idem (l : List UInt8) : Lib.trimLeftB (Lib.trimLeftB l 48) 48 = Lib.trimLeftB l 48 := by
  unfold Lib.trimLeftB
  induction l with
  | nil => rfl
  | cons x t ih =>
    rw [List.dropWhile_cons]
    split
    · exact ih
    · rename_i h
      rw [List.dropWhile_cons, if_neg h]
/-- Where the first byte is no 0, and where the last is none: nothing is cut off. -/
theorem tr_idem (l : List UInt8) : Lib.trimRightB (Lib.trimRightB l 48) 48 = Lib.trimRightB l 48 := by
  have := tl_idem l.reverse
  unfold Lib.trimLeftB at this
  unfold Lib.trimRightB
  rw [List.reverse_reverse, this]
theorem tr_prefix (l : List UInt8) : ∃ z, l = Lib.trimRightB l 48 ++ z := by
  have : l.reverse = l.reverse.takeWhile (· == 48) ++ l.reverse.dropWhile (· == 48) := List.takeWhile_append_dropWhile.symm
  refine ⟨(l.reverse.takeWhile (· == 48)).reverse, ?_⟩
  have h2 := congrArg List.reverse this
  rw [List.reverse_reverse, List.reverse_append] at h2
  exact h2
theorem tl_head (l : List UInt8) : ∀ c r, Lib.trimLeftB l 48 = c :: r → c ≠ 48 := fun c r h e => by
  have := tl_idem l
  rw [h, e] at this
  have h2 : Lib.trimLeftB (48 :: r) 48 = Lib.trimLeftB r 48 := rfl
  rw [h2] at this
  have h3 := congrArg List.length this
  have h4 : (Lib.trimLeftB r 48).length ≤ r.length := (List.dropWhile_sublist _).length_le
  rw [List.length_cons] at h3
  omega
theorem tl_of {c : UInt8} (r : List UInt8) (h : c ≠ 48) : Lib.trimLeftB (c :: r) 48 = c :: r := by
  unfold Lib.trimLeftB
  rw [List.dropWhile_cons, if_neg (by rw [beq_iff_eq]; exact h)]

theorem sig_fix (x : Num) (h : sigOf x ≠ []) : Lib.trimLeftB ([48] ++ sigOf x) 48 = sigOf x ∧ Lib.trimRightB (sigOf x) 48 = sigOf x := by
  refine ⟨?_, tr_idem _⟩
  obtain ⟨z, hz⟩ := tr_prefix (Lib.trimLeftB (x.ip ++ x.fd) 48)
  have hs : Lib.trimRightB (Lib.trimLeftB (x.ip ++ x.fd) 48) 48 = sigOf x := rfl
  rw [hs] at hz
  cases hc : sigOf x with
  | nil => exact absurd hc h
  | cons c r =>
    rw [hc] at hz
    have := tl_head _ c (r ++ z) hz
    show Lib.trimLeftB (c :: r) 48 = c :: r
    exact tl_of r this
theorem sig_dgt {l : List UInt8} {x : Num} {P E : List UInt8} (h : Shape l x P E) : ∀ c ∈ sigOf x, dgt c = true := fun c hc => by
  have h1 : c ∈ x.ip ++ x.fd := by
    obtain ⟨z, hz⟩ := tr_prefix (Lib.trimLeftB (x.ip ++ x.fd) 48)
    have h2 : c ∈ Lib.trimLeftB (x.ip ++ x.fd) 48 := by rw [hz]; exact List.mem_append_left _ hc
    exact (List.dropWhile_sublist _).subset h2
  rcases List.mem_append.1 h1 with h1 | h1
  · exact h.ip c h1
  · exact h.fd c h1

/-! ### The reader over the canonical form -/
theorem r6_ok (neg : Bool) (ip fd : List UInt8) (en : Bool) (ed : List UInt8) (hne : ed ≠ []) (hd : ∀ c ∈ ed, dgt c = true) : r6 neg ip fd en ed = some ⟨neg, ip, fd, some (en, ed)⟩ := by
  obtain ⟨h1, h2⟩ := tw_all ed hd
  rw [r6, h1, h2, if_neg hne, if_pos rfl]
theorem r5_ok (neg : Bool) (ip fd : List UInt8) (en : Bool) (ed : List UInt8) (hne : ed ≠ []) (hd : ∀ c ∈ ed, dgt c = true) : r5 neg ip fd (sgOf en ++ ed) = some ⟨neg, ip, fd, some (en, ed)⟩ := by
  cases en with
  | true =>
    show r5 neg ip fd (45 :: ed) = _
    rw [r5, if_pos (.inr rfl)]
    exact r6_ok neg ip fd true ed hne hd
  | false =>
    show r5 neg ip fd ed = _
    cases ed with
    | nil => exact absurd rfl hne
    | cons c t =>
      have := dgt_iff.1 (hd c (by simp))
      rw [r5, if_neg (fun e => by rcases e with rfl | rfl <;> simp at this)]
      exact r6_ok neg ip fd false (c :: t) hne hd
theorem rd_form (neg : Bool) (sig : List UInt8) (en : Bool) (ed : List UInt8) (hs : sig ≠ []) (hsd : ∀ c ∈ sig, dgt c = true) (hne : ed ≠ []) (hd : ∀ c ∈ ed, dgt c = true) :
    rd (sgOf neg ++ [48, 46] ++ sig ++ [101] ++ (sgOf en ++ ed)) = some ⟨neg, [48], sig, some (en, ed)⟩ := by
  have h3 : r3 neg [48] (46 :: (sig ++ 101 :: (sgOf en ++ ed))) = some ⟨neg, [48], sig, some (en, ed)⟩ := by
    obtain ⟨h1, h2⟩ := tw_stop sig (sgOf en ++ ed) 101 hsd (by decide)
    rw [r3, if_pos rfl, h1, h2, if_neg hs, r4, if_pos (.inl rfl)]
    exact r5_ok neg [48] sig en ed hne hd
  have e : sgOf neg ++ [48, 46] ++ sig ++ [101] ++ (sgOf en ++ ed) = sgOf neg ++ (48 :: 46 :: (sig ++ 101 :: (sgOf en ++ ed))) := by simp
  rw [e]
  cases neg with
  | true =>
    show rd (45 :: 48 :: 46 :: (sig ++ 101 :: (sgOf en ++ ed))) = _
    rw [rd, if_pos rfl, r2, if_pos rfl]
    exact h3
  | false =>
    show rd (48 :: 46 :: (sig ++ 101 :: (sgOf en ++ ed))) = _
    rw [rd, if_neg (by decide), r2, if_pos rfl]
    exact h3

/-- THE PLAIN LAW. -/
theorem fixed {l : List UInt8} {x : Num} (h : rd l = some x) (hb : (exOf x.ex).2 = false) (h4 : l.length ≤ 4000000) :
    ∃ y, rd (canonB l x) = some y ∧ ((exOf y.ex).2 = true → canonB (canonB l x) y = 126 :: canonB l x) ∧ ((exOf y.ex).2 = false → canonB (canonB l x) y = canonB l x) ∧
      (∃ c r, canonB l x = c :: r ∧ c ≠ 126) ∧ (canonB l x).length ≤ l.length + 30 := by
  obtain ⟨P, E, hS⟩ := rd_some h
  have hv := (parse_ex hS).1 hb
  by_cases hs : sigOf x = []
  · have e : canonB l x = [48] := by unfold canonB; rw [if_neg (by rw [hb]; decide), if_pos hs]
    rw [e]
    refine ⟨⟨false, [48], [], none⟩, rfl, (fun h => by cases h), (fun _ => rfl), ⟨48, [], rfl, by decide⟩, ?_⟩
    simp
  · have e : canonB l x = sgOf x.neg ++ [48, 46] ++ sigOf x ++ [101] ++ Lib.itoa (powOf x) := by unfold canonB; rw [if_neg (by rw [hb]; decide), if_neg hs]
    obtain ⟨d1, d2, d3⟩ := dec_all (powOf x).natAbs
    have hrd := rd_form x.neg (sigOf x) (decide (powOf x < 0)) (Lib.decDigits (powOf x).natAbs) hs (sig_dgt hS) d2 d1
    rw [← itoa_parts, ← e] at hrd
    refine ⟨_, hrd, fun h => ?_, fun h => ?_, ?_, ?_⟩
    · unfold canonB
      rw [if_pos h]
    · obtain ⟨f1, f2⟩ := sig_fix x hs
      have hf := (fe_dv (Lib.decDigits (powOf x).natAbs) 0 (by omega)).2 h
      rw [d3] at hf
      have hev : (exOf (some (decide (powOf x < 0), Lib.decDigits (powOf x).natAbs))).1 = powOf x := by
        show (if decide (powOf x < 0) = true then -((fe 0 false (Lib.decDigits (powOf x).natAbs)).1 : Int) else ((fe 0 false (Lib.decDigits (powOf x).natAbs)).1 : Int)) = powOf x
        rw [hf]
        by_cases hp : powOf x < 0
        · rw [decide_eq_true hp, if_pos rfl]; omega
        · rw [decide_eq_false hp, if_neg (by decide)]; omega
      have hsig : sigOf ⟨x.neg, [48], sigOf x, some (decide (powOf x < 0), Lib.decDigits (powOf x).natAbs)⟩ = sigOf x := by
        show Lib.trimRightB (Lib.trimLeftB ([48] ++ sigOf x) 48) 48 = sigOf x
        rw [f1, f2]
      have hpow : powOf ⟨x.neg, [48], sigOf x, some (decide (powOf x < 0), Lib.decDigits (powOf x).natAbs)⟩ = powOf x := by
        show (([48] : List UInt8).length : Int) + (exOf (some (decide (powOf x < 0), Lib.decDigits (powOf x).natAbs))).1 - ((([48] ++ sigOf x).length : Int) - (Lib.trimLeftB ([48] ++ sigOf x) 48).length) = powOf x
        rw [hev, f1, List.length_append, List.length_singleton]
        omega
      unfold canonB
      rw [if_neg (by rw [h]; decide), hsig, if_neg hs, hpow]
      rw [if_neg (by rw [hb]; decide), if_neg hs]
    · rw [e]
      cases x.neg with
      | true => exact ⟨45, _, rfl, by decide⟩
      | false => exact ⟨48, _, rfl, by decide⟩
    · rw [e]
      have hl := congrArg List.length hS.eq
      have hP : x.fd.length ≤ P.length := by rcases hS.frac with ⟨rfl, h2⟩ | ⟨h2, _⟩ <;> rw [h2] <;> simp
      have hsl : (sigOf x).length ≤ x.ip.length + x.fd.length := by
        obtain ⟨z, hz⟩ := tr_prefix (Lib.trimLeftB (x.ip ++ x.fd) 48)
        have h1 := congrArg List.length hz
        have h2 : (Lib.trimLeftB (x.ip ++ x.fd) 48).length ≤ (x.ip ++ x.fd).length := (List.dropWhile_sublist _).length_le
        rw [List.length_append] at h1 h2
        have : (sigOf x).length = (Lib.trimRightB (Lib.trimLeftB (x.ip ++ x.fd) 48) 48).length := rfl
        omega
      have hsg : (sgOf x.neg).length ≤ 1 := by unfold sgOf; split <;> simp
      simp only [List.length_append, List.length_cons, List.length_nil] at hl ⊢
      have hit : (Lib.itoa (powOf x)).length ≤ 21 := by
        have h2 : (Lib.trimLeftB (x.ip ++ x.fd) 48).length ≤ (x.ip ++ x.fd).length := (List.dropWhile_sublist _).length_le
        have h3 := hv.2
        rw [List.length_append] at h2
        refine Lib.itoa_length_le _ ?_ ?_
        · unfold powOf; rw [List.length_append]; omega
        · unfold powOf; rw [List.length_append]; omega
      omega
end Go.Proofs.Qxb6602823aDoor
