import Derived.Test.Qxb6602347aDoorSpl
/-! THE PLAIN LAW OF THE BYTE SCANNER: no Go in sight. -/
namespace Go.Proofs.Qxb6602347aDoor
open Go

theorem spl_join : ∀ (a r : List UInt8), spl (a ++ 10 :: r) = spl a ++ spl r
  | [], r => by simp [spl]
  | c :: a, r => by
    rw [List.cons_append, spl, spl, spl_join a r]
    by_cases hc : c = 10
    · rw [if_pos hc, if_pos hc]; rfl
    · rw [if_neg hc, if_neg hc]
      cases hs : spl a with
      | nil => exact absurd hs (spl_ne a)
      | cons y t => rfl

theorem spl_push : ∀ (a : List UInt8) (c : UInt8) (pre : List (List UInt8)) (x : List UInt8), c ≠ 10 → spl a = pre ++ [x] → spl (a ++ [c]) = pre ++ [x ++ [c]]
  | [], c, pre, x, hc, h => by
    have hl := congrArg List.length h
    simp [spl] at hl
    subst hl
    simp only [spl, List.nil_append, List.cons.injEq, and_true] at h
    subst h
    simp [spl, hc]
  | d :: a, c, pre, x, hc, h => by
    rw [List.cons_append, spl]
    rw [spl] at h
    by_cases hd : d = 10
    · rw [if_pos hd] at h ⊢
      cases pre with
      | nil =>
        have hl := congrArg List.length h
        have := List.length_pos_iff.2 (spl_ne a)
        simp only [List.nil_append, List.length_cons, List.length_nil] at hl
        omega
      | cons y t =>
        simp only [List.cons_append, List.cons.injEq] at h
        rw [spl_push a c t x hc h.2, ← h.1]
        rfl
    · rw [if_neg hd] at h ⊢
      cases hs : spl a with
      | nil => exact absurd hs (spl_ne a)
      | cons y t =>
        rw [hs] at h
        simp only at h
        cases pre with
        | nil =>
          simp only [List.nil_append, List.cons.injEq] at h
          obtain ⟨h1, h2⟩ := h
          subst h2
          rw [spl_push a c [] y hc (by rw [hs]; rfl)]
          simp [← h1]
        | cons p q =>
          simp only [List.cons_append, List.cons.injEq] at h
          obtain ⟨h1, h2⟩ := h
          rw [spl_push a c (y :: q) x hc (by rw [hs, h2]; rfl)]
          simp [← h1]

/-- What the scanner knows behind i bytes: k pieces done, the current one begins at st. -/
def Scan (l : List UInt8) (i k st : Nat) : Prop := st ≤ i ∧ i ≤ l.length ∧ ∃ pre, pre.length = k ∧ spl (l.take i) = pre ++ [(l.take i).drop st]

theorem scan_zero (l : List UInt8) : Scan l 0 0 0 := ⟨Nat.le_refl _, Nat.zero_le _, [], rfl, rfl⟩

theorem scan_step {l : List UInt8} {i k st : Nat} (h : Scan l i k st) (hi : i < l.length) (hc : l[i] ≠ 10) : Scan l (i + 1) k st := by
  obtain ⟨h1, h2, pre, h3, h4⟩ := h
  refine ⟨by omega, by omega, pre, h3, ?_⟩
  rw [List.take_succ_eq_append_getElem hi, spl_push _ _ _ _ hc h4, List.drop_append_of_le_length (by simp; omega)]

theorem scan_cut {l : List UInt8} {i k st : Nat} (h : Scan l i k st) (hi : i < l.length) (hc : l[i] = 10) : Scan l (i + 1) (k + 1) (i + 1) := by
  obtain ⟨h1, h2, pre, h3, h4⟩ := h
  refine ⟨Nat.le_refl _, by omega, pre ++ [(l.take i).drop st], by simp [h3], ?_⟩
  rw [List.take_succ_eq_append_getElem hi, hc, spl_join, h4]
  have e : (l.take i ++ [10]).drop (i + 1) = [] := List.drop_eq_nil_of_le (by simp; omega)
  rw [e]
  rfl

/-- The pieces that List gives: those of the trimmed text. -/
def outL (l : List UInt8) : List (List UInt8) := spl (Lib.trimSuffix l [10])

theorem out_nl (l : List UInt8) : spl (l ++ [10]) = outL (l ++ [10]) ++ [[]] := by
  unfold outL
  rw [trim_nl, spl_join]
  rfl
theorem out_other (l : List UInt8) (c : UInt8) (hc : c ≠ 10) : outL (l ++ [c]) = spl (l ++ [c]) := by
  unfold outL Lib.trimSuffix
  rw [if_neg]
  intro hh
  unfold Lib.hasSuffix at hh
  obtain ⟨t, ht⟩ := List.isSuffixOf_iff_suffix.1 hh
  have := List.append_inj_right' ht (by simp)
  simp at this
  exact hc this.symm

/-- The last byte of a text that is not empty. -/
theorem snoc_of (l : List UInt8) (h : l ≠ []) : ∃ a c, l = a ++ [c] := ⟨l.dropLast, l.getLast h, (List.dropLast_concat_getLast h).symm⟩

theorem out_prefix (l : List UInt8) (h : l ≠ []) (j : Nat) (hj : j + 1 < (spl l).length) : j < (outL l).length ∧ (outL l)[j]? = (spl l)[j]? := by
  obtain ⟨a, c, rfl⟩ := snoc_of l h
  by_cases hc : c = 10
  · subst hc
    rw [out_nl] at hj ⊢
    simp at hj
    exact ⟨by omega, by rw [List.getElem?_append_left (by omega)]⟩
  · rw [out_other a c hc]
    exact ⟨by omega, rfl⟩

/-- At a newline: the piece is the next of List's. -/
theorem scan_hit {l : List UInt8} {i k st : Nat} (h : Scan l i k st) (hi : i < l.length) (hc : l[i] = 10) : k < (outL l).length ∧ (outL l)[k]? = some ((l.take i).drop st) := by
  obtain ⟨h1, h2, pre, h3, h4⟩ := h
  have hne : l ≠ [] := by intro e; rw [e] at hi; simp at hi
  have e1 : l = l.take i ++ 10 :: l.drop (i + 1) := by
    rw [← hc, List.getElem_cons_drop]
    exact (List.take_append_drop i l).symm
  have e2 : spl l = pre ++ [(l.take i).drop st] ++ spl (l.drop (i + 1)) := by rw [← h4, ← spl_join, ← e1]
  have hp := List.length_pos_iff.2 (spl_ne (l.drop (i + 1)))
  have hl : k + 1 < (spl l).length := by rw [e2]; simp [h3]; omega
  obtain ⟨h5, h6⟩ := out_prefix l hne k hl
  refine ⟨h5, ?_⟩
  rw [h6, e2, List.append_assoc, List.getElem?_append_right (by omega)]
  simp [h3]

/-- At the end, a tail is left: it is List's last. -/
theorem scan_tail {l : List UInt8} {k st : Nat} (h : Scan l l.length k st) (hs : st < l.length) : k < (outL l).length ∧ (outL l)[k]? = some (l.drop st) ∧ (outL l).length = k + 1 := by
  obtain ⟨h1, h2, pre, h3, h4⟩ := h
  rw [List.take_length] at h4
  have hne : l ≠ [] := by intro e; rw [e] at hs; simp at hs
  obtain ⟨a, c, hl⟩ := snoc_of l hne
  by_cases hc : c = 10
  · subst hc
    have e := out_nl a
    rw [← hl, h4] at e
    have := List.append_inj_right' e (by simp)
    simp at this
    omega
  · have e := out_other a c hc
    rw [← hl] at e
    rw [e, h4]
    refine ⟨by simp; omega, ?_, by simp; omega⟩
    rw [List.getElem?_append_right (by omega)]
    simp [h3]

/-- At the end, nothing is left. -/
theorem scan_none {l : List UInt8} {k st : Nat} (hne : l ≠ []) (h : Scan l l.length k st) (hs : ¬ st < l.length) : (outL l).length = k := by
  obtain ⟨h1, h2, pre, h3, h4⟩ := h
  rw [List.take_length] at h4
  have e0 : l.drop st = [] := List.drop_eq_nil_of_le (by omega)
  rw [e0] at h4
  obtain ⟨a, c, hl⟩ := snoc_of l hne
  by_cases hc : c = 10
  · subst hc
    have e := out_nl a
    rw [← hl, h4] at e
    have := List.append_inj_left' e (by simp)
    rw [← this, h3]
  · exfalso
    have hp := List.length_pos_iff.2 (spl_ne a)
    have hx : spl a = (spl a).dropLast ++ [(spl a).getLast (spl_ne a)] := (List.dropLast_concat_getLast _).symm
    have e := spl_push a c _ _ hc hx
    rw [← hl, h4] at e
    have := List.append_inj_right' e (by simp)
    simp at this
end Go.Proofs.Qxb6602347aDoor
