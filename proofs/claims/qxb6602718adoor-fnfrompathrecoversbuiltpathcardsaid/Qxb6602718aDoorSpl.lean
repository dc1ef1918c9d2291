import Derived.Lib.Split
import Derived.Lib.SplitLaws
import Derived.Lib.Strings
import Derived.Lib.Replace
import Derived.Lib.LastIndexByte
/-! PLAIN LAWS: cutting at a byte; the last place of a byte; one byte for another: no Go in sight. -/
namespace Go.Proofs.Qxb6602718aDoor
open Go

/-- A text cut at every byte c. -/
def spl (c : UInt8) : List UInt8 → List (List UInt8)
  | [] => [[]]
  | x :: r => if x = c then [] :: spl c r else (match spl c r with | h :: t => (x :: h) :: t | [] => [[x]])

theorem spl_ne (c : UInt8) : ∀ l, spl c l ≠ []
  | [] => by simp [spl]
  | x :: r => by
    unfold spl
    split
    · simp
    · split <;> simp

theorem spl_clean (c : UInt8) : ∀ (a : List UInt8), c ∉ a → spl c a = [a]
  | [], _ => rfl
  | x :: r, h => by
    simp only [List.mem_cons, not_or] at h
    unfold spl
    rw [if_neg (fun e => h.1 e.symm), spl_clean c r h.2]

theorem spl_join (c : UInt8) : ∀ (a r : List UInt8), spl c (a ++ c :: r) = spl c a ++ spl c r
  | [], r => by simp [spl]
  | x :: a, r => by
    rw [List.cons_append, spl, spl, spl_join c a r]
    by_cases hc : x = c
    · rw [if_pos hc, if_pos hc]; rfl
    · rw [if_neg hc, if_neg hc]
      cases hs : spl c a with
      | nil => exact absurd hs (spl_ne c a)
      | cons y t => rfl

theorem occ_at (c : UInt8) (s : List UInt8) (i : Nat) : Lib.occAt s [c] i = true ↔ s[i]? = some c := by
  unfold Lib.occAt
  rw [List.isPrefixOf_iff_prefix]
  rw [← List.head?_drop]
  cases hd : s.drop i with
  | nil => simp
  | cons x r =>
    simp only [List.cons_prefix_cons, List.nil_prefix, and_true, List.head?_cons, Option.some.injEq]
    exact eq_comm

theorem index_clean (c : UInt8) (s : List UInt8) (h : c ∉ s) : Lib.index s [c] = -1 := by
  apply Lib.index_none
  intro j _
  cases hb : Lib.occAt s [c] j with
  | false => rfl
  | true => exact absurd (List.mem_of_getElem? ((occ_at c s j).1 hb)) h

theorem index_cut (c : UInt8) (a r : List UInt8) (h : c ∉ a) : Lib.index (a ++ c :: r) [c] = a.length := by
  apply Lib.index_first
  · simp
  · rw [occ_at]; simp
  · intro j hj
    cases hb : Lib.occAt (a ++ c :: r) [c] j with
    | false => rfl
    | true =>
      have := (occ_at c _ j).1 hb
      rw [List.getElem?_append_left hj] at this
      exact absurd (List.mem_of_getElem? this) h

theorem splitK_spl (c : UInt8) : ∀ (n : Nat) (s : List UInt8), s.length ≤ n → Lib.splitK [c] 0 (Lib.count s [c]) s = spl c s := by
  intro n
  induction n with
  | zero =>
    intro s hs
    cases s with
    | nil => rfl
    | cons _ _ => simp at hs
  | succ n ih =>
    intro s hs
    by_cases h : c ∈ s
    · obtain ⟨a, r, rfl, ha⟩ := List.eq_append_cons_of_mem h
      have hi := index_cut c a r ha
      rw [Lib.count_hit (by simp) hi, Nat.add_comm 1, Lib.splitK, hi]
      have hm : ¬ ((a.length : Int) == -1) = true := fun e => by have := beq_iff_eq.1 e; omega
      rw [if_neg hm]
      simp only [Int.toNat_natCast, Nat.add_zero, List.length_cons, List.length_nil]
      rw [spl_join c a r, spl_clean c a ha]
      have e1 : (a ++ c :: r).take a.length = a := by simp
      have e2 : (a ++ c :: r).drop (a.length + (0 + 1)) = r := by simp
      rw [e1, e2, ih r (by simp at hs; omega)]
      rfl
    · rw [Lib.count_miss (index_clean c s h), spl_clean c s h]
      rfl

/-- One byte for another. -/
theorem replaceK_map (c d : UInt8) : ∀ (n : Nat) (s : List UInt8), s.length ≤ n → Lib.replaceK [c] [d] (Lib.count s [c]) s = s.map (fun x => if x = c then d else x) := by
  intro n
  induction n with
  | zero =>
    intro s hs
    cases s with
    | nil => rfl
    | cons _ _ => simp at hs
  | succ n ih =>
    intro s hs
    have clean : ∀ a : List UInt8, c ∉ a → a.map (fun x => if x = c then d else x) = a := fun a ha => by
      have : a.map (fun x => if x = c then d else x) = a.map id := List.map_congr_left fun x hx => by
        show (if x = c then d else x) = x
        rw [if_neg]
        intro e
        exact ha (by rw [← e]; exact hx)
      rw [this, List.map_id]
    by_cases h : c ∈ s
    · obtain ⟨a, r, rfl, ha⟩ := List.eq_append_cons_of_mem h
      have hi := index_cut c a r ha
      rw [Lib.count_hit (by simp) hi, Nat.add_comm 1, Lib.replaceK_hit _ _ _ _ _ hi]
      have e1 : (a ++ c :: r).take a.length = a := by simp
      have e2 : (a ++ c :: r).drop (a.length + [c].length) = r := by simp
      rw [e1, e2, ih r (by simp at hs; omega), List.map_append, List.map_cons, if_pos rfl, clean a ha]
      simp
    · rw [Lib.count_miss (index_clean c s h), clean s h]
      rfl

theorem replaceAll_map (c d : UInt8) (hcd : c ≠ d) (s : List UInt8) : Lib.replaceAll s [c] [d] = s.map (fun x => if x = c then d else x) := by
  unfold Lib.replaceAll Lib.replace
  rw [if_neg (by simp [hcd])]
  have e : Lib.replaceNum s [c] (-1) = Lib.count s [c] := by
    unfold Lib.replaceNum
    simp
  rw [e]
  exact replaceK_map c d s.length s (Nat.le_refl _)

theorem spl_prefix (c : UInt8) : ∀ (l z : List UInt8) (t : List (List UInt8)), spl c l = z :: t → z <+: l
  | [], z, t, h => by simp [spl] at h; rw [h.1]; exact List.prefix_refl _
  | y :: r, z, t, h => by
    rw [spl] at h
    by_cases hc : y = c
    · rw [if_pos hc] at h
      injection h with h1 _
      rw [← h1]
      exact List.nil_prefix
    · rw [if_neg hc] at h
      cases hs : spl c r with
      | nil => exact absurd hs (spl_ne c r)
      | cons z' t' =>
        rw [hs] at h
        simp only at h
        injection h with h1 _
        rw [← h1]
        exact List.cons_prefix_cons.2 ⟨rfl, spl_prefix c r z' t' hs⟩

/-- A piece lies inside the text. -/
theorem spl_infix (c : UInt8) : ∀ (l x : List UInt8), x ∈ spl c l → x <:+: l
  | [], x, h => by simp [spl] at h; subst h; exact List.infix_refl _
  | y :: r, x, h => by
    rw [spl] at h
    by_cases hc : y = c
    · rw [if_pos hc] at h
      rcases List.mem_cons.1 h with rfl | h
      · exact List.nil_infix
      · exact (spl_infix c r x h).trans (List.suffix_cons y r).isInfix
    · rw [if_neg hc] at h
      cases hs : spl c r with
      | nil => exact absurd hs (spl_ne c r)
      | cons z t =>
        rw [hs] at h
        simp only at h
        rcases List.mem_cons.1 h with rfl | h
        · -- the first piece begins the text
          have hp : z <+: r := by
            have := spl_prefix c r z t hs
            exact this
          obtain ⟨q, hq⟩ := hp
          exact ⟨[], q, by rw [List.nil_append, List.cons_append, hq]⟩
        · exact (spl_infix c r x (by rw [hs]; exact List.mem_cons_of_mem _ h)).trans (List.suffix_cons y r).isInfix
end Go.Proofs.Qxb6602718aDoor
