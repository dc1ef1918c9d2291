import Derived.Lib.Split
import Derived.Lib.SplitLaws
import Derived.Lib.Strings
/-! THE PLAIN LAW OF CUTTING AT NEWLINES: no Go in sight. -/
namespace Go.Proofs.Qxb6602347aDoor
open Go

/-- A text cut at every byte 10. -/
def spl : List UInt8 → List (List UInt8)
  | [] => [[]]
  | c :: r => if c = 10 then [] :: spl r else (match spl r with | h :: t => (c :: h) :: t | [] => [[c]])

theorem spl_ne : ∀ l, spl l ≠ []
  | [] => by simp [spl]
  | c :: r => by
    unfold spl
    split
    · simp
    · split <;> simp

theorem spl_clean : ∀ (a : List UInt8), 10 ∉ a → spl a = [a]
  | [], _ => rfl
  | c :: r, h => by
    simp only [List.mem_cons, not_or] at h
    unfold spl
    rw [if_neg (fun e => h.1 e.symm), spl_clean r h.2]

theorem spl_cut : ∀ (a r : List UInt8), 10 ∉ a → spl (a ++ 10 :: r) = a :: spl r
  | [], r, _ => by simp [spl]
  | c :: a, r, h => by
    simp only [List.mem_cons, not_or] at h
    rw [List.cons_append, spl, if_neg (fun e => h.1 e.symm), spl_cut a r h.2]

theorem spl_snoc : ∀ (a x : List UInt8), 10 ∉ x → spl (a ++ 10 :: x) = spl a ++ [x]
  | [], x, h => by simp [spl, spl_clean x h]
  | c :: a, x, h => by
    rw [List.cons_append, spl, spl, spl_snoc a x h]
    by_cases hc : c = 10
    · rw [if_pos hc, if_pos hc]; rfl
    · rw [if_neg hc, if_neg hc]
      cases hs : spl a with
      | nil => exact absurd hs (spl_ne a)
      | cons y t => rfl

theorem occ_at (s : List UInt8) (i : Nat) : Lib.occAt s [10] i = true ↔ s[i]? = some 10 := by
  unfold Lib.occAt
  rw [List.isPrefixOf_iff_prefix]
  rw [← List.head?_drop]
  cases hd : s.drop i with
  | nil => simp
  | cons c r =>
    simp only [List.cons_prefix_cons, List.nil_prefix, and_true, List.head?_cons, Option.some.injEq]
    exact eq_comm

theorem index_clean (s : List UInt8) (h : 10 ∉ s) : Lib.index s [10] = -1 := by
  apply Lib.index_none
  intro j _
  cases hb : Lib.occAt s [10] j with
  | false => rfl
  | true => exact absurd (List.mem_of_getElem? ((occ_at s j).1 hb)) h

theorem index_cut (a r : List UInt8) (h : 10 ∉ a) : Lib.index (a ++ 10 :: r) [10] = a.length := by
  apply Lib.index_first
  · simp
  · rw [occ_at]; simp
  · intro j hj
    cases hb : Lib.occAt (a ++ 10 :: r) [10] j with
    | false => rfl
    | true =>
      have := (occ_at _ j).1 hb
      rw [List.getElem?_append_left hj] at this
      exact absurd (List.mem_of_getElem? this) h

theorem splitK_spl : ∀ (n : Nat) (s : List UInt8), s.length ≤ n → Lib.splitK [10] 0 (Lib.count s [10]) s = spl s := by
  intro n
  induction n with
  | zero =>
    intro s hs
    cases s with
    | nil => rfl
    | cons _ _ => simp at hs
  | succ n ih =>
    intro s hs
    by_cases h : (10 : UInt8) ∈ s
    · obtain ⟨a, r, rfl, ha⟩ := List.eq_append_cons_of_mem h
      have hi := index_cut a r ha
      rw [Lib.count_hit (by simp) hi, Nat.add_comm 1, Lib.splitK, hi]
      have hm : ¬ ((a.length : Int) == -1) = true := fun e => by have := beq_iff_eq.1 e; omega
      rw [if_neg hm]
      simp only [Int.toNat_natCast, Nat.add_zero, List.length_cons, List.length_nil]
      rw [spl_cut a r ha]
      have e1 : (a ++ 10 :: r).take a.length = a := by simp
      have e2 : (a ++ 10 :: r).drop (a.length + (0 + 1)) = r := by simp
      rw [e1, e2, ih r (by simp at hs; omega)]
    · rw [Lib.count_miss (index_clean s h), spl_clean s h]
      rfl

/-- The bytes written after k lines, and with the newline ahead of line k. -/
def Bk (X : Nat → List UInt8) : Nat → List UInt8
  | 0 => []
  | k + 1 => (if k = 0 then [] else Bk X k ++ [10]) ++ X k
def Pk (X : Nat → List UInt8) (k : Nat) : List UInt8 := if k = 0 then [] else Bk X k ++ [10]
theorem Bk_succ (X : Nat → List UInt8) (k : Nat) : Bk X (k + 1) = Pk X k ++ X k := rfl
theorem Pk_zero (X : Nat → List UInt8) : Pk X 0 = [] := rfl
theorem Pk_pos (X : Nat → List UInt8) (k : Nat) (h : 0 < k) : Pk X k = Bk X k ++ [10] := by unfold Pk; rw [if_neg (by omega)]

theorem spl_Bk (X : Nat → List UInt8) (n : Nat) (h : ∀ k, k < n → 10 ∉ X k) : ∀ k, k < n → spl (Bk X (k + 1)) = (List.range (k + 1)).map X
  | 0, h0 => by
    rw [Bk_succ, Pk_zero, List.nil_append, spl_clean _ (h 0 h0)]
    rfl
  | k + 1, hk => by
    rw [Bk_succ, Pk_pos X (k + 1) (by omega), List.append_assoc, List.singleton_append, spl_snoc _ _ (h (k + 1) hk), spl_Bk X n h k (by omega), List.range_succ (n := k + 1), List.map_append]
    rfl

/-- Lengths. -/
def totk (a : Nat) (X : Nat → List UInt8) : Nat → Nat
  | 0 => a
  | k + 1 => totk a X k + (16 + (X k).length)
theorem totk_mono (a : Nat) (X : Nat → List UInt8) (k : Nat) : ∀ n, k ≤ n → totk a X k ≤ totk a X n
  | 0, h => by
    have e : k = 0 := by omega
    subst e
    exact Nat.le_refl _
  | n + 1, h => by
    by_cases e : k = n + 1
    · subst e; exact Nat.le_refl _
    · have := totk_mono a X k n (by omega)
      simp only [totk]
      omega
theorem Bk_len (a : Nat) (X : Nat → List UInt8) : ∀ k, (Bk X k).length ≤ totk a X k ∧ (0 < k → (Bk X k).length + 16 ≤ totk a X k)
  | 0 => by simp [Bk]
  | k + 1 => by
    have := Bk_len a X k
    rw [Bk_succ]
    unfold Pk
    by_cases hk : k = 0
    · subst hk; simp [totk]; omega
    · rw [if_neg hk]; simp [totk]; omega
theorem Pk_len (a : Nat) (X : Nat → List UInt8) (k : Nat) : (Pk X k).length ≤ totk a X k := by
  have := Bk_len a X k
  unfold Pk
  by_cases hk : k = 0
  · rw [if_pos hk]; simp
  · rw [if_neg hk]; simp; omega

theorem trim_nl (l : List UInt8) : Lib.trimSuffix (l ++ [10]) [10] = l := by
  unfold Lib.trimSuffix Lib.hasSuffix
  simp
end Go.Proofs.Qxb6602347aDoor
