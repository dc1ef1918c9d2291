import Derived.Test.Qxb6602718aDoorSpl
/-! PLAIN LAWS of the kubelet's paths: no Go in sight. -/
namespace Go.Proofs.Qxb6602718aDoor
open Go

def kpL : List UInt8 := [107, 117, 98, 101, 112, 111, 100, 115]
def kpdL : List UInt8 := [107, 117, 98, 101, 112, 111, 100, 115, 45]
def dkpdL : List UInt8 := [45, 107, 117, 98, 101, 112, 111, 100, 115, 45]
def sliceL : List UInt8 := [46, 115, 108, 105, 99, 101]
def podL : List UInt8 := [112, 111, 100]
def scopeL : List UInt8 := [46, 115, 99, 111, 112, 101]

/-- Not empty; lower hexadecimal digits, and '-' where d. -/
def HexD (d : Bool) (l : List UInt8) : Prop := l ≠ [] ∧ ∀ c ∈ l, (48 ≤ c.toNat ∧ c.toNat ≤ 57) ∨ (97 ≤ c.toNat ∧ c.toNat ≤ 102) ∨ (d = true ∧ c.toNat = 45)

theorem prefix_not {x p : List UInt8} (h : ¬ p <+: x) : Lib.hasPrefix x p = false := by
  unfold Lib.hasPrefix
  cases hb : p.isPrefixOf x with
  | false => rfl
  | true => exact absurd (List.isPrefixOf_iff_prefix.1 hb) h
theorem prefix_yes (p r : List UInt8) : Lib.hasPrefix (p ++ r) p = true := by
  unfold Lib.hasPrefix
  exact List.isPrefixOf_iff_prefix.2 (List.prefix_append p r)
theorem suffix_yes (a p : List UInt8) : Lib.hasSuffix (a ++ p) p = true := by
  unfold Lib.hasSuffix
  exact List.isSuffixOf_iff_suffix.2 (List.suffix_append a p)
theorem suffix_not {x p : List UInt8} (h : ¬ p <:+ x) : Lib.hasSuffix x p = false := by
  unfold Lib.hasSuffix
  cases hb : p.isSuffixOf x with
  | false => rfl
  | true => exact absurd (List.isSuffixOf_iff_suffix.1 hb) h
theorem trimSuffix_yes (a p : List UInt8) : Lib.trimSuffix (a ++ p) p = a := by
  unfold Lib.trimSuffix
  rw [suffix_yes, if_pos rfl]
  simp
theorem trimSuffix_not {x p : List UInt8} (h : ¬ p <:+ x) : Lib.trimSuffix x p = x := by
  unfold Lib.trimSuffix
  rw [suffix_not h, if_neg (by simp)]
theorem trimPrefix_yes (p r : List UInt8) : Lib.trimPrefix (p ++ r) p = r := by
  unfold Lib.trimPrefix
  rw [prefix_yes, if_pos rfl]
  simp
theorem contains_not {x p : List UInt8} (h : ¬ p <:+: x) : Lib.contains x p = false := by
  unfold Lib.contains
  rcases Lib.index_spec x p with ⟨e, _⟩ | ⟨i, e, _, ho, _⟩
  · rw [e]; rfl
  · exfalso
    apply h
    unfold Lib.occAt at ho
    exact (List.isPrefixOf_iff_prefix.1 ho).isInfix.trans (List.drop_suffix i x).isInfix

/-- A piece of a text that holds no "kubepods". -/
theorem seg_plain {x : List UInt8} (h : ¬ kpL <:+: x) : Lib.hasPrefix x kpdL = false ∧ Lib.contains x dkpdL = false ∧ x ≠ kpL := by
  refine ⟨prefix_not fun hp => h ?_, contains_not fun hp => h ?_, fun e => h ?_⟩
  · exact (show kpL <:+: kpdL from ⟨[], [45], rfl⟩).trans hp.isInfix
  · exact (show kpL <:+: dkpdL from ⟨[45], [45], rfl⟩).trans hp
  · rw [e]; exact List.infix_refl _
theorem seg_of_prefix {pfx x : List UInt8} (h : ¬ kpL <:+: pfx) (hx : x ∈ spl 47 pfx) : ¬ kpL <:+: x := fun hk => h (hk.trans (spl_infix 47 pfx x hx))

/-- A text without 'k' holds no "kubepods". -/
theorem no_k {x : List UInt8} (h : (107 : UInt8) ∉ x) : ¬ kpL <:+: x := fun hk => h (hk.subset (by simp [kpL]))
theorem hex_no {d : Bool} {l : List UInt8} (h : HexD d l) (c : UInt8) (h1 : ¬ (48 ≤ c.toNat ∧ c.toNat ≤ 57)) (h2 : ¬ (97 ≤ c.toNat ∧ c.toNat ≤ 102)) (h3 : ¬ (d = true ∧ c.toNat = 45)) : c ∉ l := fun hm => by
  rcases h.2 c hm with h | h | h
  · exact h1 h
  · exact h2 h
  · exact h3 h

theorem get_of (s : ByteArray) (l : List UInt8) (h : s.data.toList = l) (j : Nat) (hj : j < l.length) : s.data[j]! = l[j] := by
  subst h
  have hj' : j < s.data.size := by rw [Array.length_toList] at hj; exact hj
  rw [getElem!_pos s.data j hj', Array.getElem_toList]

/-- What stands behind the last '-'. -/
theorem last_drop (s : ByteArray) (a b : List UInt8) (h : s.data.toList = a ++ b) (hb : (45 : UInt8) ∉ b) (ha : a = [] ∨ ∃ a', a = a' ++ [45]) : Lib.lastIndexByte s 45 = (a.length : Int) - 1 := by
  have hs : s.size = a.length + b.length := by rw [Lib.size_eq, h, List.length_append]
  have hbn : ∀ j, a.length ≤ j → j < s.size → ((s.data[j]!).toNat : Int) ≠ 45 := fun j h1 h2 e => by
    rw [get_of s _ h j (by rw [List.length_append]; omega), List.getElem_append_right h1] at e
    apply hb
    have hm := List.getElem_mem (l := b) (n := j - a.length) (by omega)
    have e2 : b[j - a.length]'(by omega) = 45 := UInt8.toNat_inj.1 (by simpa using (by omega : (b[j - a.length]'(by omega)).toNat = 45))
    rw [e2] at hm
    exact hm
  have hat : a ≠ [] → ((s.data[a.length - 1]!).toNat : Int) = 45 := fun hne => by
    rcases ha with ha | ⟨a', ha⟩
    · exact absurd ha hne
    · have hl : a.length - 1 < (a ++ b).length := by rw [ha]; simp
      rw [get_of s _ h _ hl]
      subst ha
      simp
  rcases Lib.lastIndexByte_spec s 45 with ⟨e, hn⟩ | ⟨i, hi, e, he, hn⟩
  · rw [e]
    by_cases hne : a = []
    · subst hne; simp
    · exfalso
      have hp : 0 < a.length := List.length_pos_iff.2 hne
      exact hn (a.length - 1) (by omega) (hat hne)
  · rw [e]
    have h1 : i < a.length := by
      apply Classical.byContradiction
      intro hge
      exact hbn i (by omega) hi he
    have hne : a ≠ [] := by intro e'; rw [e'] at h1; simp at h1
    have h2 : ¬ i < a.length - 1 := fun hlt => hn (a.length - 1) hlt (by omega) (hat hne)
    omega
end Go.Proofs.Qxb6602718aDoor
