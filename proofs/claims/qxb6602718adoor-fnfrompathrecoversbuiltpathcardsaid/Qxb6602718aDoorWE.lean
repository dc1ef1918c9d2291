import Derived.Test.Qxb6602718aDoorWD
namespace Go.Proofs.Qxb6602718aDoor
open Go.RowKit Go Go.PlainAid

/-! ### THE PLAIN LAW: the segments of a built path -/
theorem spl_J : ∀ (segs : List (List UInt8)) (pfx : List UInt8), (∀ x ∈ segs, (47 : UInt8) ∉ x) → spl 47 (J pfx segs) = spl 47 pfx ++ segs
  | [], pfx, _ => by simp [J]
  | x :: r, pfx, h => by
    have e : J pfx (x :: r) = J (pfx ++ 47 :: x) r := by simp [J]
    rw [e, spl_J r _ (fun y hy => h y (by simp [hy])), spl_join, spl_clean 47 x (h x (by simp)), List.append_assoc]
    rfl

def tailSegs (tail : List UInt8) : List (List UInt8) := if tail = [] then [] else spl 47 tail

theorem spl_path (pfx tail : List UInt8) (segs : List (List UInt8)) (h : ∀ x ∈ segs, (47 : UInt8) ∉ x) : spl 47 (J pfx segs ++ tailOf tail) = spl 47 pfx ++ segs ++ tailSegs tail := by
  unfold tailOf tailSegs
  by_cases ht : tail = []
  · rw [if_pos ht, if_pos ht, List.append_nil, List.append_nil, spl_J segs pfx h]
  · rw [if_neg ht, if_neg ht, spl_join, spl_J segs pfx h]

theorem q_clean {q : List UInt8} (h : IsQ q) (c : UInt8) (h1 : c ∉ burL) (h2 : c ∉ besL) : c ∉ q := by
  rcases h with rfl | rfl | rfl
  · simp
  · exact h1
  · exact h2
theorem r_clean {r : List UInt8} (h : IsR r) : (47 : UInt8) ∉ r ∧ (46 : UInt8) ∉ r ∧ (r = [] ∨ ∃ a, r = a ++ [45]) ∧ r.length ≤ 15 := by
  rcases h with rfl | rfl | rfl | rfl
  · exact ⟨by decide, by decide, Or.inl rfl, by decide⟩
  · exact ⟨by decide, by decide, Or.inr ⟨[99, 114, 105, 45, 99, 111, 110, 116, 97, 105, 110, 101, 114, 100], rfl⟩, by decide⟩
  · exact ⟨by decide, by decide, Or.inr ⟨[99, 114, 105, 111], rfl⟩, by decide⟩
  · exact ⟨by decide, by decide, Or.inr ⟨[100, 111, 99, 107, 101, 114], rfl⟩, by decide⟩

theorem sw_mem {l : List UInt8} {c : UInt8} (h : c ∈ l.map sw) : c = 95 ∨ (c ≠ 45 ∧ c ∈ l) := by
  obtain ⟨x, hx, e⟩ := List.mem_map.1 h
  unfold sw at e
  by_cases hc : x = 45
  · rw [if_pos hc] at e; exact Or.inl e.symm
  · rw [if_neg hc] at e; subst e; exact Or.inr ⟨hc, hx⟩

theorem segs_clean (sysd : Bool) (q rt uid id : List UInt8) (hq : IsQ q) (hr : IsR rt) (hu : HexD true uid) (hi : HexD false id) : ∀ x ∈ segsOf sysd q rt uid id, (47 : UInt8) ∉ x := by
  have u47 : (47 : UInt8) ∉ uid := hex_no hu 47 (by decide) (by decide) (by decide)
  have i47 : (47 : UInt8) ∉ id := hex_no hi 47 (by decide) (by decide) (by decide)
  have q47 : (47 : UInt8) ∉ q := q_clean hq 47 (by decide) (by decide)
  have r47 := (r_clean hr).1
  have s47 : (47 : UInt8) ∉ uid.map sw := fun h => by
    rcases sw_mem h with h | h
    · cases h
    · exact u47 h.2
  have qq : (47 : UInt8) ∉ (if q = [] then [] else q ++ [45] : List UInt8) := by
    split
    · simp
    · simp [q47]
  intro x hx
  unfold segsOf at hx
  cases sysd with
  | true =>
    simp only [if_true, List.mem_append, List.mem_cons, List.mem_nil_iff, or_false] at hx
    rcases hx with (rfl | hx) | rfl | rfl
    · decide
    · split at hx
      · simp at hx
      · simp only [List.mem_cons, List.mem_nil_iff, or_false] at hx
        subst hx
        simp only [List.mem_append, not_or]
        exact ⟨by decide, q47, by decide⟩
    · simp only [List.mem_append, not_or]
      exact ⟨by decide, qq, by decide, s47, by decide⟩
    · simp only [List.mem_append, not_or]
      exact ⟨r47, i47, by decide⟩
  | false =>
    simp only [Bool.false_eq_true, if_false, List.mem_append, List.mem_cons, List.mem_nil_iff, or_false] at hx
    rcases hx with (rfl | hx) | rfl | rfl
    · decide
    · split at hx
      · simp at hx
      · simp only [List.mem_cons, List.mem_nil_iff, or_false] at hx
        subst hx
        exact q47
    · simp only [List.mem_append, not_or]
      exact ⟨by decide, u47⟩
    · simp only [List.mem_append, not_or]
      exact ⟨r47, i47⟩

theorem getD_left {A B : List (List UInt8)} {k : Nat} (h : k < A.length) : (A ++ B).getD k [] = A.getD k [] := by
  simp [List.getD_eq_getElem?_getD, List.getElem?_append_left h]
theorem getD_right {A B : List (List UInt8)} (j : Nat) : (A ++ B).getD (A.length + j) [] = B.getD j [] := by
  simp [List.getD_eq_getElem?_getD, List.getElem?_append_right]
theorem getD_mem {A : List (List UInt8)} {k : Nat} (h : k < A.length) : A.getD k [] ∈ A := by
  rw [List.getD_eq_getElem?_getD, List.getElem?_eq_getElem h]
  exact List.getElem_mem h

/-- Where the pod's segment stands. -/
def off (q : List UInt8) : Nat := if q = [] then 1 else 2
def Uk (sysd : Bool) (P k : Nat) : Bool := if sysd then false else decide (P < k)

theorem segs_len (sysd : Bool) (q rt uid id : List UInt8) : (segsOf sysd q rt uid id).length = off q + 2 := by
  unfold segsOf off
  cases sysd <;> by_cases h : q = [] <;> simp [h]

theorem replace_swap {uid : List UInt8} (h : HexD true uid) : Lib.replaceAll (uid.map sw) [95] [45] = uid := by
  rw [replaceAll_map 95 45 (by decide), List.map_map]
  have : uid.map ((fun x : UInt8 => if x = 95 then 45 else x) ∘ sw) = uid.map id := List.map_congr_left fun x hx => by
    have h95 : x ≠ 95 := fun e => hex_no h 95 (by decide) (by decide) (by decide) (e ▸ hx)
    show (if sw x = 95 then (45 : UInt8) else sw x) = x
    by_cases hc : x = 45
    · have e : sw x = 95 := by unfold sw; exact if_pos hc
      rw [if_pos e, hc]
    · have e : sw x = x := by unfold sw; exact if_neg hc
      rw [e, if_neg h95]
  rw [this, List.map_id]

theorem no45_swap {uid : List UInt8} : (45 : UInt8) ∉ podL ++ uid.map sw := by
  simp only [List.mem_append, not_or]
  refine ⟨by decide, fun h => ?_⟩
  rcases sw_mem h with h | h
  · cases h
  · exact h.1 rfl

theorem skip_at (sysd : Bool) (pfx q rt uid id : List UInt8) (T : List (List UInt8)) (hp : ¬ kpL <:+: pfx) (hq : IsQ q) (s : ByteArray) (k : Nat) (hk : k < (spl 47 pfx).length + off q)
    (hs : s.data.toList = (spl 47 pfx ++ (segsOf sysd q rt uid id ++ T)).getD k []) : Skip s (Uk sysd (spl 47 pfx).length k) (Uk sysd (spl 47 pfx).length (k + 1)) := by
  by_cases h1 : k < (spl 47 pfx).length
  · rw [getD_left h1] at hs
    have hpl := seg_plain (seg_of_prefix hp (by rw [hs]; exact getD_mem h1) : ¬ kpL <:+: s.data.toList)
    have e1 : Uk sysd (spl 47 pfx).length k = false := by cases sysd <;> simp [Uk]; omega
    have e2 : Uk sysd (spl 47 pfx).length (k + 1) = false := by cases sysd <;> simp [Uk]; omega
    rw [e1, e2]
    exact Or.inl ⟨hpl.1, hpl.2.1, Or.inr ⟨hpl.2.2, rfl, Or.inl rfl⟩⟩
  obtain ⟨j, rfl⟩ : ∃ j, k = (spl 47 pfx).length + j := ⟨k - (spl 47 pfx).length, by omega⟩
  rw [getD_right, getD_left (by rw [segs_len]; omega)] at hs
  match j, hk, hs with
  | 0, _, hs =>
    cases sysd with
    | true =>
      have e : s.data.toList = kpsL := by rw [hs]; simp [segsOf]
      unfold Skip
      rw [e]
      exact Or.inl ⟨by decide, by decide, Or.inr ⟨by decide, rfl, Or.inl rfl⟩⟩
    | false =>
      have e : s.data.toList = kpL := by rw [hs]; simp [segsOf]
      unfold Skip
      rw [e]
      exact Or.inl ⟨by decide, by decide, Or.inl ⟨rfl, by simp [Uk]⟩⟩
  | 1, hk, hs =>
    have hq0 : q ≠ [] := fun e => by rw [e] at hk; simp [off] at hk
    have hpd : Lib.hasPrefix q podL = false := by rcases hq with h | h | h; exact absurd h hq0; rw [h]; decide; rw [h]; decide
    cases sysd with
    | true =>
      have e : s.data.toList = kpdL ++ (q ++ sliceL) := by rw [hs]; simp [segsOf, hq0]
      refine Or.inr ⟨by rw [e]; exact prefix_yes _ _, by rw [e, ← List.append_assoc]; exact suffix_yes _ _, ⟨kpdL, q, ⟨by rw [e, ← List.append_assoc]; exact trimSuffix_yes _ _, q_clean hq 45 (by decide) (by decide), Or.inr ⟨kpL, rfl⟩⟩, hpd⟩, rfl⟩
    | false =>
      have e : s.data.toList = q := by rw [hs]; simp [segsOf, hq0]
      have hpl := seg_plain (no_k (q_clean hq 107 (by decide) (by decide)))
      unfold Skip
      rw [e]
      exact Or.inl ⟨hpl.1, hpl.2.1, Or.inr ⟨hpl.2.2, by unfold Uk; simp only [Bool.false_eq_true, if_false]; rw [decide_eq_true (by omega), decide_eq_true (by omega)], Or.inr hpd⟩⟩
  | j + 2, hk, _ =>
    exfalso
    unfold off at hk
    split at hk <;> omega

theorem pod_at (sysd : Bool) (pfx q rt uid id : List UInt8) (T : List (List UInt8)) (hu : HexD true uid) (s : ByteArray)
    (hs : s.data.toList = (spl 47 pfx ++ (segsOf sysd q rt uid id ++ T)).getD ((spl 47 pfx).length + off q) []) : Pod s (Uk sysd (spl 47 pfx).length ((spl 47 pfx).length + off q)) uid := by
  rw [getD_right, getD_left (by rw [segs_len]; omega)] at hs
  cases sysd with
  | true =>
    have e : s.data.toList = kpdL ++ ((if q = [] then [] else q ++ [45]) ++ (podL ++ (uid.map sw ++ sliceL))) := by
      rw [hs]
      by_cases h : q = [] <;> simp [segsOf, off, h]
    have e2 : s.data.toList = ((kpdL ++ (if q = [] then [] else q ++ [45])) ++ (podL ++ uid.map sw)) ++ sliceL := by rw [e]; simp
    refine Or.inr ⟨by rw [e]; exact prefix_yes _ _, by rw [e2]; exact suffix_yes _ _, kpdL ++ (if q = [] then [] else q ++ [45]), uid.map sw, ⟨by rw [e2]; exact trimSuffix_yes _ _, no45_swap, Or.inr ?_⟩, replace_swap hu⟩
    by_cases h : q = []
    · exact ⟨kpL, by simp [h]; rfl⟩
    · exact ⟨kpdL ++ q, by simp [h]⟩
  | false =>
    have e : s.data.toList = podL ++ uid := by
      rw [hs]
      by_cases h : q = [] <;> simp [segsOf, off, h]
    have hk : (107 : UInt8) ∉ podL ++ uid := by
      simp only [List.mem_append, not_or]
      exact ⟨by decide, hex_no hu 107 (by decide) (by decide) (by decide)⟩
    have hpl := seg_plain (no_k hk)
    unfold Pod
    rw [e]
    exact Or.inl ⟨hpl.1, hpl.2.1, hpl.2.2, by simp [Uk, off]; split <;> omega, rfl⟩

theorem cont_at (sysd : Bool) (pfx q rt uid id : List UInt8) (T : List (List UInt8)) (hr : IsR rt) (hi : HexD false id) (s : ByteArray)
    (hs : s.data.toList = (spl 47 pfx ++ (segsOf sysd q rt uid id ++ T)).getD ((spl 47 pfx).length + off q + 1) []) : Lib.trimSuffix s.data.toList scopeL = rt ++ id ∧ s.size ≤ rt.length + id.length + 6 := by
  rw [Nat.add_assoc, getD_right, getD_left (by rw [segs_len]; omega)] at hs
  rw [Lib.size_eq]
  cases sysd with
  | true =>
    have e : s.data.toList = (rt ++ id) ++ scopeL := by
      rw [hs]
      by_cases h : q = [] <;> simp [segsOf, off, h]
    rw [e]
    exact ⟨trimSuffix_yes _ _, by simp [scopeL]; omega⟩
  | false =>
    have e : s.data.toList = rt ++ id := by
      rw [hs]
      by_cases h : q = [] <;> simp [segsOf, off, h]
    rw [e]
    refine ⟨trimSuffix_not fun h => ?_, by simp⟩
    have hm : (46 : UInt8) ∈ rt ++ id := h.subset (by decide)
    rcases List.mem_append.1 hm with hm | hm
    · exact (r_clean hr).2.1 hm
    · exact hex_no hi 46 (by decide) (by decide) (by decide) hm
end Go.Proofs.Qxb6602718aDoor
