import Derived.Test.Qxb6602823aDoorPl
/-! PLAIN LAWS of the canonical form's steps: no Go in sight. -/
namespace Go.Proofs.Qxb6602823aDoor
open Go

theorem dgt_iff {c : UInt8} : dgt c = true ↔ 48 ≤ c.toNat ∧ c.toNat ≤ 57 := by simp [dgt]

/-! ### ParseInt over digits -/
theorem parseM (M : Nat) (hM : M = 18446744073709551615) : ∀ (l : List UInt8) (a : Nat), a ≤ M → (∀ c ∈ l, dgt c = true) → Lib.parseUintM M a l = if dv a l ≤ M then .ok (dv a l) else .range
  | [], a, ha, _ => by
    show Lib.NumEnd.ok a = if a ≤ M then Lib.NumEnd.ok a else .range
    rw [if_pos ha]
  | c :: r, a, ha, hd => by
    have hc := dgt_iff.1 (hd c (by simp))
    have hr : ∀ x ∈ r, dgt x = true := fun x hx => hd x (by simp [hx])
    rw [Lib.parseUintM, if_pos hc, show dv a (c :: r) = dv (a * 10 + (c.toNat - 48)) r from rfl]
    have hg := dv_ge r (a * 10 + (c.toNat - 48))
    by_cases h1 : 1844674407370955162 ≤ a
    · rw [if_pos h1, if_neg (by omega)]
    · rw [if_neg h1]
      by_cases h2 : M < a * 10 + (c.toNat - 48)
      · rw [if_pos h2, if_neg (by omega)]
      · rw [if_neg h2]
        exact parseM M hM r _ (by omega) hr
theorem parseB (l : List UInt8) (hne : l ≠ []) (hd : ∀ c ∈ l, dgt c = true) : Lib.parseUintB 64 l = if dv 0 l ≤ 18446744073709551615 then .ok (dv 0 l) else .range := by
  rw [Lib.parseUintB, if_neg hne]
  exact parseM _ rfl l 0 (by omega) hd

def signP (s : List UInt8) (en : Bool) : Prop := (s = [] ∧ en = false) ∨ (s = [43] ∧ en = false) ∨ (s = [45] ∧ en = true)

theorem parseI (s ed : List UInt8) (en : Bool) (hs : signP s en) (hne : ed ≠ []) (hd : ∀ c ∈ ed, dgt c = true) :
    (dv 0 ed ≤ 1000000000 → Lib.parseIntB 64 (s ++ ed) = .ok (if en = true then -(dv 0 ed : Int) else (dv 0 ed : Int))) ∧
    (1000000000 < dv 0 ed → Lib.parseIntB 64 (s ++ ed) = .range ∨ ∃ v : Int, Lib.parseIntB 64 (s ++ ed) = .ok v ∧ (1000000000 < v ∨ v < -1000000000)) := by
  have hp := parseB ed hne hd
  have less : (dv 0 ed ≤ 1000000000 → Lib.signlessC (2 ^ (64 - 1)) (Lib.parseUintB 64 ed) = .ok (dv 0 ed : Int)) ∧
      (1000000000 < dv 0 ed → Lib.signlessC (2 ^ (64 - 1)) (Lib.parseUintB 64 ed) = .range ∨ ∃ v : Int, Lib.signlessC (2 ^ (64 - 1)) (Lib.parseUintB 64 ed) = .ok v ∧ (1000000000 < v ∨ v < -1000000000)) := by
    rw [hp]
    refine ⟨fun h => ?_, fun h => ?_⟩
    · rw [if_pos (by omega), Lib.signlessC, if_neg (by omega)]
    · split
      · rw [Lib.signlessC]
        split
        · exact .inl rfl
        · exact .inr ⟨_, rfl, .inl (by omega)⟩
      · exact .inl rfl
  rcases hs with ⟨rfl, rfl⟩ | ⟨rfl, rfl⟩ | ⟨rfl, rfl⟩
  · obtain ⟨c, r, rfl⟩ : ∃ c r, ed = c :: r := by
      cases ed with
      | nil => exact absurd rfl hne
      | cons c r => exact ⟨c, r, rfl⟩
    have hc := dgt_iff.1 (hd c (by simp))
    rw [List.nil_append, Lib.parseIntB_plain 64 c r (by omega) (by omega)]
    exact less
  · rw [show ([43] : List UInt8) ++ ed = 43 :: ed from rfl, Lib.parseIntB_plus]
    exact less
  · rw [show ([45] : List UInt8) ++ ed = 45 :: ed from rfl, Lib.parseIntB_minus, hp]
    refine ⟨fun h => ?_, fun h => ?_⟩
    · rw [if_pos (by omega), Lib.signedC, if_neg (by omega), if_pos rfl]
    · split
      · rw [Lib.signedC]
        split
        · exact .inl rfl
        · exact .inr ⟨_, rfl, .inr (by omega)⟩
      · exact .inl rfl

/-- The exponent's text: "0" where there is none. -/
def expT (E : List UInt8) : List UInt8 := match E with
  | [] => [48]
  | _ :: t => t

theorem parse_ex {l : List UInt8} {x : Num} {P E : List UInt8} (h : Shape l x P E) :
    ((exOf x.ex).2 = false → Lib.parseIntB 64 (expT E) = .ok (exOf x.ex).1 ∧ -1000000000 ≤ (exOf x.ex).1 ∧ (exOf x.ex).1 ≤ 1000000000) ∧
    ((exOf x.ex).2 = true → Lib.parseIntB 64 (expT E) = .range ∨ ∃ v : Int, Lib.parseIntB 64 (expT E) = .ok v ∧ (1000000000 < v ∨ v < -1000000000)) := by
  rcases h.ex with ⟨rfl, h2⟩ | ⟨c, s, en, ed, rfl, _, hs, h2, hne, hd⟩
  · rw [h2]
    refine ⟨fun _ => ⟨?_, by decide, by decide⟩, fun h => by cases h⟩
    have := (parseI [] [48] false (.inl ⟨rfl, rfl⟩) (by decide) (by decide)).1 (by decide)
    exact this
  · rw [h2]
    have hp := parseI s ed en hs hne hd
    have hf := fe_dv ed 0 (by omega)
    refine ⟨fun h => ?_, fun h => ?_⟩
    · have h1 := hf.2 h
      have h3 : dv 0 ed ≤ 1000000000 := by
        have := hf.1
        rw [show (fe 0 false ed).2 = false from h] at this
        exact Nat.le_of_not_lt (of_decide_eq_false this.symm)
      refine ⟨?_, ?_, ?_⟩
      · show Lib.parseIntB 64 (s ++ ed) = .ok (if en = true then -((fe 0 false ed).1 : Int) else (fe 0 false ed).1)
        rw [h1]
        exact hp.1 h3
      · show -1000000000 ≤ (if en = true then -((fe 0 false ed).1 : Int) else (fe 0 false ed).1)
        rw [h1]; split <;> omega
      · show (if en = true then -((fe 0 false ed).1 : Int) else (fe 0 false ed).1) ≤ 1000000000
        rw [h1]; split <;> omega
    · have h3 : 1000000000 < dv 0 ed := by
        have := hf.1
        rw [show (fe 0 false ed).2 = true from h] at this
        exact of_decide_eq_true this.symm
      exact hp.2 h3

/-! ### The mantissa -/
def mant (x : Num) (P : List UInt8) : List UInt8 := sgOf x.neg ++ (x.ip ++ P)

theorem mant_mem {l : List UInt8} {x : Num} {P E : List UInt8} (h : Shape l x P E) {c : UInt8} (hc : c ∈ mant x P) : c.toNat < 64 := by
  rcases List.mem_append.1 hc with hc | hc
  · unfold sgOf at hc
    split at hc
    · rw [List.mem_singleton] at hc; subst hc; decide
    · cases hc
  · rcases List.mem_append.1 hc with hc | hc
    · have := dgt_iff.1 (h.ip c hc); omega
    · rcases h.frac with ⟨rfl, _⟩ | ⟨rfl, _⟩
      · cases hc
      · rcases List.mem_cons.1 hc with rfl | hc
        · decide
        · have := dgt_iff.1 (h.fd c hc); omega
theorem exp_mem {l : List UInt8} {x : Num} {P E : List UInt8} (h : Shape l x P E) {c : UInt8} (hc : c ∈ E) : c.toNat < 128 := by
  rcases h.ex with ⟨rfl, _⟩ | ⟨d, s, en, ed, rfl, hd, hs, _, _, hde⟩
  · cases hc
  · rcases List.mem_cons.1 hc with rfl | hc
    · rcases hd with rfl | rfl <;> decide
    · rcases List.mem_append.1 hc with hc | hc
      · rcases hs with ⟨rfl, _⟩ | ⟨rfl, _⟩ | ⟨rfl, _⟩
        · cases hc
        · rw [List.mem_singleton] at hc; subst hc; decide
        · rw [List.mem_singleton] at hc; subst hc; decide
      · have := dgt_iff.1 (hde c hc); omega
theorem ascii {l : List UInt8} {x : Num} {P E : List UInt8} (h : Shape l x P E) (j : Nat) (b : UInt8) (hb : l[j]? = some b) : b.toNat < 128 := by
  have hm : b ∈ l := List.mem_of_getElem? hb
  rw [h.eq] at hm
  rcases List.mem_append.1 hm with hm | hm
  · have := mant_mem h hm; omega
  · exact exp_mem h hm
theorem noAny {l : List UInt8} {x : Num} {P E : List UInt8} (h : Shape l x P E) : Lib.NoAny l [101, 69] (mant x P).length := fun j b hj hb => by
  rw [h.eq] at hb
  change (mant x P ++ E)[j]? = some b at hb
  rw [List.getElem?_append_left hj] at hb
  have := mant_mem h (List.mem_of_getElem? hb)
  have n1 : b ≠ 101 := fun e => by subst e; simp at this
  have n2 : b ≠ 69 := fun e => by subst e; simp at this
  simp [n1, n2]
theorem idx_none {l : List UInt8} {x : Num} {P : List UInt8} (h : Shape l x P []) : Lib.indexAny l [101, 69] = -1 := by
  refine Lib.indexAny_none ?_
  have := noAny h
  have e : (mant x P).length = l.length := by rw [h.eq, List.append_nil]; rfl
  rwa [e] at this
theorem idx_some {l : List UInt8} {x : Num} {P : List UInt8} {c : UInt8} {t : List UInt8} (h : Shape l x P (c :: t)) : Lib.indexAny l [101, 69] = ((mant x P).length : Int) := by
  refine Lib.indexAny_hit (x := c) (noAny h) ?_ ?_
  · conv => lhs; rw [h.eq]
    show (mant x P ++ c :: t)[(mant x P).length]? = _
    rw [List.getElem?_append_right (Nat.le_refl _), Nat.sub_self]
    rfl
  · rcases h.ex with ⟨h1, _⟩ | ⟨d, s, en, ed, h1, hd, _⟩
    · cases h1
    · injection h1 with h1 _
      subst h1
      rcases hd with rfl | rfl <;> decide
theorem pre_mant {l : List UInt8} {x : Num} {P E : List UInt8} (h : Shape l x P E) : Lib.hasPrefix (mant x P) [45] = x.neg ∧ Lib.trimPrefix (mant x P) [45] = x.ip ++ P := by
  have hp : Lib.hasPrefix (mant x P) [45] = x.neg := by
    unfold mant sgOf Lib.hasPrefix
    cases hn : x.neg with
    | true => rfl
    | false =>
      obtain ⟨c, r, hc⟩ : ∃ c r, x.ip = c :: r := by
        cases hx : x.ip with
        | nil => exact absurd hx h.ipne
        | cons c r => exact ⟨c, r, rfl⟩
      have := dgt_iff.1 (h.ip c (by rw [hc]; simp))
      rw [hc]
      show ((45 == c) && _) = false
      rw [beq_eq_false_iff_ne.2 (fun e => by subst e; simp at this)]
      rfl
  refine ⟨hp, ?_⟩
  unfold Lib.trimPrefix
  rw [hp]
  unfold mant sgOf
  cases x.neg <;> rfl
theorem cut_mant {l : List UInt8} {x : Num} {P E : List UInt8} (h : Shape l x P E) : (Lib.cut (x.ip ++ P) [46]).1 = x.ip ∧ (Lib.cut (x.ip ++ P) [46]).2.1 = x.fd := by
  have hno : ∀ j, j < x.ip.length → Lib.occAt (x.ip ++ P) [46] j = false := fun j hj => by
    unfold Lib.occAt
    rw [List.drop_append_of_le_length (by omega), List.drop_eq_getElem_cons hj]
    have := dgt_iff.1 (h.ip _ (List.getElem_mem hj))
    show ((46 == x.ip[j]) && _) = false
    rw [beq_eq_false_iff_ne.2 (fun e => by rw [← e] at this; simp at this)]
    rfl
  rcases h.frac with ⟨rfl, h2⟩ | ⟨rfl, _⟩
  · rw [List.append_nil] at hno ⊢
    have e : Lib.index x.ip [46] = -1 := by
      rcases Lib.index_spec x.ip [46] with ⟨e, _⟩ | ⟨i, _, h2, h3, _⟩
      · exact e
      · by_cases hi : i < x.ip.length
        · rw [hno i hi] at h3; cases h3
        · have : i = x.ip.length := by omega
          subst this
          simp [Lib.occAt] at h3
    unfold Lib.cut
    rw [e, if_neg (by omega), h2]
    exact ⟨rfl, rfl⟩
  · have e : Lib.index (x.ip ++ 46 :: x.fd) [46] = (x.ip.length : Int) := by
      rcases Lib.index_spec (x.ip ++ 46 :: x.fd) [46] with ⟨_, h2⟩ | ⟨i, e, h2, h3, h4⟩
      · have := h2 x.ip.length (by simp)
        simp [Lib.occAt] at this
      · have h5 : ¬ i < x.ip.length := fun hi => by rw [hno i hi] at h3; cases h3
        have h6 : ¬ x.ip.length < i := fun hi => by
          have := h4 x.ip.length hi
          simp [Lib.occAt] at this
        rw [e]; omega
    unfold Lib.cut
    rw [e, if_pos (by omega)]
    simp
end Go.Proofs.Qxb6602823aDoor
