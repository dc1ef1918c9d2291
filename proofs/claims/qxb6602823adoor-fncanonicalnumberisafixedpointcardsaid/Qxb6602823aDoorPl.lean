import Derived.Lib.ParseIntBCases
import Derived.Lib.ItoaLen
import Derived.Lib.IndexAny
import Derived.Lib.IndexMore
import Derived.Lib.TrimByte
import Derived.Lib.IndexLaws
/-! PLAIN LAWS of JSON numbers: no Go in sight. -/
namespace Go.Proofs.Qxb6602823aDoor
open Go

/-- A decimal digit. -/
def dgt (c : UInt8) : Bool := decide (48 ≤ c.toNat ∧ c.toNat ≤ 57)

/-- What the digits spell behind 'a'. -/
def dv (a : Nat) : List UInt8 → Nat
  | [] => a
  | c :: r => dv (a * 10 + (c.toNat - 48)) r

/-- The reader's exponent: its value as far as it is kept, and whether it has passed 10^9. -/
def fe (e : Nat) (b : Bool) : List UInt8 → Nat × Bool
  | [] => (e, b)
  | c :: r => if b = true then fe e b r else fe (e * 10 + (c.toNat - 48)) (decide (1000000000 < e * 10 + (c.toNat - 48))) r

structure Num where
  neg : Bool
  ip : List UInt8
  fd : List UInt8
  ex : Option (Bool × List UInt8)

def r6 (neg : Bool) (ip fd : List UInt8) (en : Bool) (l : List UInt8) : Option Num :=
  if l.takeWhile dgt = [] then none else if l.dropWhile dgt = [] then some ⟨neg, ip, fd, some (en, l.takeWhile dgt)⟩ else none
def r5 (neg : Bool) (ip fd l : List UInt8) : Option Num :=
  match l with
  | [] => r6 neg ip fd false []
  | c :: t => if c = 43 ∨ c = 45 then r6 neg ip fd (c == 45) t else r6 neg ip fd false (c :: t)
def r4 (neg : Bool) (ip fd l : List UInt8) : Option Num :=
  match l with
  | [] => some ⟨neg, ip, fd, none⟩
  | c :: t => if c = 101 ∨ c = 69 then r5 neg ip fd t else none
def r3 (neg : Bool) (ip l : List UInt8) : Option Num :=
  match l with
  | [] => r4 neg ip [] []
  | c :: t => if c = 46 then (if t.takeWhile dgt = [] then none else r4 neg ip (t.takeWhile dgt) (t.dropWhile dgt)) else r4 neg ip [] (c :: t)
def r2 (neg : Bool) (l : List UInt8) : Option Num :=
  match l with
  | [] => none
  | c :: t => if c = 48 then r3 neg [48] t else if (c :: t).takeWhile dgt = [] then none else r3 neg ((c :: t).takeWhile dgt) ((c :: t).dropWhile dgt)
/-- zzReadNumber, read as a function. -/
def rd (l : List UInt8) : Option Num :=
  match l with
  | [] => none
  | c :: t => if c = 45 then r2 true t else r2 false (c :: t)

/-- The exponent as the reader gives it. -/
def exOf : Option (Bool × List UInt8) → Int × Bool
  | none => (0, false)
  | some (en, ed) => (if en then -((fe 0 false ed).1 : Int) else (fe 0 false ed).1, (fe 0 false ed).2)

def sigOf (x : Num) : List UInt8 := Lib.trimRightB (Lib.trimLeftB (x.ip ++ x.fd) 48) 48
def powOf (x : Num) : Int := (x.ip.length : Int) + (exOf x.ex).1 - (((x.ip ++ x.fd).length : Int) - (Lib.trimLeftB (x.ip ++ x.fd) 48).length)
def sgOf (neg : Bool) : List UInt8 := if neg then [45] else []
/-- The canonical form. -/
def canonB (l : List UInt8) (x : Num) : List UInt8 :=
  if (exOf x.ex).2 = true then 126 :: l else if sigOf x = [] then [48] else sgOf x.neg ++ [48, 46] ++ sigOf x ++ [101] ++ Lib.itoa (powOf x)

/-! ### The exponent -/
theorem dv_ge : ∀ (l : List UInt8) (a : Nat), a ≤ dv a l
  | [], _ => Nat.le_refl _
  | _ :: r, a => Nat.le_trans (by omega) (dv_ge r _)
theorem fe_big : ∀ (l : List UInt8) (e : Nat), fe e true l = (e, true)
  | [], _ => rfl
  | _ :: r, e => by rw [fe, if_pos rfl, fe_big r]
theorem fe_dv : ∀ (l : List UInt8) (e : Nat), e ≤ 1000000000 → (fe e false l).2 = decide (1000000000 < dv e l) ∧ ((fe e false l).2 = false → (fe e false l).1 = dv e l)
  | [], e, h => by
    refine ⟨?_, fun _ => rfl⟩
    show false = decide (1000000000 < e)
    rw [decide_eq_false (by omega)]
  | c :: r, e, h => by
    rw [show dv e (c :: r) = dv (e * 10 + (c.toNat - 48)) r from rfl, show fe e false (c :: r) = fe (e * 10 + (c.toNat - 48)) (decide (1000000000 < e * 10 + (c.toNat - 48))) r from rfl]
    by_cases hb : 1000000000 < e * 10 + (c.toNat - 48)
    · rw [decide_eq_true hb, fe_big]
      have := dv_ge r (e * 10 + (c.toNat - 48))
      refine ⟨(decide_eq_true (by omega)).symm, fun h => ?_⟩
      cases h
    · rw [decide_eq_false hb]
      exact fe_dv r _ (by omega)
theorem fe_le : ∀ (l : List UInt8) (e : Nat) (b : Bool), (∀ c ∈ l, dgt c = true) → (b = false → e ≤ 1000000000) → e ≤ 10000000009 → (fe e b l).1 ≤ 10000000009
  | [], _, _, _, _, h => h
  | c :: r, e, b, hd, hb, h => by
    rw [fe]
    have hc := hd c (by simp)
    simp [dgt] at hc
    split
    · exact fe_le r e b (fun x hx => hd x (by simp [hx])) hb h
    · rename_i hb'
      have := hb (by simpa using hb')
      exact fe_le r _ _ (fun x hx => hd x (by simp [hx])) (by simp) (by omega)

/-! ### The reader is sound -/
theorem take_drop (l : List UInt8) : l = l.takeWhile dgt ++ l.dropWhile dgt := List.takeWhile_append_dropWhile.symm
theorem take_all : ∀ l : List UInt8, ∀ c ∈ l.takeWhile dgt, dgt c = true
  | [], c, h => by simp at h
  | a :: t, c, h => by
    rw [List.takeWhile_cons] at h
    split at h
    · rename_i ha
      rcases List.mem_cons.1 h with rfl | h
      · exact ha
      · exact take_all t c h
    · simp at h

/-- How a number is made up. -/
structure Shape (l : List UInt8) (x : Num) (P E : List UInt8) : Prop where
  eq : l = sgOf x.neg ++ (x.ip ++ P) ++ E
  ip : ∀ c ∈ x.ip, dgt c = true
  ipne : x.ip ≠ []
  fd : ∀ c ∈ x.fd, dgt c = true
  frac : (P = [] ∧ x.fd = []) ∨ (P = 46 :: x.fd ∧ x.fd ≠ [])
  ex : (E = [] ∧ x.ex = none) ∨ ∃ c s en ed, E = c :: (s ++ ed) ∧ (c = 101 ∨ c = 69) ∧ ((s = [] ∧ en = false) ∨ (s = [43] ∧ en = false) ∨ (s = [45] ∧ en = true)) ∧ x.ex = some (en, ed) ∧ ed ≠ [] ∧ ∀ d ∈ ed, dgt d = true

theorem r6_some {neg : Bool} {ip fd : List UInt8} {en : Bool} {l : List UInt8} {x : Num} (h : r6 neg ip fd en l = some x) :
    x = ⟨neg, ip, fd, some (en, l)⟩ ∧ l ≠ [] ∧ ∀ d ∈ l, dgt d = true := by
  unfold r6 at h
  split at h
  · cases h
  · rename_i h1
    split at h
    · rename_i h2
      have e : l = l.takeWhile dgt := by conv => lhs; rw [take_drop l, h2, List.append_nil]
      have ha := take_all l
      rw [← e] at h h1 ha
      exact ⟨(Option.some.inj h).symm, h1, ha⟩
    · cases h
theorem r5_some {neg : Bool} {ip fd : List UInt8} {l : List UInt8} {x : Num} (h : r5 neg ip fd l = some x) :
    ∃ s en ed, l = s ++ ed ∧ ((s = [] ∧ en = false) ∨ (s = [43] ∧ en = false) ∨ (s = [45] ∧ en = true)) ∧ x = ⟨neg, ip, fd, some (en, ed)⟩ ∧ ed ≠ [] ∧ ∀ d ∈ ed, dgt d = true := by
  unfold r5 at h
  split at h
  · exact absurd rfl (r6_some h).2.1
  · rename_i c t
    split at h
    · rename_i hc
      have := r6_some h
      rcases hc with rfl | rfl
      · exact ⟨[43], false, t, rfl, .inr (.inl ⟨rfl, rfl⟩), this.1, this.2⟩
      · exact ⟨[45], true, t, rfl, .inr (.inr ⟨rfl, rfl⟩), this.1, this.2⟩
    · have := r6_some h
      exact ⟨[], false, c :: t, rfl, .inl ⟨rfl, rfl⟩, this.1, this.2⟩
theorem r4_some {neg : Bool} {ip fd : List UInt8} {l : List UInt8} {x : Num} (h : r4 neg ip fd l = some x) :
    x.neg = neg ∧ x.ip = ip ∧ x.fd = fd ∧ ((l = [] ∧ x.ex = none) ∨ ∃ c s en ed, l = c :: (s ++ ed) ∧ (c = 101 ∨ c = 69) ∧ ((s = [] ∧ en = false) ∨ (s = [43] ∧ en = false) ∨ (s = [45] ∧ en = true)) ∧ x.ex = some (en, ed) ∧ ed ≠ [] ∧ ∀ d ∈ ed, dgt d = true) := by
  unfold r4 at h
  split at h
  · obtain rfl := Option.some.inj h
    exact ⟨rfl, rfl, rfl, .inl ⟨rfl, rfl⟩⟩
  · rename_i c t
    split at h
    · rename_i hc
      obtain ⟨s, en, ed, e1, e2, rfl, e4⟩ := r5_some h
      exact ⟨rfl, rfl, rfl, .inr ⟨c, s, en, ed, by rw [e1], hc, e2, rfl, e4⟩⟩
    · cases h
theorem r3_some {neg : Bool} {ip : List UInt8} {l : List UInt8} {x : Num} (h : r3 neg ip l = some x) :
    x.neg = neg ∧ x.ip = ip ∧ (∀ c ∈ x.fd, dgt c = true) ∧ ∃ P E, l = P ++ E ∧ ((P = [] ∧ x.fd = []) ∨ (P = 46 :: x.fd ∧ x.fd ≠ [])) ∧ ((E = [] ∧ x.ex = none) ∨ ∃ c s en ed, E = c :: (s ++ ed) ∧ (c = 101 ∨ c = 69) ∧ ((s = [] ∧ en = false) ∨ (s = [43] ∧ en = false) ∨ (s = [45] ∧ en = true)) ∧ x.ex = some (en, ed) ∧ ed ≠ [] ∧ ∀ d ∈ ed, dgt d = true) := by
  unfold r3 at h
  split at h
  · obtain ⟨h1, h2, h3, h4⟩ := r4_some h
    exact ⟨h1, h2, by simp [h3], [], [], rfl, .inl ⟨rfl, h3⟩, h4⟩
  · rename_i c t
    split at h
    · rename_i hc
      subst hc
      split at h
      · cases h
      · rename_i hne
        obtain ⟨h1, h2, h3, h4⟩ := r4_some h
        exact ⟨h1, h2, by rw [h3]; exact take_all t, 46 :: t.takeWhile dgt, t.dropWhile dgt, by rw [List.cons_append, ← take_drop t], .inr ⟨by rw [h3], by rw [h3]; exact hne⟩, h4⟩
    · obtain ⟨h1, h2, h3, h4⟩ := r4_some h
      exact ⟨h1, h2, by simp [h3], [], c :: t, rfl, .inl ⟨rfl, h3⟩, h4⟩
theorem r2_some {neg : Bool} {l : List UInt8} {x : Num} (h : r2 neg l = some x) : ∃ P E, x.neg = neg ∧ Shape (sgOf neg ++ l) x P E := by
  unfold r2 at h
  split at h
  · cases h
  · rename_i c t
    split at h
    · rename_i hc
      subst hc
      obtain ⟨h1, h2, h3, P, E, h4, h5, h6⟩ := r3_some h
      refine ⟨P, E, h1, ?_, ?_, ?_, h3, h5, h6⟩
      · rw [h1, h2, h4]; simp
      · rw [h2]; simp [dgt]
      · rw [h2]; simp
    · split at h
      · cases h
      · rename_i hne
        obtain ⟨h1, h2, h3, P, E, h4, h5, h6⟩ := r3_some h
        refine ⟨P, E, h1, ?_, ?_, ?_, h3, h5, h6⟩
        · conv => lhs; rw [take_drop (c :: t)]
          rw [h1, h2, h4]; simp
        · rw [h2]; exact take_all _
        · rw [h2]; exact hne
theorem rd_some {l : List UInt8} {x : Num} (h : rd l = some x) : ∃ P E, Shape l x P E := by
  unfold rd at h
  split at h
  · cases h
  · rename_i c t
    split at h
    · rename_i hc
      subst hc
      obtain ⟨P, E, _, h2⟩ := r2_some h
      exact ⟨P, E, h2⟩
    · obtain ⟨P, E, _, h2⟩ := r2_some h
      exact ⟨P, E, h2⟩
end Go.Proofs.Qxb6602823aDoor
