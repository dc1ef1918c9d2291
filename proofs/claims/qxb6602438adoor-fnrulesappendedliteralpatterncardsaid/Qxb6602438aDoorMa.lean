import Derived.Test.Qxb6602438aDoorMe
import Derived.Lib.SplitLaws
import Derived.Lib.LastIndexByte
namespace Go.Proofs.Qxb6602438aDoor
open Go.RowKit Go Go.PlainAid

def nameOf (p : ByteArray) : ByteArray := p.extract (Lib.lastIndexByte p 47 + 1).toNat p.size
def elsOf (p : ByteArray) : List ByteArray := Lib.splitB ⟨#[47]⟩ 0 (Lib.countB p ⟨#[47]⟩) p
def cntOf (p : ByteArray) : Int := (Lib.countByte p.data.toList 47 : Int) + 1
/-- The first test, the second test. -/
def t1 (q : PPat) (dir : Bool) : Bool := q.dO && !dir
def t2 (q : PPat) (n : Int) : Bool := decide (n < q.el) || (!q.sp && (n != q.el))
def skipP (q : PPat) (p : ByteArray) (dir : Bool) : Bool := t1 q dir || (q.an && t2 q (cntOf p))
def matchP (q : PPat) (p : ByteArray) : Bool := if q.an = true then elemsB q.segs (elsOf p) else (match q.segs with
  | [] => false
  | sg :: _ => segM sg (nameOf p))
def okP (q : PPat) : Prop := (q.an = false → q.segs ≠ []) ∧ ∀ sg ∈ q.segs, okS sg

/-- How the patterns, the last first, come to their answer. -/
inductive Ev (p : ByteArray) (dir : Bool) : List PPat → Bool → Prop
  | nil : Ev p dir [] false
  | skip {q : PPat} {l : List PPat} {r : Bool} : skipP q p dir = true → Ev p dir l r → Ev p dir (q :: l) r
  | hit {q : PPat} {l : List PPat} : skipP q p dir = false → okP q → matchP q p = true → Ev p dir (q :: l) (!q.ng)
  | miss {q : PPat} {l : List PPat} {r : Bool} : skipP q p dir = false → okP q → matchP q p = false → Ev p dir l r → Ev p dir (q :: l) r

theorem Ev.inv_nil {p : ByteArray} {dir r : Bool} (h : Ev p dir [] r) : r = false := by cases h; rfl
theorem Ev.inv {p : ByteArray} {dir : Bool} {q : PPat} {l : List PPat} {r : Bool} (h : Ev p dir (q :: l) r) :
    (skipP q p dir = true ∧ Ev p dir l r) ∨ (skipP q p dir = false ∧ okP q ∧ (matchP q p = true → r = !q.ng) ∧ (matchP q p = false → Ev p dir l r)) := by
  cases h with
  | skip h1 h2 => exact .inl ⟨h1, h2⟩
  | hit h1 h2 h3 => exact .inr ⟨h1, h2, fun _ => rfl, fun h => by rw [h3] at h; cases h⟩
  | miss h1 h2 h3 h4 => exact .inr ⟨h1, h2, (fun h => by rw [h3] at h; cases h), fun _ => h4⟩
theorem Ev.all {p : ByteArray} {dir : Bool} : ∀ (l : List PPat), (∀ q ∈ l, okP q) → ∃ r, Ev p dir l r
  | [], _ => ⟨false, .nil⟩
  | q :: l, h => by
    obtain ⟨r, hr⟩ := Ev.all l fun x hx => h x (by simp [hx])
    cases h1 : skipP q p dir with
    | true => exact ⟨r, .skip h1 hr⟩
    | false =>
      cases h2 : matchP q p with
      | true => exact ⟨_, .hit h1 (h q (by simp)) h2⟩
      | false => exact ⟨r, .miss h1 (h q (by simp)) h2 hr⟩

theorem split_small : ∀ (k : Nat) (s : ByteArray), ∀ x ∈ Lib.splitB ⟨#[47]⟩ 0 k s, x.size ≤ s.size
  | 0, s, x, h => by
    rw [Lib.splitB_zero] at h
    rw [List.mem_singleton] at h
    subst h; exact Nat.le_refl _
  | k + 1, s, x, h => by
    unfold Lib.splitB at h
    split at h
    · rw [List.mem_singleton] at h
      subst h; exact Nat.le_refl _
    · rcases List.mem_cons.1 h with rfl | h
      · rw [ByteArray.size_extract]; omega
      · have := split_small k _ x h
        rw [ByteArray.size_extract] at this
        omega

/-- The path's elements: not yet split, or in a block of the call's own. -/
def ElsV (p : ByteArray) (w : World) (v : Value) : Prop := v = .slice none 0 0 ∨ ∃ eb, v = .slice (some ⟨eb, 0, none⟩) (elsOf p).length (elsOf p).length ∧ eb < w.heap.size ∧ ∀ j x, (elsOf p)[j]? = some x → w.cell? ⟨eb, 0 + j, none⟩ = some (.string x)
theorem ElsV.keep {p : ByteArray} {w w' : World} {v : Value} (hb : Below w.heap.size w w') (h : ElsV p w v) : ElsV p w' v := by
  refine h.imp id ?_
  rintro ⟨eb, h1, h2, h3⟩
  exact ⟨eb, h1, Nat.lt_of_lt_of_le h2 hb.size, fun j x hx => below_cell hb (h3 j x hx)⟩

theorem empty20 (R n : Nat) (a : Option Addr) (cap : Nat) (w : World) (h : w.cell? ⟨R, 0, none⟩ = some (.slice a n cap)) (b : Bool) (hb : b = decide (n = 0)) :
    Calls Tryd.prog 20 #[.pointer (some ⟨R, 0, none⟩)] w fun e w' => e = .returned (.bool b) ∧ w = w' := by
  by_cases h0 : n = 0
  · rw [decide_eq_true h0] at hb
    subst hb h0
    go_enter Tryd.func20, Tryd.ntmps20
    go_wp2
    go_ret
    exact ⟨rfl, rfl⟩
  · rw [decide_eq_false h0] at hb
    have hz : ((n : Int) == 0) = false := beq_eq_false_iff_ne.2 (by omega)
    subst hb
    go_enter Tryd.func20, Tryd.ntmps20
    go_wp2
    go_ret
    exact ⟨rfl, rfl⟩
end Go.Proofs.Qxb6602438aDoor
