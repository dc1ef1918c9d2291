import Derived.Lib.Strings
/-! PLAIN: the machine that both matchers run, and the data. No Go in sight. -/
namespace Go.Proofs.Qxb6602438aDoor
open Go

/-- What stands at a token and a place. -/
inductive Move where
  | star
  | adv (d : Nat)
  | fail

/-- 'sp': one more than the last star's number, 0 for none; 'sa': where it was last tried. -/
structure St where
  t : Nat
  n : Nat
  sp : Nat
  sa : Nat

def back (s : St) : Option St := if s.sp = 0 then none else some ⟨s.sp, s.sa + 1, s.sp, s.sa + 1⟩
def step (T : Nat) (act : Nat → Nat → Move) (s : St) : Option St :=
  if s.t < T then
    match act s.t s.n with
    | .star => some ⟨s.t + 1, s.n, s.t + 1, s.n⟩
    | .adv d => some ⟨s.t + 1, s.n + d, s.sp, s.sa⟩
    | .fail => back s
  else back s
def run (T N : Nat) (act : Nat → Nat → Move) (fin : Nat → Bool) : Nat → St → Bool
  | 0, _ => false
  | f + 1, s => if s.n < N then (match step T act s with
    | none => false
    | some s' => run T N act fin f s') else fin s.t

structure Inv (T N : Nat) (s : St) : Prop where
  t : s.t ≤ T
  n : s.n ≤ N
  sp : s.sp ≤ s.t
  sa : s.sa ≤ s.n

def mu (T N : Nat) (s : St) : Nat := (T + N - (s.sp + s.sa)) * (T + 2) + (T + 1 - s.t)

theorem fall {A B C K : Nat} (h : B < A) (hc : C < K) : B * K + C < A * K := by
  have h1 : (B + 1) * K ≤ A * K := Nat.mul_le_mul_right K h
  rw [Nat.add_mul, Nat.one_mul] at h1
  omega

theorem back_ok {T N : Nat} {s s' : St} (hI : Inv T N s) (hn : s.n < N) (h : back s = some s') : Inv T N s' ∧ mu T N s' < mu T N s := by
  unfold back at h
  split at h
  · cases h
  · obtain rfl := Option.some.inj h
    have := hI.t
    have := hI.sp
    have := hI.sa
    refine ⟨⟨by show s.sp ≤ T; omega, by show s.sa + 1 ≤ N; omega, Nat.le_refl _, Nat.le_refl _⟩, ?_⟩
    refine Nat.lt_of_lt_of_le (fall (A := T + N - (s.sp + s.sa)) ?_ ?_) (Nat.le_add_right _ _)
    · show T + N - (s.sp + (s.sa + 1)) < T + N - (s.sp + s.sa)
      omega
    · show T + 1 - s.sp < T + 2
      omega
theorem step_ok {T N : Nat} {act : Nat → Nat → Move} (ha : ∀ t n d, t < T → n < N → act t n = .adv d → n + d ≤ N) {s s' : St} (hI : Inv T N s) (hn : s.n < N) (h : step T act s = some s') : Inv T N s' ∧ mu T N s' < mu T N s := by
  unfold step at h
  split at h
  · rename_i ht
    split at h
    · obtain rfl := Option.some.inj h
      have := hI.sp
      have := hI.sa
      refine ⟨⟨by show s.t + 1 ≤ T; omega, by show s.n ≤ N; omega, Nat.le_refl _, Nat.le_refl _⟩, ?_⟩
      refine Nat.lt_of_lt_of_le (fall (A := T + N - (s.sp + s.sa)) ?_ ?_) (Nat.le_add_right _ _)
      · show T + N - (s.t + 1 + s.n) < T + N - (s.sp + s.sa)
        omega
      · show T + 1 - (s.t + 1) < T + 2
        omega
    · rename_i d hd
      obtain rfl := Option.some.inj h
      have h1 := ha s.t s.n d ht hn hd
      have := hI.sp
      have := hI.sa
      refine ⟨⟨by show s.t + 1 ≤ T; omega, h1, by show s.sp ≤ s.t + 1; omega, by show s.sa ≤ s.n + d; omega⟩, ?_⟩
      show (T + N - (s.sp + s.sa)) * (T + 2) + (T + 1 - (s.t + 1)) < (T + N - (s.sp + s.sa)) * (T + 2) + (T + 1 - s.t)
      omega
    · exact back_ok hI hn h
  · exact back_ok hI hn h

/-- The state of a run that will answer B. -/
def Runs (T N : Nat) (act : Nat → Nat → Move) (fin : Nat → Bool) (B : Bool) (s : St) : Prop := Inv T N s ∧ ∃ f, mu T N s < f ∧ run T N act fin f s = B
def start : St := ⟨0, 0, 0, 0⟩
/-- The run's answer. -/
def ans (T N : Nat) (act : Nat → Nat → Move) (fin : Nat → Bool) : Bool := run T N act fin (mu T N start + 1) start
theorem Runs.start (T N : Nat) (act : Nat → Nat → Move) (fin : Nat → Bool) : Runs T N act fin (ans T N act fin) start :=
  ⟨⟨Nat.zero_le _, Nat.zero_le _, Nat.le_refl _, Nat.le_refl _⟩, _, Nat.lt_succ_self _, rfl⟩
theorem Runs.next {T N : Nat} {act : Nat → Nat → Move} {fin : Nat → Bool} {B : Bool} (ha : ∀ t n d, t < T → n < N → act t n = .adv d → n + d ≤ N) {s s' : St} (h : Runs T N act fin B s) (hn : s.n < N) (hs : step T act s = some s') :
    Runs T N act fin B s' ∧ mu T N s' < mu T N s := by
  obtain ⟨hI, f, hf, hr⟩ := h
  obtain ⟨h1, h2⟩ := step_ok ha hI hn hs
  cases f with
  | zero => omega
  | succ f =>
    rw [run, if_pos hn, hs] at hr
    exact ⟨⟨h1, f, by omega, hr⟩, h2⟩
theorem Runs.fails {T N : Nat} {act : Nat → Nat → Move} {fin : Nat → Bool} {B : Bool} {s : St} (h : Runs T N act fin B s) (hn : s.n < N) (hs : step T act s = none) : B = false := by
  obtain ⟨_, f, hf, hr⟩ := h
  cases f with
  | zero => omega
  | succ f =>
    rw [run, if_pos hn, hs] at hr
    exact hr.symm
theorem Runs.ends {T N : Nat} {act : Nat → Nat → Move} {fin : Nat → Bool} {B : Bool} {s : St} (h : Runs T N act fin B s) (hn : ¬ s.n < N) : B = fin s.t := by
  obtain ⟨_, f, hf, hr⟩ := h
  cases f with
  | zero => omega
  | succ f =>
    rw [run, if_neg hn] at hr
    exact hr.symm

/-! ### The data -/
structure PTok where
  k : Int
  t : ByteArray
  s : Option (Nat × Nat)
  ws : Nat → Int
structure PSeg where
  ds : Bool
  li : ByteArray
  g : Option (List PTok)
structure PPat where
  ng : Bool
  dO : Bool
  an : Bool
  segs : List PSeg
  el : Int
  sp : Bool
end Go.Proofs.Qxb6602438aDoor
