import Derived.Test.Qxb6602438aDoorMc
import Derived.Test.Qxb6602438aDoorTg
import Derived.Test.Qxb6602438aDoorUd
namespace Go.Proofs.Qxb6602438aDoor
open Go.RowKit Go Go.PlainAid

/-- The appended pattern. -/
def litP (ng dO : Bool) (lit : ByteArray) : PPat := ⟨ng, dO, false, [⟨false, lit, none⟩], 0, false⟩
def decB (p : ByteArray) (dir dO : Bool) (lit : ByteArray) : Bool := (dir || !dO) && (lit.toList == (nameOf' p).toList)

theorem litP_skip (ng dO : Bool) (lit p : ByteArray) (dir : Bool) : skipP (litP ng dO lit) p dir = (dO && !dir) := by
  show ((dO && !dir) || (false && _)) = _
  rw [Bool.false_and, Bool.or_false]
theorem litP_match (ng dO : Bool) (lit p : ByteArray) : matchP (litP ng dO lit) p = (lit.toList == (nameOf' p).toList) := by
  show ((nameOf p).toList == lit.toList) = _
  rw [Bool.beq_comm]
  rfl
theorem litP_ok (ng dO : Bool) (lit : ByteArray) : okP (litP ng dO lit) := by
  refine ⟨fun _ h => (by cases h), fun sg hs => ?_⟩
  rw [show (litP ng dO lit).segs = [⟨false, lit, none⟩] from rfl, List.mem_singleton] at hs
  subst hs
  exact fun ts h => by cases h
theorem litP_short (ng dO : Bool) (lit : ByteArray) : shortP (litP ng dO lit) := by
  refine ⟨by show 1 ≤ 1048576; decide, fun sg hs => ?_⟩
  rw [show (litP ng dO lit).segs = [⟨false, lit, none⟩] from rfl, List.mem_singleton] at hs
  subst hs
  exact fun ts h => by cases h
theorem ev_true {p : ByteArray} {dir dO : Bool} {lit : ByteArray} (ng : Bool) (ps : List PPat) (h : decB p dir dO lit = true) : Ev p dir (ps ++ [litP ng dO lit]).reverse (!ng) := by
  unfold decB at h
  rw [Bool.and_eq_true] at h
  rw [List.reverse_append]
  refine Ev.hit (q := litP ng dO lit) ?_ (litP_ok ng dO lit) ?_
  · rw [litP_skip]
    have := h.1
    revert this
    cases dir <;> cases dO <;> simp
  · rw [litP_match]; exact h.2
theorem ev_false {p : ByteArray} {dir dO : Bool} {lit : ByteArray} (ng : Bool) (ps : List PPat) {r : Bool} (h : decB p dir dO lit = false) (hr : Ev p dir ps.reverse r) : Ev p dir (ps ++ [litP ng dO lit]).reverse r := by
  unfold decB at h
  rw [List.reverse_append]
  show Ev p dir (litP ng dO lit :: ps.reverse) r
  cases hs : skipP (litP ng dO lit) p dir with
  | true => exact Ev.skip hs hr
  | false =>
    refine Ev.miss hs (litP_ok ng dO lit) ?_ hr
    rw [litP_match]
    rw [litP_skip] at hs
    revert hs h
    cases dir <;> cases dO <;> simp

def litSeg (lit : ByteArray) : Obj := .cells #[.bool false, .string lit, .slice none 0 0] 30
def litPat (ng dO : Bool) (b : Nat) : Obj := .cells #[.bool ng, .bool dO, .bool false, .slice (some ⟨b, 0, none⟩) 1 1, .int .i64 0, .bool false] 33

theorem lit_at (ng dO : Bool) (lit : ByteArray) (w : World) (hl : lit.size ≤ maxLen) : PatsAt ((w.alloc (litSeg lit)).alloc (litPat ng dO w.heap.size)) (.slice (some ⟨w.heap.size + 1, 0, none⟩) 1 1) [litP ng dO lit] := by
  have hs : (w.alloc (litSeg lit)).heap.size = w.heap.size + 1 := World.size_alloc _ _
  have hb : Below (w.alloc (litSeg lit)).heap.size (w.alloc (litSeg lit)) ((w.alloc (litSeg lit)).alloc (litPat ng dO w.heap.size)) := (Below.refl _ _).alloc (Nat.le_refl _) _
  have c : ∀ i u, (#[Value.bool false, .string lit, .slice none 0 0] : Array Value)[i]? = some u → ((w.alloc (litSeg lit)).alloc (litPat ng dO w.heap.size)).cell? ⟨w.heap.size, i, none⟩ = some u := fun i u hu => by
    refine below_cell hb ?_
    unfold litSeg
    rw [World.cell?_alloc_mark]
    exact hu
  have d : ∀ i u, (#[.bool ng, .bool dO, .bool false, .slice (some ⟨w.heap.size, 0, none⟩) 1 1, .int .i64 0, .bool false] : Array Value)[i]? = some u → ((w.alloc (litSeg lit)).alloc (litPat ng dO w.heap.size)).cell? ⟨w.heap.size + 1, i, none⟩ = some u := fun i u hu => by
    rw [← hs]
    unfold litPat
    rw [World.cell?_alloc_mark]
    exact hu
  have hsz : ((w.alloc (litSeg lit)).alloc (litPat ng dO w.heap.size)).heap.size = w.heap.size + 2 := by rw [World.size_alloc, hs]
  refine ⟨⟨_, 1, rfl, .inr ⟨w.heap.size + 1, 0, rfl, by omega, fun j x hx => ?_⟩⟩, by show 1 ≤ maxLen; decide⟩
  cases j with
  | succ j => simp at hx
  | zero =>
    obtain rfl : litP ng dO lit = x := Option.some.inj hx
    refine ⟨d 0 _ rfl, d 1 _ rfl, d 2 _ rfl, ⟨_, d 3 _ rfl, ⟨⟨_, 1, rfl, .inr ⟨w.heap.size, 0, rfl, by omega, fun j x hx => ?_⟩⟩, by show 1 ≤ maxLen; decide⟩⟩, d 4 _ rfl, d 5 _ rfl, (by show -9223372036854775808 ≤ (0 : Int) ∧ (0 : Int) ≤ 9223372036854775807; decide)⟩
    cases j with
    | succ j => simp [litP] at hx
    | zero =>
      obtain rfl : (⟨false, lit, none⟩ : PSeg) = x := Option.some.inj hx
      exact ⟨c 0 _ rfl, c 1 _ rfl, ⟨_, c 2 _ rfl, rfl⟩, hl⟩
theorem join_lit (ps : List PPat) (v : Value) (ng dO : Bool) (lit : ByteArray) (w : World) (h : PatsAt w v ps) (hl : ps.length ≤ 1000000) (hlit : lit.size ≤ maxLen) :
    Calls Tryd.prog 9 #[v, .slice (some ⟨w.heap.size + 1, 0, none⟩) 1 1] ((w.alloc (litSeg lit)).alloc (litPat ng dO w.heap.size)) fun e w' => ∃ a n c, e = .returned (.slice a n c) ∧ Below w.heap.size w w' ∧ PatsAt w' (.slice a n c) (ps ++ [litP ng dO lit]) := by
  have hb : Below w.heap.size w ((w.alloc (litSeg lit)).alloc (litPat ng dO w.heap.size)) := ((Below.refl _ _).alloc (Nat.le_refl _) _).alloc (by rw [World.size_alloc]; omega) _
  refine (join9 ps [litP ng dO lit] v _ _ hl (by show 1 ≤ 1000; decide) (h.keep hb) (lit_at ng dO lit w hlit)).mono ?_
  rintro e w' ⟨a, n, c, rfl, hb2, h2⟩
  exact ⟨a, n, c, rfl, hb.trans (hb2.mono hb.size), h2 w' (Agree.refl _ _ _)⟩
theorem pats11' (ps : List PPat) (v : Value) (w : World) (hl : ps.length ≤ 1048576) (hsh : ∀ q ∈ ps, shortP q) (h : PatsAt w v ps) :
    Calls Tryd.prog 11 #[v] w fun e w' => ∃ a n c, e = .returned (.slice a n c) ∧ Below w.heap.size w w' ∧ PatsAt w' (.slice a n c) ps := by
  refine (pats11 ps v w w ⟨Nat.le_refl _, fun _ _ _ h => h⟩ hl hsh h).mono ?_
  rintro e w' ⟨a, n, c, rfl, hb2, h2⟩
  exact ⟨a, n, c, rfl, hb2, h2 w' (Agree.refl _ _ _)⟩
theorem rules10' (ps : List PPat) (a : Option Addr) (n c : Nat) (w : World) (h : PatsAt w (.slice a n c) ps) :
    Calls Tryd.prog 10 #[.slice a n c] w fun e w' => ∃ R, e = .returned (.pointer (some ⟨R, 0, none⟩)) ∧ Below w.heap.size w w' ∧ w'.cell? ⟨R, 0, none⟩ = some (.slice a n c) ∧ PatsAt w' (.slice a n c) ps := by
  refine (rules10 a n c w).mono ?_
  rintro e w' ⟨R, rfl, h1, h2⟩
  exact ⟨R, rfl, h2, h1, h.keep h2⟩
end Go.Proofs.Qxb6602438aDoor
