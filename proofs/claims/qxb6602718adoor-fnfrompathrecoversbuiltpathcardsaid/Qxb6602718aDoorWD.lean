import Derived.Test.Qxb6602718aDoorWC
namespace Go.Proofs.Qxb6602718aDoor
open Go.RowKit Go Go.PlainAid

/-- What stands behind the last '-' of a slice's name. -/
def IsRest (s : ByteArray) (a r : List UInt8) : Prop := Lib.trimSuffix s.data.toList sliceL = a ++ r ∧ (45 : UInt8) ∉ r ∧ (a = [] ∨ ∃ a', a = a' ++ [45])

/-- A segment that the loop passes over; 'u', 'u'': is it under kubepods, before and behind. -/
def Skip (s : ByteArray) (u u' : Bool) : Prop :=
  (Lib.hasPrefix s.data.toList kpdL = false ∧ Lib.contains s.data.toList dkpdL = false ∧
    ((s.data.toList = kpL ∧ u' = true) ∨ (s.data.toList ≠ kpL ∧ u' = u ∧ (u = false ∨ Lib.hasPrefix s.data.toList podL = false)))) ∨
  (Lib.hasPrefix s.data.toList kpdL = true ∧ Lib.hasSuffix s.data.toList sliceL = true ∧ (∃ a r, IsRest s a r ∧ Lib.hasPrefix r podL = false) ∧ u' = u)

/-- The segment of the pod. -/
def Pod (s : ByteArray) (u : Bool) (uid : List UInt8) : Prop :=
  (Lib.hasPrefix s.data.toList kpdL = false ∧ Lib.contains s.data.toList dkpdL = false ∧ s.data.toList ≠ kpL ∧ u = true ∧ s.data.toList = podL ++ uid) ∨
  (Lib.hasPrefix s.data.toList kpdL = true ∧ Lib.hasSuffix s.data.toList sliceL = true ∧ ∃ a r, IsRest s a (podL ++ r) ∧ Lib.replaceAll r [95] [45] = uid)

/-- The calls on a segment's name, up to its last part. -/
theorem rest_calls (s : ByteArray) (a r : List UInt8) (w : World) (hs : s.size ≤ 1100000) (h : IsRest s a r) :
    ∃ nm R : ByteArray, R.data.toList = r ∧ a.length ≤ nm.size ∧ nm.size ≤ 1100000 ∧ R = nm.extract a.length nm.size ∧
      (Calls Tryd.prog 25 #[.string s, .string ⟨#[46, 115, 108, 105, 99, 101]⟩] w fun e w' => e = .returned (.string nm) ∧ w = w') ∧
      (Calls Tryd.prog 27 #[.string nm, .int .u8 45] w fun e w' => e = .returned (.int .i64 ((a.length : Int) - 1)) ∧ w = w') ∧
      (Calls Tryd.prog 26 #[.string R, .string ⟨#[112, 111, 100]⟩] w fun e w' => e = .returned (.tuple #[.string ⟨(Lib.trimPrefix r podL).toArray⟩, .bool (Lib.hasPrefix r podL)]) ∧ w = w') := by
  obtain ⟨h1, h2, h3⟩ := h
  have c1 := Tryd.strings_TrimSuffix s ⟨#[46, 115, 108, 105, 99, 101]⟩ w (by omega)
  have hnd : (⟨(Lib.trimSuffix s.data.toList (ByteArray.mk #[46, 115, 108, 105, 99, 101]).data.toList).toArray⟩ : ByteArray).data.toList = a ++ r := h1
  have hnsz : (⟨(Lib.trimSuffix s.data.toList (ByteArray.mk #[46, 115, 108, 105, 99, 101]).data.toList).toArray⟩ : ByteArray).size ≤ s.size := by
    rw [Lib.size_eq]
    show (Lib.trimSuffix s.data.toList _).length ≤ _
    rw [Lib.size_eq]
    unfold Lib.trimSuffix
    split
    · simp
    · exact Nat.le_refl _
  obtain ⟨nm, hnm⟩ : ∃ nm : ByteArray, nm = ⟨(Lib.trimSuffix s.data.toList (ByteArray.mk #[46, 115, 108, 105, 99, 101]).data.toList).toArray⟩ := ⟨_, rfl⟩
  rw [← hnm] at c1 hnd hnsz
  have c2 := Tryd.strings_LastIndexByte nm 45 (by omega) w
  rw [last_drop nm a r hnd h2 h3] at c2
  have hnl : nm.size = a.length + r.length := by rw [Lib.size_eq, hnd, List.length_append]
  have hR := extract_drop nm a r hnd
  have c3 := Tryd.strings_CutPrefix (nm.extract a.length nm.size) ⟨#[112, 111, 100]⟩ w
  rw [hR] at c3
  exact ⟨nm, _, hR, by omega, by omega, rfl, c1.mono fun _ _ h => ⟨h.1, h.2.symm⟩, c2.mono fun _ _ h => ⟨h.1, h.2.symm⟩, c3.mono fun _ _ h => ⟨h.1, h.2.symm⟩⟩

theorem c22 (s : ByteArray) (w : World) (x : Bool) (h : Lib.hasPrefix s.data.toList kpdL = x) : Hid (Calls Tryd.prog 22 #[.string s, .string ⟨#[107, 117, 98, 101, 112, 111, 100, 115, 45]⟩] w fun e w' => e = .returned (.bool x) ∧ w = w') := by
  subst h
  exact (Tryd.strings_HasPrefix s ⟨#[107, 117, 98, 101, 112, 111, 100, 115, 45]⟩ w).mono fun _ _ h => ⟨h.1, h.2.symm⟩
theorem c22p (s : ByteArray) (w : World) (x : Bool) (h : Lib.hasPrefix s.data.toList podL = x) : Hid (Calls Tryd.prog 22 #[.string s, .string ⟨#[112, 111, 100]⟩] w fun e w' => e = .returned (.bool x) ∧ w = w') := by
  subst h
  exact (Tryd.strings_HasPrefix s ⟨#[112, 111, 100]⟩ w).mono fun _ _ h => ⟨h.1, h.2.symm⟩
theorem c23 (s : ByteArray) (w : World) (x : Bool) (hsh : w.ShapedOpen Tryd.prog) (hs : s.size ≤ 1100000) (h : Lib.contains s.data.toList dkpdL = x) : Hid (Calls Tryd.prog 23 #[.string s, .string ⟨#[45, 107, 117, 98, 101, 112, 111, 100, 115, 45]⟩] w fun e w' => e = .returned (.bool x) ∧ w = w') := by
  subst h
  exact (Tryd.strings_Contains_shaped s ⟨#[45, 107, 117, 98, 101, 112, 111, 100, 115, 45]⟩ w hsh (by omega)).mono fun _ _ h => ⟨h.1, h.2.symm⟩
theorem c24 (s : ByteArray) (w : World) (x : Bool) (hs : s.size ≤ 1100000) (h : Lib.hasSuffix s.data.toList sliceL = x) : Hid (Calls Tryd.prog 24 #[.string s, .string ⟨#[46, 115, 108, 105, 99, 101]⟩] w fun e w' => e = .returned (.bool x) ∧ w = w') := by
  subst h
  exact (Tryd.strings_HasSuffix s ⟨#[46, 115, 108, 105, 99, 101]⟩ w (by omega)).mono fun _ _ h => ⟨h.1, h.2.symm⟩
theorem isK (s : ByteArray) (h : s.data.toList = kpL) : (s.toList == [107, 117, 98, 101, 112, 111, 100, 115]) = true := by
  rw [ByteArray.toList_eq, h]; rfl
theorem notK (s : ByteArray) (h : s.data.toList ≠ kpL) : (s.toList == [107, 117, 98, 101, 112, 111, 100, 115]) = false := by
  rw [ByteArray.toList_eq]; exact beq_eq_false_iff_ne.2 h

/-- What fromPath gives back. -/
def RetP (uid id : List UInt8) (w : World) (e : Ending) (w' : World) : Prop := (∃ U I : ByteArray, e = .returned (.tuple #[.agg #[.string U, .string I], .bool true]) ∧ U.data.toList = uid ∧ I.data.toList = id) ∧ Below w.heap.size w w'

theorem cell_lt' {w : World} {a : Addr} {v : Value} (h : w.cell? a = some v) : a.block < w.heap.size := by
  apply Classical.byContradiction
  intro hn
  have : w.heap[a.block]? = none := Array.getElem?_eq_none (by omega)
  simp [World.cell?, this] at h

/-- The result's cell, in the last world. -/
theorem tail_facts (W X w w3 w4 : World) (segs : List ByteArray) (hW : W = (w.alloc (.cells #[.string ⟨#[]⟩, .string ⟨#[]⟩] 27)).alloc (.cells (segs.map Value.string).toArray 9))
    (hX : Below W.heap.size W X) (h3 : Below X.heap.size X w3) (h4 : Below w3.heap.size w3 w4) :
    w4.cell? ⟨w.heap.size, 0, none⟩ = some (.string ⟨#[]⟩) ∧ w4.cell? ⟨w.heap.size, 1, none⟩ = some (.string ⟨#[]⟩) ∧ w4.frozen? ⟨w.heap.size, 0, none⟩ = false ∧ w4.frozen? ⟨w.heap.size, 1, none⟩ = false ∧ w.heap.size < w4.heap.size ∧
    (∀ a : Value, (w4.setCell ⟨w.heap.size, 0, none⟩ a).cell? ⟨w.heap.size, 0, none⟩ = some a) ∧ (∀ a b : Value, ((w4.setCell ⟨w.heap.size, 0, none⟩ a).setCell ⟨w.heap.size, 1, none⟩ b).cell? ⟨w.heap.size, 1, none⟩ = some b) ∧
    ∀ a b : Value, Hid (Below w.heap.size w ((w4.setCell ⟨w.heap.size, 0, none⟩ a).setCell ⟨w.heap.size, 1, none⟩ b)) := by
  have hWs : W.heap.size = w.heap.size + 2 := by rw [hW]; simp
  have hB : Below (w.heap.size + 1) (w.alloc (.cells #[.string ⟨#[]⟩, .string ⟨#[]⟩] 27)) w4 := by
    have e1 : Below (w.heap.size + 1) (w.alloc (.cells #[.string ⟨#[]⟩, .string ⟨#[]⟩] 27)) W := by rw [hW]; exact (Below.refl _ _).alloc (by simp) _
    have hXs := hX.size
    have h3s := h3.size
    exact ((e1.trans (hX.mono (by omega))).trans (h3.mono (by omega))).trans (h4.mono (by omega))
  have hb0 : Below w.heap.size w w4 := ((Below.refl w.heap.size w).alloc (Nat.le_refl _) _).trans (hB.mono (by omega))
  have k0 : w4.cell? ⟨w.heap.size, 0, none⟩ = some (.string ⟨#[]⟩) := by rw [hB.cell (by exact Nat.lt_succ_self _), World.cell?_alloc_mark]; rfl
  have k1 : w4.cell? ⟨w.heap.size, 1, none⟩ = some (.string ⟨#[]⟩) := by rw [hB.cell (by exact Nat.lt_succ_self _), World.cell?_alloc_mark]; rfl
  refine ⟨k0, k1, ?_, ?_, ?_, fun a => World.cell?_setCell_same _ _ _ k0, fun a b => World.cell?_setCell_same _ _ _ ((World.cell?_setCell_other _ _ _ _ (by simp)).trans k1), fun a b => (hb0.setCell (Nat.le_refl _) _).setCell (Nat.le_refl _) _⟩
  · rw [hB.frozen (by exact Nat.lt_succ_self _), World.frozen?_alloc_mark]; rfl
  · rw [hB.frozen (by exact Nat.lt_succ_self _), World.frozen?_alloc_mark]; rfl
  · have := hB.size; simp at this; omega

set_option maxRecDepth 100000 in
set_option maxHeartbeats 4000000 in
theorem fromPath (path : ByteArray) (segs : List ByteArray) (t : Nat) (U : Nat → Bool) (uid id : List UInt8) (w : World)
    (hsplit : ∀ w', Below w.heap.size w w' → Calls Tryd.prog 21 #[.string path, .string ⟨#[47]⟩] w' fun e w'' => e = .returned (.slice (some ⟨w'.heap.size, 0, none⟩) segs.length segs.length) ∧ w'' = w'.alloc (.cells (segs.map Value.string).toArray 9))
    (hsh : ∀ w', Below w.heap.size w w' → w'.ShapedOpen Tryd.prog)
    (hlen : segs.length ≤ 1100000) (hsz : ∀ k, k < segs.length → (segs.getD k ByteArray.empty).size ≤ 1100000) (ht : t + 1 < segs.length) (hU : U 0 = false)
    (hskip : ∀ k, k < t → Skip (segs.getD k ByteArray.empty) (U k) (U (k + 1))) (hpod : Pod (segs.getD t ByteArray.empty) (U t) uid)
    (hcont : ∀ w, Calls Tryd.prog 30 #[.string (segs.getD (t + 1) ByteArray.empty)] w (RetI id w)) (huid : HexD true uid) :
    Calls Tryd.prog 20 #[.string path] w (RetP uid id w) := by
  have HB0 : Hid (Below w.heap.size w (w.alloc (.cells #[.string ⟨#[]⟩, .string ⟨#[]⟩] 27))) := (Below.refl _ _).alloc (Nat.le_refl _) _
  have HSP : Hid (Calls Tryd.prog 21 #[.string path, .string ⟨#[47]⟩] (w.alloc (.cells #[.string ⟨#[]⟩, .string ⟨#[]⟩] 27)) fun e w'' => e = .returned (.slice (some ⟨w.heap.size + 1, 0, none⟩) segs.length segs.length) ∧ w'' = (w.alloc (.cells #[.string ⟨#[]⟩, .string ⟨#[]⟩] 27)).alloc (.cells (segs.map Value.string).toArray 9)) := by
    have := hsplit _ HB0.out
    rw [World.size_alloc] at this
    exact this
  obtain ⟨m, hm⟩ : ∃ m, segs.length = m + 1 := ⟨segs.length - 1, by omega⟩
  have hmax : max ((segs.length : Int) - 1) 0 = (m : Int) := by omega
  have htm : t < m := by omega
  have hmn : m ≤ segs.length := by omega
  have HM : Hid (segs.length = m + 1) := hm
  have HPC : Hid (∀ j, j < segs.length → ((w.alloc (.cells #[.string ⟨#[]⟩, .string ⟨#[]⟩] 27)).alloc (.cells (segs.map Value.string).toArray 9)).cell? ⟨w.heap.size + 1, j, none⟩ = some (.string (segs.getD j ByteArray.empty))) := fun j hj => by
    have := World.cell?_alloc_mark (w.alloc (.cells #[.string ⟨#[]⟩, .string ⟨#[]⟩] 27)) (segs.map Value.string).toArray 9 (0, 0) j
    rw [World.size_alloc] at this
    rw [this, List.getElem?_toArray, List.getElem?_map, List.getD_eq_getElem?_getD, List.getElem?_eq_getElem hj]
    rfl
  have HB1 : Hid (Below w.heap.size w ((w.alloc (.cells #[.string ⟨#[]⟩, .string ⟨#[]⟩] 27)).alloc (.cells (segs.map Value.string).toArray 9))) := HB0.out.alloc (by simp) _
  have HSH : Hid (∀ w', Below w.heap.size w w' → w'.ShapedOpen Tryd.prog) := hsh
  have HSZ : Hid (∀ k, k < segs.length → (segs.getD k ByteArray.empty).size ≤ 1100000) := hsz
  have HSK : Hid (∀ k, k < t → Skip (segs.getD k ByteArray.empty) (U k) (U (k + 1))) := hskip
  have HPOD : Hid (Pod (segs.getD t ByteArray.empty) (U t) uid) := hpod
  have HCO : Hid (∀ w, Calls Tryd.prog 30 #[.string (segs.getD (t + 1) ByteArray.empty)] w (RetI id w)) := hcont
  have HUID : Hid (HexD true uid) := huid
  have HU : Hid (U 0 = false) := hU
  clear hm hsplit hsh hsz hskip hpod hcont huid hU
  go_enter Tryd.func20, Tryd.ntmps20
  go_wp2_with (go_at_call 21; refine HSP.out.mono ?_; rintro e w' ⟨rfl, rfl⟩)
  obtain ⟨W, hW⟩ : ∃ W, W = (w.alloc (.cells #[.string ⟨#[]⟩, .string ⟨#[]⟩] 27)).alloc (.cells (segs.map Value.string).toArray 9) := ⟨_, rfl⟩
  have HWS : Hid (W = (w.alloc (.cells #[.string ⟨#[]⟩, .string ⟨#[]⟩] 27)).alloc (.cells (segs.map Value.string).toArray 9)) := hW
  rw [← hW] at HPC HB1 ⊢
  clear hW HSP HB0
  go_loop [22, 5] (fun i u => ∃ k : Nat, k ≤ t ∧ i = .int .i64 k ∧ u = .bool (U k)) (fun i _ => t + 1 - (intOf i).toNat)
  case atStart => exact ⟨0, Nat.zero_le _, rfl, by rw [HU.out]⟩
  case round =>
    obtain ⟨k, hk, rfl, rfl⟩ := hrel
    have g1 := HPC.out k (by omega)
    have g2 := HSZ.out k (by omega)
    have hkm : (k : Int) < (m : Int) := by omega
    by_cases hlt : k < t
    · have hsk := HSK.out k hlt
      obtain ⟨s, hs⟩ : ∃ s, s = segs.getD k ByteArray.empty := ⟨_, rfl⟩
      rw [← hs] at g1 g2 hsk
      clear hs
      rcases hsk with ⟨p1, p2, p3⟩ | ⟨p1, p2, ⟨a, r, p3, p4⟩, p5⟩
      · have C1 := c22 s W false p1
        have C2 := c23 s W false (HSH.out _ HB1.out) g2 p2
        rcases p3 with ⟨p3, p4⟩ | ⟨p3, p4, p5⟩
        · have hK := isK s p3
          clear p1 p2 p3
          go_wp2_with (first | (go_at_call 22; refine C1.out.mono ?_; rintro e w' ⟨rfl, rfl⟩) | (go_at_call 23; refine C2.out.mono ?_; rintro e w' ⟨rfl, rfl⟩))
          go_round
          case rel => exact ⟨k + 1, by omega, by go_num, by rw [p4]⟩
          case measure => simp [intOf]; omega
        · have hK := notK s p3
          cases hu : U k with
          | false =>
            rw [hu] at p4
            clear p1 p2 p3 p5
            go_wp2_with (first | (go_at_call 22; refine C1.out.mono ?_; rintro e w' ⟨rfl, rfl⟩) | (go_at_call 23; refine C2.out.mono ?_; rintro e w' ⟨rfl, rfl⟩))
            go_round
            case rel => exact ⟨k + 1, by omega, by go_num, by rw [p4]⟩
            case measure => simp [intOf]; omega
          | true =>
            rw [hu] at p4 p5
            have C3 := c22p s W false (by rcases p5 with h | h; cases h; exact h)
            clear p1 p2 p3 p5
            go_wp2_with (first | (go_at_call 22; first | (refine C1.out.mono ?_; rintro e w' ⟨rfl, rfl⟩) | (refine C3.out.mono ?_; rintro e w' ⟨rfl, rfl⟩)) | (go_at_call 23; refine C2.out.mono ?_; rintro e w' ⟨rfl, rfl⟩))
            go_round
            case rel => exact ⟨k + 1, by omega, by go_num, by rw [p4]⟩
            case measure => simp [intOf]; omega
      · obtain ⟨nm, R, hR, q1, q2, q3, D1, D2, D3⟩ := rest_calls s a r W g2 p3
        rw [p4] at D3
        have C1 := c22 s W true p1
        have C2 := c24 s W true g2 p2
        have C3 : Hid (Calls Tryd.prog 25 #[.string s, .string ⟨#[46, 115, 108, 105, 99, 101]⟩] W fun e w' => e = .returned (.string nm) ∧ W = w') := D1
        have C4 : Hid (Calls Tryd.prog 27 #[.string nm, .int .u8 45] W fun e w' => e = .returned (.int .i64 ((a.length : Int) - 1)) ∧ W = w') := D2
        have C5 : Hid (Calls Tryd.prog 26 #[.string R, .string ⟨#[112, 111, 100]⟩] W fun e w' => e = .returned (.tuple #[.string ⟨(Lib.trimPrefix r podL).toArray⟩, .bool false]) ∧ W = w') := D3
        have HRX : Hid (R = nm.extract a.length nm.size) := q3
        clear D1 D2 D3 p1 p2 p3 p4 hR q3
        go_wp2_with (first | (go_at_call 22; refine C1.out.mono ?_; rintro e w' ⟨rfl, rfl⟩) | (go_at_call 24; refine C2.out.mono ?_; rintro e w' ⟨rfl, rfl⟩) | (go_at_call 25; refine C3.out.mono ?_; rintro e w' ⟨rfl, rfl⟩) | (go_at_call 27; refine C4.out.mono ?_; rintro e w' ⟨rfl, rfl⟩))
        rw [← HRX.out]
        refine C5.out.mono ?_
        rintro e w' ⟨rfl, rfl⟩
        go_wp2
        go_round
        case rel => exact ⟨k + 1, by omega, by go_num, by rw [p5]⟩
        case measure => simp [intOf]; omega
    · obtain rfl : k = t := by omega
      have hpd := HPOD.out
      have g3 := HPC.out (k + 1) (by omega)
      have HCX := HCO.out
      obtain ⟨c2, hc2⟩ : ∃ c, c = segs.getD (k + 1) ByteArray.empty := ⟨_, rfl⟩
      rw [← hc2] at g3 HCX
      have HC30 : Hid (∀ w, Calls Tryd.prog 30 #[.string c2] w (RetI id w)) := HCX
      clear hc2 HCX
      have hkn : (k : Int) + 1 < (segs.length : Int) := by omega
      obtain ⟨s, hs⟩ : ∃ s, s = segs.getD k ByteArray.empty := ⟨_, rfl⟩
      rw [← hs] at g1 g2 hpd
      clear hs
      rcases hpd with ⟨p1, p2, p3, p4, p5⟩ | ⟨p1, p2, a, r, p3, p4⟩
      · have C1 := c22 s W false p1
        have C2 := c23 s W false (HSH.out _ HB1.out) g2 p2
        have C3 := c22p s W true (by rw [p5]; exact prefix_yes _ _)
        have hK := notK s p3
        have D4 : Calls Tryd.prog 29 #[.string s, .string ⟨#[112, 111, 100]⟩] W fun e w' => e = .returned (.string ⟨(Lib.trimPrefix s.data.toList podL).toArray⟩) ∧ W = w' := (Tryd.strings_TrimPrefix s ⟨#[112, 111, 100]⟩ W).mono fun _ _ h => ⟨h.1, h.2.symm⟩
        rw [p5, trimPrefix_yes] at D4
        have C4 : Hid (Calls Tryd.prog 29 #[.string s, .string ⟨#[112, 111, 100]⟩] W fun e w' => e = .returned (.string ⟨uid.toArray⟩) ∧ W = w') := D4
        clear p1 p2 p3 p5 D4
        go_wp2_with (first | (go_at_call 22; first | (refine C1.out.mono ?_; rintro e w' ⟨rfl, rfl⟩) | (refine C3.out.mono ?_; rintro e w' ⟨rfl, rfl⟩)) | (go_at_call 23; refine C2.out.mono ?_; rintro e w' ⟨rfl, rfl⟩) | (go_at_call 29; refine C4.out.mono ?_; rintro e w' ⟨rfl, rfl⟩))
        obtain ⟨US, hUS⟩ : ∃ US : ByteArray, US = ⟨uid.toArray⟩ := ⟨_, rfl⟩
        have HUS : Hid (US.data.toList = uid) := by rw [hUS]; rfl
        rw [← hUS]
        clear hUS C1 C2 C3 C4
        refine (HC30.out _).mono ?_
        rintro e w3 ⟨⟨I, rfl, hI⟩, hb3⟩
        have HI : Hid (I.data.toList = id) := hI
        clear hI
        have C7 : Hid (Calls Tryd.prog 31 #[.string US, .string ⟨#[45]⟩] w3 fun e w' => e = .returned (.bool true) ∧ Below w3.heap.size w3 w') := isid US ⟨#[45]⟩ true w3 (by rw [HUS.out]; exact HUID.out) (fun _ w => Tryd.strings_ContainsRune_ascii ⟨#[45]⟩ 45 w (by decide) (by decide))
        go_wp2_with (go_at_call 31; refine C7.out.mono ?_; rintro e w4 ⟨rfl, hb4⟩; obtain ⟨f1, f2, f3, f4, f5, f6, f7, HBF⟩ := tail_facts W W w w3 w4 segs HWS.out (Below.refl _ _) hb3 hb4)
        exact bodyPost_ret (v := .tuple #[.agg #[.string US, .string I], .bool true]) (by simp [results, Tryd.results20, go_sem, f6, f7]) rfl ⟨⟨US, I, rfl, HUS.out, HI.out⟩, (HBF _ _).out⟩
      · obtain ⟨nm, R, hR, q1, q2, q3, D1, D2, D3⟩ := rest_calls s a (podL ++ r) W g2 p3
        rw [prefix_yes, trimPrefix_yes] at D3
        have hrl : r.length ≤ 1100000 := by
          have h1 : (podL ++ r).length ≤ nm.size := by
            rw [← hR, q3, ← Lib.size_eq]
            simp
          simp at h1
          omega
        obtain ⟨RS, hRS⟩ : ∃ RS : ByteArray, RS = ⟨r.toArray⟩ := ⟨_, rfl⟩
        have hRSd : RS.data.toList = r := by rw [hRS]
        have hRSz : RS.size ≤ 1100000 := by rw [Lib.size_eq, hRSd]; exact hrl
        rw [← hRS] at D3
        have D6 := Tryd.strings_ReplaceAll_shaped RS ⟨#[95]⟩ ⟨#[45]⟩ W (HSH.out _ HB1.out) (by omega) (by decide) (by
          have h1 := Lib.countB_le ⟨#[95]⟩ (by decide) RS.size RS (Nat.le_refl _)
          have h2 : (⟨#[45]⟩ : ByteArray).size = 1 := rfl
          rw [h2]
          omega)
        rw [hRSd] at D6
        have D7 : Calls Tryd.prog 28 #[.string RS, .string ⟨#[95]⟩, .string ⟨#[45]⟩] W fun e w' => e = .returned (.string ⟨(Lib.replaceAll r [95] [45]).toArray⟩) ∧ Below W.heap.size W w' := D6
        rw [p4] at D7
        obtain ⟨US, hUS⟩ : ∃ US : ByteArray, US = ⟨uid.toArray⟩ := ⟨_, rfl⟩
        have HUS : Hid (US.data.toList = uid) := by rw [hUS]; rfl
        rw [← hUS] at D7
        have C1 := c22 s W true p1
        have C2 := c24 s W true g2 p2
        have C3 : Hid (Calls Tryd.prog 25 #[.string s, .string ⟨#[46, 115, 108, 105, 99, 101]⟩] W fun e w' => e = .returned (.string nm) ∧ W = w') := D1
        have C4 : Hid (Calls Tryd.prog 27 #[.string nm, .int .u8 45] W fun e w' => e = .returned (.int .i64 ((a.length : Int) - 1)) ∧ W = w') := D2
        have C5 : Hid (Calls Tryd.prog 26 #[.string R, .string ⟨#[112, 111, 100]⟩] W fun e w' => e = .returned (.tuple #[.string RS, .bool true]) ∧ W = w') := D3
        have C6 : Hid (Calls Tryd.prog 28 #[.string RS, .string ⟨#[95]⟩, .string ⟨#[45]⟩] W fun e w' => e = .returned (.string US) ∧ Below W.heap.size W w') := D7
        have HRX : Hid (R = nm.extract a.length nm.size) := q3
        have HG3 : Hid (W.cell? ⟨w.heap.size + 1, k + 1, none⟩ = some (.string c2) ∧ w.heap.size + 1 < W.heap.size) := ⟨g3, cell_lt' g3⟩
        clear D1 D2 D3 D6 D7 p1 p2 p3 p4 hR q3 hUS hRS hRSd g3
        go_wp2_with (first | (go_at_call 22; refine C1.out.mono ?_; rintro e w' ⟨rfl, rfl⟩) | (go_at_call 24; refine C2.out.mono ?_; rintro e w' ⟨rfl, rfl⟩) | (go_at_call 25; refine C3.out.mono ?_; rintro e w' ⟨rfl, rfl⟩) | (go_at_call 27; refine C4.out.mono ?_; rintro e w' ⟨rfl, rfl⟩))
        rw [← HRX.out]
        refine C5.out.mono ?_
        rintro e w' ⟨rfl, rfl⟩
        go_wp2_with (go_at_call 28; refine C6.out.mono ?_; rintro e w2 ⟨rfl, hb2⟩; have g4 := (hb2.cell HG3.out.2).trans HG3.out.1)
        clear C1 C2 C3 C4 C5 C6 HRX
        refine (HC30.out _).mono ?_
        rintro e w3 ⟨⟨I, rfl, hI⟩, hb3⟩
        have HI : Hid (I.data.toList = id) := hI
        clear hI
        have C7 : Hid (Calls Tryd.prog 31 #[.string US, .string ⟨#[45]⟩] w3 fun e w' => e = .returned (.bool true) ∧ Below w3.heap.size w3 w') := isid US ⟨#[45]⟩ true w3 (by rw [HUS.out]; exact HUID.out) (fun _ w => Tryd.strings_ContainsRune_ascii ⟨#[45]⟩ 45 w (by decide) (by decide))
        go_wp2_with (go_at_call 31; refine C7.out.mono ?_; rintro e w4 ⟨rfl, hb4⟩; obtain ⟨f1, f2, f3, f4, f5, f6, f7, HBF⟩ := tail_facts W w2 w w3 w4 segs HWS.out hb2 hb3 hb4)
        exact bodyPost_ret (v := .tuple #[.agg #[.string US, .string I], .bool true]) (by simp [results, Tryd.results20, go_sem, f6, f7]) rfl ⟨⟨US, I, rfl, HUS.out, HI.out⟩, (HBF _ _).out⟩
end Go.Proofs.Qxb6602718aDoor
