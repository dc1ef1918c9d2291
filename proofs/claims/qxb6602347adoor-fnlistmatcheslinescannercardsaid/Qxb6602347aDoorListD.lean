import Derived.Test.Qxb6602347aDoorListC
import Derived.WalkSpells
namespace Go.Proofs.Qxb6602347aDoor
open Go.RowKit Go Go.PlainAid Go.Maps Go.WideMaps Go.WideElems Go.ChangeMaps

/-- What the library gives at every later world. -/
def NlLib (w : World) : Prop := ∀ l : List UInt8, l.length ≤ 1048577 → ∀ w', Below w.heap.size w w' → TrimNl l w' ∧ SplitNl (nlTrim l) w'

theorem nlTrim_same (l : List UInt8) (hl1 : 1 ≤ l.length) (h : ¬ li l (l.length - 1) = 10) : nlTrim (l ++ [10]) = nlTrim l := by
  unfold nlTrim
  have e1 : Lib.trimSuffix (l ++ [10]) [10] = l := by
    unfold Lib.trimSuffix Lib.hasSuffix
    simp
  have e2 : Lib.trimSuffix l [10] = l := by
    unfold Lib.trimSuffix
    rw [if_neg]
    intro hh
    apply h
    unfold Lib.hasSuffix at hh
    obtain ⟨t, rfl⟩ := List.isSuffixOf_iff_suffix.1 hh
    simp [li]
  rw [e1, e2]

theorem law7_early (a0 : Option Addr) (len cap : Nat) (name : ByteArray) (w : World) (hl : len ≤ maxLen) (hn : name.size ≤ maxLen) (h : 1048576 < len + name.size) :
    Calls Tryd.prog 7 #[.slice a0 len cap, .string name] w fun e w' => e = .returned (.bool true) ∧ Below w.heap.size w w' := by
  unfold maxLen at hl hn
  by_cases h1 : 1048576 < len
  · go_enter Tryd.func7, Tryd.ntmps7
    go_wp2
    go_ret
    exact ⟨rfl, Below.refl _ _⟩
  by_cases h2 : 1048576 < name.size
  · go_enter Tryd.func7, Tryd.ntmps7
    go_wp2
    go_ret
    exact ⟨rfl, Below.refl _ _⟩
  go_enter Tryd.func7, Tryd.ntmps7
  go_wp2
  go_ret
  exact ⟨rfl, Below.refl _ _⟩

theorem law7_nil (a0 : Option Addr) (cap : Nat) (name : ByteArray) (w : World) (h : name.size ≤ 1048576) :
    Calls Tryd.prog 7 #[.slice a0 0 cap, .string name] w fun e w' => e = .returned (.bool true) ∧ Below w.heap.size w w' := by
  go_enter Tryd.func7, Tryd.ntmps7
  go_wp2
  go_ret
  exact ⟨rfl, Below.refl _ _⟩

theorem parts_cell (xs : List ByteArray) (w : World) (j : Nat) (hj : j < xs.length) : (w.alloc (.cells (xs.map Value.string).toArray 9)).cell? ⟨w.heap.size, 0 + j, none⟩ = some (.string (xs.getD j ByteArray.empty)) := by
  rw [Nat.zero_add, World.cell?_alloc_mark, List.getElem?_toArray, List.getElem?_map, List.getD_eq_getElem?_getD, List.getElem?_eq_getElem hj]
  rfl

set_option maxHeartbeats 1000000 in
theorem two_lists (l : List UInt8) (b off cap : Nat) (name : ByteArray) (w : World) (hl1 : 1 ≤ l.length) (hl : l.length + name.size ≤ 1048576)
    (hcell : ∀ j, j < l.length → w.cell? ⟨b, off + j, none⟩ = some (.int .u8 (li l j))) (hb : b < w.heap.size) (hLib : NlLib w) (hnl : ¬ li l (l.length - 1) = 10) (w1 w2 : World)
    (hown1 : w1.ownsMap Tryd.prog 9 hR (w.heap.size + 1) (0 + 1) ((DataW.map []).put (.string name.data.toList) (.held (.slice (some ⟨b, off, none⟩) l.length cap))))
    (hg1 : ((w.alloc (.cells (CE l) 5)).alloc (.map #[] 0)).grownBy w1 (some (w.heap.size + 1)))
    (hown2 : w2.ownsMap Tryd.prog 9 hR w1.heap.size (0 + 1) ((DataW.map []).put (.string name.data.toList) (.held (.slice (some ⟨w.heap.size, 0, none⟩) (l.length + 1) (l.length + 1)))))
    (hg2 : (w1.alloc (.map #[] 0)).grownBy w2 (some w1.heap.size)) :
    Hid (Calls Tryd.prog 16 #[.map (some (w.heap.size + 1)), .string name] w2 fun e w' => e = .returned (.slice (some ⟨w2.heap.size, 0, none⟩) (nlParts l).length (nlParts l).length) ∧ w' = w2.alloc (.cells ((nlParts l).map Value.string).toArray 9)) ∧
    Hid (Calls Tryd.prog 16 #[.map (some w1.heap.size), .string name] (w2.alloc (.cells ((nlParts l).map Value.string).toArray 9)) fun e w' => e = .returned (.slice (some ⟨w2.heap.size + 1, 0, none⟩) (nlParts l).length (nlParts l).length) ∧ w' = (w2.alloc (.cells ((nlParts l).map Value.string).toArray 9)).alloc (.cells ((nlParts l).map Value.string).toArray 9)) ∧
    Hid (Calls Tryd.prog 19 #[.slice (some ⟨w2.heap.size, 0, none⟩) (nlParts l).length (nlParts l).length, .slice (some ⟨w2.heap.size + 1, 0, none⟩) (nlParts l).length (nlParts l).length] ((w2.alloc (.cells ((nlParts l).map Value.string).toArray 9)).alloc (.cells ((nlParts l).map Value.string).toArray 9)) fun e w' => e = .returned (.bool true) ∧ ∃ n, w' = ((w2.alloc (.cells ((nlParts l).map Value.string).toArray 9)).alloc (.cells ((nlParts l).map Value.string).toArray 9)).drewN n) ∧
    Hid (Below w.heap.size w ((w2.alloc (.cells ((nlParts l).map Value.string).toArray 9)).alloc (.cells ((nlParts l).map Value.string).toArray 9))) := by
  have hisl : WideAt.IsKeyLit (.string name.data.toList) := trivial
  have hW1 : Below w.heap.size w (w.alloc (.cells (CE l) 5)) := (Below.refl _ _).alloc (Nat.le_refl _) _
  have hs1 : w.heap.size + 2 ≤ w1.heap.size := by have := hg1.size; simp at this; omega
  have B1 : Below (w.heap.size + 1) (w.alloc (.cells (CE l) 5)) w1 := ((Below.refl _ _).alloc (by simp) _).grown hg1 (by simp) (fun k hk => by injection hk; omega)
  have B2 : Below (w.heap.size + 1) (w.alloc (.cells (CE l) 5)) w2 := (B1.alloc (by omega) _).grown hg2 (by simp; omega) (fun k hk => by injection hk; omega)
  have hs2 : w.heap.size + 1 ≤ w2.heap.size := by have := B2.size; simp at this; omega
  have B0 : Below w.heap.size w w2 := hW1.trans (B2.mono (by omega))
  have L1 : (Instr.lookup 30 (.map (some (w.heap.size + 1))) (.string name) false).run Tryd.prog w2 = .ok (.slice (some ⟨b, off, none⟩) l.length cap) w2 :=
    look_held ((hown1.alloc _).kept hg2 (fun e => by injection e; omega)) (by unfold maxLen; omega) (atKey_put_same ⟨_, rfl⟩ hisl _ _)
  have c1 : ∀ j (hj : j < l.length), w2.cell? ((⟨b, off, none⟩ : Addr).add j) = some (.int .u8 (l[j].toNat : Int)) := fun j hj => by
    rw [WideShapes.add_plain, B0.cell (by exact hb), hcell j hj, li_at l j hj]
  have K1 := list_some (.map (some (w.heap.size + 1))) name ⟨b, off, none⟩ cap l w2 (by intro e; rw [e] at hl1; simp at hl1) L1 c1 (hLib l (by omega) w2 B0).1 (hLib l (by omega) w2 B0).2
  have hown3 := hown2.alloc (.cells ((nlParts l).map Value.string).toArray 9)
  have B3 : Below (w.heap.size + 1) (w.alloc (.cells (CE l) 5)) (w2.alloc (.cells ((nlParts l).map Value.string).toArray 9)) := B2.alloc hs2 _
  have B03 : Below w.heap.size w (w2.alloc (.cells ((nlParts l).map Value.string).toArray 9)) := hW1.trans (B3.mono (by omega))
  have L2 : (Instr.lookup 30 (.map (some w1.heap.size)) (.string name) false).run Tryd.prog (w2.alloc (.cells ((nlParts l).map Value.string).toArray 9)) = .ok (.slice (some ⟨w.heap.size, 0, none⟩) (l ++ [10]).length (l.length + 1)) (w2.alloc (.cells ((nlParts l).map Value.string).toArray 9)) := by
    have := look_held hown3 (name := name) (by unfold maxLen; omega) (atKey_put_same ⟨_, rfl⟩ hisl _ _)
    rw [this]; simp
  have c2 : ∀ j (hj : j < (l ++ [10]).length), (w2.alloc (.cells ((nlParts l).map Value.string).toArray 9)).cell? ((⟨w.heap.size, 0, none⟩ : Addr).add j) = some (.int .u8 ((l ++ [10])[j].toNat : Int)) := fun j hj => by
    rw [WideShapes.add_plain, B3.cell (by exact Nat.lt_succ_self _), Nat.zero_add, World.cell?_alloc_mark, CE_get l j hj]
  have K2 := list_some (.map (some w1.heap.size)) name ⟨w.heap.size, 0, none⟩ (l.length + 1) (l ++ [10]) _ (by simp) L2 c2 (hLib (l ++ [10]) (by simp; omega) _ B03).1 (hLib (l ++ [10]) (by simp; omega) _ B03).2
  have ep : nlParts (l ++ [10]) = nlParts l := by unfold nlParts; rw [nlTrim_same l hl1 hnl]
  rw [ep, World.size_alloc] at K2
  have hlen : (nlParts l).length ≤ 1048577 := by
    have h1 := Lib.splitB_length_le ⟨#[10]⟩ 0 (Lib.countB (nlTrim l) ⟨#[10]⟩) (nlTrim l)
    have h2 := Lib.countB_le ⟨#[10]⟩ (by decide) (nlTrim l).size (nlTrim l) (Nat.le_refl _)
    have h3 : (nlTrim l).size ≤ l.length := by
      unfold nlTrim
      show (Lib.trimSuffix l [10]).toArray.size ≤ _
      unfold Lib.trimSuffix
      split <;> simp
    unfold nlParts
    omega
  have K3 := eqs_same (nlParts l) w2.heap.size 0 (nlParts l).length (w2.heap.size + 1) 0 (nlParts l).length ((w2.alloc (.cells ((nlParts l).map Value.string).toArray 9)).alloc (.cells ((nlParts l).map Value.string).toArray 9)) hlen
    (fun j hj => by
      rw [← parts_cell (nlParts l) w2 j hj]
      exact ((Below.refl (w2.heap.size + 1) _).alloc (by simp) _).cell (by exact Nat.lt_succ_self _))
    (fun j hj => by
      have := parts_cell (nlParts l) (w2.alloc (.cells ((nlParts l).map Value.string).toArray 9)) j hj
      rw [World.size_alloc] at this
      exact this)
  exact ⟨K1, K2, K3, B03.alloc (by simp; omega) _⟩

set_option maxHeartbeats 2000000 in
theorem law7_main (l : List UInt8) (b off cap : Nat) (name : ByteArray) (w : World) (hl1 : 1 ≤ l.length) (hl : l.length + name.size ≤ 1048576)
    (hcell : ∀ j, j < l.length → w.cell? ⟨b, off + j, none⟩ = some (.int .u8 (li l j))) (hb : b < w.heap.size) (hLib : NlLib w) :
    Calls Tryd.prog 7 #[.slice (some ⟨b, off, none⟩) l.length cap, .string name] w fun e w' => e = .returned (.bool true) ∧ Below w.heap.size w w' := by
  have hlast := hcell (l.length - 1) (by omega)
  have e0 : ((l.length : Int) == 0) = false := beq_eq_false_iff_ne.2 (by omega)
  by_cases hnl : (li l (l.length - 1) == 10) = true
  · clear hcell
    go_enter Tryd.func7, Tryd.ntmps7
    go_wp2
    go_ret
    exact ⟨rfl, Below.refl _ _⟩
  have hnl' : (li l (l.length - 1) == 10) = false := by simpa using hnl
  clear hnl
  have hmk : (Instr.makeSlice 26 (.int .i64 (↑l.length + 1)) (.int .i64 (↑l.length + 1))).run Tryd.prog w = .ok (.slice (some ⟨w.heap.size, 0, none⟩) (l.length + 1) (l.length + 1)) (w.alloc (.cells (CB l 0) 5)) := by
    obtain ⟨i0, hi, hz0, hz1, hz2⟩ := info_parts (show (Tryd.prog.info? 5).map (fun i => (i.zero, i.size, i.bytes)) = some (some (.int .u8 0), 1, 1) by kernel_rfl)
    have := run_make (P := Tryd.prog) w 26 5 i0 (.int .u8 0) Tryd.underlying26 hi hz0 .i64 .i64 (↑l.length + 1) (↑l.length + 1) (by omega) (by omega) (by rw [hz2]; omega) (by omega)
    rw [hz1, show ((l.length : Int) + 1).toNat = l.length + 1 by omega, Nat.mul_one] at this
    rw [this, ← CB_zero]
    rfl
  have hmm := @run_makeMap Tryd.prog
  have HL : Hid (∀ j, j < l.length → w.cell? ⟨b, off + j, none⟩ = some (.int .u8 (li l j))) := hcell
  clear hcell
  go_enter Tryd.func7, Tryd.ntmps7
  go_wp2
  go_loopw [6] (fun i wr => ∃ k : Nat, k ≤ l.length ∧ i = .int .i64 k ∧ wr = w.alloc (.cells (CB l k) 5)) (fun i _ => l.length - (intOf i).toNat)
  case atStart => exact ⟨0, Nat.zero_le _, rfl, rfl⟩
  case round =>
    obtain ⟨k, hk, rfl, rfl⟩ := hrel
    clear hmk hlast
    by_cases hlt : k < l.length
    · have g1 := HL.out k hlt
      have g2 := CB_get l k hk
      have g3 := CB_set l k hlt
      have g4 := CB_size l k hk
      go_wp2
      go_roundw
      case rel => exact ⟨k + 1, by omega, by go_num, rfl⟩
      case measure => simp [intOf]; omega
    · obtain rfl : k = l.length := by omega
      have g2 := CB_get l l.length (Nat.le_refl _)
      have g3 := CB_end l
      have g4 := CB_size l l.length (Nat.le_refl _)
      have hW1 : Hid (Below w.heap.size w (w.alloc (.cells (CE l) 5))) := (Below.refl _ _).alloc (Nat.le_refl _) _
      have hown : ((w.alloc (.cells (CE l) 5)).alloc (.map #[] 0)).ownsMap Tryd.prog 9 hR (w.heap.size + 1) 0 (.map []) := by
        have := World.ownsMap_made (w.alloc (.cells (CE l) 5)) Tryd.prog 9 hR
        rw [World.size_alloc] at this
        exact this
      have hkey : keyOf Tryd.prog 9 (.string name) = some (.string name.data.toList) := keyOf_string_mk Tryd.underlying9 (by unfold maxLen; omega)
      have HNL : Hid (¬ li l (l.length - 1) = 10) := beq_eq_false_iff_ne.1 hnl'
      have HLIB : Hid (NlLib w) := hLib
      clear hLib
      have hisl : WideAt.IsKeyLit (.string name.data.toList) := trivial
      clear hnl'
      go_wp2_with (first
        | (at_mapUpdate; refine wpList_mapUpdate_own _ rfl _ _ _ 30 rfl 9 26 keyLaw Tryd.underlying30 hR (w.heap.size + 1) 0 (.map []) rfl hown (by unfold maxLen; omega) _ (Value.slice (some ⟨b, off, none⟩) l.length cap) _ rfl rfl hkey (DataW.held (Value.slice (some ⟨b, off, none⟩) l.length cap)) [] rfl ?_; intro w1 hown1 hg1)
        | (at_mapUpdate; refine wpList_mapUpdate_own _ rfl _ _ _ 30 rfl 9 26 keyLaw Tryd.underlying30 hR w1.heap.size 0 (.map []) rfl (World.ownsMap_made w1 _ _ _) (by unfold maxLen; omega) _ (Value.slice (some ⟨w.heap.size, 0, none⟩) (l.length + 1) (l.length + 1)) _ rfl rfl hkey (DataW.held (Value.slice (some ⟨w.heap.size, 0, none⟩) (l.length + 1) (l.length + 1))) [] rfl ?_; intro w2 hown2 hg2))
      obtain ⟨K1, K2, K3, HB⟩ := two_lists l b off cap name w hl1 hl HL.out hb HLIB.out HNL.out w1 w2 hown1 hg1 hown2 hg2
      clear hown hown1 hown2 hg1 hg2 hmm hW1 g2 g3 g4 HL hkey hisl
      refine K1.out.mono ?_
      rintro e w3 ⟨rfl, rfl⟩
      go_wp2_with fail
      refine K2.out.mono ?_
      rintro e w3 ⟨rfl, rfl⟩
      have hnn := fun (w : World) (a : Option Addr) (n c : Nat) => run_neq_slice_nil_any (P := Tryd.prog) w 31 9 a n c 0 0 Tryd.underlying31
      go_wp2_with (go_at_call 19; refine K3.out.mono ?_; rintro e w' ⟨rfl, n, rfl⟩)
      go_ret
      exact ⟨rfl, HB.out.trans ((drewN_below _ _).mono HB.out.size)⟩
end Go.Proofs.Qxb6602347aDoor
