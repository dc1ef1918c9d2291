import Derived.Test.Qxb6602718aDoorWE
namespace Go.Proofs.Qxb6602718aDoor
open Go.RowKit Go Go.PlainAid

theorem bytes_inj {xs ys : List ByteArray} (h : xs.map (·.data.toList) = ys.map (·.data.toList)) : xs = ys := by
  refine (List.map_inj_right ?_).1 h
  intro a b e
  have e2 : a.data = b.data := Array.toList_inj.1 e
  cases a
  cases b
  simp only at e2
  rw [e2]

/-- The library's part, at every later world. -/
def Later (w : World) : Prop := ∀ w', Below w.heap.size w w' → w'.ShapedOpen Tryd.prog

def segsB (path : ByteArray) : List ByteArray := Lib.splitB ⟨#[47]⟩ 0 (Lib.countB path ⟨#[47]⟩) path
theorem segsB_data (path : ByteArray) : (segsB path).map (·.data.toList) = spl 47 path.data.toList := by
  unfold segsB
  rw [Lib.splitB_data]
  exact splitK_spl 47 _ _ (Nat.le_refl _)
theorem segsB_at (path : ByteArray) (k : Nat) : ((segsB path).getD k ByteArray.empty).data.toList = (spl 47 path.data.toList).getD k [] := by
  rw [← segsB_data, List.getD_eq_getElem?_getD, List.getD_eq_getElem?_getD, List.getElem?_map]
  cases (segsB path)[k]? <;> rfl
theorem spl_length (c : UInt8) : ∀ l, (spl c l).length ≤ l.length + 1
  | [] => by simp [spl]
  | x :: r => by
    have := spl_length c r
    unfold spl
    split
    · simp; omega
    · split
      · rename_i h; simp [h] at this ⊢; omega
      · simp

theorem J_length (pfx : List UInt8) : ∀ segs : List (List UInt8), (J pfx segs).length = pfx.length + (segs.map (fun x => x.length + 1)).sum
  | [] => by simp [J]
  | x :: r => by
    have := J_length pfx r
    simp only [J, List.length_append, List.flatMap_cons, List.length_cons, List.map_cons, List.sum_cons] at *
    omega

theorem path_length (sysd : Bool) (pfx q rt uid id tail : List UInt8) (hq : IsQ q) (hr : IsR rt) (h1 : pfx.length ≤ 262144) (h2 : uid.length ≤ 262144) (h3 : id.length ≤ 262144) (h4 : tail.length ≤ 262144) :
    (J pfx (segsOf sysd q rt uid id) ++ tailOf tail).length ≤ 1099999 := by
  have hql : q.length ≤ 10 := by rcases hq with rfl | rfl | rfl <;> decide
  have hrl := (r_clean hr).2.2.2
  have htl : (tailOf tail).length ≤ 262145 := by unfold tailOf; split <;> simp; omega
  rw [List.length_append, J_length]
  unfold segsOf
  cases sysd <;> by_cases h : q = [] <;> simp [h, kpL, kpsL, kpdL, podL, sliceL, scopeL] <;> omega

/-- fromPath at a built path. -/
theorem from_built (sysd : Bool) (path : ByteArray) (pfx q rt uid id tail : List UInt8) (w : World) (hL : Later w) (hpath : path.data.toList = J pfx (segsOf sysd q rt uid id) ++ tailOf tail)
    (hq : IsQ q) (hr : IsR rt) (hp : ¬ kpL <:+: pfx) (hu : HexD true uid) (hi : HexD false id) (h1 : pfx.length ≤ 262144) (h2 : uid.length ≤ 262144) (h3 : id.length ≤ 262144) (h4 : tail.length ≤ 262144) :
    Calls Tryd.prog 20 #[.string path] w (RetP uid id w) := by
  have hpl : path.size ≤ 1099999 := by rw [Lib.size_eq, hpath]; exact path_length sysd pfx q rt uid id tail hq hr h1 h2 h3 h4
  have hspl : spl 47 path.data.toList = spl 47 pfx ++ (segsOf sysd q rt uid id ++ tailSegs tail) := by
    rw [hpath, spl_path pfx tail _ (segs_clean sysd q rt uid id hq hr hu hi), List.append_assoc]
  have hlen : (segsB path).length = (spl 47 path.data.toList).length := by rw [← segsB_data, List.length_map]
  have hle := spl_length 47 path.data.toList
  have hcnt : (segsB path).length = Lib.countB path ⟨#[47]⟩ + 1 := Lib.splitB_all ⟨#[47]⟩ (by decide) 0 _ path rfl
  refine fromPath path (segsB path) ((spl 47 pfx).length + off q) (Uk sysd (spl 47 pfx).length) uid id w ?_ hL ?_ ?_ ?_ ?_ ?_ ?_ ?_ hu
  · intro w' hb
    rw [hcnt]
    exact Tryd.strings_Split_shaped path ⟨#[47]⟩ w' (hL w' hb) (by omega) (by decide)
  · rw [hlen]
    rw [← Lib.size_eq] at hle
    omega
  · intro k hk
    rw [Lib.size_eq, segsB_at]
    have hm := getD_mem (A := spl 47 path.data.toList) (k := k) (by omega)
    have := (spl_infix 47 _ _ hm).length_le
    rw [← Lib.size_eq] at this
    omega
  · rw [hlen, hspl, List.length_append, List.length_append, segs_len]
    omega
  · cases sysd <;> simp [Uk]
  · intro k hk
    exact skip_at sysd pfx q rt uid id (tailSegs tail) hp hq _ k hk (by rw [segsB_at, hspl])
  · exact pod_at sysd pfx q rt uid id (tailSegs tail) hu _ (by rw [segsB_at, hspl])
  · intro w0
    have hc := cont_at sysd pfx q rt uid id (tailSegs tail) hr hi ((segsB path).getD ((spl 47 pfx).length + off q + 1) ByteArray.empty) (by rw [segsB_at, hspl])
    have hrl := r_clean hr
    exact contid _ rt id w0 (by omega) hc.1 hrl.2.2.1 hi

/-- A block of two strings, laid first, in a later world. -/
theorem two_facts (w w1 : World) (h : Below (w.heap.size + 1) (w.alloc (.cells #[.string ⟨#[]⟩, .string ⟨#[]⟩] 27)) w1) :
    w1.cell? ⟨w.heap.size, 0, none⟩ = some (.string ⟨#[]⟩) ∧ w1.cell? ⟨w.heap.size, 1, none⟩ = some (.string ⟨#[]⟩) ∧ w1.frozen? ⟨w.heap.size, 0, none⟩ = false ∧ w1.frozen? ⟨w.heap.size, 1, none⟩ = false ∧ w.heap.size < w1.heap.size ∧
    (∀ a : Value, (w1.setCell ⟨w.heap.size, 0, none⟩ a).cell? ⟨w.heap.size, 0, none⟩ = some a) ∧ (∀ a b : Value, ((w1.setCell ⟨w.heap.size, 0, none⟩ a).setCell ⟨w.heap.size, 1, none⟩ b).cell? ⟨w.heap.size, 1, none⟩ = some b) ∧
    ∀ a b : Value, Hid (Below w.heap.size w ((w1.setCell ⟨w.heap.size, 0, none⟩ a).setCell ⟨w.heap.size, 1, none⟩ b)) := by
  have hb0 : Below w.heap.size w w1 := ((Below.refl w.heap.size w).alloc (Nat.le_refl _) _).trans (h.mono (by omega))
  have k0 : w1.cell? ⟨w.heap.size, 0, none⟩ = some (.string ⟨#[]⟩) := by rw [h.cell (by exact Nat.lt_succ_self _), World.cell?_alloc_mark]; rfl
  have k1 : w1.cell? ⟨w.heap.size, 1, none⟩ = some (.string ⟨#[]⟩) := by rw [h.cell (by exact Nat.lt_succ_self _), World.cell?_alloc_mark]; rfl
  refine ⟨k0, k1, ?_, ?_, ?_, fun a => World.cell?_setCell_same _ _ _ k0, fun a b => World.cell?_setCell_same _ _ _ ((World.cell?_setCell_other _ _ _ _ (by simp)).trans k1), fun a b => (hb0.setCell (Nat.le_refl _) _).setCell (Nat.le_refl _) _⟩
  · rw [h.frozen (by exact Nat.lt_succ_self _), World.frozen?_alloc_mark]; rfl
  · rw [h.frozen (by exact Nat.lt_succ_self _), World.frozen?_alloc_mark]; rfl
  · have := h.size; simp at this; omega

theorem zzfrom {uid id : List UInt8} (path : ByteArray) (w : World) (h : ∀ w', Below w.heap.size w w' → Calls Tryd.prog 20 #[.string path] w' (RetP uid id w')) : Calls Tryd.prog 11 #[.string path] w (RetP uid id w) := by
  have H : Hid (Calls Tryd.prog 20 #[.string path] (w.alloc (.cells #[.string ⟨#[]⟩, .string ⟨#[]⟩] 27)) (RetP uid id (w.alloc (.cells #[.string ⟨#[]⟩, .string ⟨#[]⟩] 27)))) := h _ ((Below.refl _ _).alloc (Nat.le_refl _) _)
  clear h
  go_enter Tryd.func11, Tryd.ntmps11
  go_wp2_with fail
  refine H.out.mono ?_
  rintro e w1 ⟨⟨U, I, rfl, hU, hI⟩, hb⟩
  obtain ⟨f1, f2, f3, f4, f5, f6, f7, HBF⟩ := two_facts w w1 (hb.mono (by simp))
  have HU : Hid (U.data.toList = uid) := hU
  have HI : Hid (I.data.toList = id) := hI
  clear H hb hU hI
  go_wp2
  exact bodyPost_ret (v := .tuple #[.agg #[.string U, .string I], .bool true]) (by simp [results, Tryd.results11, go_sem, f6, f7]) rfl ⟨⟨U, I, rfl, HU.out, HI.out⟩, (HBF _ _).out⟩

theorem str_eq (a b : ByteArray) (h : a.data.toList = b.data.toList) : (a.toList == b.toList) = true := by
  rw [ByteArray.toList_eq, ByteArray.toList_eq, h]; exact beq_self_eq_true _

set_option maxRecDepth 100000 in
set_option maxHeartbeats 2000000 in
theorem law3 (pfx uid id tail : ByteArray) (sysd : Bool) (q r : Int) (w : World) (b1 : pfx.size ≤ maxLen) (b2 : uid.size ≤ maxLen) (b3 : id.size ≤ maxLen) (b4 : tail.size ≤ maxLen) (hL : Later w) :
    Calls Tryd.prog 3 #[.string pfx, .bool sysd, .int .u8 q, .int .u8 r, .string uid, .string id, .string tail] w fun e w' => e = .returned (.bool true) ∧ Below w.heap.size w w' := by
  unfold maxLen at b1 b2 b3 b4
  by_cases h1 : 262144 < pfx.size
  · go_enter Tryd.func3, Tryd.ntmps3
    go_wp2
    all_goals (go_ret; exact ⟨rfl, Below.refl _ _⟩)
  by_cases h2 : 262144 < uid.size
  · go_enter Tryd.func3, Tryd.ntmps3
    go_wp2
    all_goals (go_ret; exact ⟨rfl, Below.refl _ _⟩)
  by_cases h3 : 262144 < id.size
  · go_enter Tryd.func3, Tryd.ntmps3
    go_wp2
    all_goals (go_ret; exact ⟨rfl, Below.refl _ _⟩)
  by_cases h4 : 262144 < tail.size
  · go_enter Tryd.func3, Tryd.ntmps3
    go_wp2
    all_goals (go_ret; exact ⟨rfl, Below.refl _ _⟩)
  have C8 : Hid (Calls Tryd.prog 8 #[.string pfx, .string ⟨#[107, 117, 98, 101, 112, 111, 100, 115]⟩] w (RetC false (¬ kpL <:+: pfx.data.toList) w)) := zz8 pfx w (by omega)
  have C9 : Hid (Calls Tryd.prog 9 #[.string uid, .bool true] w (RetC true (HexD true uid.data.toList) w)) := zz9 uid true w (by omega)
  have C9' : Hid (Calls Tryd.prog 9 #[.string id, .bool false] w (RetC true (HexD false id.data.toList) w)) := zz9 id false w (by omega)
  have C10 : Hid (Calls Tryd.prog 10 #[.string pfx, .bool sysd, .int .u8 q, .int .u8 r, .string uid, .string id, .string tail] w (Built sysd pfx.data.toList uid.data.toList id.data.toList tail.data.toList w)) := build pfx uid id tail sysd q r w (by omega) (by omega) (by omega) (by omega)
  have HL : Hid (Later w) := hL
  clear hL
  go_enter Tryd.func3, Tryd.ntmps3
  go_wp2_with (first | (go_at_call 7; go_in) | fail)
  refine C8.out.mono ?_
  rintro e w' ⟨⟨x8, rfl, k8⟩, rfl⟩
  cases x8 with
  | true =>
    go_wp2
    go_ret
    exact ⟨rfl, Below.refl _ _⟩
  | false =>
  have K8 : Hid (¬ kpL <:+: pfx.data.toList) := k8 rfl
  clear k8 C8
  go_wp2_with fail
  refine C9.out.mono ?_
  rintro e w' ⟨⟨x9, rfl, k9⟩, rfl⟩
  cases x9 with
  | false =>
    go_wp2
    go_ret
    exact ⟨rfl, Below.refl _ _⟩
  | true =>
  have K9 : Hid (HexD true uid.data.toList) := k9 rfl
  clear k9 C9
  go_wp2_with fail
  refine C9'.out.mono ?_
  rintro e w' ⟨⟨x9, rfl, k9⟩, rfl⟩
  cases x9 with
  | false =>
    go_wp2
    go_ret
    exact ⟨rfl, Below.refl _ _⟩
  | true =>
  have K9' : Hid (HexD false id.data.toList) := k9 rfl
  clear k9 C9'
  go_wp2_with fail
  refine C10.out.mono ?_
  rintro e w1 ⟨⟨S, q1, rt, rfl, hq, hr, hS⟩, hb1⟩
  have C11 : Hid (Calls Tryd.prog 11 #[.string S] w1 (RetP uid.data.toList id.data.toList w1)) := zzfrom S w1 (fun w' hb => from_built sysd S pfx.data.toList q1 rt uid.data.toList id.data.toList tail.data.toList w' (fun w2 hb2 => HL.out w2 ((hb1.trans (hb.mono hb1.size)).trans (hb2.mono (Nat.le_trans hb1.size hb.size)))) hS hq hr K8.out K9.out K9'.out (by rw [← Lib.size_eq]; omega) (by rw [← Lib.size_eq]; omega) (by rw [← Lib.size_eq]; omega) (by rw [← Lib.size_eq]; omega))
  have HB1 : Hid (Below w.heap.size w w1) := hb1
  clear hq hr hS K8 K9 K9' HL C10 hb1
  go_wp2_with fail
  refine C11.out.mono ?_
  rintro e w2 ⟨⟨U, I, rfl, hU, hI⟩, hb2⟩
  have eU := str_eq U uid hU
  have eI := str_eq I id hI
  have HB2 : Hid (Below w.heap.size w w2) := HB1.out.trans (hb2.mono HB1.out.size)
  clear C11 hU hI hb2
  go_wp2
  go_ret
  exact ⟨rfl, HB2.out.alloc HB2.out.size _⟩
end Go.Proofs.Qxb6602718aDoor
