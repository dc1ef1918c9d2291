import Derived.Test.Qxb6602347aDoorReadA
namespace Go.Proofs.Qxb6602347aDoor
open Go.RowKit Go Go.PlainAid Go.Maps Go.WideMaps Go.WideElems Go.ChangeMaps

/-- Line k's bytes. -/
def Xk (xs : List ByteArray) (k : Nat) : List UInt8 := (xs.getD k ByteArray.empty).data.toList

theorem bt_mem (s : ByteArray) (h : ∀ q, q < s.size → bt s q ≠ 10) : (10 : UInt8) ∉ s.data.toList := by
  intro hm
  obtain ⟨j, hj, e⟩ := List.getElem_of_mem hm
  have hj' : j < s.size := by rw [Array.length_toList] at hj; exact hj
  apply h j hj'
  unfold bt
  rw [dif_pos hj']
  have e' : s.data[j]'(by rw [Array.length_toList] at hj; exact hj) = 10 := by rw [Array.getElem_toList] at e; exact e
  have : s[j] = 10 := e'
  rw [this]
  rfl

theorem own_snoc {w : World} {base : Nat} {v : Value} (l : List UInt8) (c : UInt8) (x : Int) (hx : x = (c.toNat : Int)) (h : w.ownsRow base 5 1 v (l.length + 1) (l.map u8v ++ [.int .u8 x])) : w.ownsRow base 5 1 v (l ++ [c]).length ((l ++ [c]).map u8v) := by
  subst hx
  rw [List.length_append, List.map_append]
  exact h
theorem take_step (s : ByteArray) (q : Nat) (hq : q < s.size) (X : List UInt8) (hX : s.data.toList = X) (P : List UInt8) {w : World} {base : Nat} {v : Value}
    (h : w.ownsRow base 5 1 v ((P ++ X.take q).length + 1) ((P ++ X.take q).map u8v ++ [.int .u8 (bt s q)])) : w.ownsRow base 5 1 v (P ++ X.take (q + 1)).length ((P ++ X.take (q + 1)).map u8v) := by
  subst hX
  have hl : q < s.data.toList.length := by rw [Array.length_toList]; exact hq
  have hx : bt s q = ((s.data.toList[q]).toNat : Int) := by
    unfold bt
    rw [dif_pos hq, Array.getElem_toList]
    rfl
  have := own_snoc (P ++ s.data.toList.take q) s.data.toList[q] (bt s q) hx h
  rw [List.take_succ_eq_append_getElem hl, ← List.append_assoc]
  exact this
theorem below_app {w wr wA : World} {v : Value} {n : Nat} {ys : List Value} {o : Obj} (hnx : Below w.heap.size w wr) (hown : wr.ownsRow w.heap.size 5 1 v n ys) (hg : (wr.alloc o).grownBy wA v.ownBlock) : Below w.heap.size w wA :=
  (hnx.alloc hnx.size _).grown hg (by have := hnx.size; simp; omega) (fun k hk => (hown.lt k hk).1)

theorem parts_data (l : List UInt8) : (nlParts l).map (·.data.toList) = spl (Lib.trimSuffix l [10]) := by
  unfold nlParts
  rw [Lib.splitB_data]
  exact splitK_spl _ _ (Nat.le_refl _)

theorem bytes_inj {xs ys : List ByteArray} (h : xs.map (·.data.toList) = ys.map (·.data.toList)) : xs = ys := by
  refine (List.map_inj_right ?_).1 h
  intro a b e
  have e2 : a.data = b.data := Array.toList_inj.1 e
  cases a
  cases b
  simp only at e2
  rw [e2]

theorem parts_joined (xs : List ByteArray) (hx : 1 ≤ xs.length) (h : ∀ k, k < xs.length → 10 ∉ Xk xs k) : nlParts (Bk (Xk xs) xs.length ++ [10]) = xs := by
  apply bytes_inj
  rw [parts_data, trim_nl]
  obtain ⟨n, hn⟩ : ∃ n, xs.length = n + 1 := ⟨xs.length - 1, by omega⟩
  rw [hn, spl_Bk (Xk xs) xs.length h n (by omega)]
  apply List.ext_getElem
  · simp [hn]
  · intro i h1 h2
    have hi : i < xs.length := by simpa using h2
    simp [Xk, List.getElem?_eq_getElem hi]

theorem one_list (l : List UInt8) (v1 : Value) (name : ByteArray) (w wA wM : World) (hl : l.length ≤ 1048577) (hl1 : l ≠ []) (hname : name.size ≤ maxLen) (hA : Below w.heap.size w wA)
    (hown1 : wA.ownsRow w.heap.size 5 1 v1 l.length (l.map u8v))
    (hownM : wM.ownsMap Tryd.prog 9 hR wA.heap.size (0 + 1) ((DataW.map []).put (.string name.data.toList) (.held v1)))
    (hgM : (wA.alloc (.map #[] 0)).grownBy wM (some wA.heap.size)) (hLib : NlLib w) :
    (Calls Tryd.prog 16 #[.map (some wA.heap.size), .string name] wM fun e w' => e = .returned (.slice (some ⟨wM.heap.size, 0, none⟩) (nlParts l).length (nlParts l).length) ∧ w' = wM.alloc (.cells ((nlParts l).map Value.string).toArray 9)) ∧
    Below w.heap.size w wM := by
  have hM : Below w.heap.size w wM := (hA.alloc hA.size _).grown hgM (by have := hA.size; simp; omega) (fun k hk => by injection hk; have := hA.size; omega)
  obtain ⟨hlen, hv | ⟨g, cap, cur, rfl, hg, hblk, hcap, _, hcs, hcur⟩⟩ := hown1
  · exact absurd (List.length_eq_zero_iff.1 hv.2) hl1
  have hgl : g < wA.heap.size := (Array.getElem?_eq_some_iff.1 hblk).1
  have hblkM : wM.heap[g]? = some (.cells cur 5 (0, 0)) := by
    rw [hgM.block g (by simp; omega) (fun e => by injection e; omega), Below.heap_alloc _ _ _ hgl]
    exact hblk
  have L1 : (Instr.lookup 30 (.map (some wA.heap.size)) (.string name) false).run Tryd.prog wM = .ok (.slice (some ⟨g, 0, none⟩) l.length cap) wM :=
    look_held hownM hname (atKey_put_same ⟨_, rfl⟩ (show WideAt.IsKeyLit (.string name.data.toList) from trivial) _ _)
  have c1 : ∀ j (hj : j < l.length), wM.cell? ((⟨g, 0, none⟩ : Addr).add j) = some (.int .u8 (l[j].toNat : Int)) := fun j hj => by
    rw [WideShapes.add_plain, Nat.zero_add]
    have e : cur[j]? = some (u8v l[j]) := by
      have := congrArg (fun t : List Value => t[j]?) hcur
      simp only [Nat.mul_one] at this
      rw [List.getElem?_take, if_pos hj, Array.getElem?_toList, List.getElem?_map, List.getElem?_eq_getElem hj] at this
      exact this
    unfold World.cell?
    rw [hblkM]
    simpa [u8v] using e
  exact ⟨list_some (.map (some wA.heap.size)) name ⟨g, 0, none⟩ cap l wM hl1 L1 c1 (hLib l hl wM hM).1 (hLib l hl wM hM).2, hM⟩

set_option maxHeartbeats 4000000 in
theorem law8_main (xs : List ByteArray) (b off cap : Nat) (name : ByteArray) (w : World) (hx : 1 ≤ xs.length) (hlm : xs.length ≤ maxLen) (hn : name.size ≤ maxLen)
    (hc : ∀ j, j < xs.length → w.cell? ⟨b, off + j, none⟩ = some (.string (xs.getD j ByteArray.empty))) (hsz : ∀ j, j < xs.length → (xs.getD j ByteArray.empty).size ≤ maxLen)
    (hb : b < w.heap.size) (hLib : NlLib w) :
    Calls Tryd.prog 8 #[.slice (some ⟨b, off, none⟩) xs.length cap, .string name] w fun e w' => e = .returned (.bool true) ∧ Below w.heap.size w w' := by
  have Z : Hid (Calls Tryd.prog 20 #[.slice (some ⟨b, off, none⟩) xs.length cap, .string name] w (RetB (∀ j, j < xs.length → (xs.getD j ByteArray.empty).size ≤ 1048576) w)) := by
    by_cases h : 1048576 < xs.length
    · exact zz20_big _ _ _ _ _ _ hlm h
    · exact zz20_any xs b off cap name w hn (by omega) hc hsz
  unfold maxLen at hlm hn
  have HC : Hid (∀ j, j < xs.length → w.cell? ⟨b, off + j, none⟩ = some (.string (xs.getD j ByteArray.empty))) := hc
  have HLIB : Hid (NlLib w) := hLib
  clear hc hsz hLib
  have e0 : ((xs.length : Int) == 0) = false := beq_eq_false_iff_ne.2 (by omega)
  go_enter Tryd.func8, Tryd.ntmps8
  go_wp2_with fail
  refine Z.out.mono ?_
  rintro e w' ⟨⟨bb, rfl, hbb⟩, rfl⟩
  clear Z
  cases bb with
  | false =>
    go_wp2
    go_ret
    exact ⟨rfl, Below.refl _ _⟩
  | true =>
  have HS : Hid (∀ j, j < xs.length → (xs.getD j ByteArray.empty).size ≤ 1048576) := hbb rfl
  clear hbb
  by_cases big1 : 65536 < xs.length
  · go_wp2
    go_ret
    exact ⟨rfl, Below.refl _ _⟩
  by_cases big2 : 1048576 < name.size
  · go_wp2
    go_ret
    exact ⟨rfl, Below.refl _ _⟩
  go_wp2
  go_loop [5, 6] (fun t i => ∃ k z : Nat, k ≤ xs.length ∧ i = .int .i64 k ∧ t = .int .i64 z ∧ z ≤ 1048576 ∧ Hid (z = totk name.size (Xk xs) k)) (fun _ i => xs.length - (intOf i).toNat)
  case atStart => exact ⟨0, name.size, Nat.zero_le _, rfl, rfl, by omega, rfl⟩
  case round =>
    obtain ⟨k, z, hk, rfl, rfl, hz, HZ⟩ := hrel
    by_cases hlt : k < xs.length
    · have g1 := HC.out k hlt
      have g2 := HS.out k hlt
      obtain ⟨s, hs⟩ : ∃ s, s = xs.getD k ByteArray.empty := ⟨_, rfl⟩
      have HX : Hid (s.size = (Xk xs k).length) := by rw [hs]; unfold Xk; exact (Lib.size_eq _)
      rw [← hs] at g1 g2
      clear hs
      by_cases h2 : 1048576 < z + (16 + s.size)
      · go_wp2
        go_ret
        exact ⟨rfl, Below.refl _ _⟩
      go_wp2
      go_round
      case rel => exact ⟨k + 1, z + (16 + s.size), by omega, by go_num, by go_num, by omega, by show _ = _; rw [totk, ← HZ.out, ← HX.out]⟩
      case measure => simp [intOf]; omega
    obtain rfl : k = xs.length := by omega
    go_wp2
    go_loop [7] (fun i => ∃ k : Nat, k ≤ xs.length ∧ i = .int .i64 k ∧ Hid (∀ k', k' < k → 10 ∉ Xk xs k')) (fun i => xs.length - (intOf i).toNat)
    case atStart => exact ⟨0, Nat.zero_le _, rfl, fun k' h => by omega⟩
    case round =>
      obtain ⟨k, hk', rfl, HN⟩ := hrel
      by_cases hlt : k < xs.length
      · have g1 := HC.out k hlt
        have g2 := HS.out k hlt
        obtain ⟨s, hs⟩ : ∃ s, s = xs.getD k ByteArray.empty := ⟨_, rfl⟩
        have HX : Hid (s.data.toList = Xk xs k) := by rw [hs]; rfl
        have hbt := get_bt s
        rw [← hs] at g1 g2
        clear hs
        go_wp2
        go_loop [8] (fun i => ∃ q : Nat, q ≤ s.size ∧ i = .int .i64 q ∧ Hid (∀ q', q' < q → bt s q' ≠ 10)) (fun i => s.size - (intOf i).toNat)
        case atStart => exact ⟨0, Nat.zero_le _, rfl, fun k' h => by omega⟩
        case round =>
          obtain ⟨q, hq, rfl, HQ⟩ := hrel
          by_cases hlq : q < s.size
          · by_cases hnl : (bt s q == 10) = true
            · go_wp2
              go_ret
              exact ⟨rfl, Below.refl _ _⟩
            have hnl' : (bt s q == 10) = false := by simpa using hnl
            clear hnl
            have HQ' : Hid (∀ q', q' < q + 1 → bt s q' ≠ 10) := fun q' h => by
              by_cases e : q' = q
              · subst e; exact beq_eq_false_iff_ne.1 hnl'
              · exact HQ.out q' (by omega)
            go_wp2
            go_round
            case rel => exact ⟨q + 1, by omega, by go_num, HQ'⟩
            case measure => simp [intOf]; omega
          · have HN' : Hid (∀ k', k' < k + 1 → 10 ∉ Xk xs k') := fun k' h => by
              by_cases e : k' = k
              · subst e; rw [← HX.out]; exact bt_mem s (fun q' h' => HQ.out q' (by omega))
              · exact HN.out k' (by omega)
            go_wp2
            go_round
            case rel => exact ⟨k + 1, by omega, by go_num, HN'⟩
            case measure => simp [intOf]; omega
      · obtain rfl : k = xs.length := by omega
        obtain ⟨i0, hi, hz0, hz1, hz2⟩ := info_parts (show (Tryd.prog.info? 5).map (fun i => (i.zero, i.size, i.bytes)) = some (some (.int .u8 0), 1, 1) by kernel_rfl)
        obtain ⟨w1, hmk, hown0, hg0⟩ := run_make_own (P := Tryd.prog) w w.heap.size 26 5 i0 (.int .u8 0) 1 Tryd.underlying26 hi hz0 hz1 .i64 .i64 z (by rw [hz2]; omega) (by unfold maxLen; omega) (Nat.le_refl _)
        have HB0 : Hid (Below w.heap.size w w1) := (Below.refl _ _).grown hg0 (Nat.le_refl _) (fun k hk => by cases hk)
        have HOW0 : Hid (w1.ownsRow w.heap.size 5 1 (.slice (some ⟨w.heap.size, 0, none⟩) 0 z) 0 []) := hown0
        clear hg0 hown0
        go_wp2
        clear hmk
        go_loopw [9, 10] (fun v i wr => ∃ k : Nat, k ≤ xs.length ∧ i = .int .i64 k ∧ wr.ownsRow w.heap.size 5 1 v (Bk (Xk xs) k).length ((Bk (Xk xs) k).map u8v) ∧ Below w.heap.size w wr) (fun _ i _ => xs.length - (intOf i).toNat)
        case atStart => exact ⟨0, Nat.zero_le _, rfl, HOW0.out, HB0.out⟩
        case round =>
          clear HOW0 HB0
          obtain ⟨k, hk4, rfl, hown, hnx⟩ := hrel
          by_cases hlt : k < xs.length
          · have g1 : wr.cell? ⟨b, off + k, none⟩ = some (.string (xs.getD k ByteArray.empty)) := (hnx.cell (by exact hb)).trans (HC.out k hlt)
            have g2 := HS.out k hlt
            have HPL : Hid ((Pk (Xk xs) k).length ≤ totk name.size (Xk xs) k ∧ totk name.size (Xk xs) (k + 1) ≤ z) := ⟨Pk_len _ _ _, by rw [HZ.out]; exact totk_mono _ _ _ _ (by omega)⟩
            have HBL : Hid ((Bk (Xk xs) k).length ≤ totk name.size (Xk xs) k) := (Bk_len _ _ _).1
            obtain ⟨s, hs⟩ : ∃ s, s = xs.getD k ByteArray.empty := ⟨_, rfl⟩
            have HX : Hid (s.data.toList = Xk xs k) := by rw [hs]; rfl
            have hbt := get_bt s
            rw [← hs] at g1 g2
            clear hs
            have hkb : (Bk (Xk xs) k).length + 1 ≤ 1048577 := by
              have h1 := HBL.out
              have h2 := HPL.out.2
              have h3 := totk_mono name.size (Xk xs) k (k + 1) (by omega)
              omega
            have hS2 : s.size + (Pk (Xk xs) k).length ≤ 1048576 := by
              have h1 := HPL.out
              have h2 : s.size = (Xk xs k).length := by rw [← HX.out]; exact Lib.size_eq s
              simp only [totk] at h1
              omega
            have HS2 : Hid (s.size + (Pk (Xk xs) k).length ≤ 1048576) := hS2
            have HG : Hid (w.cell? ⟨b, off + k, none⟩ = some (.string s)) := (hnx.cell (by exact hb)).symm.trans g1
            clear hS2 HBL HPL
            by_cases hk0 : 0 < k
            · go_wp2_with (first
                | (at_builtin; refine wpList_append_own _ rfl _ _ 26 rfl w.heap.size 5 i0 (.int .u8 0) 1 1 Tryd.underlying26 hi hz0 hz1 hz2 rfl (by decide) _ _ _ rfl (hown.alloc _) ⟨wr.heap.size, 0, none⟩ 1 1 [.int .u8 10] rfl rfl (cell_one_new _ _ _) (ints_oneCell .u8 [10]) (by unfold maxLen; omega) (by omega) (by have := hnx.size; simp; omega) ?_; intro v1 wA hown1 hgrow1 _))
              have HOP : Hid (wA.ownsRow w.heap.size 5 1 v1 (Pk (Xk xs) k).length ((Pk (Xk xs) k).map u8v)) := by
                rw [Pk_pos _ _ hk0]
                exact own_snoc _ 10 10 rfl hown1
              have HNP : Hid (Below w.heap.size w wA) := below_app hnx hown hgrow1
              clear hown1 hgrow1 hown hnx g1
              go_loopw [9, 11] (fun v j wr => ∃ q : Nat, q ≤ s.size ∧ j = .int .i64 q ∧ wr.ownsRow w.heap.size 5 1 v (Pk (Xk xs) k ++ (Xk xs k).take q).length ((Pk (Xk xs) k ++ (Xk xs k).take q).map u8v) ∧ Below w.heap.size w wr) (fun _ j _ => s.size - (intOf j).toNat)
              case atStart => exact ⟨0, Nat.zero_le _, rfl, by rw [List.take_zero, List.append_nil]; exact HOP.out, HNP.out⟩
              case round =>
                clear HOP HNP
                obtain ⟨q, hq, rfl, hownq, hnxq⟩ := hrel
                have g3 : wr.cell? ⟨b, off + k, none⟩ = some (.string s) := (hnxq.cell (by exact hb)).trans HG.out
                by_cases hlq : q < s.size
                · have hlen : (Pk (Xk xs) k ++ (Xk xs k).take q).length + 1 ≤ 1048577 := by
                    have h1 := HS2.out
                    simp only [List.length_append, List.length_take]
                    omega
                  have HSN : Hid (∀ (v : Value) (wz : World), wz.ownsRow w.heap.size 5 1 v ((Pk (Xk xs) k ++ (Xk xs k).take q).length + 1) ((Pk (Xk xs) k ++ (Xk xs k).take q).map u8v ++ [.int .u8 (bt s q)]) → wz.ownsRow w.heap.size 5 1 v (Pk (Xk xs) k ++ (Xk xs k).take (q + 1)).length ((Pk (Xk xs) k ++ (Xk xs k).take (q + 1)).map u8v)) := fun v wz h => take_step s q hlq (Xk xs k) HX.out (Pk (Xk xs) k) h
                  go_wp2_with (first
                    | (at_builtin; refine wpList_append_own _ rfl _ _ 26 rfl w.heap.size 5 i0 (.int .u8 0) 1 1 Tryd.underlying26 hi hz0 hz1 hz2 rfl (by decide) _ _ _ rfl (hownq.alloc _) ⟨wr.heap.size, 0, none⟩ 1 1 [.int .u8 (bt s q)] rfl rfl (cell_one_new _ _ _) (ints_oneCell .u8 [bt s q]) (by unfold maxLen; omega) (by omega) (by have := hnxq.size; simp; omega) ?_; intro v2 wB hown2 hgrow2 _))
                  have HO2 := HSN.out v2 wB hown2
                  have HN2 := below_app hnxq hownq hgrow2
                  clear hown2 hgrow2 hownq hnxq HSN
                  go_wp2
                  go_roundw
                  case rel => exact ⟨q + 1, by omega, by go_num, HO2, HN2⟩
                  case measure => simp [intOf]; omega
                · have hq' : q = s.size := by omega
                  have HO2 : Hid (wr.ownsRow w.heap.size 5 1 u9 (Bk (Xk xs) (k + 1)).length ((Bk (Xk xs) (k + 1)).map u8v)) := by
                    have e : (Xk xs k).take q = Xk xs k := by rw [← HX.out]; exact List.take_of_length_le (by rw [hq', Lib.size_eq]; exact Nat.le_refl _)
                    rw [e] at hownq
                    exact hownq
                  clear hq' hownq
                  go_wp2
                  go_roundw
                  case rel => exact ⟨k + 1, by omega, by go_num, HO2.out, hnxq⟩
                  case measure => simp [intOf]; omega
            · have HOP : Hid (wr.ownsRow w.heap.size 5 1 u9 (Pk (Xk xs) k).length ((Pk (Xk xs) k).map u8v)) := by
                have e : k = 0 := by omega
                subst e
                exact hown
              have HNP : Hid (Below w.heap.size w wr) := hnx
              go_wp2
              clear hown hnx g1
              go_loopw [9, 11] (fun v j wr => ∃ q : Nat, q ≤ s.size ∧ j = .int .i64 q ∧ wr.ownsRow w.heap.size 5 1 v (Pk (Xk xs) k ++ (Xk xs k).take q).length ((Pk (Xk xs) k ++ (Xk xs k).take q).map u8v) ∧ Below w.heap.size w wr) (fun _ j _ => s.size - (intOf j).toNat)
              case atStart => exact ⟨0, Nat.zero_le _, rfl, by rw [List.take_zero, List.append_nil]; exact HOP.out, HNP.out⟩
              case round =>
                clear HOP HNP
                obtain ⟨q, hq, rfl, hownq, hnxq⟩ := hrel
                have g3 : wr.cell? ⟨b, off + k, none⟩ = some (.string s) := (hnxq.cell (by exact hb)).trans HG.out
                by_cases hlq : q < s.size
                · have hlen : (Pk (Xk xs) k ++ (Xk xs k).take q).length + 1 ≤ 1048577 := by
                    have h1 := HS2.out
                    simp only [List.length_append, List.length_take]
                    omega
                  have HSN : Hid (∀ (v : Value) (wz : World), wz.ownsRow w.heap.size 5 1 v ((Pk (Xk xs) k ++ (Xk xs k).take q).length + 1) ((Pk (Xk xs) k ++ (Xk xs k).take q).map u8v ++ [.int .u8 (bt s q)]) → wz.ownsRow w.heap.size 5 1 v (Pk (Xk xs) k ++ (Xk xs k).take (q + 1)).length ((Pk (Xk xs) k ++ (Xk xs k).take (q + 1)).map u8v)) := fun v wz h => take_step s q hlq (Xk xs k) HX.out (Pk (Xk xs) k) h
                  go_wp2_with (first
                    | (at_builtin; refine wpList_append_own _ rfl _ _ 26 rfl w.heap.size 5 i0 (.int .u8 0) 1 1 Tryd.underlying26 hi hz0 hz1 hz2 rfl (by decide) _ _ _ rfl (hownq.alloc _) ⟨wr.heap.size, 0, none⟩ 1 1 [.int .u8 (bt s q)] rfl rfl (cell_one_new _ _ _) (ints_oneCell .u8 [bt s q]) (by unfold maxLen; omega) (by omega) (by have := hnxq.size; simp; omega) ?_; intro v2 wB hown2 hgrow2 _))
                  have HO2 := HSN.out v2 wB hown2
                  have HN2 := below_app hnxq hownq hgrow2
                  clear hown2 hgrow2 hownq hnxq HSN
                  go_wp2
                  go_roundw
                  case rel => exact ⟨q + 1, by omega, by go_num, HO2, HN2⟩
                  case measure => simp [intOf]; omega
                · have hq' : q = s.size := by omega
                  have HO2 : Hid (wr.ownsRow w.heap.size 5 1 u9 (Bk (Xk xs) (k + 1)).length ((Bk (Xk xs) (k + 1)).map u8v)) := by
                    have e : (Xk xs k).take q = Xk xs k := by rw [← HX.out]; exact List.take_of_length_le (by rw [hq', Lib.size_eq]; exact Nat.le_refl _)
                    rw [e] at hownq
                    exact hownq
                  clear hq' hownq
                  go_wp2
                  go_roundw
                  case rel => exact ⟨k + 1, by omega, by go_num, HO2.out, hnxq⟩
                  case measure => simp [intOf]; omega
          · obtain rfl : k = xs.length := by omega
            have hlen : (Bk (Xk xs) xs.length).length + 1 ≤ 1048577 := by
              have h1 := (Bk_len name.size (Xk xs) xs.length).1
              have h2 := HZ.out
              omega
            have hkey : keyOf Tryd.prog 9 (.string name) = some (.string name.data.toList) := keyOf_string_mk Tryd.underlying9 (by unfold maxLen; omega)
            have hmm := @run_makeMap Tryd.prog
            go_wp2_with (first
              | (at_builtin; refine wpList_append_own _ rfl _ _ 26 rfl w.heap.size 5 i0 (.int .u8 0) 1 1 Tryd.underlying26 hi hz0 hz1 hz2 rfl (by decide) _ _ _ rfl (hown.alloc _) ⟨wr.heap.size, 0, none⟩ 1 1 [.int .u8 10] rfl rfl (cell_one_new _ _ _) (ints_oneCell .u8 [10]) (by unfold maxLen; omega) (by omega) (by have := hnx.size; simp; omega) ?_; intro v1 wA hown1 hgrow1 _)
              | (at_mapUpdate; refine wpList_mapUpdate_own _ rfl _ _ _ 30 rfl 9 26 keyLaw Tryd.underlying30 hR wA.heap.size 0 (.map []) rfl (World.ownsMap_made wA _ _ _) (by unfold maxLen; omega) _ v1 _ rfl rfl hkey (DataW.held v1) [] rfl ?_; intro wM hownM hgM))
            have hownL := own_snoc _ 10 10 rfl hown1
            have HA := below_app hnx hown hgrow1
            obtain ⟨K1, HBM⟩ := one_list (Bk (Xk xs) xs.length ++ [10]) v1 name w wA wM (by simp; omega) (by simp) (by unfold maxLen; omega) HA hownL hownM hgM HLIB.out
            rw [parts_joined xs hx HN.out] at K1
            have K1' : Hid (Calls Tryd.prog 16 #[.map (some wA.heap.size), .string name] wM fun e w' => e = .returned (.slice (some ⟨wM.heap.size, 0, none⟩) xs.length xs.length) ∧ w' = wM.alloc (.cells (xs.map Value.string).toArray 9)) := K1
            have K2 : Hid (Calls Tryd.prog 19 #[.slice (some ⟨wM.heap.size, 0, none⟩) xs.length xs.length, .slice (some ⟨b, off, none⟩) xs.length cap] (wM.alloc (.cells (xs.map Value.string).toArray 9)) fun e w' => e = .returned (.bool true) ∧ ∃ n, w' = (wM.alloc (.cells (xs.map Value.string).toArray 9)).drewN n) :=
              eqs_same xs wM.heap.size 0 xs.length b off cap _ (by omega) (fun j hj => parts_cell xs wM j hj)
                (fun j hj => by
                  have hB : Below w.heap.size w (wM.alloc (.cells (xs.map Value.string).toArray 9)) := HBM.alloc HBM.size _
                  rw [hB.cell (by exact hb)]
                  exact HC.out j hj)
            have HBE : Hid (Below w.heap.size w (wM.alloc (.cells (xs.map Value.string).toArray 9))) := HBM.alloc HBM.size _
            clear hownL HA K1 hown1 hown hnx hgrow1 hownM hgM hmm HBM hkey HC HS HN
            refine K1'.out.mono ?_
            rintro e w3 ⟨rfl, rfl⟩
            have hnn := fun (w : World) (a : Option Addr) (n c : Nat) => run_neq_slice_nil_any (P := Tryd.prog) w 31 9 a n c 0 0 Tryd.underlying31
            go_wp2_with (go_at_call 19; refine K2.out.mono ?_; rintro e w' ⟨rfl, n, rfl⟩)
            go_ret
            exact ⟨rfl, HBE.out.trans ((drewN_below _ _).mono HBE.out.size)⟩
end Go.Proofs.Qxb6602347aDoor
