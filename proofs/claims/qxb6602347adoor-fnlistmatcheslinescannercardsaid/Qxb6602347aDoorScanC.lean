import Derived.Test.Qxb6602347aDoorScanB
import Derived.Deep.Slices
namespace Go.Proofs.Qxb6602347aDoor
open Go.ChangeShapes Go.WideShapes Go.ChangeAt Go.RowKit Go.WideMaps Go.WideElems Go.PlainAid

/-- What the walk is told of a slice of folders that came in. -/
structure Folder where
  nm : ByteArray
  va : Option Addr
  vl : Nat
  vc : Nat
  bs : List UInt8

def IsFolder (w : World) (b off j : Nat) (f : Folder) : Prop :=
  w.cell? ⟨b, off + j * 2, none⟩ = some (.string f.nm) ∧ w.cell? ⟨b, off + j * 2 + 1, none⟩ = some (.slice f.va f.vl f.vc) ∧ f.nm.size ≤ maxLen ∧ f.vl ≤ maxLen ∧ f.vl ≤ f.vc ∧ IsBytes w f.va f.vl f.bs

theorem bytes_cap {H : Type} {enc : TypeId × Value → H} {W : World} {fuel : Nat} {v : Value} {x : DataW H × List MemPlace} {base : Nat} {sp : Nat → Bool} {held : Bool}
    (hf : DataW.trod enc Tryd.prog W base sp held fuel 26 [v] = some x) : ∃ a l c, v = .slice a l c ∧ l ≤ c := by
  rcases open_ints Tryd.underlying26 Tryd.underlying5 (by kernel_rfl) hf with ⟨hcs, _⟩ | ⟨x, l, c, zs, hcs, _, hl, hm, hz, _, hcell, hwz⟩
  · simp at hcs
    exact ⟨none, 0, 0, hcs, Nat.le_refl _⟩
  · simp at hcs
    exact ⟨_, _, _, hcs, hl⟩

theorem folder_at {H : Type} {enc : TypeId × Value → H} {W : World} {base b off j fuel : Nat} {sp : Nat → Bool} {held : Bool} {cs : List Value} {x : DataW H × List MemPlace}
    (h1 : W.cells? base ((⟨b, off, none⟩ : Addr).add (j * 2)) 2 = some cs) (h2 : DataW.trod enc Tryd.prog W base sp held fuel 28 cs = some x) : ∃ f, IsFolder W b off j f := by
  obtain ⟨_, hlen, hc⟩ := World.cells?_some h1
  obtain ⟨y0, y1, n, _, _, t0, t1⟩ := trod_struct2 Tryd.underlying28 h2
  have c9 : Tryd.prog.cellsOf 9 = 1 := by kernel_rfl
  have c26 : Tryd.prog.cellsOf 26 = 1 := by kernel_rfl
  match cs, hlen with
  | [u0, u1], _ =>
    have k0 := hc 0 (by omega)
    have k1 := hc 1 (by omega)
    rw [WideShapes.add_plain, WideShapes.add_plain] at k0 k1
    simp only [c9, List.drop_zero, List.take_succ_cons, List.take_zero] at t0
    simp only [c26, List.drop_succ_cons, List.drop_zero, List.take_succ_cons, List.take_zero] at t1
    obtain ⟨s, e0, _, hs⟩ := DataW.trod_string Tryd.underlying9 t0
    obtain ⟨a, l, c, rfl, hlc⟩ := bytes_cap t1
    obtain ⟨hm, bs, hb⟩ := bytes_of (enc := enc) (W := W) (a := a) (len := l) (cap := c) ⟨n, by simpa [Value.cells] using t1⟩
    simp at e0
    subst e0
    exact ⟨⟨s, a, l, c, bs⟩, by simpa using k0, by simpa using k1, hs, hm, hlc, hb⟩

theorem choose_folder {n : Nat} {p : Nat → Folder → Prop} (h : ∀ i, i < n → ∃ x, p i x) : ∃ f : Nat → Folder, ∀ i, i < n → p i (f i) := by
  classical
  refine ⟨fun i => if hi : i < n then Classical.choose (h i hi) else ⟨ByteArray.empty, none, 0, 0, []⟩, fun i hi => ?_⟩
  simp only [dif_pos hi]
  exact Classical.choose_spec (h i hi)

theorem folders_of {H : Type} {enc : TypeId × Value → H} {W : World} {a : Option Addr} {len cap : Nat} {d : DataW H} {p : List MemPlace} {base : Nat} {sp : Nat → Bool} {held : Bool}
    (h : DataW.Trod enc Tryd.prog W base sp held 24 (.slice a len cap) d p) : len ≤ maxLen ∧ (len = 0 ∨ ∃ b off, a = some ⟨b, off, none⟩ ∧ b < W.heap.size ∧ ∃ F : Nat → Folder, ∀ j, j < len → IsFolder W b off j (F j)) := by
  obtain ⟨fuel, hf⟩ := h
  rcases Deep.open_slice Tryd.underlying24 hf with ⟨hcs, _⟩ | ⟨x, l, c, m, n, D, Pl, hcs, _, hl, hm, hmm, _, hel⟩
  · simp [Value.cells] at hcs
    exact ⟨by rw [hcs.2.1]; exact Nat.zero_le _, Or.inl hcs.2.1⟩
  · simp [Value.cells] at hcs
    obtain ⟨rfl, rfl, rfl⟩ := hcs
    have c28 : Tryd.prog.cellsOf 28 = 2 := by kernel_rfl
    rw [c28] at hel
    have hlm : len ≤ m := by rw [hmm]; split <;> omega
    refine ⟨Nat.le_trans hl hm, ?_⟩
    by_cases h0 : len = 0
    · exact Or.inl h0
    refine Or.inr ?_
    obtain ⟨b, off, spot⟩ := x
    obtain ⟨cs0, hc0, _⟩ := hel 0 (by omega)
    obtain ⟨_, hlen0, hcc⟩ := World.cells?_some hc0
    have hc := hcc 0 (by omega)
    obtain ⟨v0, hv0⟩ : ∃ v, cs0[0]? = some v := ⟨_, List.getElem?_eq_getElem (by omega)⟩
    rw [hv0] at hc
    have hspot : spot = none := by simpa [Addr.add] using World.cell?_spot hc
    subst hspot
    refine ⟨b, off, rfl, cell_lt (by rw [WideShapes.add_plain, WideShapes.add_plain] at hc; exact hc), ?_⟩
    exact choose_folder fun j hj => by
      obtain ⟨cs, h1, h2⟩ := hel j (by omega)
      exact folder_at h1 h2

theorem zz15_nil (P : Prop) (a : Option Addr) (cap : Nat) (name : ByteArray) (w : World) (hn : name.size ≤ maxLen) (hP : P) :
    Calls Tryd.prog 15 #[.slice a 0 cap, .string name] w (RetF P w) := by
  unfold maxLen at hn
  go_enter Tryd.func15, Tryd.ntmps15
  go_wp2
  refine wp_loop_rounds 1 ?_
  rw [rounds_succ]
  go_wp2
  all_goals (go_ret; exact ⟨⟨_, rfl, fun _ => hP⟩, rfl⟩)

set_option maxRecDepth 100000 in
theorem law6_nil (a0 : Option Addr) (cap : Nat) (name : ByteArray) (w : World) (hn : name.size ≤ maxLen) :
    Calls Tryd.prog 6 #[.slice a0 0 cap, .string name] w fun e w' => e = .returned (.bool true) ∧ Below w.heap.size w w' := by
  have Z : Hid (Calls Tryd.prog 15 #[.slice a0 0 cap, .string name] w (RetF True w)) := zz15_nil _ a0 cap name w hn trivial
  have L1 := look_held (World.ownsMap_made w Tryd.prog 9 hR) (name := name) hn (v := .slice none 0 0) rfl
  have K := list_none (.map (some w.heap.size)) name none 0 _ L1 (conv_empty none 0 _)
  have K' : Hid (Calls Tryd.prog 16 #[.map (some w.heap.size), .string name] (w.alloc (.map #[] 0)) fun e w' => e = .returned (.slice none 0 0) ∧ w' = w.alloc (.map #[] 0)) := K
  have hnil := fun (w : World) (a : Option Addr) (n c : Nat) => Lib.run_eql_slice_nil (P := Tryd.prog) w 31 9 a n c 0 0 Tryd.underlying31
  have hmm := @run_makeMap Tryd.prog
  clear K L1
  unfold maxLen at hn
  go_enter Tryd.func6, Tryd.ntmps6
  go_wp2_with fail
  refine Z.out.mono ?_
  rintro e w' ⟨⟨bb, rfl, _⟩, rfl⟩
  clear Z
  cases bb with
  | false =>
    go_wp2
    go_ret
    exact ⟨rfl, Below.refl _ _⟩
  | true =>
  by_cases big2 : 1048576 < name.size
  · go_wp2
    go_ret
    exact ⟨rfl, Below.refl _ _⟩
  go_wp2
  refine wp_loop_rounds 1 ?_
  rw [rounds_succ]
  go_wp2
  refine wp_loop_rounds 1 ?_
  rw [rounds_succ]
  go_wp2
  refine wp_loop_rounds 1 ?_
  rw [rounds_succ]
  go_wp2_with (go_at_call 16; refine K'.out.mono ?_; rintro e w' ⟨rfl, rfl⟩)
  go_ret
  exact ⟨rfl, (Below.refl _ _).alloc (Nat.le_refl _) _⟩

theorem law6 (a : Option Addr) (len cap : Nat) (name : ByteArray) (w : World) (hl : len ≤ maxLen) (hn : name.size ≤ maxLen)
    (h : len = 0 ∨ ∃ b off, a = some ⟨b, off, none⟩ ∧ b < w.heap.size ∧ ∃ F : Nat → Folder, ∀ j, j < len → IsFolder w b off j (F j)) (hLib : NlLib w) :
    Calls Tryd.prog 6 #[.slice a len cap, .string name] w fun e w' => e = .returned (.bool true) ∧ Below w.heap.size w w' := by
  by_cases h1 : len = 0
  · rw [h1]
    exact law6_nil a cap name w hn
  rcases h with h0 | ⟨b, off, rfl, hb, F, hF⟩
  · exact absurd h0 h1
  exact law6_main len (fun j => (F j).nm) (fun j => (F j).va) (fun j => (F j).vl) (fun j => (F j).vc) (fun j => (F j).bs) b off cap name w (by omega) hl hn
    (fun j hj => (hF j hj).1) (fun j hj => (hF j hj).2.1) (fun j hj => (hF j hj).2.2.1) (fun j hj => (hF j hj).2.2.2.1) (fun j hj => (hF j hj).2.2.2.2) hb hLib
end Go.Proofs.Qxb6602347aDoor
