import Derived.Test.Qxb6602347aDoorListL
import Derived.Test.Qxb6602347aDoorReadB
import Derived.SliceStrings
import Derived.Test.Qxb6602347aDoorTie
import Derived.Test.Qxb6602347aDoorCards
namespace Go.Proofs.Qxb6602347aDoor
open Go.ChangeShapes Go.WideShapes Go.ChangeAt Go.RowKit Go.WideMaps Go.WideElems Go.PlainAid
open Go.ChangeMaps (open_string shut_string)

/-- A slice of strings that came in: nothing in it, or cells that hold xs. -/
def IsStrs (w : World) (a : Option Addr) (len : Nat) (xs : List ByteArray) : Prop :=
  xs.length = len ∧ (∀ j, j < xs.length → (xs.getD j ByteArray.empty).size ≤ maxLen) ∧ (len = 0 ∨ ∃ b off, a = some ⟨b, off, none⟩ ∧ b < w.heap.size ∧ ∀ j, j < xs.length → w.cell? ⟨b, off + j, none⟩ = some (.string (xs.getD j ByteArray.empty)))

theorem strs_of {H : Type} {enc : TypeId × Value → H} {W : World} {a : Option Addr} {len cap : Nat} {d : DataW H} {p : List MemPlace} {base : Nat} {sp : Nat → Bool} {held : Bool}
    (h : DataW.Trod enc Tryd.prog W base sp held 31 (.slice a len cap) d p) : len ≤ maxLen ∧ ∃ xs, IsStrs W a len xs := by
  obtain ⟨fuel, hf⟩ := h
  rcases open_strings Tryd.underlying31 Tryd.underlying9 (by kernel_rfl) hf with ⟨hcs, _⟩ | ⟨x, l, c, zs, hcs, _, hl, hm, hz, _, hcell, hwz⟩
  · simp [Value.cells] at hcs
    obtain ⟨rfl, rfl, rfl⟩ := hcs
    exact ⟨Nat.zero_le _, [], rfl, fun j hj => by simp at hj, Or.inl rfl⟩
  · simp [Value.cells] at hcs
    obtain ⟨rfl, rfl, rfl⟩ := hcs
    have hzl : len ≤ zs.length := by rw [hz]; split <;> omega
    have hget : ∀ j, j < len → (zs.take len).getD j ByteArray.empty = zs.getD j ByteArray.empty := fun j hj => by
      simp [List.getD_eq_getElem?_getD, hj]
    refine ⟨Nat.le_trans hl hm, zs.take len, by simp; omega, ?_, ?_⟩
    · intro j hj
      have hj' : j < zs.length := by simp at hj; omega
      rw [hget j (by simp at hj; omega), List.getD_eq_getElem?_getD, List.getElem?_eq_getElem hj']
      exact hwz _ (List.getElem_mem hj')
    by_cases h0 : len = 0
    · exact Or.inl h0
    refine Or.inr ?_
    obtain ⟨b, off, spot⟩ := x
    have hc := hcell 0 (by omega)
    have hspot : spot = none := by simpa [Addr.add] using World.cell?_spot hc
    subst hspot
    refine ⟨b, off, rfl, cell_lt hc, fun j hj => ?_⟩
    have hj' : j < zs.length := by simp at hj; omega
    rw [← WideShapes.add_plain, hcell j hj', hget j (by simp at hj; omega)]

theorem zz20_nil (P : Prop) (a : Option Addr) (cap : Nat) (name : ByteArray) (w : World) (hn : name.size ≤ maxLen) (hP : P) :
    Calls Tryd.prog 20 #[.slice a 0 cap, .string name] w (RetB P w) := by
  unfold maxLen at hn
  go_enter Tryd.func20, Tryd.ntmps20
  go_wp2
  refine wp_loop_rounds 1 ?_
  rw [rounds_succ]
  go_wp2
  all_goals (go_ret; exact ⟨⟨_, rfl, fun _ => hP⟩, rfl⟩)

theorem law8_nil (a0 : Option Addr) (cap : Nat) (name : ByteArray) (w : World) (hn : name.size ≤ maxLen) :
    Calls Tryd.prog 8 #[.slice a0 0 cap, .string name] w fun e w' => e = .returned (.bool true) ∧ Below w.heap.size w w' := by
  have Z : Hid (Calls Tryd.prog 20 #[.slice a0 0 cap, .string name] w (RetB True w)) := zz20_nil _ a0 cap name w hn trivial
  unfold maxLen at hn
  go_enter Tryd.func8, Tryd.ntmps8
  go_wp2_with fail
  refine Z.out.mono ?_
  rintro e w' ⟨⟨bb, rfl, _⟩, rfl⟩
  clear Z
  cases bb with
  | false =>
    go_wp2
    go_ret
    exact ⟨rfl, Below.refl _ _⟩
  | true =>
  by_cases big2 : 1048576 < name.size
  · go_wp2
    go_ret
    exact ⟨rfl, Below.refl _ _⟩
  go_wp2
  refine wp_loop_rounds 1 ?_
  rw [rounds_succ]
  go_wp2
  go_ret
  exact ⟨rfl, Below.refl _ _⟩

theorem law8 (a : Option Addr) (len cap : Nat) (xs : List ByteArray) (name : ByteArray) (w : World) (hl : len ≤ maxLen) (hn : name.size ≤ maxLen) (h : IsStrs w a len xs) (hLib : NlLib w) :
    Calls Tryd.prog 8 #[.slice a len cap, .string name] w fun e w' => e = .returned (.bool true) ∧ Below w.heap.size w w' := by
  obtain ⟨rfl, hsz, h0 | ⟨b, off, rfl, hb, hc⟩⟩ := h
  · rw [h0]
    exact law8_nil a cap name w hn
  by_cases h1 : xs.length = 0
  · rw [h1]
    exact law8_nil _ cap name w hn
  exact law8_main xs b off cap name w (by omega) hl hn hc hsz hb hLib

set_option maxRecDepth 100000 in
theorem lifted8 (os : Os) (started : os.Started) (H : Type) (enc : TypeId × Value → H) :
    ReturnsInHanded {} Tryd.checked os 8 .any (fun w args => (Rows.fnListReadsBackJoinedLinesSpec.pre enc Tryd.prog Tryd.f8 [] false w args ∧ laidMetH Tryd.prog Rows.fnListReadsBackJoinedLinesRow.laid w) ∧ sizedMet enc Tryd.prog Tryd.f8 (OpenSpec.ofChange Rows.fnListReadsBackJoinedLinesSpec) false w args)
      (Rows.fnListReadsBackJoinedLinesSpec.post enc Tryd.prog Tryd.f8 false true false false) := by
  refine handed_shaped (C := Tryd.checked) (X := fun w _ => laidMetH Tryd.prog Rows.fnListReadsBackJoinedLinesRow.laid w) (fun _ _ _ hh h => h.of_heap hh) own started (by kernel_rfl) Tryd.func8
    (ChangeSpec.witness_shaped (enc := enc) (C := Tryd.checked) (os := os) (X := fun w _ => laidMetH Tryd.prog Rows.fnListReadsBackJoinedLinesRow.laid w) false (World.laidAll Tryd.prog os Rows.fnListReadsBackJoinedLinesRow.laid) #[.slice none 0 0, .string ⟨#[]⟩] 8 (World.laidAll_os _ _ _)
      (World.shaped_of_ZipB (by kernel_rfl) (by kernel_rfl)) (by kernel_rfl) (by kernel_rfl) (by kernel_rfl)
      (by rw [MakeChecks.laidMetH_plain _ _ _ (by kernel_rfl)]; exact laidMet_laidAll _ (by kernel_rfl) (by kernel_rfl))) ?_
  intro W base args ds gs before hval0 hW _ _ hsh
  have hval : ∀ (j : Nat) t v, Tryd.f8.params[j]? = some t → args[j]? = some v → Value.okWide Tryd.prog W .any base t v := hval0
  have hW' := hW
  obtain ⟨p, q, hA0, hV, rfl, _, _⟩ := hW
  have hA : DataW.TrodAll enc Tryd.prog W 0 (fun _ => true) true Tryd.f8.params.toList args.toList ds p := hA0
  rw [Tryd.params8] at hA hval
  obtain ⟨v0, v1, d0, d1, p0, p1, rfl, rfl, rfl, h0, h1⟩ := trodAll_two hA
  obtain ⟨rfl, rfl⟩ := trodVars_none hV
  obtain ⟨a0, len0, cap0, rfl⟩ := okWide_slice Tryd.underlying31 (hval 0 31 v0 rfl rfl)
  have lt0 : ∀ x ∈ p0, x.block < W.heap.size := by obtain ⟨m, hm⟩ := h0; exact DataW.trod_lt m _ _ _ hm
  obtain ⟨hlm, l, hl⟩ := strs_of h0
  obtain ⟨s, rfl, rfl, rfl, ws⟩ := open_string Tryd.underlying9 (hval 1 9 v1 rfl rfl) h1
  refine (law8 a0 len0 cap0 l s W hlm ws hl (nlLib_of W hsh)).mono fun e W' ⟨he, hb⟩ => ?_
  subst he
  exact ⟨_, rfl, _, _, _, [], _, [], hW', trodAll_mk1 (shut_bool Tryd.underlying4 _), trodAll_mk2 (Below.trod laidOut (by kernel_rfl) (of_decide_eq_true (by kernel_rfl)) h0 hb lt0) (shut_string Tryd.underlying9 ws), rfl, hb.frame _, fun h => by cases h⟩

theorem read_holds : Rows.FnListReadsBackJoinedLinesSaid :=
  OpenClaim.holds_of_wide 8 Tryd.f8 rfl rfl rfl rfl rfl rfl rfl ⟨rfl, rfl, rfl, rfl, rfl⟩ rfl rfl rfl rfl rfl (by kernel_rfl) Tryd.func8 (by kernel_rfl)
    (of_decide_eq_true (by kernel_rfl)) (by unfold Func.isWrapper; rw [if_neg (of_decide_eq_false (by kernel_rfl))]; exact ⟨rfl, rfl⟩)
    (fun os started H enc _ => lifted8 os started H enc)

theorem read_card : Rows.FnListReadsBackJoinedLinesCardSaid :=
  Claim7.holds_tied_plain_at .later [] [.data, .pinned] true (true, "a325c5af68ea71f5719a779307dba871299aa276624011a123319bd5744ac9f8") false
    read_holds (fun _ h => by cases h) (by kernel_rfl) (fun _ h => by cases h) fnListReadsBackJoinedLines_row_tie rfl ⟨rfl, rfl⟩ (by kernel_rfl) rfl
    (fun f fn hf hfn => by
      obtain rfl : f = 8 := Option.some.inj ((show Tryd.prog.funcNamed Rows.fnListReadsBackJoinedLinesRow.func = some 8 by kernel_rfl).symm.trans hf) |>.symm
      obtain rfl : fn = Tryd.f8 := (Option.some.inj (Tryd.func8.symm.trans hfn)).symm
      exact ⟨by kernel_rfl, fun j t ht => by
        rw [Tryd.params8] at ht
        have hm : t ∈ [31, 9] := by simpa using Array.mem_of_getElem? ht
        have hall : ([31, 9].all fun u => !Tryd.prog.wantsStandIn u) = true := by kernel_rfl
        exact (show Tryd.prog.wantsStandIn t = false by simpa using List.all_eq_true.1 hall t hm)⟩)
    (by kernel_rfl)
end Go.Proofs.Qxb6602347aDoor
