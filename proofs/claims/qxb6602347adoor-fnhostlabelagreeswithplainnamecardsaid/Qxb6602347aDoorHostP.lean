import Derived.Test.Qxb6602347aDoorHostC
import Derived.Test.Qxb6602347aDoorLift
import Derived.Test.Qxb6602347aDoorShelf
import Derived.Lib.SplitLaws
import Derived.Test.Qxb6602347aDoorTie
import Derived.Test.Qxb6602347aDoorCards
import Derived.OpenShut
namespace Go.Proofs.Qxb6602347aDoor
open Go.ChangeShapes Go.WideShapes Go.ChangeAt Go.RowKit Go.WideMaps Go.WideElems Go.PlainAid
open Go.ChangeMaps (open_string shut_string)

theorem count_zero (s : ByteArray) (h : ∀ j, j < s.size → bt s j ≠ 46) : Lib.countB s ⟨#[46]⟩ = 0 := by
  show Lib.count s.data.toList [46] = 0
  rw [Lib.count_one, List.count_eq_zero]
  intro hm
  obtain ⟨j, hj, e⟩ := List.getElem_of_mem hm
  have hj' : j < s.size := by rw [Array.length_toList] at hj; exact hj
  apply h j hj'
  unfold bt
  rw [dif_pos hj']
  have e' : s.data[j]'(by rw [Array.length_toList] at hj; exact hj) = 46 := by rw [Array.getElem_toList] at e; exact e
  have : s[j] = 46 := e'
  rw [this]
  rfl

theorem split_one (s : ByteArray) (w : World) (hsh : w.ShapedOpen Tryd.prog) :
    s.size ≤ 1048576 → (∀ j, j < s.size → bt s j ≠ 46 ∧ bt s j ≠ 95) → ∀ w', Below w.heap.size w w' → SplitOne s w' := by
  intro h1 h2 w' hb
  have h := Tryd.strings_Split_shaped s ⟨#[46]⟩ w' (shaped_below hsh hb) (by omega) (by decide)
  rw [count_zero s (fun j hj => (h2 j hj).1)] at h
  exact h

set_option maxRecDepth 100000 in
theorem lifted5 (os : Os) (started : os.Started) (H : Type) (enc : TypeId × Value → H) :
    ReturnsInHanded {} Tryd.checked os 5 .any (fun w args => (Rows.fnHostLabelAgreesWithPlainNameSpec.pre enc Tryd.prog Tryd.f5 [] false w args ∧ laidMetH Tryd.prog Rows.fnHostLabelAgreesWithPlainNameRow.laid w) ∧ sizedMet enc Tryd.prog Tryd.f5 (OpenSpec.ofChange Rows.fnHostLabelAgreesWithPlainNameSpec) false w args)
      (Rows.fnHostLabelAgreesWithPlainNameSpec.post enc Tryd.prog Tryd.f5 false true false false) := by
  refine handed_shaped (C := Tryd.checked) (X := fun w _ => laidMetH Tryd.prog Rows.fnHostLabelAgreesWithPlainNameRow.laid w) (fun _ _ _ hh h => h.of_heap hh) own started (by kernel_rfl) Tryd.func5
    (ChangeSpec.witness_shaped (enc := enc) (C := Tryd.checked) (os := os) (X := fun w _ => laidMetH Tryd.prog Rows.fnHostLabelAgreesWithPlainNameRow.laid w) false (World.laidAll Tryd.prog os Rows.fnHostLabelAgreesWithPlainNameRow.laid) #[.string ⟨#[]⟩] 8 (World.laidAll_os _ _ _)
      (World.shaped_of_ZipB (by kernel_rfl) (by kernel_rfl)) (by kernel_rfl) (by kernel_rfl) (by kernel_rfl)
      (by rw [MakeChecks.laidMetH_plain _ _ _ (by kernel_rfl)]; exact laidMet_laidAll _ (by kernel_rfl) (by kernel_rfl))) ?_
  intro W base args ds gs before hval0 hW _ _ hsh
  have hval : ∀ (j : Nat) t v, Tryd.f5.params[j]? = some t → args[j]? = some v → Value.okWide Tryd.prog W .any base t v := hval0
  have hW' := hW
  obtain ⟨p, q, hA0, hV, rfl, _, _⟩ := hW
  have hA : DataW.TrodAll enc Tryd.prog W 0 (fun _ => true) true Tryd.f5.params.toList args.toList ds p := hA0
  rw [Tryd.params5] at hA hval
  obtain ⟨v0, d0, rfl, rfl, h0⟩ := trodAll_one hA
  obtain ⟨rfl, rfl⟩ := trodVars_none hV
  obtain ⟨s, rfl, rfl, rfl, ws⟩ := open_string Tryd.underlying9 (hval 0 9 v0 rfl rfl) h0
  simp only [List.append_nil] at hW'
  refine (law5 s W ws (split_one s W hsh)).mono fun e W' ⟨he, hb⟩ => ?_
  subst he
  exact ⟨_, rfl, _, _, _, [], [], [], hW', trodAll_mk1 (shut_bool Tryd.underlying4 _), trodAll_mk1 (shut_string Tryd.underlying9 ws), rfl, hb.frame _, fun h => by cases h⟩

theorem host_holds : Rows.FnHostLabelAgreesWithPlainNameSaid :=
  OpenClaim.holds_of_wide 5 Tryd.f5 rfl rfl rfl rfl rfl rfl rfl ⟨rfl, rfl, rfl, rfl, rfl⟩ rfl rfl rfl rfl rfl (by kernel_rfl) Tryd.func5 (by kernel_rfl)
    (of_decide_eq_true (by kernel_rfl)) (by unfold Func.isWrapper; rw [if_neg (of_decide_eq_false (by kernel_rfl))]; exact ⟨rfl, rfl⟩)
    (fun os started H enc _ => lifted5 os started H enc)

theorem host_card : Rows.FnHostLabelAgreesWithPlainNameCardSaid :=
  Claim7.holds_tied_plain_at .later [] [.data, .pinned] true (true, "a325c5af68ea71f5719a779307dba871299aa276624011a123319bd5744ac9f8") false
    host_holds (fun _ h => by cases h) (by kernel_rfl) (fun _ h => by cases h) fnHostLabelAgreesWithPlainName_row_tie rfl ⟨rfl, rfl⟩ (by kernel_rfl) rfl
    (fun f fn hf hfn => by
      obtain rfl : f = 5 := Option.some.inj ((show Tryd.prog.funcNamed Rows.fnHostLabelAgreesWithPlainNameRow.func = some 5 by kernel_rfl).symm.trans hf) |>.symm
      obtain rfl : fn = Tryd.f5 := (Option.some.inj (Tryd.func5.symm.trans hfn)).symm
      exact ⟨by kernel_rfl, fun j t ht => by
        rw [Tryd.params5] at ht
        have hm : t ∈ [9] := by simpa using Array.mem_of_getElem? ht
        have hall : ([9].all fun u => !Tryd.prog.wantsStandIn u) = true := by kernel_rfl
        exact (show Tryd.prog.wantsStandIn t = false by simpa using List.all_eq_true.1 hall t hm)⟩)
    (by kernel_rfl)
end Go.Proofs.Qxb6602347aDoor
