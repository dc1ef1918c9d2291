import Derived.Test.Qxb6602347aDoorListL
import Derived.Test.Qxb6602347aDoorTie
import Derived.Test.Qxb6602347aDoorCards
namespace Go.Proofs.Qxb6602347aDoor
open Go.ChangeShapes Go.WideShapes Go.ChangeAt Go.RowKit Go.WideMaps Go.WideElems Go.PlainAid
open Go.ChangeMaps (open_string shut_string)

theorem law7 (a : Option Addr) (len cap : Nat) (l : List UInt8) (name : ByteArray) (w : World) (hl : len ≤ maxLen) (hn : name.size ≤ maxLen) (h : IsBytes w a len l) (hLib : NlLib w) :
    Calls Tryd.prog 7 #[.slice a len cap, .string name] w fun e w' => e = .returned (.bool true) ∧ Below w.heap.size w w' := by
  by_cases hbig : 1048576 < len + name.size
  · exact law7_early a len cap name w hl hn hbig
  obtain ⟨rfl, h0 | ⟨b, off, rfl, hb, hc⟩⟩ := h
  · rw [h0]
    exact law7_nil a cap name w (by omega)
  by_cases h1 : l.length = 0
  · rw [h1]
    exact law7_nil _ cap name w (by omega)
  exact law7_main l b off cap name w (by omega) (by omega) hc hb hLib

set_option maxRecDepth 100000 in
theorem lifted7 (os : Os) (started : os.Started) (H : Type) (enc : TypeId × Value → H) :
    ReturnsInHanded {} Tryd.checked os 7 .any (fun w args => (Rows.fnListFinalNewlineIsOptionalSpec.pre enc Tryd.prog Tryd.f7 [] false w args ∧ laidMetH Tryd.prog Rows.fnListFinalNewlineIsOptionalRow.laid w) ∧ sizedMet enc Tryd.prog Tryd.f7 (OpenSpec.ofChange Rows.fnListFinalNewlineIsOptionalSpec) false w args)
      (Rows.fnListFinalNewlineIsOptionalSpec.post enc Tryd.prog Tryd.f7 false true false false) := by
  refine handed_shaped (C := Tryd.checked) (X := fun w _ => laidMetH Tryd.prog Rows.fnListFinalNewlineIsOptionalRow.laid w) (fun _ _ _ hh h => h.of_heap hh) own started (by kernel_rfl) Tryd.func7
    (ChangeSpec.witness_shaped (enc := enc) (C := Tryd.checked) (os := os) (X := fun w _ => laidMetH Tryd.prog Rows.fnListFinalNewlineIsOptionalRow.laid w) false (World.laidAll Tryd.prog os Rows.fnListFinalNewlineIsOptionalRow.laid) #[.slice none 0 0, .string ⟨#[]⟩] 8 (World.laidAll_os _ _ _)
      (World.shaped_of_ZipB (by kernel_rfl) (by kernel_rfl)) (by kernel_rfl) (by kernel_rfl) (by kernel_rfl)
      (by rw [MakeChecks.laidMetH_plain _ _ _ (by kernel_rfl)]; exact laidMet_laidAll _ (by kernel_rfl) (by kernel_rfl))) ?_
  intro W base args ds gs before hval0 hW _ _ hsh
  have hval : ∀ (j : Nat) t v, Tryd.f7.params[j]? = some t → args[j]? = some v → Value.okWide Tryd.prog W .any base t v := hval0
  have hW' := hW
  obtain ⟨p, q, hA0, hV, rfl, _, _⟩ := hW
  have hA : DataW.TrodAll enc Tryd.prog W 0 (fun _ => true) true Tryd.f7.params.toList args.toList ds p := hA0
  rw [Tryd.params7] at hA hval
  obtain ⟨v0, v1, d0, d1, p0, p1, rfl, rfl, rfl, h0, h1⟩ := trodAll_two hA
  obtain ⟨rfl, rfl⟩ := trodVars_none hV
  obtain ⟨a0, len0, cap0, rfl⟩ := okWide_slice Tryd.underlying26 (hval 0 26 v0 rfl rfl)
  have lt0 : ∀ x ∈ p0, x.block < W.heap.size := by obtain ⟨m, hm⟩ := h0; exact DataW.trod_lt m _ _ _ hm
  obtain ⟨hlm, l, hl⟩ := bytes_of h0
  obtain ⟨s, rfl, rfl, rfl, ws⟩ := open_string Tryd.underlying9 (hval 1 9 v1 rfl rfl) h1
  refine (law7 a0 len0 cap0 l s W hlm ws hl (nlLib_of W hsh)).mono fun e W' ⟨he, hb⟩ => ?_
  subst he
  exact ⟨_, rfl, _, _, _, [], _, [], hW', trodAll_mk1 (shut_bool Tryd.underlying4 _), trodAll_mk2 (Below.trod laidOut (by kernel_rfl) (of_decide_eq_true (by kernel_rfl)) h0 hb lt0) (shut_string Tryd.underlying9 ws), rfl, hb.frame _, fun h => by cases h⟩

theorem final_holds : Rows.FnListFinalNewlineIsOptionalSaid :=
  OpenClaim.holds_of_wide 7 Tryd.f7 rfl rfl rfl rfl rfl rfl rfl ⟨rfl, rfl, rfl, rfl, rfl⟩ rfl rfl rfl rfl rfl (by kernel_rfl) Tryd.func7 (by kernel_rfl)
    (of_decide_eq_true (by kernel_rfl)) (by unfold Func.isWrapper; rw [if_neg (of_decide_eq_false (by kernel_rfl))]; exact ⟨rfl, rfl⟩)
    (fun os started H enc _ => lifted7 os started H enc)

theorem final_card : Rows.FnListFinalNewlineIsOptionalCardSaid :=
  Claim7.holds_tied_plain_at .later [] [.data, .pinned] true (true, "a325c5af68ea71f5719a779307dba871299aa276624011a123319bd5744ac9f8") false
    final_holds (fun _ h => by cases h) (by kernel_rfl) (fun _ h => by cases h) fnListFinalNewlineIsOptional_row_tie rfl ⟨rfl, rfl⟩ (by kernel_rfl) rfl
    (fun f fn hf hfn => by
      obtain rfl : f = 7 := Option.some.inj ((show Tryd.prog.funcNamed Rows.fnListFinalNewlineIsOptionalRow.func = some 7 by kernel_rfl).symm.trans hf) |>.symm
      obtain rfl : fn = Tryd.f7 := (Option.some.inj (Tryd.func7.symm.trans hfn)).symm
      exact ⟨by kernel_rfl, fun j t ht => by
        rw [Tryd.params7] at ht
        have hm : t ∈ [26, 9] := by simpa using Array.mem_of_getElem? ht
        have hall : ([26, 9].all fun u => !Tryd.prog.wantsStandIn u) = true := by kernel_rfl
        exact (show Tryd.prog.wantsStandIn t = false by simpa using List.all_eq_true.1 hall t hm)⟩)
    (by kernel_rfl)
end Go.Proofs.Qxb6602347aDoor
