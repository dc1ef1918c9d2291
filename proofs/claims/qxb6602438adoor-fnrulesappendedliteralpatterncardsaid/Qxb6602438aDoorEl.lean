import Derived.Test.Qxb6602438aDoorGl
import Derived.Lib.SmallJoins
namespace Go.Proofs.Qxb6602438aDoor
open Go.RowKit Go Go.PlainAid

def segM (sg : PSeg) (name : ByteArray) : Bool :=
  match sg.g with
  | none => name.toList == sg.li.toList
  | some ts => globB ts name
def okS (sg : PSeg) : Prop := ∀ ts, sg.g = some ts → okG ts

theorem globB_nil0 (name : ByteArray) (h : name.size = 0) : globB [] name = true := by
  unfold globB
  have := (Runs.start 0 name.size (actG [] name) (finG [])).ends (by show ¬ 0 < name.size; omega)
  exact this
theorem globB_nil1 (name : ByteArray) (h : 0 < name.size) : globB [] name = false := by
  unfold globB
  exact (Runs.start 0 name.size (actG [] name) (finG [])).fails h rfl

set_option maxRecDepth 100000 in
theorem glob_nil (name : ByteArray) (a : Option Addr) (cap : Nat) (w : World) : Calls Tryd.prog 35 #[.slice a 0 cap, .string name] w (RetQ (globB [] name) w) := by
  by_cases h : name.size = 0
  · rw [globB_nil0 name h]
    go_enter Tryd.func35, Tryd.ntmps35
    go_wp2
    refine wp_loop_rounds 1 ?_
    rw [rounds_succ]
    go_wp2
    refine wp_loop_rounds 1 ?_
    rw [rounds_succ]
    go_wp2
    go_ret
    exact ⟨rfl, 0, rfl⟩
  · have h1 : 0 < name.size := by omega
    rw [globB_nil1 name h1]
    go_enter Tryd.func35, Tryd.ntmps35
    go_wp2
    refine wp_loop_rounds 1 ?_
    rw [rounds_succ]
    go_wp2
    go_ret
    exact ⟨rfl, 0, rfl⟩

theorem globAt (v : Value) (ts : List PTok) (name : ByteArray) (w : World) (hn : name.size ≤ 1000000) (hok : okG ts) (h : ToksAt w v (some ts)) :
    Calls Tryd.prog 35 #[v, .string name] w (RetQ (globB ts name) w) := by
  obtain ⟨_, ⟨a, cap, rfl, h⟩, hl⟩ := h
  rcases h with rfl | ⟨b, off, rfl, _, hc⟩
  · exact glob_nil name a cap w
  · exact glob ts name b off cap w hl hn hok hc

set_option maxRecDepth 100000 in
theorem seg25 (sg : PSeg) (name : ByteArray) (b o : Nat) (w : World) (hn : name.size ≤ 1000000) (hok : okS sg) (h : SegAt w b o sg) :
    Calls Tryd.prog 25 #[.pointer (some ⟨b, o, none⟩), .string name] w (RetQ (segM sg name) w) := by
  obtain ⟨v, hv, ht⟩ := h.g
  have hli := h.li
  have hnil := fun (w : World) (a : Option Addr) (n c : Nat) => Lib.run_eql_slice_nil (P := Tryd.prog) w 61 76 a n c 0 0 Tryd.underlying61
  unfold segM
  cases hg : sg.g with
  | none =>
    rw [hg] at ht
    have e : v = .slice none 0 0 := ht
    subst e
    obtain ⟨L, hL⟩ : ∃ L, L = sg.li := ⟨_, rfl⟩
    rw [← hL] at hli ⊢
    clear h ht hok hg hL
    simp only
    go_enter Tryd.func25, Tryd.ntmps25
    go_wp2
    go_ret
    exact ⟨rfl, 0, rfl⟩
  | some ts =>
    rw [hg] at ht
    obtain ⟨a, n, c, e⟩ := ht.1
    have C : Hid (Calls Tryd.prog 35 #[v, .string name] w (RetQ (globB ts name) w)) := globAt v ts name w hn (hok ts hg) ht
    obtain ⟨B, hB⟩ : ∃ B, B = globB ts name := ⟨_, rfl⟩
    simp only
    rw [← hB] at C ⊢
    have C' : Hid (Calls Tryd.prog 35 #[v, .string name] w fun e w' => e = .returned (.bool B) ∧ ∃ k, w' = w.drewN k) := C
    subst e
    clear h ht hok hg hB C hli
    go_enter Tryd.func25, Tryd.ntmps25
    go_wp2_with (go_at_call 35; refine C'.out.mono ?_; rintro e w' ⟨rfl, q, rfl⟩)
    go_ret
    exact ⟨rfl, q, rfl⟩
end Go.Proofs.Qxb6602438aDoor
