import Derived.Test.Qxb6602823aDoorMo
namespace Go.Proofs.Qxb6602823aDoor
open Go.RowKit Go Go.PlainAid

theorem zz6 (n : ByteArray) (w : World) : Calls Tryd.prog 6 #[.string n] w fun e w' => (∃ b, e = .returned (.bool b) ∧ (b = true → n.size ≤ 1048576)) ∧ w = w' := by
  by_cases h : 1048576 < n.size
  · go_enter Tryd.func6, Tryd.ntmps6
    go_wp2
    go_ret
    exact ⟨⟨_, rfl, fun h => by cases h⟩, rfl⟩
  · go_enter Tryd.func6, Tryd.ntmps6
    go_wp2
    go_ret
    exact ⟨⟨_, rfl, fun _ => by omega⟩, rfl⟩

/-- ZZCanonicalNumber. -/
theorem canon8 (n : ByteArray) (x : Num) (hrd : rd n.data.toList = some x) (w : World) (hn : n.size ≤ 4000000) (hE : Env w) : Calls Tryd.prog 8 #[.string n] w (RetS (canonB n.data.toList x) w) := by
  obtain ⟨P, E, hS⟩ := rd_some hrd
  have C := canon n x P E hS w hn hE
  clear hS hrd hE
  obtain ⟨S, hS⟩ : ∃ S : ByteArray, S = ⟨(canonB n.data.toList x).toArray⟩ := ⟨_, rfl⟩
  have HC : Hid (Calls Tryd.prog 14 #[.string n] w fun e w' => e = .returned (.string S) ∧ Below w.heap.size w w') := C.mono fun e w' h => ⟨by rw [hS]; exact h.1, h.2⟩
  have HR : Hid (∀ w', Below w.heap.size w w' → RetS (canonB n.data.toList x) w (.returned (.string S)) w') := fun w' hb => ⟨by rw [hS], hb⟩
  clear C hS
  go_enter Tryd.func8, Tryd.ntmps8
  go_wp2_with (go_at_call 14; refine HC.out.mono ?_; rintro e w' ⟨rfl, hB⟩; have HB : Hid (Below w.heap.size w w') := hB; clear hB)
  go_ret
  exact HR.out _ HB.out

def Yes (w : World) (e : Ending) (w' : World) : Prop := e = .returned (.bool true) ∧ Below w.heap.size w w'

set_option maxRecDepth 100000 in
theorem law3 (n : ByteArray) (w : World) (hE : Env w) : Calls Tryd.prog 3 #[.string n] w (Yes w) := by
  have C6 : Hid (∀ w, Calls Tryd.prog 6 #[.string n] w fun e w' => (∃ b, e = .returned (.bool b) ∧ (b = true → n.size ≤ 1048576)) ∧ w = w') := zz6 n
  by_cases hbig : 1048576 < n.size
  · go_enter Tryd.func3, Tryd.ntmps3
    go_wp2_with (go_at_call 6; refine (C6.out _).mono ?_; rintro e w' ⟨⟨b, rfl, _⟩, rfl⟩)
    all_goals (go_ret; exact ⟨rfl, Below.refl _ _⟩)
  · have hn : n.size ≤ 1048576 := by omega
    clear hbig
    have C7 : Hid (Calls Tryd.prog 7 #[.string n] w (RetM n w)) := model n w (by omega)
    cases hrd : rd n.data.toList with
    | none =>
      have C : Hid (Calls Tryd.prog 7 #[.string n] w fun e w' => e = .returned (.tuple #[.bool false, .string ⟨#[]⟩]) ∧ Below w.heap.size w w') :=
        C7.out.mono fun _ _ h => ⟨by have := h.1; rw [hrd] at this; exact this, h.2⟩
      clear C7 hrd
      go_enter Tryd.func3, Tryd.ntmps3
      go_wp2_with (first | (go_at_call 6; refine (C6.out _).mono ?_; rintro e w' ⟨⟨b, rfl, _⟩, rfl⟩) | (go_at_call 7; refine C.out.mono ?_; rintro e w' ⟨rfl, hB⟩; have HB : Hid (Below w.heap.size w w') := hB; clear hB))
      all_goals first
        | (go_ret; exact ⟨rfl, Below.refl _ _⟩)
        | (go_ret; exact ⟨rfl, HB.out⟩)
    | some x =>
      obtain ⟨S, hS⟩ : ∃ S : ByteArray, S = ⟨(canonB n.data.toList x).toArray⟩ := ⟨_, rfl⟩
      have C : Hid (Calls Tryd.prog 7 #[.string n] w fun e w' => e = .returned (.tuple #[.bool true, .string S]) ∧ Below w.heap.size w w') :=
        C7.out.mono fun _ _ h => ⟨by have := h.1; rw [hrd] at this; rw [hS]; exact this, h.2⟩
      have C8 : Hid (∀ w', Below w.heap.size w w' → Calls Tryd.prog 8 #[.string n] w' fun e w'' => e = .returned (.string S) ∧ Below w.heap.size w w'') := fun w' hb =>
        (canon8 n x hrd w' (by omega) (hE.step hb)).mono fun _ _ h => ⟨by rw [hS]; exact h.1, hb.trans (h.2.mono hb.size)⟩
      have hbeq : (S.toList == S.toList) = true := beq_self_eq_true _
      clear C7 hrd hS hE
      go_enter Tryd.func3, Tryd.ntmps3
      go_wp2_with (first | (go_at_call 6; refine (C6.out _).mono ?_; rintro e w' ⟨⟨b, rfl, _⟩, rfl⟩) | (go_at_call 7; refine C.out.mono ?_; rintro e w' ⟨rfl, hB⟩; have HB : Hid (Below w.heap.size w w') := hB; clear hB) | (go_at_call 8; refine (C8.out _ HB.out).mono ?_; rintro e w' ⟨rfl, hB⟩; have HB2 : Hid (Below w.heap.size w w') := hB; clear hB))
      all_goals first
        | (go_ret; exact ⟨rfl, Below.refl _ _⟩)
        | (go_ret; exact ⟨rfl, HB2.out⟩)
end Go.Proofs.Qxb6602823aDoor
