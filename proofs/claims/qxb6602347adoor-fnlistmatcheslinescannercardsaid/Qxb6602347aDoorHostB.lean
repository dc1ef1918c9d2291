import Derived.Test.Qxb6602347aDoorHostA
namespace Go.Proofs.Qxb6602347aDoor
open Go.RowKit Go Go.PlainAid

/-- What validHostName answers at a host without a dot. -/
def hostB (s : ByteArray) : Bool := decide (1 ≤ s.size ∧ s.size ≤ 63 ∧ bt s 0 ≠ 45 ∧ bt s (s.size - 1) ≠ 45 ∧ ∀ j, j < s.size → lbl (bt s j) = true)

theorem hostB_no (s : ByteArray) (h : ¬ (1 ≤ s.size ∧ s.size ≤ 63 ∧ bt s 0 ≠ 45 ∧ bt s (s.size - 1) ≠ 45)) : hostB s = false := by
  unfold hostB; simp only [decide_eq_false_iff_not]; intro ⟨a, b, c, d, _⟩; exact h ⟨a, b, c, d⟩
theorem hostB_not (s : ByteArray) (k : Nat) (h1 : k < s.size) (h : lbl (bt s k) = false) : hostB s = false := by
  unfold hostB; simp only [decide_eq_false_iff_not]; intro ⟨_, _, _, _, h3⟩; have := h3 k h1; rw [h] at this; cases this
theorem hostB_of (s : ByteArray) (h : 1 ≤ s.size ∧ s.size ≤ 63 ∧ bt s 0 ≠ 45 ∧ bt s (s.size - 1) ≠ 45) (h1 : ∀ j, j < s.size → lbl (bt s j) = true) : hostB s = true := by
  unfold hostB; simp only [decide_eq_true_eq]; exact ⟨h.1, h.2.1, h.2.2.1, h.2.2.2, h1⟩

theorem isEmpty_of (s : ByteArray) (h : s.size = 0) : s.toList.isEmpty = true := by
  rw [ByteArray.toList_eq]; obtain ⟨⟨l⟩⟩ := s
  have : l.length = 0 := h
  cases l with
  | nil => rfl
  | cons _ _ => simp at this
theorem isEmpty_not (s : ByteArray) (h : ¬ s.size = 0) : s.toList.isEmpty = false := by
  rw [ByteArray.toList_eq]; obtain ⟨⟨l⟩⟩ := s
  have : ¬ l.length = 0 := h
  cases l with
  | nil => simp at this
  | cons _ _ => rfl

set_option maxHeartbeats 1000000 in
theorem host_one (s : ByteArray) (w : World)
    (hsplit : Calls Tryd.prog 24 #[.string s, .string ⟨#[46]⟩] w fun e w' => e = .returned (.slice (some ⟨w.heap.size, 0, none⟩) 1 1) ∧ w' = w.alloc (.cells #[.string s] 9)) :
    Calls Tryd.prog 21 #[.string s] w fun e w' => e = .returned (.bool (hostB s)) ∧ Below w.heap.size w w' := by
  obtain ⟨cap, C, fr, hconv, hC⟩ := conv_bytes s (w.alloc (.cells #[.string s] 9))
  simp only [World.size_alloc] at hconv hC
  have HS : Hid (Calls Tryd.prog 24 #[.string s, .string ⟨#[46]⟩] w fun e w' => e = .returned (.slice (some ⟨w.heap.size, 0, none⟩) 1 1) ∧ w' = w.alloc (.cells #[.string s] 9)) := hsplit
  have HB1 : Hid (Below w.heap.size w (w.alloc (.cells #[.string s] 9))) := (Below.refl _ _).alloc (Nat.le_refl _) _
  have HB2 : Hid (Below w.heap.size w ((w.alloc (.cells #[.string s] 9)).alloc (.cells C 5 fr)).drew) := ((HB1.out).alloc (by simp) _).drew
  clear hsplit
  have hbt := get_bt s
  by_cases hpre : ¬ (1 ≤ s.size ∧ s.size ≤ 63 ∧ bt s 0 ≠ 45 ∧ bt s (s.size - 1) ≠ 45)
  · have HP : Hid (hostB s = false) := hostB_no s hpre
    clear hC hconv
    by_cases h0 : s.size = 0
    · have e0 := isEmpty_of s h0
      clear hpre
      go_enter Tryd.func21, Tryd.ntmps21
      go_wp2
      go_ret
      exact ⟨ret_bool HP.out.symm, Below.refl _ _⟩
    have e0 := isEmpty_not s h0
    by_cases h253 : 253 < s.size
    · clear hpre
      go_enter Tryd.func21, Tryd.ntmps21
      go_wp2
      go_ret
      exact ⟨ret_bool HP.out.symm, Below.refl _ _⟩
    by_cases h63 : 63 < s.size
    · clear hpre
      go_enter Tryd.func21, Tryd.ntmps21
      go_wp2_with (go_at_call 24; refine HS.out.mono ?_; rintro e w' ⟨rfl, rfl⟩)
      refine wp_loop_rounds 1 ?_
      rw [rounds_succ]
      go_wp2
      go_ret
      exact ⟨ret_bool HP.out.symm, HB1.out⟩
    by_cases hf : (bt s 0 == 45) = true
    · clear hpre
      go_enter Tryd.func21, Tryd.ntmps21
      go_wp2_with (go_at_call 24; refine HS.out.mono ?_; rintro e w' ⟨rfl, rfl⟩)
      refine wp_loop_rounds 1 ?_
      rw [rounds_succ]
      go_wp2
      go_ret
      exact ⟨ret_bool HP.out.symm, HB1.out⟩
    have hl : (bt s (s.size - 1) == 45) = true := by
      simp at hf
      simp
      omega
    have hf' : (bt s 0 == 45) = false := by simpa using hf
    clear hpre hf
    go_enter Tryd.func21, Tryd.ntmps21
    go_wp2_with (go_at_call 24; refine HS.out.mono ?_; rintro e w' ⟨rfl, rfl⟩)
    refine wp_loop_rounds 1 ?_
    rw [rounds_succ]
    go_wp2
    go_ret
    exact ⟨ret_bool HP.out.symm, HB1.out⟩
  have hpre' := Classical.not_not.1 hpre
  obtain ⟨h1, h63, hf, hl⟩ := hpre'
  have HPRE : Hid (1 ≤ s.size ∧ s.size ≤ 63 ∧ bt s 0 ≠ 45 ∧ bt s (s.size - 1) ≠ 45) := ⟨h1, h63, hf, hl⟩
  have e0 := isEmpty_not s (by omega)
  have hf' : (bt s 0 == 45) = false := by simpa using hf
  have hl' : (bt s (s.size - 1) == 45) = false := by simpa using hl
  clear hpre hf hl
  go_enter Tryd.func21, Tryd.ntmps21
  go_wp2_with (go_at_call 24; refine HS.out.mono ?_; rintro e w' ⟨rfl, rfl⟩)
  refine wp_loop_rounds 2 ?_
  rw [rounds_succ]
  go_wp2
  go_loop [44] (fun i => ∃ k : Nat, k ≤ s.size ∧ i = .int .i64 k ∧ ∀ j, j < k → lbl (bt s j) = true) (fun i => s.size - (intOf i).toNat)
  case atStart => exact ⟨0, Nat.zero_le _, rfl, fun j hj => by omega⟩
  case round =>
    obtain ⟨k, hk, rfl, hall⟩ := hrel
    have HA : Hid (∀ j, j < k → lbl (bt s j) = true) := hall
    clear hall hbt
    by_cases hlt : k < s.size
    · have hcell := hC k hlt
      have b0 := bt_nonneg s k
      have b1 := bt_le s k
      have HT : Hid (lbl (bt s k) = true → ∀ j, j < k + 1 → lbl (bt s j) = true) := fun h j hj => by
        by_cases e : j = k
        · subst e; exact h
        · exact HA.out j (by omega)
      have HF : Hid (lbl (bt s k) = false → hostB s = false) := fun h => hostB_not s k hlt h
      have hcx : ∃ c, c = bt s k := ⟨_, rfl⟩
      obtain ⟨c, hc⟩ := hcx
      rw [← hc] at HT HF hcell b0 b1
      clear hc hC HA hconv
      go_wp2
      all_goals first
        | (go_ret
           have hp : lbl c = false := by unfold lbl; simp only [decide_eq_false_iff_not]; simp at *; omega
           exact ⟨ret_bool (HF.out hp).symm, HB2.out⟩)
        | (have hp : lbl c = true := by unfold lbl; simp only [decide_eq_true_eq]; simp at *; omega
           go_round
           case rel => exact ⟨k + 1, by omega, by go_num, HT.out hp⟩
           case measure => simp [intOf]; omega)
    · have HP : Hid (hostB s = true) := hostB_of s HPRE.out (fun j hj => HA.out j (by omega))
      clear hC HA hconv
      go_wp2
      rw [rounds_succ]
      go_wp2
      go_ret
      exact ⟨ret_bool HP.out.symm, HB2.out⟩
end Go.Proofs.Qxb6602347aDoor
