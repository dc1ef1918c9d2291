import Derived.Test.Qxb6602347aDoorHostB
namespace Go.Proofs.Qxb6602347aDoor
open Go.RowKit Go Go.PlainAid

/-! ### THE PLAIN LAW -/
theorem lbl_pln (c : Int) (h1 : c ≠ 46) (h2 : c ≠ 95) : lbl c = pln c := by
  unfold lbl pln
  rw [decide_eq_decide]
  omega
theorem host_long (s : ByteArray) (h : 63 < s.size) : hostB s = false := hostB_no s (by omega)
theorem host_unplain (s : ByteArray) (h : ∀ j, j < s.size → bt s j ≠ 46 ∧ bt s j ≠ 95) (hp : plainB s = false) : hostB s = false := by
  unfold plainB at hp
  unfold hostB
  simp only [decide_eq_false_iff_not] at hp ⊢
  intro ⟨a, b, _, _, d⟩
  exact hp ⟨a, by omega, fun j hj => by rw [← lbl_pln _ (h j hj).1 (h j hj).2]; exact d j hj⟩
theorem host_plain (s : ByteArray) (h : ∀ j, j < s.size → bt s j ≠ 46 ∧ bt s j ≠ 95) (hp : plainB s = true) (h63 : ¬ 63 < s.size) (h0 : (bt s 0 == 45) = false) (h1 : (bt s (s.size - 1) == 45) = false) : hostB s = true := by
  unfold plainB at hp
  simp only [decide_eq_true_eq] at hp
  obtain ⟨a, _, d⟩ := hp
  exact hostB_of s ⟨a, by omega, by simpa using h0, by simpa using h1⟩ (fun j hj => by rw [lbl_pln _ (h j hj).1 (h j hj).2]; exact d j hj)
theorem plain_size (s : ByteArray) (hp : plainB s = true) : 1 ≤ s.size := by
  unfold plainB at hp
  simp only [decide_eq_true_eq] at hp
  exact hp.1

def SplitOne (s : ByteArray) (w : World) : Prop :=
  Calls Tryd.prog 24 #[.string s, .string ⟨#[46]⟩] w fun e w' => e = .returned (.slice (some ⟨w.heap.size, 0, none⟩) 1 1) ∧ w' = w.alloc (.cells #[.string s] 9)

theorem zzhost_one (s : ByteArray) (w : World) (hsplit : SplitOne s w) :
    Calls Tryd.prog 10 #[.string s] w fun e w' => e = .returned (.bool (hostB s)) ∧ Below w.heap.size w w' := by
  go_enter Tryd.func10, Tryd.ntmps10
  go_wp2_with (go_at_call 21; refine (host_one s _ hsplit).mono ?_; rintro e w' ⟨rfl, hb⟩)
  go_ret
  exact ⟨rfl, hb⟩

set_option maxHeartbeats 1000000 in
theorem law5 (s : ByteArray) (w : World) (hlen : s.size ≤ maxLen) (hsplit : s.size ≤ 1048576 → (∀ j, j < s.size → bt s j ≠ 46 ∧ bt s j ≠ 95) → ∀ w', Below w.heap.size w w' → SplitOne s w') :
    Calls Tryd.prog 5 #[.string s] w fun e w' => e = .returned (.bool true) ∧ Below w.heap.size w w' := by
  unfold maxLen at hlen
  have hbt := get_bt s
  have HSP : Hid (s.size ≤ 1048576 → (∀ j, j < s.size → bt s j ≠ 46 ∧ bt s j ≠ 95) → ∀ w', Below w.heap.size w w' → SplitOne s w') := hsplit
  clear hsplit
  by_cases hbig : 1048576 < s.size
  · clear hbt
    go_enter Tryd.func5, Tryd.ntmps5
    go_wp2
    go_ret
    exact ⟨rfl, Below.refl _ _⟩
  go_enter Tryd.func5, Tryd.ntmps5
  go_wp2
  go_loop [3] (fun i => ∃ k : Nat, k ≤ s.size ∧ i = .int .i64 k ∧ ∀ j, j < k → bt s j ≠ 46 ∧ bt s j ≠ 95) (fun i => s.size - (intOf i).toNat)
  case atStart => exact ⟨0, Nat.zero_le _, rfl, fun j hj => by omega⟩
  case round =>
    obtain ⟨k, hk, rfl, hall⟩ := hrel
    have HA : Hid (∀ j, j < k → bt s j ≠ 46 ∧ bt s j ≠ 95) := hall
    clear hall
    by_cases hlt : k < s.size
    · by_cases c1 : (bt s k == 46) = true
      · go_wp2
        go_ret
        exact ⟨rfl, Below.refl _ _⟩
      have c1' : (bt s k == 46) = false := by simpa using c1
      clear c1
      by_cases c2 : (bt s k == 95) = true
      · go_wp2
        go_ret
        exact ⟨rfl, Below.refl _ _⟩
      have c2' : (bt s k == 95) = false := by simpa using c2
      clear c2
      have HT : Hid (∀ j, j < k + 1 → bt s j ≠ 46 ∧ bt s j ≠ 95) := fun j hj => by
        by_cases e : j = k
        · subst e; exact ⟨by simpa using c1', by simpa using c2'⟩
        · exact HA.out j (by omega)
      go_wp2
      go_round
      case rel => exact ⟨k + 1, by omega, by go_num, HT.out⟩
      case measure => simp [intOf]; omega
    · have HN : Hid (∀ j, j < s.size → bt s j ≠ 46 ∧ bt s j ≠ 95) := fun j hj => HA.out j (by omega)
      clear HA
      have HZ : Hid (∀ w', Below w.heap.size w w' → Calls Tryd.prog 10 #[.string s] w' fun e w2 => e = .returned (.bool (hostB s)) ∧ Below w'.heap.size w' w2) := fun w' hb => zzhost_one s w' (HSP.out (by omega) HN.out w' hb)
      have HPL : Hid (Calls Tryd.prog 14 #[.string s] w fun e w' => e = .returned (.bool (plainB s)) ∧ Below w.heap.size w w') := plain_any s w (by omega)
      clear HSP
      by_cases h63 : 63 < s.size
      · have hv := host_long s h63
        rw [hv] at HZ
        clear hv HPL
        go_wp2_with (first | (go_at_call 10; refine (HZ.out _ (Below.refl _ _)).mono ?_; rintro e w' ⟨rfl, hb⟩))
        go_ret
        exact ⟨rfl, hb⟩
      by_cases hp : plainB s = true
      · have h1 := plain_size s hp
        rw [hp] at HPL
        by_cases f0 : (bt s 0 == 45) = true
        · have hv := hostB_no s (by simp at f0; omega)
          rw [hv] at HZ
          have f0' : (bt s 0 != 45) = false := by simpa using f0
          clear hv hp f0
          go_wp2_with (first | (go_at_call 14; refine HPL.out.mono ?_; rintro e w1 ⟨rfl, hb1⟩) | (go_at_call 10; refine (HZ.out _ hb1).mono ?_; rintro e w' ⟨rfl, hb⟩))
          go_ret
          exact ⟨rfl, hb1.trans (hb.mono hb1.size)⟩
        have f0' : (bt s 0 == 45) = false := by simpa using f0
        by_cases f1 : (bt s (s.size - 1) == 45) = true
        · have hv := hostB_no s (by simp at f1; omega)
          rw [hv] at HZ
          have f2' : (bt s 0 != 45) = true := by simpa using f0'
          have f1' : (bt s (s.size - 1) != 45) = false := by simpa using f1
          clear hv hp f0 f0' f1
          go_wp2_with (first | (go_at_call 14; refine HPL.out.mono ?_; rintro e w1 ⟨rfl, hb1⟩) | (go_at_call 10; refine (HZ.out _ hb1).mono ?_; rintro e w' ⟨rfl, hb⟩))
          go_ret
          exact ⟨rfl, hb1.trans (hb.mono hb1.size)⟩
        have f1' : (bt s (s.size - 1) == 45) = false := by simpa using f1
        have hv := host_plain s HN.out hp h63 f0' f1'
        rw [hv] at HZ
        have g0 : (bt s 0 != 45) = true := by simpa using f0'
        have g1 : (bt s (s.size - 1) != 45) = true := by simpa using f1'
        clear hv hp f0 f0' f1 f1'
        go_wp2_with (first | (go_at_call 14; refine HPL.out.mono ?_; rintro e w1 ⟨rfl, hb1⟩) | (go_at_call 10; refine (HZ.out _ hb1).mono ?_; rintro e w' ⟨rfl, hb⟩))
        go_ret
        exact ⟨rfl, hb1.trans (hb.mono hb1.size)⟩
      have hp' : plainB s = false := by simpa using hp
      have hv := host_unplain s HN.out hp'
      rw [hv] at HZ
      rw [hp'] at HPL
      clear hv hp hp'
      go_wp2_with (first | (go_at_call 14; refine HPL.out.mono ?_; rintro e w1 ⟨rfl, hb1⟩) | (go_at_call 10; refine (HZ.out _ hb1).mono ?_; rintro e w' ⟨rfl, hb⟩))
      go_ret
      exact ⟨rfl, hb1.trans (hb.mono hb1.size)⟩
end Go.Proofs.Qxb6602347aDoor
