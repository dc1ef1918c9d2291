import Derived.Test.Qxb6602823aDoorL7
import Derived.Test.Qxb6602823aDoorPlF
import Derived.Test.Qxb6602823aDoorVc
import Derived.Lib.ConvBytes
import Derived.Deep.RegionWith
namespace Go.Proofs.Qxb6602823aDoor
open Go.RowKit Go Go.PlainAid

theorem zz9 (n : ByteArray) (w : World) : Calls Tryd.prog 9 #[.string n] w fun e w' => (∃ b, e = .returned (.bool b) ∧ (b = true → n.size ≤ 1048576)) ∧ w = w' := by
  by_cases h : 1048576 < n.size
  · go_enter Tryd.func9, Tryd.ntmps9
    go_wp2
    go_ret
    exact ⟨⟨_, rfl, fun h => by cases h⟩, rfl⟩
  · go_enter Tryd.func9, Tryd.ntmps9
    go_wp2
    go_ret
    exact ⟨⟨_, rfl, fun _ => by omega⟩, rfl⟩

theorem bytes_below (w : World) (s : ByteArray) : Below w.heap.size w (Lib.bytesWorld w 5 s) := by
  refine ⟨rfl, rfl, rfl, ?_, fun j hj => Lib.bytesWorld_at_old w 5 s j hj⟩
  rw [Lib.bytesWorld_size]; omega
theorem bt_list (s : ByteArray) (j : Nat) (hj : j < s.size) : ((s.data.toList.getD j 0).toNat : Int) = bt s j := by
  obtain ⟨x, e1, e2⟩ := bt_drop s j hj
  have := congrArg List.head? e1
  rw [List.head?_drop] at this
  rw [e2, List.getD_eq_getElem?_getD, this]
  rfl
theorem valid_new (c : ByteArray) (cap : Nat) (hn : c.size ≤ 4000100) (hx : rd c.data.toList ≠ none) (w : World) :
    Calls Tryd.prog 11 #[.slice (some ⟨w.heap.size, 0, none⟩) c.size cap, .int .i64 0] (Lib.bytesWorld w 5 c) fun e w' => e = .returned (.tuple #[.bool true, .int .i64 c.size]) ∧ Below w.heap.size w w' :=
  (valid c cap w.heap.size hn hx (Lib.bytesWorld w 5 c) (by rw [Lib.bytesWorld_size]; omega) (fun j hj => by rw [Lib.bytesWorld_cell w 5 c j hj, bt_list c j hj])).mono fun _ _ h => ⟨h.1, (bytes_below w c).trans (h.2.mono (by rw [Lib.bytesWorld_size]; omega))⟩

set_option maxRecDepth 100000 in
set_option maxHeartbeats 4000000 in
theorem law4 (n : ByteArray) (w : World) (hE : Env w) : Calls Tryd.prog 4 #[.string n] w (Yes w) := by
  have C9 : Hid (∀ w, Calls Tryd.prog 9 #[.string n] w fun e w' => (∃ b, e = .returned (.bool b) ∧ (b = true → n.size ≤ 1048576)) ∧ w = w') := zz9 n
  by_cases hbig : 1048576 < n.size
  · go_enter Tryd.func4, Tryd.ntmps4
    go_wp2_with (go_at_call 9; refine (C9.out _).mono ?_; rintro e w' ⟨⟨b, rfl, _⟩, rfl⟩)
    all_goals (go_ret; exact ⟨rfl, Below.refl _ _⟩)
  have hn : n.size ≤ 1048576 := by omega
  clear hbig
  have C10 : Hid (Calls Tryd.prog 10 #[.string n] w (RetN n w)) := readNum n w (by omega)
  cases hrd : rd n.data.toList with
  | none =>
    have C : Hid (Calls Tryd.prog 10 #[.string n] w fun e w' => e = .returned (.tuple #[.bool false, .bool false, .string ⟨#[]⟩, .int .i64 0, .int .i64 0, .bool false]) ∧ Below w.heap.size w w') :=
      C10.out.mono fun _ _ h => ⟨by have := h.1; rw [hrd] at this; exact this, h.2⟩
    clear C10 hrd
    go_enter Tryd.func4, Tryd.ntmps4
    go_wp2_with (first | (go_at_call 9; refine (C9.out _).mono ?_; rintro e w' ⟨⟨b, rfl, _⟩, rfl⟩) | (go_at_call 10; refine C.out.mono ?_; rintro e w' ⟨rfl, hB⟩; have HB : Hid (Below w.heap.size w w') := hB; clear hB))
    all_goals first
      | (go_ret; exact ⟨rfl, Below.refl _ _⟩)
      | (go_ret; exact ⟨rfl, HB.out⟩)
  | some x =>
    obtain ⟨S, hS⟩ : ∃ S : ByteArray, S = ⟨(canonB n.data.toList x).toArray⟩ := ⟨_, rfl⟩
    have hSl : S.data.toList = canonB n.data.toList x := by rw [hS]
    obtain ⟨t1, t2, t3, t4, t5, ht⟩ : ∃ t1 t2 t3 t4 t5, encN (some x) = .tuple #[.bool true, .bool t1, .string t2, .int .i64 t3, .int .i64 t4, .bool t5] := ⟨_, _, _, _, _, rfl⟩
    have C : Hid (Calls Tryd.prog 10 #[.string n] w fun e w' => e = .returned (.tuple #[.bool true, .bool t1, .string t2, .int .i64 t3, .int .i64 t4, .bool t5]) ∧ Below w.heap.size w w') :=
      C10.out.mono fun _ _ h => ⟨by have := h.1; rw [hrd, ht] at this; exact this, h.2⟩
    have C8 : Hid (∀ w', Below w.heap.size w w' → Calls Tryd.prog 8 #[.string n] w' fun e w'' => e = .returned (.string S) ∧ Below w.heap.size w w'') := fun w' hb =>
      (canon8 n x hrd w' (by omega) (hE.step hb)).mono fun _ _ h => ⟨by rw [hS]; exact h.1, hb.trans (h.2.mono hb.size)⟩
    cases hb : (exOf x.ex).2 with
    | true =>
      have hc : canonB n.data.toList x = 126 :: n.data.toList := by unfold canonB; rw [if_pos hb]
      have hc2 : S.data.toList = 126 :: n.data.toList := hSl.trans hc
      have hb0 : bt S 0 = 126 := by
        have := bt_list S 0 (by rw [Lib.size_eq, hc2]; simp)
        rw [← this, hc2]; rfl
      have hsz : 0 < S.size := by rw [Lib.size_eq, hc2]; simp
      have hbt := get_bt S
      have hq : S = ⟨#[126]⟩ ++ n := by
        refine ByteArray.ext (Array.toList_inj.1 ?_)
        rw [ByteArray.data_append, Array.toList_append, hc2]
        rfl
      have hqb : (S.toList == (⟨#[126]⟩ ++ n).toList) = true := by rw [hq]; exact beq_self_eq_true _
      clear C10 hrd hS hSl ht hE hc hc2 hb hq
      go_enter Tryd.func4, Tryd.ntmps4
      go_wp2_with (first | (go_at_call 9; refine (C9.out _).mono ?_; rintro e w' ⟨⟨b, rfl, _⟩, rfl⟩) | (go_at_call 10; refine C.out.mono ?_; rintro e w' ⟨rfl, hB⟩; have HB : Hid (Below w.heap.size w w') := hB; clear hB) | (go_at_call 8; refine (C8.out _ HB.out).mono ?_; rintro e w' ⟨rfl, hB⟩; have HB2 : Hid (Below w.heap.size w w') := hB; clear hB))
      all_goals first
        | (go_ret; exact ⟨rfl, Below.refl _ _⟩)
        | (go_ret; exact ⟨rfl, HB2.out⟩)
    | false =>
      obtain ⟨y, hy, hy1, hy2, ⟨c0, r0, hc0, hc1⟩, hlen⟩ := fixed hrd hb (by rw [← Lib.size_eq]; omega)
      rw [← hSl] at hy hy1 hy2 hc0 hlen
      rw [← Lib.size_eq, ← Lib.size_eq] at hlen
      have hs1 : 0 < S.size := by rw [Lib.size_eq, hc0]; simp
      have hb0 : (bt S 0 == 126) = false := by
        have := bt_list S 0 hs1
        rw [← this, hc0]
        refine beq_eq_false_iff_ne.2 fun e => hc1 (u8_of (k := 126) ?_)
        exact e
      have hbt := get_bt S
      have hlen2 : S.size ≤ 1048606 := by omega
      obtain ⟨T, hT⟩ : ∃ T : ByteArray, T = ⟨(canonB S.data.toList y).toArray⟩ := ⟨_, rfl⟩
      obtain ⟨bg, hbg⟩ : ∃ bg, bg = (exOf y.ex).2 := ⟨_, rfl⟩
      obtain ⟨v1, v2, v3, v4, hv⟩ : ∃ v1 v2 v3 v4, encN (some y) = .tuple #[.bool true, .bool v1, .string v2, .int .i64 v3, .int .i64 v4, .bool bg] := ⟨_, _, _, _, by rw [hbg]; rfl⟩
      have D10 : Hid (∀ w', Below w.heap.size w w' → Calls Tryd.prog 10 #[.string S] w' fun e w'' => e = .returned (.tuple #[.bool true, .bool v1, .string v2, .int .i64 v3, .int .i64 v4, .bool bg]) ∧ Below w.heap.size w w'') := fun w' hb =>
        (readNum S w' (by omega)).mono fun _ _ h => ⟨by have := h.1; rw [hy, hv] at this; exact this, hb.trans (h.2.mono hb.size)⟩
      have D8 : Hid (∀ w', Below w.heap.size w w' → Calls Tryd.prog 8 #[.string S] w' fun e w'' => e = .returned (.string T) ∧ Below w.heap.size w w'') := fun w' hb =>
        (canon8 S y hy w' (by omega) (hE.step hb)).mono fun _ _ h => ⟨by rw [hT]; exact h.1, hb.trans (h.2.mono hb.size)⟩
      have D11 : Hid (∀ w', Below w.heap.size w w' → ∀ cap, Calls Tryd.prog 11 #[.slice (some ⟨w'.heap.size, 0, none⟩) S.size cap, .int .i64 0] (Lib.bytesWorld w' 5 S) fun e w'' => e = .returned (.tuple #[.bool true, .int .i64 S.size]) ∧ Below w.heap.size w w'') := fun w' hb cap =>
        (valid_new S cap (by omega) (by rw [hy]; simp) w').mono fun _ _ h => ⟨h.1, hb.trans (h.2.mono hb.size)⟩
      have hcv := fun w => Lib.run_convert_string_bytes (P := Tryd.prog) w 9 30 5 S Tryd.underlying9 Tryd.underlying30 Tryd.underlying5
      have HE1 : Hid (bg = true → (T.toList == (⟨#[126]⟩ ++ S).toList) = true) := fun h => by
        rw [beq_iff_eq, ByteArray.toList_eq, ByteArray.toList_eq, hT, ByteArray.data_append, Array.toList_append]
        exact hy1 (hbg.symm.trans h)
      have HE2 : Hid (bg = false → (T.toList == S.toList) = true) := fun h => by
        rw [beq_iff_eq, ByteArray.toList_eq, ByteArray.toList_eq, hT]
        exact hy2 (hbg.symm.trans h)
      clear C10 hrd hS hSl ht hE hb hy hy1 hy2 hc0 hlen hT hbg hv hc1
      cases bg with
      | true =>
        have hq := HE1.out rfl
        clear HE1 HE2
        go_enter Tryd.func4, Tryd.ntmps4
        go_wp2_with (first | (go_at_call 9; refine (C9.out _).mono ?_; rintro e w' ⟨⟨b, rfl, _⟩, rfl⟩) | (go_at_call_of 10 (Value.string n); refine C.out.mono ?_; rintro e w' ⟨rfl, hB⟩; have HB : Hid (Below w.heap.size w w') := hB; clear hB) | (go_at_call_of 8 (Value.string n); refine (C8.out _ HB.out).mono ?_; rintro e w' ⟨rfl, hB⟩; have HB2 : Hid (Below w.heap.size w w') := hB; clear hB) | (go_at_call_of 10 (Value.string S); refine (D10.out _ HB2.out).mono ?_; rintro e w3 ⟨rfl, hB⟩; have HB3 : Hid (Below w.heap.size w w3) := hB; clear hB) | (go_at_call 11; refine (D11.out _ HB3.out _).mono ?_; rintro e w' ⟨rfl, hB⟩; have HB4 : Hid (Below w.heap.size w w') := hB; clear hB) | (go_at_call_of 8 (Value.string S); refine (D8.out _ HB4.out).mono ?_; rintro e w' ⟨rfl, hB⟩; have HB5 : Hid (Below w.heap.size w w') := hB; clear hB))
        all_goals first
          | (go_ret; exact ⟨rfl, Below.refl _ _⟩)
          | (go_ret; exact ⟨rfl, HB5.out⟩)
      | false =>
        have hq := HE2.out rfl
        clear HE1 HE2
        go_enter Tryd.func4, Tryd.ntmps4
        go_wp2_with (first | (go_at_call 9; refine (C9.out _).mono ?_; rintro e w' ⟨⟨b, rfl, _⟩, rfl⟩) | (go_at_call_of 10 (Value.string n); refine C.out.mono ?_; rintro e w' ⟨rfl, hB⟩; have HB : Hid (Below w.heap.size w w') := hB; clear hB) | (go_at_call_of 8 (Value.string n); refine (C8.out _ HB.out).mono ?_; rintro e w' ⟨rfl, hB⟩; have HB2 : Hid (Below w.heap.size w w') := hB; clear hB) | (go_at_call_of 10 (Value.string S); refine (D10.out _ HB2.out).mono ?_; rintro e w3 ⟨rfl, hB⟩; have HB3 : Hid (Below w.heap.size w w3) := hB; clear hB) | (go_at_call 11; refine (D11.out _ HB3.out _).mono ?_; rintro e w' ⟨rfl, hB⟩; have HB4 : Hid (Below w.heap.size w w') := hB; clear hB) | (go_at_call_of 8 (Value.string S); refine (D8.out _ HB4.out).mono ?_; rintro e w' ⟨rfl, hB⟩; have HB5 : Hid (Below w.heap.size w w') := hB; clear hB))
        all_goals first
          | (go_ret; exact ⟨rfl, Below.refl _ _⟩)
          | (go_ret; exact ⟨rfl, HB5.out⟩)
end Go.Proofs.Qxb6602823aDoor
