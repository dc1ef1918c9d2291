import Derived.Test.Qxb6602823aDoorPl
import Derived.PlainAid
/-! The reader's plain function, by the place at which it stands. -/
namespace Go.Proofs.Qxb6602823aDoor
open Go Go.PlainAid

theorem bt_drop (n : ByteArray) (i : Nat) (h : i < n.size) : ∃ x : UInt8, n.data.toList.drop i = x :: n.data.toList.drop (i + 1) ∧ bt n i = (x.toNat : Int) := by
  have hl : i < n.data.toList.length := by rw [Array.length_toList]; exact h
  refine ⟨n.data.toList[i], List.drop_eq_getElem_cons hl, ?_⟩
  unfold bt
  rw [dif_pos h, Array.getElem_toList]
  rfl
theorem bt_lt {n : ByteArray} {i : Nat} (h : bt n i ≠ 0) : i < n.size := by
  apply Classical.byContradiction
  intro hn
  exact h (bt_end n (by omega))
theorem drop_end (n : ByteArray) {i : Nat} (h : n.size ≤ i) : n.data.toList.drop i = [] := List.drop_eq_nil_of_le (by rw [Array.length_toList]; exact h)
theorem u8_of {x : UInt8} {k : UInt8} (h : (x.toNat : Int) = (k.toNat : Int)) : x = k := UInt8.toNat_inj.1 (by omega)
theorem bt_cons {n : ByteArray} {i : Nat} {k : UInt8} (h : bt n i = (k.toNat : Int)) (hk : k ≠ 0) : n.data.toList.drop i = k :: n.data.toList.drop (i + 1) := by
  have hlt : i < n.size := bt_lt (by
    rw [h]
    intro e
    exact hk (UInt8.toNat_inj.1 (by simpa using e)))
  obtain ⟨x, h1, h2⟩ := bt_drop n i hlt
  rw [h1, u8_of (h2.symm.trans h)]

/-- Where the digits from i on end. -/
def sk (n : ByteArray) (i : Nat) : Nat := i + ((n.data.toList.drop i).takeWhile dgt).length

theorem dgt_of {x : UInt8} (h1 : 48 ≤ (x.toNat : Int)) (h2 : (x.toNat : Int) ≤ 57) : dgt x = true := by simp [dgt]; omega
theorem dgt_not {x : UInt8} (h : ¬ (48 ≤ (x.toNat : Int) ∧ (x.toNat : Int) ≤ 57)) : dgt x = false := by simp [dgt]; omega
theorem tw_step (n : ByteArray) (i : Nat) (h1 : 48 ≤ bt n i) (h2 : bt n i ≤ 57) :
    ∃ x : UInt8, bt n i = (x.toNat : Int) ∧ i < n.size ∧ (n.data.toList.drop i).takeWhile dgt = x :: (n.data.toList.drop (i + 1)).takeWhile dgt := by
  have hlt : i < n.size := bt_lt (by omega)
  obtain ⟨x, e1, e2⟩ := bt_drop n i hlt
  refine ⟨x, e2, hlt, ?_⟩
  rw [e1, List.takeWhile_cons, if_pos (dgt_of (by omega) (by omega))]
theorem tw_end (n : ByteArray) (i : Nat) (h : ¬ (48 ≤ bt n i ∧ bt n i ≤ 57)) : (n.data.toList.drop i).takeWhile dgt = [] := by
  by_cases hlt : i < n.size
  · obtain ⟨x, e1, e2⟩ := bt_drop n i hlt
    rw [e1, List.takeWhile_cons, dgt_not (by rw [← e2]; exact h)]
    rfl
  · rw [drop_end n (by omega)]
    rfl
theorem sk_step (n : ByteArray) (i : Nat) (h1 : 48 ≤ bt n i) (h2 : bt n i ≤ 57) : sk n i = sk n (i + 1) := by
  obtain ⟨x, _, _, e⟩ := tw_step n i h1 h2
  unfold sk
  rw [e, List.length_cons]
  omega
theorem sk_end (n : ByteArray) (i : Nat) (h : ¬ (48 ≤ bt n i ∧ bt n i ≤ 57)) : sk n i = i := by
  unfold sk
  rw [tw_end n i h]
  rfl
theorem sk_ge (n : ByteArray) (i : Nat) : i ≤ sk n i := Nat.le_add_right _ _
theorem sk_le (n : ByteArray) (i : Nat) (h : i ≤ n.size) : sk n i ≤ n.size := by
  unfold sk
  have h1 : ((n.data.toList.drop i).takeWhile dgt).length ≤ (n.data.toList.drop i).length := (List.takeWhile_sublist _).length_le
  rw [List.length_drop] at h1
  have h2 : n.data.toList.length = n.size := Array.length_toList
  rw [h2] at h1
  omega
theorem tk (l : List UInt8) : l.take (l.takeWhile dgt).length = l.takeWhile dgt := (congrArg (List.take _) (take_drop l)).trans List.take_left
theorem dk (l : List UInt8) : l.drop (l.takeWhile dgt).length = l.dropWhile dgt := (congrArg (List.drop _) (take_drop l)).trans List.drop_left
theorem tw_take (n : ByteArray) (i : Nat) : (n.data.toList.drop i).takeWhile dgt = (n.data.toList.drop i).take (sk n i - i) := by
  have e : sk n i - i = ((n.data.toList.drop i).takeWhile dgt).length := by unfold sk; omega
  rw [e, tk]
theorem dw_drop (n : ByteArray) (i : Nat) : (n.data.toList.drop i).dropWhile dgt = n.data.toList.drop (sk n i) := by
  have e : n.data.toList.drop (sk n i) = (n.data.toList.drop i).drop ((n.data.toList.drop i).takeWhile dgt).length := by rw [List.drop_drop]; rfl
  rw [e, dk]
theorem tw_nil (n : ByteArray) (i : Nat) : (n.data.toList.drop i).takeWhile dgt = [] ↔ sk n i = i := by
  unfold sk
  rw [← List.length_eq_zero_iff]
  omega
theorem drop_nil (n : ByteArray) (i : Nat) (h : i ≤ n.size) : n.data.toList.drop i = [] ↔ i = n.size := by
  rw [List.drop_eq_nil_iff, Array.length_toList]
  have : n.size = n.data.size := rfl
  omega

theorem rd_min (n : ByteArray) (h : bt n 0 = 45) : rd n.data.toList = r2 true (n.data.toList.drop 1) := by
  have := bt_cons (k := 45) h (by decide)
  rw [List.drop_zero] at this
  conv => lhs; rw [this]
  rw [rd, if_pos rfl]
theorem rd_pos (n : ByteArray) (h : ¬ bt n 0 = 45) : rd n.data.toList = r2 false (n.data.toList.drop 0) := by
  rw [List.drop_zero]
  by_cases hlt : 0 < n.size
  · obtain ⟨x, e1, e2⟩ := bt_drop n 0 hlt
    rw [List.drop_zero] at e1
    rw [e1, rd, if_neg (fun e => h (by rw [e2, e]; rfl))]
  · have := drop_end n (i := 0) (by omega)
    rw [List.drop_zero] at this
    rw [this]
    rfl
theorem r2_zero (n : ByteArray) (neg : Bool) (i : Nat) (h : bt n i = 48) : r2 neg (n.data.toList.drop i) = r3 neg ((n.data.toList.drop i).take (i + 1 - i)) (n.data.toList.drop (i + 1)) := by
  rw [bt_cons (k := 48) h (by decide), r2, if_pos rfl, Nat.add_sub_cancel_left]
  rfl
theorem r2_none (n : ByteArray) (neg : Bool) (i : Nat) (h : ¬ bt n i = 48) (hs : sk n i = i) : r2 neg (n.data.toList.drop i) = none := by
  have h0 := (tw_nil n i).2 hs
  by_cases hlt : i < n.size
  · obtain ⟨x, e1, e2⟩ := bt_drop n i hlt
    rw [e1] at h0 ⊢
    rw [r2, if_neg (fun e => h (by rw [e2, e]; rfl)), if_pos h0]
  · rw [drop_end n (by omega)]
    rfl
theorem r2_some' (n : ByteArray) (neg : Bool) (i : Nat) (h : ¬ bt n i = 48) (hs : ¬ sk n i = i) : r2 neg (n.data.toList.drop i) = r3 neg ((n.data.toList.drop i).take (sk n i - i)) (n.data.toList.drop (sk n i)) := by
  have h0 := mt (tw_nil n i).1 hs
  have h1 := tw_take n i
  have h2 := dw_drop n i
  by_cases hlt : i < n.size
  · obtain ⟨x, e1, e2⟩ := bt_drop n i hlt
    rw [← h1, ← h2]
    rw [e1] at h0 ⊢
    rw [r2, if_neg (fun e => h (by rw [e2, e]; rfl)), if_neg h0]
  · exact absurd (by rw [drop_end n (by omega)]; rfl) h0
theorem r3_none (n : ByteArray) (neg : Bool) (ip : List UInt8) (i : Nat) (h : bt n i = 46) (hs : sk n (i + 1) = i + 1) : r3 neg ip (n.data.toList.drop i) = none := by
  rw [bt_cons (k := 46) h (by decide), r3, if_pos rfl, if_pos ((tw_nil n (i + 1)).2 hs)]
theorem r3_dot (n : ByteArray) (neg : Bool) (ip : List UInt8) (i : Nat) (h : bt n i = 46) (hs : ¬ sk n (i + 1) = i + 1) :
    r3 neg ip (n.data.toList.drop i) = r4 neg ip ((n.data.toList.drop (i + 1)).take (sk n (i + 1) - (i + 1))) (n.data.toList.drop (sk n (i + 1))) := by
  rw [bt_cons (k := 46) h (by decide), r3, if_pos rfl, if_neg (mt (tw_nil n (i + 1)).1 hs), tw_take, dw_drop]
theorem r3_not (n : ByteArray) (neg : Bool) (ip : List UInt8) (i : Nat) (h : ¬ bt n i = 46) :
    r3 neg ip (n.data.toList.drop i) = r4 neg ip ((n.data.toList.drop i).take (i - i)) (n.data.toList.drop i) := by
  rw [Nat.sub_self, List.take_zero]
  by_cases hlt : i < n.size
  · obtain ⟨x, e1, e2⟩ := bt_drop n i hlt
    rw [e1, r3, if_neg (fun e => h (by rw [e2, e]; rfl))]
  · rw [drop_end n (by omega)]
    rfl
theorem r4_not (n : ByteArray) (neg : Bool) (ip fd : List UInt8) (i : Nat) (hi : i ≤ n.size) (h : ¬ (bt n i = 101 ∨ bt n i = 69)) :
    r4 neg ip fd (n.data.toList.drop i) = if i = n.size then some ⟨neg, ip, fd, none⟩ else none := by
  by_cases hlt : i < n.size
  · obtain ⟨x, e1, e2⟩ := bt_drop n i hlt
    rw [e1, r4, if_neg (fun e => h (by rcases e with e | e <;> rw [e2, e] <;> simp)), if_neg (by omega)]
  · rw [drop_end n (by omega), if_pos (by omega)]
    rfl
theorem r4_exp (n : ByteArray) (neg : Bool) (ip fd : List UInt8) (i : Nat) (h : bt n i = 101 ∨ bt n i = 69) :
    r4 neg ip fd (n.data.toList.drop i) = r5 neg ip fd (n.data.toList.drop (i + 1)) := by
  rcases h with h | h
  · rw [bt_cons (k := 101) h (by decide), r4, if_pos (.inl rfl)]
  · rw [bt_cons (k := 69) h (by decide), r4, if_pos (.inr rfl)]
theorem r5_plus (n : ByteArray) (neg : Bool) (ip fd : List UInt8) (i : Nat) (h : bt n i = 43) :
    r5 neg ip fd (n.data.toList.drop i) = r6 neg ip fd false (n.data.toList.drop (i + 1)) := by
  rw [bt_cons (k := 43) h (by decide), r5, if_pos (.inl rfl)]; rfl
theorem r5_minus (n : ByteArray) (neg : Bool) (ip fd : List UInt8) (i : Nat) (h : bt n i = 45) :
    r5 neg ip fd (n.data.toList.drop i) = r6 neg ip fd true (n.data.toList.drop (i + 1)) := by
  rw [bt_cons (k := 45) h (by decide), r5, if_pos (.inr rfl)]; rfl
theorem r5_not (n : ByteArray) (neg : Bool) (ip fd : List UInt8) (i : Nat) (h1 : ¬ bt n i = 43) (h2 : ¬ bt n i = 45) :
    r5 neg ip fd (n.data.toList.drop i) = r6 neg ip fd false (n.data.toList.drop i) := by
  by_cases hlt : i < n.size
  · obtain ⟨x, e1, e2⟩ := bt_drop n i hlt
    rw [e1, r5, if_neg (fun e => by rcases e with e | e; exact h1 (by rw [e2, e]; rfl); exact h2 (by rw [e2, e]; rfl))]
  · rw [drop_end n (by omega)]
    rfl
theorem r6_none (n : ByteArray) (neg : Bool) (ip fd : List UInt8) (en : Bool) (i : Nat) (hs : sk n i = i) : r6 neg ip fd en (n.data.toList.drop i) = none := by
  rw [r6, if_pos ((tw_nil n i).2 hs)]
theorem r6_is (n : ByteArray) (neg : Bool) (ip fd : List UInt8) (en : Bool) (i : Nat) (hi : i ≤ n.size) (hs : ¬ sk n i = i) :
    r6 neg ip fd en (n.data.toList.drop i) = if sk n i = n.size then some ⟨neg, ip, fd, some (en, (n.data.toList.drop i).takeWhile dgt)⟩ else none := by
  rw [r6, if_neg (mt (tw_nil n i).1 hs), dw_drop]
  by_cases h : sk n i = n.size
  · rw [if_pos ((drop_nil n _ (sk_le n i hi)).2 h), if_pos h]
  · rw [if_neg (mt (drop_nil n _ (sk_le n i hi)).1 h), if_neg h]

/-- What is left to read of the exponent. -/
def feAt (n : ByteArray) (i : Nat) (e : Nat) (b : Bool) : Nat × Bool := fe e b ((n.data.toList.drop i).takeWhile dgt)
theorem feAt_end (n : ByteArray) (i e : Nat) (b : Bool) (h : ¬ (48 ≤ bt n i ∧ bt n i ≤ 57)) : feAt n i e b = (e, b) := by
  unfold feAt
  rw [tw_end n i h]
  rfl
theorem feAt_big (n : ByteArray) (i e : Nat) : feAt n i e true = feAt n (i + 1) e true := by
  unfold feAt
  rw [fe_big, fe_big]
theorem feAt_step (n : ByteArray) (i e d : Nat) (h : bt n i = d + 48) (hd : d ≤ 9) : feAt n i e false = feAt n (i + 1) (e * 10 + d) (decide (1000000000 < e * 10 + d)) := by
  obtain ⟨x, e1, _, e2⟩ := tw_step n i (by omega) (by omega)
  unfold feAt
  rw [e2]
  have : x.toNat - 48 = d := by omega
  rw [fe, if_neg (by decide), this]
theorem feAt_le (n : ByteArray) (i : Nat) : (feAt n i 0 false).1 ≤ 10000000009 := fe_le _ _ _ (take_all _) (by omega) (by omega)
end Go.Proofs.Qxb6602823aDoor
