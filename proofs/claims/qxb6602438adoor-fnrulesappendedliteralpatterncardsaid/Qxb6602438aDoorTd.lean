import Derived.Test.Qxb6602438aDoorTc
namespace Go.Proofs.Qxb6602438aDoor
open Go.RowKit Go Go.PlainAid

/-- What a maker of a new row gives. -/
def RetN (F : World → Value → Prop) (B : Nat) (w : World) (e : Ending) (w' : World) : Prop :=
  ∃ a n c, e = .returned (.slice a n c) ∧ Below w.heap.size w w' ∧ ∀ wy, Agree B w.heap.size w' wy → F wy (.slice a n c)

theorem Fill.drawn {α : Type} {C : World → Nat → Nat → α → Prop} {sz B : Nat} {w : World} {l : List α} {k : Nat} {wx w2 : World} (h : Fill C sz B w l k wx) (hb : Below wx.drew.heap.size wx.drew w2) : Fill C sz B w l k w2 :=
  h.call ((Below.refl _ _).drew.trans hb)
theorem Fill.spot {α : Type} {C : World → Nat → Nat → α → Prop} {sz B : Nat} {w : World} {l : List α} {k : Nat} {wx : World} (h : Fill C sz B w l k wx) {x : α} (hx : l[k]? = some x) (i : Nat) (hi : i < sz) :
    ∃ u, wx.cell? ⟨w.heap.size, k * sz + i, none⟩ = some u ∧ wx.frozen? ⟨w.heap.size, k * sz + i, none⟩ = false := by
  have hm : k * sz + sz ≤ l.length * sz := by
    have := Nat.mul_le_mul_right sz (show k + 1 ≤ l.length from (List.getElem?_eq_some_iff.1 hx).1)
    rw [Nat.add_mul, Nat.one_mul] at this
    exact this
  obtain ⟨⟨u, h1⟩, h2⟩ := h.room.2 (k * sz + i) (by omega)
  exact ⟨u, h1, h2⟩
theorem Fill.spot0 {α : Type} {C : World → Nat → Nat → α → Prop} {sz B : Nat} {w : World} {l : List α} {k : Nat} {wx : World} (h : Fill C sz B w l k wx) {x : α} (hx : l[k]? = some x) (hi : 0 < sz) :
    ∃ u, wx.cell? ⟨w.heap.size, k * sz, none⟩ = some u ∧ wx.frozen? ⟨w.heap.size, k * sz, none⟩ = false := h.spot hx 0 hi
theorem make_ex {P : Program} (t e : TypeId) (s bytes : Nat) (ht : P.underlying t = some (.slice e)) (hinfo : (P.info? e).map (fun i => (i.zero.isSome, i.size, i.bytes)) = some (true, s, bytes))
    (n m : Nat) (hm : n = m) (hb : bytes * n ≤ 281474976710656) (h63 : n ≤ 9223372036854775807) (w : World) :
    ∃ Cs : Array Value, Hid (Cs.size = m * s) ∧ (Instr.makeSlice t (.int .i64 (n : Int)) (.int .i64 (n : Int))).run P w = .ok (.slice (some ⟨w.heap.size, 0, none⟩) n n) (w.alloc (.cells Cs e)) := by
  obtain ⟨i, hi, hzz⟩ := Option.map_eq_some_iff.1 hinfo
  simp only [Prod.mk.injEq] at hzz
  obtain ⟨hz, hs, hbb⟩ := hzz
  obtain ⟨z, hz⟩ := Option.isSome_iff_exists.1 hz
  exact ⟨madeCells z.cells (n * s), by rw [← hm]; exact size_madeCells _ _, make_any t e z s bytes ht (by rw [hi, Option.map_some, hz, hs, hbb]) n hb h63 w⟩

theorem toks29_nil (B : Nat) (w : World) : Calls Tryd.prog 29 #[.slice none 0 0] w (RetN (fun wy v => ToksAt wy v none) B w) := by
  have hnil := fun (w : World) (a : Option Addr) (n c : Nat) => Lib.run_eql_slice_nil (P := Tryd.prog) w 28 43 a n c 0 0 Tryd.underlying28
  go_enter Tryd.func29, Tryd.ntmps29
  go_wp2
  go_ret
  exact ⟨none, 0, 0, rfl, Below.refl _ _, fun _ _ => rfl⟩

set_option maxRecDepth 100000 in
set_option maxHeartbeats 8000000 in
theorem toks29_some (ts : List PTok) (a : Addr) (cap : Nat) (w0 w : World) (hw : Keeps w0 w) (hl : ts.length ≤ 1048576)
    (h : ∀ j x, ts[j]? = some x → ∃ b off, a = ⟨b, off, none⟩ ∧ TokAt w0 b (off + j * 3) x) :
    Calls Tryd.prog 29 #[.slice (some a) ts.length cap] w (RetN (fun wy v => ToksAt wy v (some ts)) w0.heap.size w) := by
  obtain ⟨N, hN⟩ : ∃ N, N = ts.length := ⟨_, rfl⟩
  have HN : Hid (N = ts.length) := hN
  have HH : Hid (∀ j x, ts[j]? = some x → ∃ b off, a = ⟨b, off, none⟩ ∧ TokAt w0 b (off + j * 3) x) := h
  have HW : Hid (Keeps w0 w) := hw
  rw [← hN] at hl ⊢
  clear h hw hN
  have hnil := fun (w : World) (a : Option Addr) (n c : Nat) => Lib.run_eql_slice_nil (P := Tryd.prog) w 28 43 a n c 0 0 Tryd.underlying28
  obtain ⟨Cs, hCs, hmk⟩ := make_ex (P := Tryd.prog) 61 76 3 32 Tryd.underlying61 (by kernel_rfl) N ts.length HN.out (by omega) (by omega) w
  go_enter Tryd.func29, Tryd.ntmps29
  go_wp2_with fail
  have HF0 : Hid (Fill TokAt 3 w0.heap.size w ts 0 (w.alloc (.cells Cs 76))) := Fill.new ts HW.out.1 Cs 76 hCs.out
  clear hnil hmk hCs
  go_loopg [4] N (fun g s4 wx => ∃ k : Nat, k ≤ N ∧ g = N - k ∧ s4 = .int .i64 k ∧ Hid (Fill TokAt 3 w0.heap.size w ts k wx))
  case atStart => exact ⟨0, Nat.zero_le _, rfl, rfl, HF0⟩
  case round =>
    clear HF0
    obtain ⟨k, hk, hgk, rfl, HF⟩ := hrel
    have HGK : Hid (_ = N - k) := hgk
    clear hgk
    by_cases hlt : k < N
    · have hlz : (k : Int) < (N : Int) := by omega
      obtain ⟨tk, htk⟩ : ∃ tk, ts[k]? = some tk := ⟨_, List.getElem?_eq_getElem (by rw [← HN.out]; exact hlt)⟩
      obtain ⟨b, off, rfl, A0⟩ := HH.out k tk htk
      have A := A0.kept (HW.out.trans (Keeps.of_below HF.out.below))
      have c0 := A.k
      have c1 := A.t
      have c2 := A.s
      obtain ⟨K, hK⟩ : ∃ K, K = tk.k := ⟨_, rfl⟩
      obtain ⟨T, hT⟩ : ∃ T, T = tk.t := ⟨_, rfl⟩
      obtain ⟨S, hS⟩ : ∃ S, Value.pointer S = ptrOf tk.s := ⟨_, rfl⟩
      rw [← hK] at c0
      rw [← hT] at c1
      rw [← hS] at c2
      have HD : Hid (∀ wy b o, Keeps w0 wy → (∀ i, i < 3 → wy.cell? ⟨b, o + i, none⟩ = [Value.int .u8 K, .string T, .pointer S][i]?) → TokAt wy b o tk) := fun wy b o hk hc => by
        refine ⟨?_, ?_, ?_, A0.set.kept hk, A0.kr, A0.tl⟩
        · rw [← hK]; exact hc 0 (by decide)
        · rw [← hT]; exact hc 1 (by decide)
        · rw [← hS]; exact hc 2 (by decide)
      have HX : Hid (ts[k]? = some tk) := htk
      have hne : b ≠ w.heap.size := by have := cell_lt' A0.k; have := HW.out.1; omega
      have hne' := hne.symm
      clear A A0 hK hT hS htk
      go_upto_region 7 with fail
      go_region_held3 (fun w' => w'.cell? ⟨b, off + k * 3, none⟩ = some (.int .u8 K) ∧ w'.cell? ⟨b, off + k * 3 + 1, none⟩ = some (.string T) ∧ w'.cell? ⟨b, off + k * 3 + 2, none⟩ = some (.pointer S)) (go_keep)
        ((go_at_call 36; refine (tok36 _ _ _ _).mono ?_; rintro e w' ⟨rfl, hb⟩; have d0 := below_cell (w := wr.drew) hb c0; have d1 := below_cell (w := wr.drew) hb c1; have d2 := below_cell (w := wr.drew) hb c2;
          have HF2 : Hid (Fill TokAt 3 w0.heap.size w ts k w') := Fill.drawn HF.out hb; clear hb; obtain ⟨_, r0, f0⟩ := HF2.out.spot0 HX.out (by decide); obtain ⟨_, r1, f1⟩ := HF2.out.spot HX.out 1 (by decide); obtain ⟨_, r2, f2⟩ := HF2.out.spot HX.out 2 (by decide)))
      go_wp2_with fail
      go_roundg (N - (k + 1))
      case measure => have := HGK.out; omega
      case rel =>
        exact ⟨k + 1, hlt, rfl, by first | rfl | go_num | simp, HF2.out.put [.int .u8 K, .string T, .pointer S] rfl tk HX.out fun wy b o ha hc => HD.out wy b o (HW.out.trans ((Keeps.of_below HF2.out.below)) |>.then ha) hc⟩
    · have hkN : k = N := by omega
      have HF' : Hid (Fill TokAt 3 w0.heap.size w ts ts.length wr) := by
        have := HF.out
        rw [hkN, HN.out] at this
        exact this
      go_wp2_with fail
      go_ret
      exact ⟨_, N, N, rfl, HF'.out.below, fun wy ha => ⟨⟨_, _, _, rfl⟩, by rw [HN.out]; exact HF'.out.all _ wy ha, by rw [← HN.out]; unfold maxLen; omega⟩⟩

theorem toks29 (g : Option (List PTok)) (v : Value) (w0 w : World) (hw : Keeps w0 w) (hl : ∀ ts, g = some ts → ts.length ≤ 1048576) (h : ToksAt w0 v g) :
    Calls Tryd.prog 29 #[v] w (RetN (fun wy v => ToksAt wy v g) w0.heap.size w) := by
  cases g with
  | none =>
    have e : v = .slice none 0 0 := h
    rw [e]
    exact toks29_nil _ w
  | some ts =>
    obtain ⟨⟨a, n, c, rfl⟩, ⟨a', cap, e, h⟩, _⟩ := h
    injection e with e1 e2 e3
    subst e1 e2 e3
    refine toks29_some ts a c w0 w hw (hl ts rfl) fun j x hx => ?_
    rcases h with rfl | ⟨b, off, e, _, h⟩
    · simp at hx
    · exact ⟨b, off, Option.some.inj e, h j x hx⟩
end Go.Proofs.Qxb6602438aDoor
