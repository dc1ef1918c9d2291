import Derived.Test.Qxb6602823aDoorPlI
import Derived.Test.Qxb6602823aDoorProg
import Derived.WalkKit
import Derived.Handy
import Derived.WalkSpells
import Derived.WalkSmall
import Derived.Laws.IdiomStrings
import Derived.Deep.DeepCutAuto
import Derived.Deep.LoopGhost
import Derived.Deep.QuietTactic
import Derived.BigQuiet
namespace Go.Proofs.Qxb6602823aDoor
open Go.RowKit Go Go.PlainAid

/-- The validator in block V stands at place i of c's bytes, which lie in block B. -/
structure VS (c : ByteArray) (cap V B i : Nat) (w : World) : Prop where
  b : w.cell? ⟨V, 0, none⟩ = some (.slice (some ⟨B, 0, none⟩) c.size cap)
  at' : w.cell? ⟨V, 1, none⟩ = some (.int .i64 i)
  fr : w.frozen? ⟨V, 1, none⟩ = false
  bytes : ∀ j, j < c.size → w.cell? ⟨B, j, none⟩ = some (.int .u8 (bt c j))
  ne : B < V

theorem VS.drewN {c : ByteArray} {cap V B i : Nat} {w : World} (h : VS c cap V B i w) (k : Nat) : VS c cap V B i (w.drewN k) := ⟨h.b, h.at', h.fr, h.bytes, h.ne⟩

def RetB (b : Bool) (w : World) (e : Ending) (w' : World) : Prop := e = .returned (.bool b) ∧ ∃ k, w' = w.drewN k

theorem VS.set {c : ByteArray} {cap V B i : Nat} {w : World} (h : VS c cap V B i w) (k j : Nat) : VS c cap V B j ((w.drewN k).setCell ⟨V, 1, none⟩ (.int .i64 j)) := by
  have h' := h.drewN k
  refine ⟨?_, World.cell?_setCell_same _ _ _ h'.at', ?_, fun m hm => ?_, h.ne⟩
  · rw [World.cell?_setCell_other _ _ _ _ (by simp)]; exact h'.b
  · rw [World.frozen?_setCell]; exact h'.fr
  · rw [World.cell?_setCell_other _ _ _ _ (by simp; have := h.ne; omega)]; exact h'.bytes m hm

set_option maxRecDepth 100000 in
set_option maxHeartbeats 1000000 in
theorem more (c : ByteArray) (cap V B i : Nat) (ch : Nat) (hc0 : 0 < ch) (hc1 : ch < 256) (hi : i ≤ c.size) (w : World) (h : VS c cap V B i w) (b : Bool) (hb : b = decide (bt c i = ch)) :
    Calls Tryd.prog 24 #[.pointer (some ⟨V, 0, none⟩), .int .u8 ch] w (RetB b w) := by
  have g0 := h.b
  have g1 := h.at'
  by_cases hx : bt c i = ch
  · have hlt : i < c.size := bt_lt (by omega)
    have hlz : (i : Int) < (c.size : Int) := by omega
    have g2 := h.bytes i hlt
    rw [decide_eq_true hx] at hb
    subst hb
    clear h
    go_enter Tryd.func24, Tryd.ntmps24
    go_wp2_with fail
    go_quiet (fail)
    go_wp2_with fail
    go_ret
    exact ⟨rfl, _, rfl⟩
  · rw [decide_eq_false hx] at hb
    subst hb
    by_cases hlt : i < c.size
    · have hlz : (i : Int) < (c.size : Int) := by omega
      have g2 := h.bytes i hlt
      have ht : (bt c i == (ch : Int)) = false := beq_eq_false_iff_ne.2 hx
      clear h hx
      go_enter Tryd.func24, Tryd.ntmps24
      go_wp2_with fail
      go_quiet (fail)
      go_wp2_with fail
      go_ret
      exact ⟨rfl, _, rfl⟩
    · obtain rfl : i = c.size := by omega
      have hlz : decide ((c.size : Int) < (c.size : Int)) = false := by simp
      clear h hx hi hlt
      go_enter Tryd.func24, Tryd.ntmps24
      go_wp2_with fail
      go_quiet (fail)
      go_wp2_with fail
      go_ret
      exact ⟨rfl, _, rfl⟩

def RetD (c : ByteArray) (cap V B i : Nat) (w : World) (e : Ending) (w' : World) : Prop := e = .returned (.bool (decide (i < sk c i))) ∧ VS c cap V B (sk c i) w' ∧ Below V w w'

set_option maxRecDepth 100000 in
set_option maxHeartbeats 2000000 in
theorem digits (c : ByteArray) (cap V B i : Nat) (hn : c.size ≤ 4000100) (hi : i ≤ c.size) (w : World) (h : VS c cap V B i w) :
    Calls Tryd.prog 25 #[.pointer (some ⟨V, 0, none⟩)] w (RetD c cap V B i w) := by
  have g1 := h.at'
  have HV : Hid (VS c cap V B i w) := h
  clear h
  go_enter Tryd.func25, Tryd.ntmps25
  go_wp2_with fail
  go_loopg [] (c.size - i) (fun g wx => ∃ k : Nat, i ≤ k ∧ k ≤ c.size ∧ g = c.size - k ∧ Hid (VS c cap V B k wx) ∧ Hid (Below V w wx) ∧ Hid (sk c k = sk c i))
  case atStart => exact ⟨i, Nat.le_refl _, hi, rfl, HV, Below.refl _ _, rfl⟩
  case round =>
    clear HV g1
    obtain ⟨k, hk1, hk2, rfl, HV, HB, HS⟩ := hrel
    have e0 := HV.out.b
    have e1 := HV.out.at'
    have e2 := HV.out.fr
    by_cases hd : 48 ≤ bt c k ∧ bt c k ≤ 57
    · have hlt : k < c.size := bt_lt (by omega)
      have hlz : (k : Int) < (c.size : Int) := by omega
      have e3 := HV.out.bytes k hlt
      have HS' : Hid (sk c (k + 1) = sk c i) := (sk_step c k hd.1 hd.2).symm.trans HS.out
      have hd1 := hd.1
      have hd2 := hd.2
      clear hd
      go_wp2_with fail
      go_quiet (fail)
      go_wp2_with fail
      go_roundg (c.size - (k + 1))
      case measure => omega
      case rel => exact ⟨k + 1, by omega, by omega, rfl, HV.out.set _ (k + 1), (below_drewN HB.out _).setCell (Nat.le_refl _) _, HS'⟩
    · have hsk : k = sk c i := by rw [← HS.out]; exact (sk_end c k hd).symm
      have HR : Hid (∀ q, RetD c cap V B i w (.returned (.bool (decide (i < k)))) (wr.drewN q)) := fun q => by
        have hv := HV.out.drewN q
        refine ⟨by rw [hsk], ?_, below_drewN HB.out q⟩
        rw [← hsk]; exact hv
      have HX : Hid (∀ j, j < c.size → wr.cell? ⟨B, j, none⟩ = some (.int .u8 (bt c j))) := HV.out.bytes
      clear HV HB HS hsk
      by_cases hik : i < k
      · have hiz : (i : Int) < (k : Int) := by omega
        rw [decide_eq_true hik] at HR
        by_cases hlt : k < c.size
        · have hlz : (k : Int) < (c.size : Int) := by omega
          have e3 := HX.out k hlt
          by_cases h48 : 48 ≤ bt c k
          · have hd9 : decide (bt c k ≤ 57) = false := decide_eq_false (by omega)
            clear hd hlt
            go_wp2_with fail
            go_quiet (fail)
            go_wp2_with fail
            go_ret
            exact HR.out _
          · have hd9 : decide (48 ≤ bt c k) = false := decide_eq_false (by omega)
            clear hd hlt
            go_wp2_with fail
            go_quiet (fail)
            go_wp2_with fail
            go_ret
            exact HR.out _
        · have hlz : decide (k < c.size) = false := decide_eq_false (by omega)
          clear hd hlt
          go_wp2_with fail
          go_quiet (fail)
          go_wp2_with fail
          go_ret
          exact HR.out _
      · have hiz : decide ((i : Int) < (k : Int)) = false := decide_eq_false (by omega)
        rw [decide_eq_false hik] at HR
        by_cases hlt : k < c.size
        · have hlz : (k : Int) < (c.size : Int) := by omega
          have e3 := HX.out k hlt
          by_cases h48 : 48 ≤ bt c k
          · have hd9 : decide (bt c k ≤ 57) = false := decide_eq_false (by omega)
            clear hd hlt
            go_wp2_with fail
            go_quiet (fail)
            go_wp2_with fail
            go_ret
            exact HR.out _
          · have hd9 : decide (48 ≤ bt c k) = false := decide_eq_false (by omega)
            clear hd hlt
            go_wp2_with fail
            go_quiet (fail)
            go_wp2_with fail
            go_ret
            exact HR.out _
        · have hlz : decide (k < c.size) = false := decide_eq_false (by omega)
          clear hd hlt
          go_wp2_with fail
          go_quiet (fail)
          go_wp2_with fail
          go_ret
          exact HR.out _
end Go.Proofs.Qxb6602823aDoor
