import Derived.Test.Qxb6602438aDoorUc
import Derived.Lib.LastIndexByte
namespace Go.Proofs.Qxb6602438aDoor
open Go.RowKit Go Go.PlainAid

def nameOf' (p : ByteArray) : ByteArray := p.extract (Lib.lastIndexByte p 47 + 1).toNat p.size

theorem rules10 (a : Option Addr) (n c : Nat) (w : World) : Calls Tryd.prog 10 #[.slice a n c] w fun e w' => ∃ R, e = .returned (.pointer (some ⟨R, 0, none⟩)) ∧ w'.cell? ⟨R, 0, none⟩ = some (.slice a n c) ∧ Below w.heap.size w w' := by
  go_enter Tryd.func10, Tryd.ntmps10
  go_wp2
  go_ret
  exact ⟨_, rfl, World.cell?_alloc_mark _ _ _ _ _, (Below.refl _ _).alloc (Nat.le_refl _) _⟩

set_option maxRecDepth 100000 in
theorem last7 (p : ByteArray) (w : World) (hp : p.size ≤ maxLen) : Calls Tryd.prog 7 #[.string p] w fun e w' => e = .returned (.string (nameOf' p)) ∧ w = w' := by
  unfold maxLen at hp
  obtain ⟨NM, hNM⟩ : ∃ NM, NM = nameOf' p := ⟨_, rfl⟩
  have HNM : Hid (NM = nameOf' p) := hNM
  rw [← hNM]
  clear hNM
  have HL0 : Hid (Lib.lastIndexByte p 47 = Lib.lastIdx p 47 p.size) := rfl
  go_enter Tryd.func7, Tryd.ntmps7
  go_wp2_with fail
  go_loopg [3] p.size (fun g s3 wx => ∃ k : Nat, k ≤ p.size ∧ g = k ∧ s3 = .int .i64 ((k : Int) - 1) ∧ Hid (Lib.lastIndexByte p 47 = Lib.lastIdx p 47 k) ∧ w = wx)
  case atStart => exact ⟨p.size, Nat.le_refl _, rfl, by first | rfl | go_num | simp, HL0, rfl⟩
  case round =>
    clear HL0
    obtain ⟨k, hk, hgk, rfl, HF, rfl⟩ := hrel
    have HGK : Hid (_ = k) := hgk
    clear hgk
    cases k with
    | zero =>
      have HE : Hid (NM = p) := by
        rw [HNM.out]
        unfold nameOf'
        rw [HF.out]
        show p.extract 0 p.size = p
        exact ByteArray.extract_zero_size
      go_wp2_with fail
      go_ret
      exact ⟨by rw [HE.out]; rfl, rfl⟩
    | succ j =>
      rw [show (((j + 1 : Nat) : Int) - 1) = (j : Int) by omega]
      have hjz : (j : Int) < (p.size : Int) := by omega
      have hj : j < p.size := by omega
      have HB : Hid (((p.data[j]!).toNat : Int) = ((p[j]'hj).toNat : Int)) := by
        rw [getElem!_pos p.data j hj]
        rfl
      obtain ⟨X, hX⟩ : ∃ X, (((p[j]'hj).toNat : Int) == 47) = X := ⟨_, rfl⟩
      cases X with
      | true =>
        have HE : Hid (NM = p.extract (j + 1) p.size) := by
          rw [HNM.out]
          unfold nameOf'
          rw [HF.out, Lib.lastIdx_hit p 47 j (by rw [HB.out]; exact eq_of_beq hX)]
          rfl
        have hjs : (j : Int) + 1 ≤ (p.size : Int) := by omega
        go_wp2_with fail
        go_ret
        exact ⟨by rw [HE.out]; rfl, rfl⟩
      | false =>
        have HQ : Hid (Lib.lastIndexByte p 47 = Lib.lastIdx p 47 j) := by
          show Lib.lastIndexByte p 47 = _
          rw [HF.out, Lib.lastIdx_miss p 47 j (by rw [HB.out]; exact ne_of_beq_false hX)]
        go_wp2_with fail
        go_roundg j
        case measure => have := HGK.out; omega
        case rel => exact ⟨j, by omega, rfl, by first | rfl | go_num | simp, HQ, rfl⟩
end Go.Proofs.Qxb6602438aDoor
