/-
  DERIVED: THE SHELF's CONTRACTS AT THIS DUMP, IN PLAIN WORDS (tools/lay-plain.mjs out of 'Qxb6602347aDoorShelf.lean', which tools/lay-shelf.mjs wrote): THE SAME DECLARATIONS UNDER THE SAME NAMES: 'import', 'namespace', 'open', 'def', 'theorem' AND NOTHING ELSE: no command of the shelf's: FOR A HAND-IN. Each laying: the table of numbers ('.._ren') and one theorem, a field a fact of the dump's own or the kernel's comparison; each contract: ONE APPLICATION.
-/
import Derived.Shelf.LaysM
import Derived.Shelf.Strings.Prefix
import Derived.Shelf.Strings.SplitShaped
import Derived.Test.Qxb6602347aDoorProg
namespace Go.Proofs
open Go.Shelf
def Tryd.lays102_ren : Go.Shelf.Ren := ⟨fun | 102 => 25 | 209 => 27 | 207 => 31 | n => n, fun | 9 => 9 | 4 => 4 | 3 => 3 | n => n, fun | n => n⟩
theorem Tryd.lays102 : Go.Proofs.Lays.n102 Tryd.prog Tryd.lays102_ren := {
  mixed := by kernel_rfl
  f102 := Tryd.func25.trans (congrArg some (by kernel_rfl))
  f207 := Tryd.func31.trans (congrArg some (by kernel_rfl))
  f209 := Tryd.func27.trans (congrArg some (by kernel_rfl))
  t3 := Tryd.underlying3
  a3 := Tryd.isAgg3
  z3 := Tryd.sizeOf3
  v3 := Tryd.zeroValue3
  t4 := Tryd.underlying4
  a4 := Tryd.isAgg4
  z4 := Tryd.sizeOf4
  v4 := Tryd.zeroValue4
  t9 := Tryd.underlying9
  a9 := Tryd.isAgg9
  z9 := Tryd.sizeOf9
  v9 := Tryd.zeroValue9 }
open Go.RowKit Go.Lib in
/-- strings.TrimSuffix: "TrimSuffix returns s without the provided trailing suffix string. If s doesn't end with suffix, s is returned unchanged.": IT RETURNS 'Lib.trimSuffix s suffix'; the world is as it was. (LAID: no walk: one application.) -/
theorem Tryd.strings_TrimSuffix (s p : ByteArray) (w : World) (hs : s.size ≤ 9223372036854775807) :
    Calls Tryd.prog 25 #[.string s, .string p] w fun e w' => e = .returned (.string ⟨(Lib.trimSuffix s.data.toList p.data.toList).toArray⟩) ∧ w' = w := Any.strings_TrimSuffix Tryd.lays102 s p w hs
def Tryd.laysM146_ren : Go.Shelf.Ren := ⟨fun | 146 => 24 | 221 => 26 | 268 => 28 | 138 => 29 | 143 => 30 | 195 => 32 | 197 => 33 | 218 => 34 | 219 => 35 | 260 => 36 | 217 => 37 | 225 => 38 | 224 => 39 | 267 => 40 | 266 => 41 | 314 => 42 | n => n, fun | 9 => 9 | 31 => 31 | 3 => 3 | 4 => 4 | 0 => 0 | 105 => 44 | 21 => 21 | 5 => 5 | 46 => 48 | 119 => 49 | 139 => 52 | 138 => 51 | 146 => 54 | 51 => 53 | n => n, fun | 1 => 0 | 3 => 1 | 4 => 2 | n => n⟩
theorem Tryd.laysM146 : Go.Proofs.LaysM.n146 Tryd.prog Tryd.laysM146_ren := {
  mixed := by kernel_rfl
  f138 := Tryd.func29.trans (congrArg some (by kernel_rfl))
  f143 := Tryd.func30.trans (congrArg some (by kernel_rfl))
  f146 := Tryd.func24.trans (congrArg some (by kernel_rfl))
  f195 := Tryd.func32.trans (congrArg some (by kernel_rfl))
  f197 := Tryd.func33.trans (congrArg some (by kernel_rfl))
  f217 := Tryd.func37.trans (congrArg some (by kernel_rfl))
  f218 := Tryd.func34.trans (congrArg some (by kernel_rfl))
  f219 := Tryd.func35.trans (congrArg some (by kernel_rfl))
  f221 := Tryd.func26.trans (congrArg some (by kernel_rfl))
  f224 := Tryd.func39.trans (congrArg some (by kernel_rfl))
  f225 := Tryd.func38.trans (congrArg some (by kernel_rfl))
  f260 := Tryd.func36.trans (congrArg some (by kernel_rfl))
  f266 := Tryd.func41.trans (congrArg some (by kernel_rfl))
  f267 := Tryd.func40.trans (congrArg some (by kernel_rfl))
  f268 := Tryd.func28.trans (congrArg some (by kernel_rfl))
  f314 := Tryd.func42.trans (congrArg some (by kernel_rfl))
  t0 := Tryd.underlying0
  a0 := Tryd.isAgg0
  z0 := Tryd.sizeOf0
  v0 := Tryd.zeroValue0
  t3 := Tryd.underlying3
  a3 := Tryd.isAgg3
  z3 := Tryd.sizeOf3
  v3 := Tryd.zeroValue3
  t4 := Tryd.underlying4
  a4 := Tryd.isAgg4
  z4 := Tryd.sizeOf4
  v4 := Tryd.zeroValue4
  t5 := Tryd.underlying5
  a5 := Tryd.isAgg5
  z5 := Tryd.sizeOf5
  v5 := Tryd.zeroValue5
  t9 := Tryd.underlying9
  a9 := Tryd.isAgg9
  z9 := Tryd.sizeOf9
  v9 := Tryd.zeroValue9
  t21 := Tryd.underlying21
  a21 := Tryd.isAgg21
  z21 := Tryd.sizeOf21
  v21 := Tryd.zeroValue21
  t31 := Tryd.underlying31
  a31 := Tryd.isAgg31
  z31 := Tryd.sizeOf31
  v31 := Tryd.zeroValue31
  t46 := Tryd.underlying48
  a46 := Tryd.isAgg48
  z46 := Tryd.sizeOf48
  v46 := Tryd.zeroValue48
  t51 := Tryd.underlying53
  a51 := Tryd.isAgg53
  z51 := Tryd.sizeOf53
  v51 := Tryd.zeroValue53
  t105 := Tryd.underlying44
  a105 := Tryd.isAgg44
  z105 := Tryd.sizeOf44
  v105 := Tryd.zeroValue44
  t119 := Tryd.underlying49
  a119 := Tryd.isAgg49
  z119 := Tryd.sizeOf49
  t138 := Tryd.underlying51
  a138 := Tryd.isAgg51
  z138 := Tryd.sizeOf51
  v138 := Tryd.zeroValue51
  t139 := Tryd.underlying52
  a139 := Tryd.isAgg52
  z139 := Tryd.sizeOf52
  v139 := Tryd.zeroValue52
  t146 := Tryd.underlying54
  a146 := Tryd.isAgg54
  z146 := Tryd.sizeOf54
  v146 := Tryd.zeroValue54
  g1 := by kernel_rfl
  g3 := by kernel_rfl
  g4 := by kernel_rfl
  i0 := by kernel_rfl
  i3 := by kernel_rfl
  i4 := by kernel_rfl
  i5 := by kernel_rfl
  i9 := by kernel_rfl
  i21 := by kernel_rfl
  i31 := by kernel_rfl
  i46 := by kernel_rfl
  i51 := by kernel_rfl
  i105 := by kernel_rfl
  i138 := by kernel_rfl
  i139 := by kernel_rfl
  i146 := by kernel_rfl
  m1 := by kernel_rfl
  s1_3 := fun w h => Go.Proofs.cell_of_shapedOpen_int (zero := #[.int .i64 0]) (t := 3) h (of_decide_eq_true (by kernel_rfl)) (by kernel_rfl) rfl (by kernel_rfl) (by kernel_rfl) Tryd.underlying3
  m3 := by kernel_rfl
  m4 := by kernel_rfl }
open Go.RowKit Go.Lib in
/-- strings.Split, sep not empty. (LAID: no walk: one application.) -/
theorem Tryd.strings_Split_shaped (s sep : ByteArray) (w : World) (h : w.ShapedOpen Tryd.prog) (hs : s.size < 4294967281) (h1 : 1 ≤ sep.size) :
    Calls Tryd.prog 24 #[.string s, .string sep] w fun e w' =>
      e = .returned (.slice (some ⟨w.heap.size, 0, none⟩) (Lib.countB s sep + 1) (Lib.countB s sep + 1)) ∧ w' = w.alloc (.cells ((Lib.splitB sep 0 (Lib.countB s sep) s).map Value.string).toArray 9) := Any.strings_Split_shaped Tryd.laysM146 s sep w h hs h1
end Go.Proofs
