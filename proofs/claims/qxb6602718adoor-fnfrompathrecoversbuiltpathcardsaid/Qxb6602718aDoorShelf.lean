/-
  DERIVED: THE SHELF's CONTRACTS AT THIS DUMP, IN PLAIN WORDS (tools/lay-plain.mjs out of 'Qxb6602718aDoorShelf.lean', which tools/lay-shelf.mjs wrote): THE SAME DECLARATIONS UNDER THE SAME NAMES: 'import', 'namespace', 'open', 'def', 'theorem' AND NOTHING ELSE: no command of the shelf's: FOR A HAND-IN. Each laying: the table of numbers ('.._ren') and one theorem, a field a fact of the dump's own or the kernel's comparison; each contract: ONE APPLICATION.
-/
import Derived.Shelf.Strings.Builder1
import Derived.Shelf.Strings.Builder2
import Derived.Shelf.Small.Utf8
import Derived.Shelf.Small.Strs
import Derived.Shelf.Small.Wraps
import Derived.Shelf.Utf8.RuneCount
import Derived.Shelf.Strings.Search1
import Derived.Shelf.Strings.Search2
import Derived.Shelf.Strings.Search3
import Derived.Shelf.Strings.Count
import Derived.Shelf.LaysM
import Derived.Shelf.Strings.Shaped
import Derived.Shelf.Strings.LastIndex
import Derived.Shelf.Strings.Prefix
import Derived.Shelf.Strings.Split
import Derived.Shelf.Strings.Replace
import Derived.Shelf.Strings.SplitShaped
import Derived.Shelf.Unicode.Decode
import Derived.Shelf.Strings.Runes
import Derived.Shelf.Strings.RuneCount
import Derived.Shelf.Strings.Explode
import Derived.Shelf.Unicode.DecodeSlow
import Derived.Shelf.Unicode.DecodeAny
import Derived.Test.Qxb6602718aDoorProg
namespace Go.Proofs
open Go.Shelf
def Tryd.lays103_ren : Go.Shelf.Ren := ⟨fun | 103 => 26 | 210 => 37 | 206 => 33 | n => n, fun | 9 => 9 | 4 => 4 | 24 => 38 | 3 => 3 | n => n, fun | n => n⟩
theorem Tryd.lays103 : Go.Proofs.Lays.n103 Tryd.prog Tryd.lays103_ren := {
  mixed := by kernel_rfl
  f103 := Tryd.func26.trans (congrArg some (by kernel_rfl))
  f206 := Tryd.func33.trans (congrArg some (by kernel_rfl))
  f210 := Tryd.func37.trans (congrArg some (by kernel_rfl))
  t3 := Tryd.underlying3
  a3 := Tryd.isAgg3
  z3 := Tryd.sizeOf3
  v3 := Tryd.zeroValue3
  t4 := Tryd.underlying4
  a4 := Tryd.isAgg4
  z4 := Tryd.sizeOf4
  v4 := Tryd.zeroValue4
  t9 := Tryd.underlying9
  a9 := Tryd.isAgg9
  z9 := Tryd.sizeOf9
  v9 := Tryd.zeroValue9
  t24 := Tryd.underlying38
  a24 := Tryd.isAgg38
  z24 := Tryd.sizeOf38
  v24 := Tryd.zeroValue38 }
open Go.RowKit in
/-- strings.CutPrefix: "CutPrefix returns s without the provided leading prefix string and reports whether it found the prefix. If s doesn't start with prefix, CutPrefix returns s, false. If prefix is the empty string, CutPrefix returns s, true.": IT RETURNS '(Lib.trimPrefix s p, Lib.hasPrefix s p)'; the world is as it was. (LAID: no walk: one application.) -/
theorem Tryd.strings_CutPrefix (s p : ByteArray) (w : World) :
    Calls Tryd.prog 26 #[.string s, .string p] w fun e w' => e = .returned (.tuple #[.string ⟨(Lib.trimPrefix s.data.toList p.data.toList).toArray⟩, .bool (Lib.hasPrefix s.data.toList p.data.toList)]) ∧ w' = w := Any.strings_CutPrefix Tryd.lays103 s p w
def Tryd.laysM144_ren : Go.Shelf.Ren := ⟨fun | 144 => 23 | 143 => 34 | 219 => 44 | 217 => 52 | 225 => 53 | 224 => 54 | 267 => 55 | 266 => 61 | 314 => 62 | n => n, fun | 9 => 9 | 4 => 4 | 3 => 3 | 5 => 5 | 46 => 62 | 146 => 66 | 51 => 65 | n => n, fun | 1 => 0 | n => n⟩
theorem Tryd.laysM144 : Go.Proofs.LaysM.n144 Tryd.prog Tryd.laysM144_ren := {
  mixed := by kernel_rfl
  f143 := Tryd.func34.trans (congrArg some (by kernel_rfl))
  f144 := Tryd.func23.trans (congrArg some (by kernel_rfl))
  f217 := Tryd.func52.trans (congrArg some (by kernel_rfl))
  f219 := Tryd.func44.trans (congrArg some (by kernel_rfl))
  f224 := Tryd.func54.trans (congrArg some (by kernel_rfl))
  f225 := Tryd.func53.trans (congrArg some (by kernel_rfl))
  f266 := Tryd.func61.trans (congrArg some (by kernel_rfl))
  f267 := Tryd.func55.trans (congrArg some (by kernel_rfl))
  f314 := Tryd.func62.trans (congrArg some (by kernel_rfl))
  t3 := Tryd.underlying3
  a3 := Tryd.isAgg3
  z3 := Tryd.sizeOf3
  v3 := Tryd.zeroValue3
  t4 := Tryd.underlying4
  a4 := Tryd.isAgg4
  z4 := Tryd.sizeOf4
  v4 := Tryd.zeroValue4
  t5 := Tryd.underlying5
  a5 := Tryd.isAgg5
  z5 := Tryd.sizeOf5
  v5 := Tryd.zeroValue5
  t9 := Tryd.underlying9
  a9 := Tryd.isAgg9
  z9 := Tryd.sizeOf9
  v9 := Tryd.zeroValue9
  t46 := Tryd.underlying62
  a46 := Tryd.isAgg62
  z46 := Tryd.sizeOf62
  v46 := Tryd.zeroValue62
  t51 := Tryd.underlying65
  a51 := Tryd.isAgg65
  z51 := Tryd.sizeOf65
  v51 := Tryd.zeroValue65
  t146 := Tryd.underlying66
  a146 := Tryd.isAgg66
  z146 := Tryd.sizeOf66
  v146 := Tryd.zeroValue66
  g1 := by kernel_rfl
  i3 := by kernel_rfl
  i4 := by kernel_rfl
  i5 := by kernel_rfl
  i9 := by kernel_rfl
  i46 := by kernel_rfl
  i51 := by kernel_rfl
  i146 := by kernel_rfl
  m1 := by kernel_rfl
  s1_3 := fun w h => Go.Proofs.cell_of_shapedOpen_int (zero := #[.int .i64 0]) (t := 3) h (of_decide_eq_true (by kernel_rfl)) (by kernel_rfl) rfl (by kernel_rfl) (by kernel_rfl) Tryd.underlying3 }
open Go.RowKit Go.Lib in
theorem Tryd.strings_Contains_shaped (s sub : ByteArray) (w : World) (h : w.ShapedOpen Tryd.prog) (hs : s.size < 4294967281) :
    Calls Tryd.prog 23 #[.string s, .string sub] w fun e w' => e = .returned (.bool (Lib.contains s.data.toList sub.data.toList)) ∧ w' = w := Any.strings_Contains_shaped Tryd.laysM144 s sub w h hs
def Tryd.lays149_ren : Go.Shelf.Ren := ⟨fun | 149 => 27 | 222 => 38 | n => n, fun | 9 => 9 | 5 => 5 | 3 => 3 | 4 => 4 | n => n, fun | n => n⟩
theorem Tryd.lays149 : Go.Proofs.Lays.n149 Tryd.prog Tryd.lays149_ren := {
  mixed := by kernel_rfl
  f149 := Tryd.func27.trans (congrArg some (by kernel_rfl))
  f222 := Tryd.func38.trans (congrArg some (by kernel_rfl))
  t3 := Tryd.underlying3
  a3 := Tryd.isAgg3
  z3 := Tryd.sizeOf3
  v3 := Tryd.zeroValue3
  t4 := Tryd.underlying4
  a4 := Tryd.isAgg4
  z4 := Tryd.sizeOf4
  v4 := Tryd.zeroValue4
  t5 := Tryd.underlying5
  a5 := Tryd.isAgg5
  z5 := Tryd.sizeOf5
  v5 := Tryd.zeroValue5
  t9 := Tryd.underlying9
  a9 := Tryd.isAgg9
  z9 := Tryd.sizeOf9
  v9 := Tryd.zeroValue9 }
open Go.RowKit Go.Lib in
/-- strings.LastIndexByte: "LastIndexByte returns the index of the last instance of c in s, or -1 if c is not present in s." (LAID: no walk: one application.) -/
theorem Tryd.strings_LastIndexByte (s : ByteArray) (c : Int) (hs : s.size < 4611686018427387904) (w : World) :
    Calls Tryd.prog 27 #[.string s, .int .u8 c] w fun e w' => e = .returned (.int .i64 (Lib.lastIndexByte s c)) ∧ w' = w := Any.strings_LastIndexByte Tryd.lays149 s c hs w
def Tryd.lays99_ren : Go.Shelf.Ren := ⟨fun | 99 => 22 | 206 => 33 | n => n, fun | 9 => 9 | 4 => 4 | 3 => 3 | n => n, fun | n => n⟩
theorem Tryd.lays99 : Go.Proofs.Lays.n99 Tryd.prog Tryd.lays99_ren := {
  mixed := by kernel_rfl
  f99 := Tryd.func22.trans (congrArg some (by kernel_rfl))
  f206 := Tryd.func33.trans (congrArg some (by kernel_rfl))
  t3 := Tryd.underlying3
  a3 := Tryd.isAgg3
  z3 := Tryd.sizeOf3
  v3 := Tryd.zeroValue3
  t4 := Tryd.underlying4
  a4 := Tryd.isAgg4
  z4 := Tryd.sizeOf4
  v4 := Tryd.zeroValue4
  t9 := Tryd.underlying9
  a9 := Tryd.isAgg9
  z9 := Tryd.sizeOf9
  v9 := Tryd.zeroValue9 }
open Go.RowKit Go.Lib in
/-- strings.HasPrefix: "HasPrefix reports whether the string s begins with prefix.": IT RETURNS 'Lib.hasPrefix s prefix'; the world is as it was. (LAID: no walk: one application.) -/
theorem Tryd.strings_HasPrefix (s p : ByteArray) (w : World) :
    Calls Tryd.prog 22 #[.string s, .string p] w fun e w' => e = .returned (.bool (Lib.hasPrefix s.data.toList p.data.toList)) ∧ w' = w := Any.strings_HasPrefix Tryd.lays99 s p w
def Tryd.lays100_ren : Go.Shelf.Ren := ⟨fun | 100 => 24 | 207 => 35 | n => n, fun | 9 => 9 | 4 => 4 | 3 => 3 | n => n, fun | n => n⟩
theorem Tryd.lays100 : Go.Proofs.Lays.n100 Tryd.prog Tryd.lays100_ren := {
  mixed := by kernel_rfl
  f100 := Tryd.func24.trans (congrArg some (by kernel_rfl))
  f207 := Tryd.func35.trans (congrArg some (by kernel_rfl))
  t3 := Tryd.underlying3
  a3 := Tryd.isAgg3
  z3 := Tryd.sizeOf3
  v3 := Tryd.zeroValue3
  t4 := Tryd.underlying4
  a4 := Tryd.isAgg4
  z4 := Tryd.sizeOf4
  v4 := Tryd.zeroValue4
  t9 := Tryd.underlying9
  a9 := Tryd.isAgg9
  z9 := Tryd.sizeOf9
  v9 := Tryd.zeroValue9 }
open Go.RowKit Go.Lib in
/-- strings.HasSuffix: "HasSuffix reports whether the string s ends with suffix.": IT RETURNS 'Lib.hasSuffix s suffix'; the world is as it was. ('hs': no Go string is longer: a caller has it of every string that it was handed.) (LAID: no walk: one application.) -/
theorem Tryd.strings_HasSuffix (s p : ByteArray) (w : World) (hs : s.size ≤ 9223372036854775807) :
    Calls Tryd.prog 24 #[.string s, .string p] w fun e w' => e = .returned (.bool (Lib.hasSuffix s.data.toList p.data.toList)) ∧ w' = w := Any.strings_HasSuffix Tryd.lays100 s p w hs
def Tryd.lays101_ren : Go.Shelf.Ren := ⟨fun | 101 => 29 | 208 => 40 | 206 => 33 | n => n, fun | 9 => 9 | 4 => 4 | 3 => 3 | n => n, fun | n => n⟩
theorem Tryd.lays101 : Go.Proofs.Lays.n101 Tryd.prog Tryd.lays101_ren := {
  mixed := by kernel_rfl
  f101 := Tryd.func29.trans (congrArg some (by kernel_rfl))
  f206 := Tryd.func33.trans (congrArg some (by kernel_rfl))
  f208 := Tryd.func40.trans (congrArg some (by kernel_rfl))
  t3 := Tryd.underlying3
  a3 := Tryd.isAgg3
  z3 := Tryd.sizeOf3
  v3 := Tryd.zeroValue3
  t4 := Tryd.underlying4
  a4 := Tryd.isAgg4
  z4 := Tryd.sizeOf4
  v4 := Tryd.zeroValue4
  t9 := Tryd.underlying9
  a9 := Tryd.isAgg9
  z9 := Tryd.sizeOf9
  v9 := Tryd.zeroValue9 }
open Go.RowKit Go.Lib in
/-- strings.TrimPrefix: "TrimPrefix returns s without the provided leading prefix string. If s doesn't start with prefix, s is returned unchanged.": IT RETURNS 'Lib.trimPrefix s prefix'; the world is as it was. (LAID: no walk: one application.) -/
theorem Tryd.strings_TrimPrefix (s p : ByteArray) (w : World) :
    Calls Tryd.prog 29 #[.string s, .string p] w fun e w' => e = .returned (.string ⟨(Lib.trimPrefix s.data.toList p.data.toList).toArray⟩) ∧ w' = w := Any.strings_TrimPrefix Tryd.lays101 s p w
def Tryd.lays102_ren : Go.Shelf.Ren := ⟨fun | 102 => 25 | 209 => 36 | 207 => 35 | n => n, fun | 9 => 9 | 4 => 4 | 3 => 3 | n => n, fun | n => n⟩
theorem Tryd.lays102 : Go.Proofs.Lays.n102 Tryd.prog Tryd.lays102_ren := {
  mixed := by kernel_rfl
  f102 := Tryd.func25.trans (congrArg some (by kernel_rfl))
  f207 := Tryd.func35.trans (congrArg some (by kernel_rfl))
  f209 := Tryd.func36.trans (congrArg some (by kernel_rfl))
  t3 := Tryd.underlying3
  a3 := Tryd.isAgg3
  z3 := Tryd.sizeOf3
  v3 := Tryd.zeroValue3
  t4 := Tryd.underlying4
  a4 := Tryd.isAgg4
  z4 := Tryd.sizeOf4
  v4 := Tryd.zeroValue4
  t9 := Tryd.underlying9
  a9 := Tryd.isAgg9
  z9 := Tryd.sizeOf9
  v9 := Tryd.zeroValue9 }
open Go.RowKit Go.Lib in
/-- strings.TrimSuffix: "TrimSuffix returns s without the provided trailing suffix string. If s doesn't end with suffix, s is returned unchanged.": IT RETURNS 'Lib.trimSuffix s suffix'; the world is as it was. (LAID: no walk: one application.) -/
theorem Tryd.strings_TrimSuffix (s p : ByteArray) (w : World) (hs : s.size ≤ 9223372036854775807) :
    Calls Tryd.prog 25 #[.string s, .string p] w fun e w' => e = .returned (.string ⟨(Lib.trimSuffix s.data.toList p.data.toList).toArray⟩) ∧ w' = w := Any.strings_TrimSuffix Tryd.lays102 s p w hs
def Tryd.laysM146_ren : Go.Shelf.Ren := ⟨fun | 146 => 21 | 221 => 32 | 268 => 42 | 138 => 43 | 143 => 34 | 195 => 50 | 197 => 47 | 218 => 51 | 219 => 44 | 260 => 58 | 217 => 52 | 225 => 53 | 224 => 54 | 267 => 55 | 266 => 61 | 314 => 62 | n => n, fun | 9 => 9 | 31 => 35 | 3 => 3 | 4 => 4 | 0 => 0 | 105 => 56 | 21 => 21 | 5 => 5 | 46 => 62 | 119 => 71 | 139 => 74 | 138 => 73 | 146 => 66 | 51 => 65 | n => n, fun | 1 => 0 | 3 => 1 | 4 => 2 | n => n⟩
theorem Tryd.laysM146 : Go.Proofs.LaysM.n146 Tryd.prog Tryd.laysM146_ren := {
  mixed := by kernel_rfl
  f138 := Tryd.func43.trans (congrArg some (by kernel_rfl))
  f143 := Tryd.func34.trans (congrArg some (by kernel_rfl))
  f146 := Tryd.func21.trans (congrArg some (by kernel_rfl))
  f195 := Tryd.func50.trans (congrArg some (by kernel_rfl))
  f197 := Tryd.func47.trans (congrArg some (by kernel_rfl))
  f217 := Tryd.func52.trans (congrArg some (by kernel_rfl))
  f218 := Tryd.func51.trans (congrArg some (by kernel_rfl))
  f219 := Tryd.func44.trans (congrArg some (by kernel_rfl))
  f221 := Tryd.func32.trans (congrArg some (by kernel_rfl))
  f224 := Tryd.func54.trans (congrArg some (by kernel_rfl))
  f225 := Tryd.func53.trans (congrArg some (by kernel_rfl))
  f260 := Tryd.func58.trans (congrArg some (by kernel_rfl))
  f266 := Tryd.func61.trans (congrArg some (by kernel_rfl))
  f267 := Tryd.func55.trans (congrArg some (by kernel_rfl))
  f268 := Tryd.func42.trans (congrArg some (by kernel_rfl))
  f314 := Tryd.func62.trans (congrArg some (by kernel_rfl))
  t0 := Tryd.underlying0
  a0 := Tryd.isAgg0
  z0 := Tryd.sizeOf0
  v0 := Tryd.zeroValue0
  t3 := Tryd.underlying3
  a3 := Tryd.isAgg3
  z3 := Tryd.sizeOf3
  v3 := Tryd.zeroValue3
  t4 := Tryd.underlying4
  a4 := Tryd.isAgg4
  z4 := Tryd.sizeOf4
  v4 := Tryd.zeroValue4
  t5 := Tryd.underlying5
  a5 := Tryd.isAgg5
  z5 := Tryd.sizeOf5
  v5 := Tryd.zeroValue5
  t9 := Tryd.underlying9
  a9 := Tryd.isAgg9
  z9 := Tryd.sizeOf9
  v9 := Tryd.zeroValue9
  t21 := Tryd.underlying21
  a21 := Tryd.isAgg21
  z21 := Tryd.sizeOf21
  v21 := Tryd.zeroValue21
  t31 := Tryd.underlying35
  a31 := Tryd.isAgg35
  z31 := Tryd.sizeOf35
  v31 := Tryd.zeroValue35
  t46 := Tryd.underlying62
  a46 := Tryd.isAgg62
  z46 := Tryd.sizeOf62
  v46 := Tryd.zeroValue62
  t51 := Tryd.underlying65
  a51 := Tryd.isAgg65
  z51 := Tryd.sizeOf65
  v51 := Tryd.zeroValue65
  t105 := Tryd.underlying56
  a105 := Tryd.isAgg56
  z105 := Tryd.sizeOf56
  v105 := Tryd.zeroValue56
  t119 := Tryd.underlying71
  a119 := Tryd.isAgg71
  z119 := Tryd.sizeOf71
  t138 := Tryd.underlying73
  a138 := Tryd.isAgg73
  z138 := Tryd.sizeOf73
  v138 := Tryd.zeroValue73
  t139 := Tryd.underlying74
  a139 := Tryd.isAgg74
  z139 := Tryd.sizeOf74
  v139 := Tryd.zeroValue74
  t146 := Tryd.underlying66
  a146 := Tryd.isAgg66
  z146 := Tryd.sizeOf66
  v146 := Tryd.zeroValue66
  g1 := by kernel_rfl
  g3 := by kernel_rfl
  g4 := by kernel_rfl
  i0 := by kernel_rfl
  i3 := by kernel_rfl
  i4 := by kernel_rfl
  i5 := by kernel_rfl
  i9 := by kernel_rfl
  i21 := by kernel_rfl
  i31 := by kernel_rfl
  i46 := by kernel_rfl
  i51 := by kernel_rfl
  i105 := by kernel_rfl
  i138 := by kernel_rfl
  i139 := by kernel_rfl
  i146 := by kernel_rfl
  m1 := by kernel_rfl
  s1_3 := fun w h => Go.Proofs.cell_of_shapedOpen_int (zero := #[.int .i64 0]) (t := 3) h (of_decide_eq_true (by kernel_rfl)) (by kernel_rfl) rfl (by kernel_rfl) (by kernel_rfl) Tryd.underlying3
  m3 := by kernel_rfl
  m4 := by kernel_rfl }
open Go.RowKit Go.Lib in
/-- strings.Split, sep not empty. (LAID: no walk: one application.) -/
theorem Tryd.strings_Split_shaped (s sep : ByteArray) (w : World) (h : w.ShapedOpen Tryd.prog) (hs : s.size < 4294967281) (h1 : 1 ≤ sep.size) :
    Calls Tryd.prog 21 #[.string s, .string sep] w fun e w' =>
      e = .returned (.slice (some ⟨w.heap.size, 0, none⟩) (Lib.countB s sep + 1) (Lib.countB s sep + 1)) ∧ w' = w.alloc (.cells ((Lib.splitB sep 0 (Lib.countB s sep) s).map Value.string).toArray 9) := Any.strings_Split_shaped Tryd.laysM146 s sep w h hs h1
def Tryd.laysM155_ren : Go.Shelf.Ren := ⟨fun | 155 => 28 | 154 => 39 | 138 => 43 | 165 => 45 | 143 => 34 | 166 => 46 | 197 => 47 | 169 => 48 | 195 => 50 | 218 => 51 | 240 => 56 | 241 => 57 | 219 => 44 | 260 => 58 | 276 => 63 | 277 => 64 | 217 => 52 | 225 => 53 | 224 => 54 | 267 => 55 | 266 => 61 | 314 => 62 | n => n, fun | 9 => 9 | 3 => 3 | 4 => 4 | 72 => 50 | 0 => 0 | 76 => 54 | 105 => 56 | 21 => 21 | 5 => 5 | 70 => 48 | 20 => 20 | 37 => 34 | 75 => 53 | 127 => 63 | 164 => 68 | 46 => 62 | 119 => 71 | 139 => 74 | 138 => 73 | 146 => 66 | 51 => 65 | 80 => 58 | n => n, fun | 1 => 0 | 3 => 1 | 4 => 2 | n => n⟩
theorem Tryd.laysM155 : Go.Proofs.LaysM.n155 Tryd.prog Tryd.laysM155_ren := {
  mixed := by kernel_rfl
  f138 := Tryd.func43.trans (congrArg some (by kernel_rfl))
  f143 := Tryd.func34.trans (congrArg some (by kernel_rfl))
  f154 := Tryd.func39.trans (congrArg some (by kernel_rfl))
  f155 := Tryd.func28.trans (congrArg some (by kernel_rfl))
  f165 := Tryd.func45.trans (congrArg some (by kernel_rfl))
  f166 := Tryd.func46.trans (congrArg some (by kernel_rfl))
  f169 := Tryd.func48.trans (congrArg some (by kernel_rfl))
  f195 := Tryd.func50.trans (congrArg some (by kernel_rfl))
  f197 := Tryd.func47.trans (congrArg some (by kernel_rfl))
  f217 := Tryd.func52.trans (congrArg some (by kernel_rfl))
  f218 := Tryd.func51.trans (congrArg some (by kernel_rfl))
  f219 := Tryd.func44.trans (congrArg some (by kernel_rfl))
  f224 := Tryd.func54.trans (congrArg some (by kernel_rfl))
  f225 := Tryd.func53.trans (congrArg some (by kernel_rfl))
  f240 := Tryd.func56.trans (congrArg some (by kernel_rfl))
  f241 := Tryd.func57.trans (congrArg some (by kernel_rfl))
  f260 := Tryd.func58.trans (congrArg some (by kernel_rfl))
  f266 := Tryd.func61.trans (congrArg some (by kernel_rfl))
  f267 := Tryd.func55.trans (congrArg some (by kernel_rfl))
  f276 := Tryd.func63.trans (congrArg some (by kernel_rfl))
  f277 := Tryd.func64.trans (congrArg some (by kernel_rfl))
  f314 := Tryd.func62.trans (congrArg some (by kernel_rfl))
  t0 := Tryd.underlying0
  a0 := Tryd.isAgg0
  z0 := Tryd.sizeOf0
  v0 := Tryd.zeroValue0
  t3 := Tryd.underlying3
  a3 := Tryd.isAgg3
  z3 := Tryd.sizeOf3
  v3 := Tryd.zeroValue3
  t4 := Tryd.underlying4
  a4 := Tryd.isAgg4
  z4 := Tryd.sizeOf4
  v4 := Tryd.zeroValue4
  t5 := Tryd.underlying5
  a5 := Tryd.isAgg5
  z5 := Tryd.sizeOf5
  v5 := Tryd.zeroValue5
  t9 := Tryd.underlying9
  a9 := Tryd.isAgg9
  z9 := Tryd.sizeOf9
  v9 := Tryd.zeroValue9
  t20 := Tryd.underlying20
  a20 := Tryd.isAgg20
  z20 := Tryd.sizeOf20
  v20 := Tryd.zeroValue20
  t21 := Tryd.underlying21
  a21 := Tryd.isAgg21
  z21 := Tryd.sizeOf21
  v21 := Tryd.zeroValue21
  t37 := Tryd.underlying34
  a37 := Tryd.isAgg34
  z37 := Tryd.sizeOf34
  v37 := Tryd.zeroValue34
  t46 := Tryd.underlying62
  a46 := Tryd.isAgg62
  z46 := Tryd.sizeOf62
  v46 := Tryd.zeroValue62
  t51 := Tryd.underlying65
  a51 := Tryd.isAgg65
  z51 := Tryd.sizeOf65
  v51 := Tryd.zeroValue65
  t70 := Tryd.underlying48
  a70 := Tryd.isAgg48
  z70 := Tryd.sizeOf48
  v70 := Tryd.zeroValue48
  t72 := Tryd.underlying50
  a72 := Tryd.isAgg50
  z72 := Tryd.sizeOf50
  v72 := Tryd.zeroValue50
  t75 := Tryd.underlying53
  a75 := Tryd.isAgg53
  z75 := Tryd.sizeOf53
  v75 := Tryd.zeroValue53
  t76 := Tryd.underlying54
  a76 := Tryd.isAgg54
  z76 := Tryd.sizeOf54
  v76 := Tryd.zeroValue54
  t105 := Tryd.underlying56
  a105 := Tryd.isAgg56
  z105 := Tryd.sizeOf56
  v105 := Tryd.zeroValue56
  t119 := Tryd.underlying71
  a119 := Tryd.isAgg71
  z119 := Tryd.sizeOf71
  t127 := Tryd.underlying63
  a127 := Tryd.isAgg63
  z127 := Tryd.sizeOf63
  v127 := Tryd.zeroValue63
  t138 := Tryd.underlying73
  a138 := Tryd.isAgg73
  z138 := Tryd.sizeOf73
  v138 := Tryd.zeroValue73
  t139 := Tryd.underlying74
  a139 := Tryd.isAgg74
  z139 := Tryd.sizeOf74
  v139 := Tryd.zeroValue74
  t146 := Tryd.underlying66
  a146 := Tryd.isAgg66
  z146 := Tryd.sizeOf66
  v146 := Tryd.zeroValue66
  t164 := Tryd.underlying68
  a164 := Tryd.isAgg68
  z164 := Tryd.sizeOf68
  v164 := Tryd.zeroValue68
  g1 := by kernel_rfl
  g3 := by kernel_rfl
  g4 := by kernel_rfl
  t80 := Tryd.underlying58
  a80 := Tryd.isAgg58
  z80 := Tryd.sizeOf58
  v80 := Tryd.zeroValue58
  i0 := by kernel_rfl
  i3 := by kernel_rfl
  i4 := by kernel_rfl
  i5 := by kernel_rfl
  i9 := by kernel_rfl
  i20 := by kernel_rfl
  i21 := by kernel_rfl
  i37 := by kernel_rfl
  i46 := by kernel_rfl
  i51 := by kernel_rfl
  i70 := by kernel_rfl
  i72 := by kernel_rfl
  i75 := by kernel_rfl
  i76 := by kernel_rfl
  i80 := by kernel_rfl
  i105 := by kernel_rfl
  i127 := by kernel_rfl
  i138 := by kernel_rfl
  i139 := by kernel_rfl
  i146 := by kernel_rfl
  i164 := by kernel_rfl
  m1 := by kernel_rfl
  s1_3 := fun w h => Go.Proofs.cell_of_shapedOpen_int (zero := #[.int .i64 0]) (t := 3) h (of_decide_eq_true (by kernel_rfl)) (by kernel_rfl) rfl (by kernel_rfl) (by kernel_rfl) Tryd.underlying3
  m3 := by kernel_rfl
  m4 := by kernel_rfl }
theorem Tryd.Builder_Extra_M155 : Builder.Extra Tryd.prog Tryd.laysM155_ren := {
  sizeBuilder := by kernel_rfl
  liesBuilder := by kernel_rfl
  t5 := Tryd.underlying5
  a5 := Tryd.isAgg5
  z5 := Tryd.sizeOf5
  v5 := Tryd.zeroValue5
  infoByte := by kernel_rfl
  cellsByte := by kernel_rfl
  sizeByte := by kernel_rfl
  neB5 := by decide }
open Go.RowKit Go.Lib in
/-- strings.ReplaceAll, old not empty. (LAID: no walk: one application.) -/
theorem Tryd.strings_ReplaceAll_shaped (s old new : ByteArray) (w : World) (h : w.ShapedOpen Tryd.prog) (hs : s.size < 4294967281) (h1 : 1 ≤ old.size) (hlen : s.size + Lib.countB s old * new.size ≤ 140737488355328) :
    Calls Tryd.prog 28 #[.string s, .string old, .string new] w fun e w' =>
      e = .returned (.string ⟨(Lib.replaceAll s.data.toList old.data.toList new.data.toList).toArray⟩) ∧ Below w.heap.size w w' := Any.strings_ReplaceAll_shaped Tryd.laysM155 Tryd.Builder_Extra_M155 s old new w h hs h1 hlen
def Tryd.lays151_ren : Go.Shelf.Ren := ⟨fun | 151 => 41 | 152 => 49 | 137 => 59 | 119 => 60 | 224 => 54 | 225 => 53 | 217 => 52 | 266 => 61 | n => n, fun | 9 => 9 | 21 => 21 | 4 => 4 | 3 => 3 | 5 => 5 | 0 => 0 | 46 => 62 | n => n, fun | n => n⟩
theorem Tryd.lays151 : Go.Proofs.Lays.n151 Tryd.prog Tryd.lays151_ren := {
  mixed := by kernel_rfl
  f119 := Tryd.func60.trans (congrArg some (by kernel_rfl))
  f137 := Tryd.func59.trans (congrArg some (by kernel_rfl))
  f151 := Tryd.func41.trans (congrArg some (by kernel_rfl))
  f152 := Tryd.func49.trans (congrArg some (by kernel_rfl))
  f217 := Tryd.func52.trans (congrArg some (by kernel_rfl))
  f224 := Tryd.func54.trans (congrArg some (by kernel_rfl))
  f225 := Tryd.func53.trans (congrArg some (by kernel_rfl))
  f266 := Tryd.func61.trans (congrArg some (by kernel_rfl))
  t0 := Tryd.underlying0
  a0 := Tryd.isAgg0
  z0 := Tryd.sizeOf0
  v0 := Tryd.zeroValue0
  t3 := Tryd.underlying3
  a3 := Tryd.isAgg3
  z3 := Tryd.sizeOf3
  v3 := Tryd.zeroValue3
  t4 := Tryd.underlying4
  a4 := Tryd.isAgg4
  z4 := Tryd.sizeOf4
  v4 := Tryd.zeroValue4
  t5 := Tryd.underlying5
  a5 := Tryd.isAgg5
  z5 := Tryd.sizeOf5
  v5 := Tryd.zeroValue5
  t9 := Tryd.underlying9
  a9 := Tryd.isAgg9
  z9 := Tryd.sizeOf9
  v9 := Tryd.zeroValue9
  t21 := Tryd.underlying21
  a21 := Tryd.isAgg21
  z21 := Tryd.sizeOf21
  v21 := Tryd.zeroValue21
  t46 := Tryd.underlying62
  a46 := Tryd.isAgg62
  z46 := Tryd.sizeOf62
  v46 := Tryd.zeroValue62 }
open Go.RowKit Go.Lib in
theorem Tryd.strings_ContainsRune_ascii (s : ByteArray) (r : Int) (w : World) (h0 : 0 ≤ r) (h1 : r < 128) :
    Calls Tryd.prog 41 #[.string s, .int .i32 r] w fun e w' => e = .returned (.bool (decide (0 ≤ Lib.indexByte s.data.toList r.toNat.toUInt8))) ∧ w' = w := Any.strings_ContainsRune_ascii Tryd.lays151 s r w h0 h1
end Go.Proofs
