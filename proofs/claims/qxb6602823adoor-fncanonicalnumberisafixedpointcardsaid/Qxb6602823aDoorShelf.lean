/-
  DERIVED: THE SHELF's CONTRACTS AT THIS DUMP, IN PLAIN WORDS (tools/lay-plain.mjs out of 'Qxb6602823aDoorShelf.lean', which tools/lay-shelf.mjs wrote): THE SAME DECLARATIONS UNDER THE SAME NAMES: 'import', 'namespace', 'open', 'def', 'theorem' AND NOTHING ELSE: no command of the shelf's: FOR A HAND-IN. Each laying: the table of numbers ('.._ren') and one theorem, a field a fact of the dump's own or the kernel's comparison; each contract: ONE APPLICATION.
-/
import Derived.Shelf.Strings.Trim
import Derived.Shelf.Small.Utf8
import Derived.Shelf.Small.Strs
import Derived.Shelf.Small.Wraps
import Derived.Shelf.Strconv.Itoa0
import Derived.Shelf.Strconv.Itoa1
import Derived.Shelf.LaysM
import Derived.Shelf.Strconv.Itoa2
import Derived.Shelf.Strconv.Itoa3
import Derived.Shelf.Strconv.Itoa4
import Derived.Shelf.Strconv.ParseIntEmpty
import Derived.Shelf.Strconv.Clone
import Derived.Shelf.Strconv.SyntaxError
import Derived.Shelf.LaysC
import Derived.Shelf.Strconv.ToError
import Derived.Shelf.Strconv.Lower
import Derived.Shelf.Strconv.ParseUint10
import Derived.Shelf.Strconv.ParseUint10Empty
import Derived.Shelf.Strconv.ParseUint10Any
import Derived.Shelf.Strconv.ParseInt10
import Derived.Shelf.Strconv.RangeError
import Derived.Shelf.Strconv.ToErrorRange
import Derived.Shelf.Strconv.ParseUintEmpty
import Derived.Shelf.Strconv.ParseUint10b64
import Derived.Shelf.Strconv.ParseUint10b32
import Derived.Shelf.Strconv.ParseUint10b16
import Derived.Shelf.Strconv.ParseUint10b8
import Derived.Shelf.Strconv.ParseUint10At
import Derived.Shelf.Strconv.ParseInt10At64
import Derived.Shelf.Strconv.ParseInt10At32
import Derived.Shelf.Strconv.ParseInt10At16
import Derived.Shelf.Strconv.ParseInt10At8
import Derived.Shelf.Strconv.ParseInt10All
import Derived.Shelf.Strconv.ParseIntPublic10
import Derived.Shelf.Strconv.ErrVarParseInt
import Derived.Shelf.Strings.Search1
import Derived.Shelf.Strings.Search2
import Derived.Shelf.Strings.Cut
import Derived.Shelf.Strings.Shaped
import Derived.Shelf.Strings.Prefix
import Derived.Shelf.Unicode.Decode
import Derived.Shelf.Strings.Runes
import Derived.Shelf.Strings.IndexAny
import Derived.Shelf.Strings.AsciiSet
import Derived.Shelf.Strings.IndexAnyAll
import Derived.Shelf.Unicode.DecodeSlow
import Derived.Shelf.Unicode.DecodeAny
import Derived.Shelf.Unicode.DecodeLast
import Derived.Test.Qxb6602823aDoorProg
namespace Go.Proofs
open Go.Shelf
def Tryd.lays161_ren : Go.Shelf.Ren := ⟨fun | 161 => 21 | 231 => 34 | 227 => 28 | 233 => 35 | 235 => 36 | 228 => 29 | 197 => 52 | 151 => 53 | 260 => 66 | 152 => 26 | 137 => 41 | 119 => 42 | 224 => 43 | 225 => 44 | 217 => 59 | 266 => 73 | n => n, fun | 9 => 9 | 4 => 4 | 3 => 3 | 5 => 5 | 117 => 60 | 116 => 59 | 0 => 0 | 124 => 65 | 105 => 77 | 21 => 21 | 119 => 101 | 46 => 69 | 139 => 104 | 138 => 103 | n => n, fun | 3 => 4 | 4 => 5 | n => n⟩
theorem Tryd.lays161 : Go.Proofs.Lays.n161 Tryd.prog Tryd.lays161_ren := {
  mixed := by kernel_rfl
  f119 := Tryd.func42.trans (congrArg some (by kernel_rfl))
  f137 := Tryd.func41.trans (congrArg some (by kernel_rfl))
  f151 := Tryd.func53.trans (congrArg some (by kernel_rfl))
  f152 := Tryd.func26.trans (congrArg some (by kernel_rfl))
  f161 := Tryd.func21.trans (congrArg some (by kernel_rfl))
  f197 := Tryd.func52.trans (congrArg some (by kernel_rfl))
  f217 := Tryd.func59.trans (congrArg some (by kernel_rfl))
  f224 := Tryd.func43.trans (congrArg some (by kernel_rfl))
  f225 := Tryd.func44.trans (congrArg some (by kernel_rfl))
  f227 := Tryd.func28.trans (congrArg some (by kernel_rfl))
  f228 := Tryd.func29.trans (congrArg some (by kernel_rfl))
  f231 := Tryd.func34.trans (congrArg some (by kernel_rfl))
  f233 := Tryd.func35.trans (congrArg some (by kernel_rfl))
  f235 := Tryd.func36.trans (congrArg some (by kernel_rfl))
  f260 := Tryd.func66.trans (congrArg some (by kernel_rfl))
  f266 := Tryd.func73.trans (congrArg some (by kernel_rfl))
  t0 := Tryd.underlying0
  a0 := Tryd.isAgg0
  z0 := Tryd.sizeOf0
  v0 := Tryd.zeroValue0
  t3 := Tryd.underlying3
  a3 := Tryd.isAgg3
  z3 := Tryd.sizeOf3
  v3 := Tryd.zeroValue3
  t4 := Tryd.underlying4
  a4 := Tryd.isAgg4
  z4 := Tryd.sizeOf4
  v4 := Tryd.zeroValue4
  t5 := Tryd.underlying5
  a5 := Tryd.isAgg5
  z5 := Tryd.sizeOf5
  v5 := Tryd.zeroValue5
  t9 := Tryd.underlying9
  a9 := Tryd.isAgg9
  z9 := Tryd.sizeOf9
  v9 := Tryd.zeroValue9
  t21 := Tryd.underlying21
  a21 := Tryd.isAgg21
  z21 := Tryd.sizeOf21
  v21 := Tryd.zeroValue21
  t46 := Tryd.underlying69
  a46 := Tryd.isAgg69
  z46 := Tryd.sizeOf69
  v46 := Tryd.zeroValue69
  t105 := Tryd.underlying77
  a105 := Tryd.isAgg77
  z105 := Tryd.sizeOf77
  v105 := Tryd.zeroValue77
  t116 := Tryd.underlying59
  a116 := Tryd.isAgg59
  z116 := Tryd.sizeOf59
  t117 := Tryd.underlying60
  a117 := Tryd.isAgg60
  z117 := Tryd.sizeOf60
  v117 := Tryd.zeroValue60
  t119 := Tryd.underlying101
  a119 := Tryd.isAgg101
  z119 := Tryd.sizeOf101
  t124 := Tryd.underlying65
  a124 := Tryd.isAgg65
  z124 := Tryd.sizeOf65
  v124 := Tryd.zeroValue65
  t138 := Tryd.underlying103
  a138 := Tryd.isAgg103
  z138 := Tryd.sizeOf103
  v138 := Tryd.zeroValue103
  t139 := Tryd.underlying104
  a139 := Tryd.isAgg104
  z139 := Tryd.sizeOf104
  v139 := Tryd.zeroValue104
  g3 := by kernel_rfl
  g4 := by kernel_rfl }
open Go.RowKit in
/-- strings.TrimLeft: "TrimLeft returns a slice of the string s with all leading Unicode code points contained in cutset removed.": AT A cutset OF ONE ASCII BYTE. The world is as it was. (LAID: no walk: one application.) -/
theorem Tryd.strings_TrimLeft_one (s : ByteArray) (c : UInt8) (hc : c.toNat < 128) (w : World) :
    Calls Tryd.prog 21 #[.string s, .string ⟨#[c]⟩] w fun e w' => e = .returned (.string ⟨(Lib.trimLeftB s.data.toList c).toArray⟩) ∧ w' = w := Any.strings_TrimLeft_one Tryd.lays161 s c hc w
def Tryd.lays162_ren : Go.Shelf.Ren := ⟨fun | 162 => 22 | 232 => 37 | 227 => 28 | 234 => 38 | 236 => 39 | 228 => 29 | 271 => 54 | 151 => 53 | 120 => 67 | 197 => 52 | 152 => 26 | 260 => 66 | 137 => 41 | 119 => 42 | 224 => 43 | 225 => 44 | 217 => 59 | 266 => 73 | n => n, fun | 9 => 9 | 4 => 4 | 3 => 3 | 5 => 5 | 117 => 60 | 116 => 59 | 0 => 0 | 124 => 65 | 21 => 21 | 105 => 77 | 46 => 69 | 119 => 101 | 139 => 104 | 138 => 103 | n => n, fun | 3 => 4 | 4 => 5 | n => n⟩
theorem Tryd.lays162 : Go.Proofs.Lays.n162 Tryd.prog Tryd.lays162_ren := {
  mixed := by kernel_rfl
  f119 := Tryd.func42.trans (congrArg some (by kernel_rfl))
  f120 := Tryd.func67.trans (congrArg some (by kernel_rfl))
  f137 := Tryd.func41.trans (congrArg some (by kernel_rfl))
  f151 := Tryd.func53.trans (congrArg some (by kernel_rfl))
  f152 := Tryd.func26.trans (congrArg some (by kernel_rfl))
  f162 := Tryd.func22.trans (congrArg some (by kernel_rfl))
  f197 := Tryd.func52.trans (congrArg some (by kernel_rfl))
  f217 := Tryd.func59.trans (congrArg some (by kernel_rfl))
  f224 := Tryd.func43.trans (congrArg some (by kernel_rfl))
  f225 := Tryd.func44.trans (congrArg some (by kernel_rfl))
  f227 := Tryd.func28.trans (congrArg some (by kernel_rfl))
  f228 := Tryd.func29.trans (congrArg some (by kernel_rfl))
  f232 := Tryd.func37.trans (congrArg some (by kernel_rfl))
  f234 := Tryd.func38.trans (congrArg some (by kernel_rfl))
  f236 := Tryd.func39.trans (congrArg some (by kernel_rfl))
  f260 := Tryd.func66.trans (congrArg some (by kernel_rfl))
  f266 := Tryd.func73.trans (congrArg some (by kernel_rfl))
  f271 := Tryd.func54.trans (congrArg some (by kernel_rfl))
  t0 := Tryd.underlying0
  a0 := Tryd.isAgg0
  z0 := Tryd.sizeOf0
  v0 := Tryd.zeroValue0
  t3 := Tryd.underlying3
  a3 := Tryd.isAgg3
  z3 := Tryd.sizeOf3
  v3 := Tryd.zeroValue3
  t4 := Tryd.underlying4
  a4 := Tryd.isAgg4
  z4 := Tryd.sizeOf4
  v4 := Tryd.zeroValue4
  t5 := Tryd.underlying5
  a5 := Tryd.isAgg5
  z5 := Tryd.sizeOf5
  v5 := Tryd.zeroValue5
  t9 := Tryd.underlying9
  a9 := Tryd.isAgg9
  z9 := Tryd.sizeOf9
  v9 := Tryd.zeroValue9
  t21 := Tryd.underlying21
  a21 := Tryd.isAgg21
  z21 := Tryd.sizeOf21
  v21 := Tryd.zeroValue21
  t46 := Tryd.underlying69
  a46 := Tryd.isAgg69
  z46 := Tryd.sizeOf69
  v46 := Tryd.zeroValue69
  t105 := Tryd.underlying77
  a105 := Tryd.isAgg77
  z105 := Tryd.sizeOf77
  v105 := Tryd.zeroValue77
  t116 := Tryd.underlying59
  a116 := Tryd.isAgg59
  z116 := Tryd.sizeOf59
  t117 := Tryd.underlying60
  a117 := Tryd.isAgg60
  z117 := Tryd.sizeOf60
  v117 := Tryd.zeroValue60
  t119 := Tryd.underlying101
  a119 := Tryd.isAgg101
  z119 := Tryd.sizeOf101
  t124 := Tryd.underlying65
  a124 := Tryd.isAgg65
  z124 := Tryd.sizeOf65
  v124 := Tryd.zeroValue65
  t138 := Tryd.underlying103
  a138 := Tryd.isAgg103
  z138 := Tryd.sizeOf103
  v138 := Tryd.zeroValue103
  t139 := Tryd.underlying104
  a139 := Tryd.isAgg104
  z139 := Tryd.sizeOf104
  v139 := Tryd.zeroValue104
  g3 := by kernel_rfl
  g4 := by kernel_rfl }
open Go.RowKit in
/-- strings.TrimRight: "TrimRight returns a slice of the string s, with all trailing Unicode code points contained in cutset removed.": AT A cutset OF ONE ASCII BYTE. The world is as it was. (LAID: no walk: one application.) -/
theorem Tryd.strings_TrimRight_one (s : ByteArray) (c : UInt8) (hc : c.toNat < 128) (w : World) (hs : s.size ≤ 9223372036854775807) :
    Calls Tryd.prog 22 #[.string s, .string ⟨#[c]⟩] w fun e w' => e = .returned (.string ⟨(Lib.trimRightB s.data.toList c).toArray⟩) ∧ w' = w := Any.strings_TrimRight_one Tryd.lays162 s c hc w hs
def Tryd.lays103_ren : Go.Shelf.Ren := ⟨fun | 103 => 19 | 210 => 32 | 206 => 50 | n => n, fun | 9 => 9 | 4 => 4 | 24 => 50 | 3 => 3 | n => n, fun | n => n⟩
theorem Tryd.lays103 : Go.Proofs.Lays.n103 Tryd.prog Tryd.lays103_ren := {
  mixed := by kernel_rfl
  f103 := Tryd.func19.trans (congrArg some (by kernel_rfl))
  f206 := Tryd.func50.trans (congrArg some (by kernel_rfl))
  f210 := Tryd.func32.trans (congrArg some (by kernel_rfl))
  t3 := Tryd.underlying3
  a3 := Tryd.isAgg3
  z3 := Tryd.sizeOf3
  v3 := Tryd.zeroValue3
  t4 := Tryd.underlying4
  a4 := Tryd.isAgg4
  z4 := Tryd.sizeOf4
  v4 := Tryd.zeroValue4
  t9 := Tryd.underlying9
  a9 := Tryd.isAgg9
  z9 := Tryd.sizeOf9
  v9 := Tryd.zeroValue9
  t24 := Tryd.underlying50
  a24 := Tryd.isAgg50
  z24 := Tryd.sizeOf50
  v24 := Tryd.zeroValue50 }
open Go.RowKit in
/-- strings.CutPrefix: "CutPrefix returns s without the provided leading prefix string and reports whether it found the prefix. If s doesn't start with prefix, CutPrefix returns s, false. If prefix is the empty string, CutPrefix returns s, true.": IT RETURNS '(Lib.trimPrefix s p, Lib.hasPrefix s p)'; the world is as it was. (LAID: no walk: one application.) -/
theorem Tryd.strings_CutPrefix (s p : ByteArray) (w : World) :
    Calls Tryd.prog 19 #[.string s, .string p] w fun e w' => e = .returned (.tuple #[.string ⟨(Lib.trimPrefix s.data.toList p.data.toList).toArray⟩, .bool (Lib.hasPrefix s.data.toList p.data.toList)]) ∧ w' = w := Any.strings_CutPrefix Tryd.lays103 s p w
def Tryd.laysM173_ren : Go.Shelf.Ren := ⟨fun | 173 => 23 | 246 => 40 | 283 => 55 | 284 => 56 | 285 => 57 | 286 => 58 | 129 => 69 | 317 => 68 | 318 => 70 | 319 => 71 | 320 => 72 | 337 => 76 | 338 => 77 | n => n, fun | 2 => 2 | 3 => 3 | 9 => 9 | 4 => 4 | 171 => 81 | 0 => 0 | 53 => 43 | 37 => 30 | 5 => 5 | 173 => 84 | 212 => 91 | 51 => 92 | 20 => 20 | 213 => 93 | 46 => 69 | 232 => 106 | 233 => 107 | n => n, fun | 17 => 3 | 18 => 6 | 19 => 7 | n => n⟩
theorem Tryd.laysM173 : Go.Proofs.LaysM.n173 Tryd.prog Tryd.laysM173_ren := {
  mixed := by kernel_rfl
  f129 := Tryd.func69.trans (congrArg some (by kernel_rfl))
  f173 := Tryd.func23.trans (congrArg some (by kernel_rfl))
  f246 := Tryd.func40.trans (congrArg some (by kernel_rfl))
  f283 := Tryd.func55.trans (congrArg some (by kernel_rfl))
  f284 := Tryd.func56.trans (congrArg some (by kernel_rfl))
  f285 := Tryd.func57.trans (congrArg some (by kernel_rfl))
  f286 := Tryd.func58.trans (congrArg some (by kernel_rfl))
  f317 := Tryd.func68.trans (congrArg some (by kernel_rfl))
  f318 := Tryd.func70.trans (congrArg some (by kernel_rfl))
  f319 := Tryd.func71.trans (congrArg some (by kernel_rfl))
  f320 := Tryd.func72.trans (congrArg some (by kernel_rfl))
  f337 := Tryd.func76.trans (congrArg some (by kernel_rfl))
  f338 := Tryd.func77.trans (congrArg some (by kernel_rfl))
  t0 := Tryd.underlying0
  a0 := Tryd.isAgg0
  z0 := Tryd.sizeOf0
  v0 := Tryd.zeroValue0
  t2 := Tryd.underlying2
  a2 := Tryd.isAgg2
  z2 := Tryd.sizeOf2
  v2 := Tryd.zeroValue2
  t3 := Tryd.underlying3
  a3 := Tryd.isAgg3
  z3 := Tryd.sizeOf3
  v3 := Tryd.zeroValue3
  t4 := Tryd.underlying4
  a4 := Tryd.isAgg4
  z4 := Tryd.sizeOf4
  v4 := Tryd.zeroValue4
  t5 := Tryd.underlying5
  a5 := Tryd.isAgg5
  z5 := Tryd.sizeOf5
  v5 := Tryd.zeroValue5
  t9 := Tryd.underlying9
  a9 := Tryd.isAgg9
  z9 := Tryd.sizeOf9
  v9 := Tryd.zeroValue9
  t20 := Tryd.underlying20
  a20 := Tryd.isAgg20
  z20 := Tryd.sizeOf20
  v20 := Tryd.zeroValue20
  t37 := Tryd.underlying30
  a37 := Tryd.isAgg30
  z37 := Tryd.sizeOf30
  v37 := Tryd.zeroValue30
  t46 := Tryd.underlying69
  a46 := Tryd.isAgg69
  z46 := Tryd.sizeOf69
  v46 := Tryd.zeroValue69
  t51 := Tryd.underlying92
  a51 := Tryd.isAgg92
  z51 := Tryd.sizeOf92
  v51 := Tryd.zeroValue92
  t53 := Tryd.underlying43
  a53 := Tryd.isAgg43
  z53 := Tryd.sizeOf43
  v53 := Tryd.zeroValue43
  t171 := Tryd.underlying81
  a171 := Tryd.isAgg81
  z171 := Tryd.sizeOf81
  v171 := Tryd.zeroValue81
  t173 := Tryd.underlying84
  a173 := Tryd.isAgg84
  z173 := Tryd.sizeOf84
  v173 := Tryd.zeroValue84
  t212 := Tryd.underlying91
  a212 := Tryd.isAgg91
  z212 := Tryd.sizeOf91
  v212 := Tryd.zeroValue91
  t213 := Tryd.underlying93
  a213 := Tryd.isAgg93
  z213 := Tryd.sizeOf93
  t232 := Tryd.underlying106
  a232 := Tryd.isAgg106
  z232 := Tryd.sizeOf106
  v232 := Tryd.zeroValue106
  t233 := Tryd.underlying107
  a233 := Tryd.isAgg107
  z233 := Tryd.sizeOf107
  v233 := Tryd.zeroValue107
  g17 := by kernel_rfl
  g18 := by kernel_rfl
  g19 := by kernel_rfl
  i0 := by kernel_rfl
  i2 := by kernel_rfl
  i3 := by kernel_rfl
  i4 := by kernel_rfl
  i5 := by kernel_rfl
  i9 := by kernel_rfl
  i20 := by kernel_rfl
  i37 := by kernel_rfl
  i46 := by kernel_rfl
  i51 := by kernel_rfl
  i53 := by kernel_rfl
  i171 := by kernel_rfl
  i173 := by kernel_rfl
  i212 := by kernel_rfl
  i232 := by kernel_rfl
  i233 := by kernel_rfl
  m17 := by kernel_rfl
  m18 := by kernel_rfl
  m19 := by kernel_rfl }
open Go.RowKit Go.Sort Go.Lib in
/-- strconv.FormatInt: "FormatInt returns the string representation of i in the given base": AT BASE 10: i's decimal numeral, for every int64. (LAID: no walk: one application.) -/
theorem Tryd.strconv_FormatInt_10 (n : Int) (h0 : -9223372036854775808 ≤ n) (h1 : n ≤ 9223372036854775807) (w : World) (htab : Lib.TabIs Tryd.prog w "internal/strconv.uint64pow10" .u64 Lib.pow10Tab) :
    Calls Tryd.prog 23 #[.int .i64 n, .int .i64 10] w fun e w' => e = .returned (.string ⟨(Lib.itoa n).toArray⟩) ∧ ∃ k os, w' = grow (w.drewN k) os := Any.strconv_FormatInt_10 Tryd.laysM173 n h0 h1 w htab
def Tryd.laysC174_ren : Go.Shelf.Ren := ⟨fun | 174 => 18 | 247 => 30 | 245 => 31 | 287 => 45 | 279 => 46 | 280 => 47 | 281 => 48 | 282 => 49 | 321 => 60 | 322 => 61 | 316 => 62 | 171 => 64 | 205 => 63 | 243 => 74 | 246 => 40 | 283 => 55 | 284 => 56 | 285 => 57 | 286 => 58 | 129 => 69 | 317 => 68 | 318 => 70 | 319 => 71 | 320 => 72 | 337 => 76 | 338 => 77 | n => n, fun | 9 => 9 | 3 => 3 | 2 => 2 | 75 => 47 | 85 => 48 | 4 => 4 | 167 => 70 | 5 => 5 | 53 => 43 | 175 => 71 | 46 => 69 | 168 => 73 | 37 => 30 | 0 => 0 | 210 => 88 | 21 => 21 | 127 => 95 | 145 => 98 | 143 => 96 | 171 => 81 | 173 => 84 | 212 => 91 | 51 => 92 | 20 => 20 | 213 => 93 | 232 => 106 | 233 => 107 | 80 => 110 | n => n, fun | 15 => 1 | 16 => 2 | 17 => 3 | 18 => 6 | 19 => 7 | n => n⟩
theorem Tryd.laysC174 : Go.Proofs.LaysC.n174 Tryd.prog Tryd.laysC174_ren := {
  mixed := by kernel_rfl
  f129 := Tryd.func69.trans (congrArg some (by kernel_rfl))
  f171 := Tryd.func64.trans (congrArg some (by kernel_rfl))
  f174 := Tryd.func18.trans (congrArg some (by kernel_rfl))
  f205 := Tryd.func63.trans (congrArg some (by kernel_rfl))
  f243 := Tryd.func74.trans (congrArg some (by kernel_rfl))
  f245 := Tryd.func31.trans (congrArg some (by kernel_rfl))
  f246 := Tryd.func40.trans (congrArg some (by kernel_rfl))
  f247 := Tryd.func30.trans (congrArg some (by kernel_rfl))
  f279 := Tryd.func46.trans (congrArg some (by kernel_rfl))
  f280 := Tryd.func47.trans (congrArg some (by kernel_rfl))
  f281 := Tryd.func48.trans (congrArg some (by kernel_rfl))
  f282 := Tryd.func49.trans (congrArg some (by kernel_rfl))
  f283 := Tryd.func55.trans (congrArg some (by kernel_rfl))
  f284 := Tryd.func56.trans (congrArg some (by kernel_rfl))
  f285 := Tryd.func57.trans (congrArg some (by kernel_rfl))
  f286 := Tryd.func58.trans (congrArg some (by kernel_rfl))
  f287 := Tryd.func45.trans (congrArg some (by kernel_rfl))
  f316 := Tryd.func62.trans (congrArg some (by kernel_rfl))
  f317 := Tryd.func68.trans (congrArg some (by kernel_rfl))
  f318 := Tryd.func70.trans (congrArg some (by kernel_rfl))
  f319 := Tryd.func71.trans (congrArg some (by kernel_rfl))
  f320 := Tryd.func72.trans (congrArg some (by kernel_rfl))
  f321 := Tryd.func60.trans (congrArg some (by kernel_rfl))
  f322 := Tryd.func61.trans (congrArg some (by kernel_rfl))
  f337 := Tryd.func76.trans (congrArg some (by kernel_rfl))
  f338 := Tryd.func77.trans (congrArg some (by kernel_rfl))
  t0 := Tryd.underlying0
  a0 := Tryd.isAgg0
  z0 := Tryd.sizeOf0
  v0 := Tryd.zeroValue0
  t2 := Tryd.underlying2
  a2 := Tryd.isAgg2
  z2 := Tryd.sizeOf2
  v2 := Tryd.zeroValue2
  t3 := Tryd.underlying3
  a3 := Tryd.isAgg3
  z3 := Tryd.sizeOf3
  v3 := Tryd.zeroValue3
  t4 := Tryd.underlying4
  a4 := Tryd.isAgg4
  z4 := Tryd.sizeOf4
  v4 := Tryd.zeroValue4
  t5 := Tryd.underlying5
  a5 := Tryd.isAgg5
  z5 := Tryd.sizeOf5
  v5 := Tryd.zeroValue5
  t9 := Tryd.underlying9
  a9 := Tryd.isAgg9
  z9 := Tryd.sizeOf9
  v9 := Tryd.zeroValue9
  t20 := Tryd.underlying20
  a20 := Tryd.isAgg20
  z20 := Tryd.sizeOf20
  v20 := Tryd.zeroValue20
  t21 := Tryd.underlying21
  a21 := Tryd.isAgg21
  z21 := Tryd.sizeOf21
  v21 := Tryd.zeroValue21
  t37 := Tryd.underlying30
  a37 := Tryd.isAgg30
  z37 := Tryd.sizeOf30
  v37 := Tryd.zeroValue30
  t46 := Tryd.underlying69
  a46 := Tryd.isAgg69
  z46 := Tryd.sizeOf69
  v46 := Tryd.zeroValue69
  t51 := Tryd.underlying92
  a51 := Tryd.isAgg92
  z51 := Tryd.sizeOf92
  v51 := Tryd.zeroValue92
  t53 := Tryd.underlying43
  a53 := Tryd.isAgg43
  z53 := Tryd.sizeOf43
  v53 := Tryd.zeroValue43
  t75 := Tryd.underlying47
  a75 := Tryd.isAgg47
  z75 := Tryd.sizeOf47
  v75 := Tryd.zeroValue47
  t85 := Tryd.underlying48
  a85 := Tryd.isAgg48
  z85 := Tryd.sizeOf48
  v85 := Tryd.zeroValue48
  t127 := Tryd.underlying95
  a127 := Tryd.isAgg95
  z127 := Tryd.sizeOf95
  v127 := Tryd.zeroValue95
  t143 := Tryd.underlying96
  a143 := Tryd.isAgg96
  z143 := Tryd.sizeOf96
  v143 := Tryd.zeroValue96
  t145 := Tryd.underlying98
  a145 := Tryd.isAgg98
  z145 := Tryd.sizeOf98
  v145 := Tryd.zeroValue98
  t167 := Tryd.underlying70
  a167 := Tryd.isAgg70
  z167 := Tryd.sizeOf70
  v167 := Tryd.zeroValue70
  t168 := Tryd.underlying73
  a168 := Tryd.isAgg73
  z168 := Tryd.sizeOf73
  v168 := Tryd.zeroValue73
  t171 := Tryd.underlying81
  a171 := Tryd.isAgg81
  z171 := Tryd.sizeOf81
  v171 := Tryd.zeroValue81
  t173 := Tryd.underlying84
  a173 := Tryd.isAgg84
  z173 := Tryd.sizeOf84
  v173 := Tryd.zeroValue84
  t175 := Tryd.underlying71
  a175 := Tryd.isAgg71
  z175 := Tryd.sizeOf71
  v175 := Tryd.zeroValue71
  t210 := Tryd.underlying88
  a210 := Tryd.isAgg88
  z210 := Tryd.sizeOf88
  v210 := Tryd.zeroValue88
  t212 := Tryd.underlying91
  a212 := Tryd.isAgg91
  z212 := Tryd.sizeOf91
  v212 := Tryd.zeroValue91
  t213 := Tryd.underlying93
  a213 := Tryd.isAgg93
  z213 := Tryd.sizeOf93
  t232 := Tryd.underlying106
  a232 := Tryd.isAgg106
  z232 := Tryd.sizeOf106
  v232 := Tryd.zeroValue106
  t233 := Tryd.underlying107
  a233 := Tryd.isAgg107
  z233 := Tryd.sizeOf107
  v233 := Tryd.zeroValue107
  g15 := by kernel_rfl
  g16 := by kernel_rfl
  g17 := by kernel_rfl
  g18 := by kernel_rfl
  g19 := by kernel_rfl
  t80 := Tryd.underlying110
  a80 := Tryd.isAgg110
  z80 := Tryd.sizeOf110
  v80 := Tryd.zeroValue110
  i0 := by kernel_rfl
  i2 := by kernel_rfl
  i3 := by kernel_rfl
  i4 := by kernel_rfl
  i5 := by kernel_rfl
  i9 := by kernel_rfl
  i20 := by kernel_rfl
  i21 := by kernel_rfl
  i37 := by kernel_rfl
  i46 := by kernel_rfl
  i51 := by kernel_rfl
  i53 := by kernel_rfl
  i75 := by kernel_rfl
  i80 := by kernel_rfl
  i85 := by kernel_rfl
  i127 := by kernel_rfl
  i143 := by kernel_rfl
  i145 := by kernel_rfl
  i167 := by kernel_rfl
  i168 := by kernel_rfl
  i171 := by kernel_rfl
  i173 := by kernel_rfl
  i175 := by kernel_rfl
  i210 := by kernel_rfl
  i212 := by kernel_rfl
  i232 := by kernel_rfl
  i233 := by kernel_rfl
  m15 := by kernel_rfl
  m16 := by kernel_rfl
  m17 := by kernel_rfl
  m18 := by kernel_rfl
  m19 := by kernel_rfl
  c0 := by kernel_rfl
  c2 := by kernel_rfl
  c3 := by kernel_rfl
  c4 := by kernel_rfl
  c5 := by kernel_rfl
  c9 := by kernel_rfl
  c20 := by kernel_rfl
  c21 := by kernel_rfl
  c37 := by kernel_rfl
  c46 := by kernel_rfl
  c51 := by kernel_rfl
  c53 := by kernel_rfl
  c75 := by kernel_rfl
  c80 := by kernel_rfl
  c85 := by kernel_rfl
  c127 := by kernel_rfl
  c143 := by kernel_rfl
  c145 := by kernel_rfl
  c167 := by kernel_rfl
  c168 := by kernel_rfl
  c171 := by kernel_rfl
  c173 := by kernel_rfl
  c175 := by kernel_rfl
  c210 := by kernel_rfl
  c212 := by kernel_rfl
  c213 := by kernel_rfl
  c232 := by kernel_rfl
  c233 := by kernel_rfl }
open Go.RowKit in
/-- strconv.ParseInt(s, 10, 64), AT EVERY STRING THAT SPELLS AN int64 ('Lib.parseIntB 64 s.data.toList = .ok v'): v, AND NO ERROR. (LAID: no walk: one application.) -/
theorem Tryd.strconv_ParseInt_10_at64_ok (s : ByteArray) (hmax : s.size ≤ 9223372036854775806) (v : Int) (h : Lib.parseIntB 64 s.data.toList = .ok v) (w : World) :
    Calls Tryd.prog 18 #[.string s, .int .i64 10, .int .i64 64] w fun e w' => e = .returned (.tuple #[.int .i64 v, .nilIface]) ∧ (w' = w ∨ ∃ t, w' = Lib.bytesWorld w 5 t) := Any.strconv_ParseInt_10_at64_ok Tryd.laysC174 s hmax v h w
open Go.RowKit in
theorem Tryd.strconv_ParseInt_10_at64_range_var (s : ByteArray) (hlim : s.size ≤ 281474976710656) (h : Lib.parseIntB 64 s.data.toList = .range) (tp : TypeId) (p : Value) (w : World) (hvar : w.var? Tryd.prog "strconv.ErrRange" = some #[.iface tp p]) :
    Calls Tryd.prog 18 #[.string s, .int .i64 10, .int .i64 64] w fun e w' => ∃ N, e = .returned (.tuple #[.int .i64 (Lib.intSat 64 s.data.toList), .iface 73 (.pointer (some ⟨N, 0, none⟩))]) ∧ w.heap.size ≤ N ∧ w'.heap[N]? = some (.cells #[.string ⟨#[80, 97, 114, 115, 101, 73, 110, 116]⟩, .string s, .iface tp p] 88 (0, 0)) ∧ Below w.heap.size w w' := Any.strconv_ParseInt_10_at64_range_var Tryd.laysC174 s hlim h tp p w hvar
def Tryd.laysM145_ren : Go.Shelf.Ren := ⟨fun | 145 => 20 | 220 => 33 | 219 => 51 | 217 => 59 | 225 => 44 | 224 => 43 | 267 => 65 | 266 => 73 | 314 => 75 | n => n, fun | 9 => 9 | 4 => 4 | 59 => 52 | 3 => 3 | 5 => 5 | 46 => 69 | 146 => 99 | 51 => 92 | n => n, fun | 1 => 0 | n => n⟩
theorem Tryd.laysM145 : Go.Proofs.LaysM.n145 Tryd.prog Tryd.laysM145_ren := {
  mixed := by kernel_rfl
  f145 := Tryd.func20.trans (congrArg some (by kernel_rfl))
  f217 := Tryd.func59.trans (congrArg some (by kernel_rfl))
  f219 := Tryd.func51.trans (congrArg some (by kernel_rfl))
  f220 := Tryd.func33.trans (congrArg some (by kernel_rfl))
  f224 := Tryd.func43.trans (congrArg some (by kernel_rfl))
  f225 := Tryd.func44.trans (congrArg some (by kernel_rfl))
  f266 := Tryd.func73.trans (congrArg some (by kernel_rfl))
  f267 := Tryd.func65.trans (congrArg some (by kernel_rfl))
  f314 := Tryd.func75.trans (congrArg some (by kernel_rfl))
  t3 := Tryd.underlying3
  a3 := Tryd.isAgg3
  z3 := Tryd.sizeOf3
  v3 := Tryd.zeroValue3
  t4 := Tryd.underlying4
  a4 := Tryd.isAgg4
  z4 := Tryd.sizeOf4
  v4 := Tryd.zeroValue4
  t5 := Tryd.underlying5
  a5 := Tryd.isAgg5
  z5 := Tryd.sizeOf5
  v5 := Tryd.zeroValue5
  t9 := Tryd.underlying9
  a9 := Tryd.isAgg9
  z9 := Tryd.sizeOf9
  v9 := Tryd.zeroValue9
  t46 := Tryd.underlying69
  a46 := Tryd.isAgg69
  z46 := Tryd.sizeOf69
  v46 := Tryd.zeroValue69
  t51 := Tryd.underlying92
  a51 := Tryd.isAgg92
  z51 := Tryd.sizeOf92
  v51 := Tryd.zeroValue92
  t59 := Tryd.underlying52
  a59 := Tryd.isAgg52
  z59 := Tryd.sizeOf52
  v59 := Tryd.zeroValue52
  t146 := Tryd.underlying99
  a146 := Tryd.isAgg99
  z146 := Tryd.sizeOf99
  v146 := Tryd.zeroValue99
  g1 := by kernel_rfl
  i3 := by kernel_rfl
  i4 := by kernel_rfl
  i5 := by kernel_rfl
  i9 := by kernel_rfl
  i46 := by kernel_rfl
  i51 := by kernel_rfl
  i59 := by kernel_rfl
  i146 := by kernel_rfl
  m1 := by kernel_rfl
  s1_3 := fun w h => Go.Proofs.cell_of_shapedOpen_int (zero := #[.int .i64 0]) (t := 3) h (of_decide_eq_true (by kernel_rfl)) (by kernel_rfl) rfl (by kernel_rfl) (by kernel_rfl) Tryd.underlying3 }
open Go.RowKit Go.Lib in
theorem Tryd.strings_Cut_shaped (s sep : ByteArray) (w : World) (h : w.ShapedOpen Tryd.prog) (hs : s.size < 4294967281) :
    Calls Tryd.prog 20 #[.string s, .string sep] w fun e w' => e = .returned (.tuple #[.string ⟨(Lib.cut s.data.toList sep.data.toList).1.toArray⟩, .string ⟨(Lib.cut s.data.toList sep.data.toList).2.1.toArray⟩, .bool (Lib.cut s.data.toList sep.data.toList).2.2]) ∧ ∃ n, w' = w.drewN n := Any.strings_Cut_shaped Tryd.laysM145 s sep w h hs
def Tryd.lays153_ren : Go.Shelf.Ren := ⟨fun | 153 => 17 | 152 => 26 | 226 => 27 | 227 => 28 | 228 => 29 | 137 => 41 | 119 => 42 | 224 => 43 | 225 => 44 | 217 => 59 | 266 => 73 | n => n, fun | 9 => 9 | 3 => 3 | 4 => 4 | 5 => 5 | 21 => 21 | 117 => 60 | 116 => 59 | 0 => 0 | 46 => 69 | 124 => 65 | n => n, fun | n => n⟩
theorem Tryd.lays153 : Go.Proofs.Lays.n153 Tryd.prog Tryd.lays153_ren := {
  mixed := by kernel_rfl
  f119 := Tryd.func42.trans (congrArg some (by kernel_rfl))
  f137 := Tryd.func41.trans (congrArg some (by kernel_rfl))
  f152 := Tryd.func26.trans (congrArg some (by kernel_rfl))
  f153 := Tryd.func17.trans (congrArg some (by kernel_rfl))
  f217 := Tryd.func59.trans (congrArg some (by kernel_rfl))
  f224 := Tryd.func43.trans (congrArg some (by kernel_rfl))
  f225 := Tryd.func44.trans (congrArg some (by kernel_rfl))
  f226 := Tryd.func27.trans (congrArg some (by kernel_rfl))
  f227 := Tryd.func28.trans (congrArg some (by kernel_rfl))
  f228 := Tryd.func29.trans (congrArg some (by kernel_rfl))
  f266 := Tryd.func73.trans (congrArg some (by kernel_rfl))
  t0 := Tryd.underlying0
  a0 := Tryd.isAgg0
  z0 := Tryd.sizeOf0
  v0 := Tryd.zeroValue0
  t3 := Tryd.underlying3
  a3 := Tryd.isAgg3
  z3 := Tryd.sizeOf3
  v3 := Tryd.zeroValue3
  t4 := Tryd.underlying4
  a4 := Tryd.isAgg4
  z4 := Tryd.sizeOf4
  v4 := Tryd.zeroValue4
  t5 := Tryd.underlying5
  a5 := Tryd.isAgg5
  z5 := Tryd.sizeOf5
  v5 := Tryd.zeroValue5
  t9 := Tryd.underlying9
  a9 := Tryd.isAgg9
  z9 := Tryd.sizeOf9
  v9 := Tryd.zeroValue9
  t21 := Tryd.underlying21
  a21 := Tryd.isAgg21
  z21 := Tryd.sizeOf21
  v21 := Tryd.zeroValue21
  t46 := Tryd.underlying69
  a46 := Tryd.isAgg69
  z46 := Tryd.sizeOf69
  v46 := Tryd.zeroValue69
  t116 := Tryd.underlying59
  a116 := Tryd.isAgg59
  z116 := Tryd.sizeOf59
  t117 := Tryd.underlying60
  a117 := Tryd.isAgg60
  z117 := Tryd.sizeOf60
  v117 := Tryd.zeroValue60
  t124 := Tryd.underlying65
  a124 := Tryd.isAgg65
  z124 := Tryd.sizeOf65
  v124 := Tryd.zeroValue65 }
open Go.RowKit Go.Lib in
theorem Tryd.strings_IndexAny_laid (s chars : ByteArray) (w : World) (hs : s.size < 4294967281) (hcs : chars.size < 4294967281) (has : ∀ (j : Nat) b, s.data.toList[j]? = some b → b.toNat < 128) (hac : ∀ (j : Nat) b, chars.data.toList[j]? = some b → b.toNat < 128) :
    Calls Tryd.prog 17 #[.string s, .string chars] w fun e w' => e = .returned (.int .i64 (Lib.indexAny s.data.toList chars.data.toList)) ∧ Below w.heap.size w w' := Any.strings_IndexAny_laid Tryd.lays153 (by kernel_rfl) s chars w hs hcs has hac
end Go.Proofs
