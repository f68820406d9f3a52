/-
  DERIVED: THE SHELF's CONTRACTS AT THIS DUMP, IN PLAIN WORDS (tools/lay-plain.mjs out of 'TrydShelf.lean', which tools/lay-shelf.mjs wrote): THE SAME DECLARATIONS UNDER THE SAME NAMES: 'import', 'namespace', 'open', 'def', 'theorem' AND NOTHING ELSE: no command of the shelf's: FOR A HAND-IN. Each laying: the table of numbers ('.._ren') and one theorem, a field a fact of the dump's own or the kernel's comparison; each contract: ONE APPLICATION.
-/
import Derived.Shelf.Small.Strs
import Derived.Shelf.Strconv.Atoi
import Derived.Shelf.Strconv.Itoa0
import Derived.Shelf.Strconv.Itoa1
import Derived.Shelf.LaysM
import Derived.Shelf.Strconv.Itoa2
import Derived.Shelf.Strconv.Itoa3
import Derived.Shelf.Bytes.Len
import Derived.Shelf.Bytes.TryGrow
import Derived.Shelf.Bytes.GrowSliceCatch
import Derived.Shelf.Bytes.GrowSlice
import Derived.Shelf.Bytes.GrowRow0
import Derived.Shelf.Bytes.GrowRow
import Derived.Shelf.Bytes.GrowNil
import Derived.Shelf.Bytes.Grow
import Derived.Shelf.Bytes.WriteString
import Derived.Shelf.Bytes.String
import Derived.Shelf.Strconv.AtoiErrFast
import Derived.Shelf.Strconv.ParseIntEmpty
import Derived.Shelf.Strconv.AtoiFail
import Derived.Shelf.Strconv.Clone
import Derived.Shelf.Strconv.SyntaxError
import Derived.Shelf.LaysC
import Derived.Shelf.Strconv.ToError
import Derived.Shelf.Strconv.Lower
import Derived.Shelf.Strconv.ParseUint10
import Derived.Shelf.Strconv.ParseUint10Empty
import Derived.Shelf.Strconv.ParseUint10Any
import Derived.Shelf.Strconv.ParseInt10
import Derived.Shelf.Strconv.AtoiLong
import Derived.Shelf.Strconv.AtoiInnerAll
import Derived.Shelf.Strconv.RangeError
import Derived.Shelf.Strconv.ToErrorRange
import Derived.Shelf.Strconv.AtoiAll
import Derived.Test.YtomoefldmgfaoaaDoorProg
namespace Go.Proofs
open Go.Shelf
def Tryd.lays213_ren : Go.Shelf.Ren := ⟨fun | 213 => 90 | 265 => 103 | n => n, fun | 9 => 9 | 3 => 3 | n => n, fun | n => n⟩
theorem Tryd.lays213 : Go.Proofs.Lays.n213 Tryd.prog Tryd.lays213_ren := {
  mixed := by kernel_rfl
  f213 := Tryd.func90.trans (congrArg some (by kernel_rfl))
  f265 := Tryd.func103.trans (congrArg some (by kernel_rfl))
  t3 := Tryd.underlying3
  a3 := Tryd.isAgg3
  z3 := Tryd.sizeOf3
  v3 := Tryd.zeroValue3
  t9 := Tryd.underlying9
  a9 := Tryd.isAgg9
  z9 := Tryd.sizeOf9
  v9 := Tryd.zeroValue9 }
open Go.RowKit in
/-- internal/bytealg.CompareString (what strings.Compare calls): IT RETURNS 'Lib.compareBytes a b'; the world is as it was. (LAID: no walk: one application.) -/
theorem Tryd.bytealg_CompareString (a b : ByteArray) (w : World) :
    Calls Tryd.prog 90 #[.string a, .string b] w fun e w' => e = .returned (.int .i64 (Lib.compareBytes a.data.toList b.data.toList)) ∧ w' = w := Any.bytealg_CompareString Tryd.lays213 a b w
def Tryd.lays106_ren : Go.Shelf.Ren := ⟨fun | 106 => 79 | 213 => 90 | 265 => 103 | n => n, fun | 9 => 9 | 3 => 3 | n => n, fun | n => n⟩
theorem Tryd.lays106 : Go.Proofs.Lays.n106 Tryd.prog Tryd.lays106_ren := {
  mixed := by kernel_rfl
  f106 := Tryd.func79.trans (congrArg some (by kernel_rfl))
  f213 := Tryd.func90.trans (congrArg some (by kernel_rfl))
  f265 := Tryd.func103.trans (congrArg some (by kernel_rfl))
  t3 := Tryd.underlying3
  a3 := Tryd.isAgg3
  z3 := Tryd.sizeOf3
  v3 := Tryd.zeroValue3
  t9 := Tryd.underlying9
  a9 := Tryd.isAgg9
  z9 := Tryd.sizeOf9
  v9 := Tryd.zeroValue9 }
open Go.RowKit in
/-- strings.Compare: "Compare returns an integer comparing two strings lexicographically. The result will be 0 if a == b, -1 if a < b, and +1 if a > b.": IT RETURNS 'Lib.compareBytes a b'; the world is as it was. (LAID: no walk: one application.) -/
theorem Tryd.strings_Compare (a b : ByteArray) (w : World) :
    Calls Tryd.prog 79 #[.string a, .string b] w fun e w' => e = .returned (.int .i64 (Lib.compareBytes a.data.toList b.data.toList)) ∧ w' = w := Any.strings_Compare Tryd.lays106 a b w
def Tryd.lays244_ren : Go.Shelf.Ren := ⟨fun | 244 => 101 | 247 => 117 | 287 => 115 | 321 => 128 | 322 => 129 | n => n, fun | 9 => 9 | 3 => 3 | 75 => 68 | 4 => 4 | 5 => 5 | 167 => 132 | 37 => 91 | 0 => 0 | 85 => 133 | 2 => 2 | 53 => 110 | 175 => 119 | 46 => 22 | 21 => 21 | 80 => 33 | n => n, fun | n => n⟩
theorem Tryd.lays244 : Go.Proofs.Lays.n244 Tryd.prog Tryd.lays244_ren := {
  mixed := by kernel_rfl
  f244 := Tryd.func101.trans (congrArg some (by kernel_rfl))
  f247 := Tryd.func117.trans (congrArg some (by kernel_rfl))
  f287 := Tryd.func115.trans (congrArg some (by kernel_rfl))
  f321 := Tryd.func128.trans (congrArg some (by kernel_rfl))
  f322 := Tryd.func129.trans (congrArg some (by kernel_rfl))
  t0 := Tryd.underlying0
  a0 := Tryd.isAgg0
  z0 := Tryd.sizeOf0
  v0 := Tryd.zeroValue0
  t2 := Tryd.underlying2
  a2 := Tryd.isAgg2
  z2 := Tryd.sizeOf2
  v2 := Tryd.zeroValue2
  t3 := Tryd.underlying3
  a3 := Tryd.isAgg3
  z3 := Tryd.sizeOf3
  v3 := Tryd.zeroValue3
  t4 := Tryd.underlying4
  a4 := Tryd.isAgg4
  z4 := Tryd.sizeOf4
  v4 := Tryd.zeroValue4
  t5 := Tryd.underlying5
  a5 := Tryd.isAgg5
  z5 := Tryd.sizeOf5
  v5 := Tryd.zeroValue5
  t9 := Tryd.underlying9
  a9 := Tryd.isAgg9
  z9 := Tryd.sizeOf9
  v9 := Tryd.zeroValue9
  t21 := Tryd.underlying21
  a21 := Tryd.isAgg21
  z21 := Tryd.sizeOf21
  v21 := Tryd.zeroValue21
  t37 := Tryd.underlying91
  a37 := Tryd.isAgg91
  z37 := Tryd.sizeOf91
  v37 := Tryd.zeroValue91
  t46 := Tryd.underlying22
  a46 := Tryd.isAgg22
  z46 := Tryd.sizeOf22
  v46 := Tryd.zeroValue22
  t53 := Tryd.underlying110
  a53 := Tryd.isAgg110
  z53 := Tryd.sizeOf110
  v53 := Tryd.zeroValue110
  t75 := Tryd.underlying68
  a75 := Tryd.isAgg68
  z75 := Tryd.sizeOf68
  v75 := Tryd.zeroValue68
  t85 := Tryd.underlying133
  a85 := Tryd.isAgg133
  z85 := Tryd.sizeOf133
  v85 := Tryd.zeroValue133
  t167 := Tryd.underlying132
  a167 := Tryd.isAgg132
  z167 := Tryd.sizeOf132
  v167 := Tryd.zeroValue132
  t175 := Tryd.underlying119
  a175 := Tryd.isAgg119
  z175 := Tryd.sizeOf119
  v175 := Tryd.zeroValue119 }
open Go.RowKit in
/-- internal/strconv.Atoi, at a decimal numeral of at most 18 bytes: ITS VALUE, AND NO ERROR. The world behind the call: the one new row that '[]byte(s)' lays. (LAID: no walk: one application.) -/
theorem Tryd.internal_strconv_Atoi (s : ByteArray) (n : Int) (hl : s.size ≤ 18) (h : Lib.atoi s.data.toList = some n) (w : World) :
    Calls Tryd.prog 101 #[.string s] w fun e w' => e = .returned (.tuple #[.int .i64 n, .nilIface]) ∧ ∃ t, w' = Lib.bytesWorld w 5 t := Any.internal_strconv_Atoi Tryd.lays244 s n hl h w
def Tryd.lays172_ren : Go.Shelf.Ren := ⟨fun | 172 => 89 | 244 => 101 | 245 => 102 | 247 => 117 | 279 => 118 | 280 => 119 | 281 => 120 | 282 => 121 | 287 => 115 | 316 => 130 | 171 => 131 | 205 => 72 | 321 => 128 | 322 => 129 | 243 => 134 | 246 => 135 | 283 => 107 | 284 => 108 | 285 => 109 | 286 => 110 | 129 => 124 | 317 => 123 | 318 => 125 | 319 => 126 | 320 => 127 | 337 => 132 | 338 => 133 | n => n, fun | 9 => 9 | 3 => 3 | 75 => 68 | 76 => 107 | 4 => 4 | 5 => 5 | 167 => 132 | 37 => 91 | 0 => 0 | 85 => 133 | 2 => 2 | 168 => 135 | 53 => 110 | 175 => 119 | 46 => 22 | 210 => 146 | 127 => 148 | 145 => 114 | 143 => 112 | 21 => 21 | 171 => 127 | 173 => 130 | 212 => 139 | 51 => 140 | 20 => 20 | 213 => 141 | 232 => 149 | 233 => 150 | 80 => 33 | n => n, fun | 15 => 3 | 16 => 4 | 17 => 2 | 18 => 5 | 19 => 6 | n => n⟩
theorem Tryd.lays172 : Go.Proofs.Lays.n172 Tryd.prog Tryd.lays172_ren := {
  mixed := by kernel_rfl
  f129 := Tryd.func124.trans (congrArg some (by kernel_rfl))
  f171 := Tryd.func131.trans (congrArg some (by kernel_rfl))
  f172 := Tryd.func89.trans (congrArg some (by kernel_rfl))
  f205 := Tryd.func72.trans (congrArg some (by kernel_rfl))
  f243 := Tryd.func134.trans (congrArg some (by kernel_rfl))
  f244 := Tryd.func101.trans (congrArg some (by kernel_rfl))
  f245 := Tryd.func102.trans (congrArg some (by kernel_rfl))
  f246 := Tryd.func135.trans (congrArg some (by kernel_rfl))
  f247 := Tryd.func117.trans (congrArg some (by kernel_rfl))
  f279 := Tryd.func118.trans (congrArg some (by kernel_rfl))
  f280 := Tryd.func119.trans (congrArg some (by kernel_rfl))
  f281 := Tryd.func120.trans (congrArg some (by kernel_rfl))
  f282 := Tryd.func121.trans (congrArg some (by kernel_rfl))
  f283 := Tryd.func107.trans (congrArg some (by kernel_rfl))
  f284 := Tryd.func108.trans (congrArg some (by kernel_rfl))
  f285 := Tryd.func109.trans (congrArg some (by kernel_rfl))
  f286 := Tryd.func110.trans (congrArg some (by kernel_rfl))
  f287 := Tryd.func115.trans (congrArg some (by kernel_rfl))
  f316 := Tryd.func130.trans (congrArg some (by kernel_rfl))
  f317 := Tryd.func123.trans (congrArg some (by kernel_rfl))
  f318 := Tryd.func125.trans (congrArg some (by kernel_rfl))
  f319 := Tryd.func126.trans (congrArg some (by kernel_rfl))
  f320 := Tryd.func127.trans (congrArg some (by kernel_rfl))
  f321 := Tryd.func128.trans (congrArg some (by kernel_rfl))
  f322 := Tryd.func129.trans (congrArg some (by kernel_rfl))
  f337 := Tryd.func132.trans (congrArg some (by kernel_rfl))
  f338 := Tryd.func133.trans (congrArg some (by kernel_rfl))
  t0 := Tryd.underlying0
  a0 := Tryd.isAgg0
  z0 := Tryd.sizeOf0
  v0 := Tryd.zeroValue0
  t2 := Tryd.underlying2
  a2 := Tryd.isAgg2
  z2 := Tryd.sizeOf2
  v2 := Tryd.zeroValue2
  t3 := Tryd.underlying3
  a3 := Tryd.isAgg3
  z3 := Tryd.sizeOf3
  v3 := Tryd.zeroValue3
  t4 := Tryd.underlying4
  a4 := Tryd.isAgg4
  z4 := Tryd.sizeOf4
  v4 := Tryd.zeroValue4
  t5 := Tryd.underlying5
  a5 := Tryd.isAgg5
  z5 := Tryd.sizeOf5
  v5 := Tryd.zeroValue5
  t9 := Tryd.underlying9
  a9 := Tryd.isAgg9
  z9 := Tryd.sizeOf9
  v9 := Tryd.zeroValue9
  t20 := Tryd.underlying20
  a20 := Tryd.isAgg20
  z20 := Tryd.sizeOf20
  v20 := Tryd.zeroValue20
  t21 := Tryd.underlying21
  a21 := Tryd.isAgg21
  z21 := Tryd.sizeOf21
  v21 := Tryd.zeroValue21
  t37 := Tryd.underlying91
  a37 := Tryd.isAgg91
  z37 := Tryd.sizeOf91
  v37 := Tryd.zeroValue91
  t46 := Tryd.underlying22
  a46 := Tryd.isAgg22
  z46 := Tryd.sizeOf22
  v46 := Tryd.zeroValue22
  t51 := Tryd.underlying140
  a51 := Tryd.isAgg140
  z51 := Tryd.sizeOf140
  v51 := Tryd.zeroValue140
  t53 := Tryd.underlying110
  a53 := Tryd.isAgg110
  z53 := Tryd.sizeOf110
  v53 := Tryd.zeroValue110
  t75 := Tryd.underlying68
  a75 := Tryd.isAgg68
  z75 := Tryd.sizeOf68
  v75 := Tryd.zeroValue68
  t76 := Tryd.underlying107
  a76 := Tryd.isAgg107
  z76 := Tryd.sizeOf107
  v76 := Tryd.zeroValue107
  t85 := Tryd.underlying133
  a85 := Tryd.isAgg133
  z85 := Tryd.sizeOf133
  v85 := Tryd.zeroValue133
  t127 := Tryd.underlying148
  a127 := Tryd.isAgg148
  z127 := Tryd.sizeOf148
  v127 := Tryd.zeroValue148
  t143 := Tryd.underlying112
  a143 := Tryd.isAgg112
  z143 := Tryd.sizeOf112
  v143 := Tryd.zeroValue112
  t145 := Tryd.underlying114
  a145 := Tryd.isAgg114
  z145 := Tryd.sizeOf114
  v145 := Tryd.zeroValue114
  t167 := Tryd.underlying132
  a167 := Tryd.isAgg132
  z167 := Tryd.sizeOf132
  v167 := Tryd.zeroValue132
  t168 := Tryd.underlying135
  a168 := Tryd.isAgg135
  z168 := Tryd.sizeOf135
  v168 := Tryd.zeroValue135
  t171 := Tryd.underlying127
  a171 := Tryd.isAgg127
  z171 := Tryd.sizeOf127
  v171 := Tryd.zeroValue127
  t173 := Tryd.underlying130
  a173 := Tryd.isAgg130
  z173 := Tryd.sizeOf130
  v173 := Tryd.zeroValue130
  t175 := Tryd.underlying119
  a175 := Tryd.isAgg119
  z175 := Tryd.sizeOf119
  v175 := Tryd.zeroValue119
  t210 := Tryd.underlying146
  a210 := Tryd.isAgg146
  z210 := Tryd.sizeOf146
  v210 := Tryd.zeroValue146
  t212 := Tryd.underlying139
  a212 := Tryd.isAgg139
  z212 := Tryd.sizeOf139
  v212 := Tryd.zeroValue139
  t213 := Tryd.underlying141
  a213 := Tryd.isAgg141
  z213 := Tryd.sizeOf141
  t232 := Tryd.underlying149
  a232 := Tryd.isAgg149
  z232 := Tryd.sizeOf149
  v232 := Tryd.zeroValue149
  t233 := Tryd.underlying150
  a233 := Tryd.isAgg150
  z233 := Tryd.sizeOf150
  v233 := Tryd.zeroValue150
  g15 := by kernel_rfl
  g16 := by kernel_rfl
  g17 := by kernel_rfl
  g18 := by kernel_rfl
  g19 := by kernel_rfl }
open Go.RowKit in
/-- strconv.Atoi: "Atoi is equivalent to ParseInt(s, 10, 0), converted to type int.": AT A DECIMAL NUMERAL OF AT MOST 18 BYTES: its value, and a nil error. The world behind the call: the one new row that the library's '[]byte(s)' lays. (LAID: no walk: one application.) -/
theorem Tryd.strconv_Atoi (s : ByteArray) (n : Int) (hl : s.size ≤ 18) (h : Lib.atoi s.data.toList = some n) (w : World) :
    Calls Tryd.prog 89 #[.string s] w fun e w' => e = .returned (.tuple #[.int .i64 n, .nilIface]) ∧ ∃ t, w' = Lib.bytesWorld w 5 t := Any.strconv_Atoi Tryd.lays172 s n hl h w
def Tryd.lays129_ren : Go.Shelf.Ren := ⟨fun | 129 => 124 | n => n, fun | 53 => 110 | 3 => 3 | 4 => 4 | 46 => 22 | 5 => 5 | 9 => 9 | n => n, fun | n => n⟩
theorem Tryd.lays129 : Go.Proofs.Lays.n129 Tryd.prog Tryd.lays129_ren := {
  mixed := by kernel_rfl
  f129 := Tryd.func124.trans (congrArg some (by kernel_rfl))
  t3 := Tryd.underlying3
  a3 := Tryd.isAgg3
  z3 := Tryd.sizeOf3
  v3 := Tryd.zeroValue3
  t4 := Tryd.underlying4
  a4 := Tryd.isAgg4
  z4 := Tryd.sizeOf4
  v4 := Tryd.zeroValue4
  t5 := Tryd.underlying5
  a5 := Tryd.isAgg5
  z5 := Tryd.sizeOf5
  v5 := Tryd.zeroValue5
  t9 := Tryd.underlying9
  a9 := Tryd.isAgg9
  z9 := Tryd.sizeOf9
  v9 := Tryd.zeroValue9
  t46 := Tryd.underlying22
  a46 := Tryd.isAgg22
  z46 := Tryd.sizeOf22
  v46 := Tryd.zeroValue22
  t53 := Tryd.underlying110
  a53 := Tryd.isAgg110
  z53 := Tryd.sizeOf110
  v53 := Tryd.zeroValue110 }
/-- bits.Len64: "Len64 returns the minimum number of bits required to represent x; the result is 0 for x == 0.": IT RETURNS 'Lib.bitLen x'; the world is as it was. ('h0', 'h1': x is a uint64.) (LAID: no walk: one application.) -/
theorem Tryd.bits_Len64 (x : Int) (w : World) (h0 : 0 ≤ x) (h1 : x ≤ 18446744073709551615) :
    Calls Tryd.prog 124 #[.int .u64 x] w fun e w' => e = .returned (.int .i64 (Lib.bitLen x.toNat)) ∧ w' = w := Any.bits_Len64 Tryd.lays129 x w h0 h1
def Tryd.lays317_ren : Go.Shelf.Ren := ⟨fun | 317 => 123 | n => n, fun | 3 => 3 | 46 => 22 | n => n, fun | n => n⟩
theorem Tryd.lays317 : Go.Proofs.Lays.n317 Tryd.prog Tryd.lays317_ren := {
  mixed := by kernel_rfl
  f317 := Tryd.func123.trans (congrArg some (by kernel_rfl))
  t3 := Tryd.underlying3
  a3 := Tryd.isAgg3
  z3 := Tryd.sizeOf3
  v3 := Tryd.zeroValue3
  t46 := Tryd.underlying22
  a46 := Tryd.isAgg22
  z46 := Tryd.sizeOf22
  v46 := Tryd.zeroValue22 }
open Go.Lib in
/-- internal/strconv.log10Pow2: "log10Pow2(x) returns ⌊log₁₀ 2**x⌋ = ⌊x * log₁₀ 2⌋.": '(x * 78913) >> 18', at an x up to 64 (a length in bits). The world is as it was. (LAID: no walk: one application.) -/
theorem Tryd.internal_strconv_log10Pow2 (x : Nat) (h : x ≤ 64) (w : World) :
    Calls Tryd.prog 123 #[.int .i64 x] w fun e w' => e = .returned (.int .i64 (Lib.l10 x)) ∧ w' = w := Any.internal_strconv_log10Pow2 Tryd.lays317 x h w
def Tryd.lays318_ren : Go.Shelf.Ren := ⟨fun | 318 => 125 | n => n, fun | 3 => 3 | 4 => 4 | n => n, fun | n => n⟩
theorem Tryd.lays318 : Go.Proofs.Lays.n318 Tryd.prog Tryd.lays318_ren := {
  mixed := by kernel_rfl
  f318 := Tryd.func125.trans (congrArg some (by kernel_rfl))
  t3 := Tryd.underlying3
  a3 := Tryd.isAgg3
  z3 := Tryd.sizeOf3
  v3 := Tryd.zeroValue3
  t4 := Tryd.underlying4
  a4 := Tryd.isAgg4
  z4 := Tryd.sizeOf4
  v4 := Tryd.zeroValue4 }
open Go.Lib in
/-- internal/strconv.bool2: "bool2 converts b to an integer: 1 for true, 0 for false." The world is as it was. (LAID: no walk: one application.) -/
theorem Tryd.internal_strconv_bool2_int (b : Bool) (w : World) :
    Calls Tryd.prog 125 #[.bool b] w fun e w' => e = .returned (.int .i64 (if b then 1 else 0)) ∧ w' = w := Any.internal_strconv_bool2_int Tryd.lays318 b w
def Tryd.lays283_ren : Go.Shelf.Ren := ⟨fun | 283 => 107 | n => n, fun | 3 => 3 | 9 => 9 | 4 => 4 | n => n, fun | n => n⟩
theorem Tryd.lays283 : Go.Proofs.Lays.n283 Tryd.prog Tryd.lays283_ren := {
  mixed := by kernel_rfl
  f283 := Tryd.func107.trans (congrArg some (by kernel_rfl))
  t3 := Tryd.underlying3
  a3 := Tryd.isAgg3
  z3 := Tryd.sizeOf3
  v3 := Tryd.zeroValue3
  t4 := Tryd.underlying4
  a4 := Tryd.isAgg4
  z4 := Tryd.sizeOf4
  v4 := Tryd.zeroValue4
  t9 := Tryd.underlying9
  a9 := Tryd.isAgg9
  z9 := Tryd.sizeOf9
  v9 := Tryd.zeroValue9 }
open Go.Lib in
/-- internal/strconv.small: "small returns the string for an i with 0 <= i < nSmalls.": i's decimal numeral. The world is as it was. (LAID: no walk: one application.) -/
theorem Tryd.internal_strconv_small (i : Nat) (h : i < 100) (w : World) :
    Calls Tryd.prog 107 #[.int .i64 i] w fun e w' => e = .returned (.string ⟨(Lib.decDigits i).toArray⟩) ∧ w' = w := Any.internal_strconv_small Tryd.lays283 i h w
def Tryd.laysM284_ren : Go.Shelf.Ren := ⟨fun | 284 => 108 | 129 => 124 | 317 => 123 | 318 => 125 | n => n, fun | 53 => 110 | 3 => 3 | 212 => 139 | 0 => 0 | 4 => 4 | 46 => 22 | 5 => 5 | 9 => 9 | n => n, fun | 17 => 2 | n => n⟩
theorem Tryd.laysM284 : Go.Proofs.LaysM.n284 Tryd.prog Tryd.laysM284_ren := {
  mixed := by kernel_rfl
  f129 := Tryd.func124.trans (congrArg some (by kernel_rfl))
  f284 := Tryd.func108.trans (congrArg some (by kernel_rfl))
  f317 := Tryd.func123.trans (congrArg some (by kernel_rfl))
  f318 := Tryd.func125.trans (congrArg some (by kernel_rfl))
  t0 := Tryd.underlying0
  a0 := Tryd.isAgg0
  z0 := Tryd.sizeOf0
  v0 := Tryd.zeroValue0
  t3 := Tryd.underlying3
  a3 := Tryd.isAgg3
  z3 := Tryd.sizeOf3
  v3 := Tryd.zeroValue3
  t4 := Tryd.underlying4
  a4 := Tryd.isAgg4
  z4 := Tryd.sizeOf4
  v4 := Tryd.zeroValue4
  t5 := Tryd.underlying5
  a5 := Tryd.isAgg5
  z5 := Tryd.sizeOf5
  v5 := Tryd.zeroValue5
  t9 := Tryd.underlying9
  a9 := Tryd.isAgg9
  z9 := Tryd.sizeOf9
  v9 := Tryd.zeroValue9
  t46 := Tryd.underlying22
  a46 := Tryd.isAgg22
  z46 := Tryd.sizeOf22
  v46 := Tryd.zeroValue22
  t53 := Tryd.underlying110
  a53 := Tryd.isAgg110
  z53 := Tryd.sizeOf110
  v53 := Tryd.zeroValue110
  t212 := Tryd.underlying139
  a212 := Tryd.isAgg139
  z212 := Tryd.sizeOf139
  v212 := Tryd.zeroValue139
  g17 := by kernel_rfl
  i0 := by kernel_rfl
  i3 := by kernel_rfl
  i4 := by kernel_rfl
  i5 := by kernel_rfl
  i9 := by kernel_rfl
  i46 := by kernel_rfl
  i53 := by kernel_rfl
  i212 := by kernel_rfl
  m17 := by kernel_rfl }
open Go.Lib in
/-- internal/strconv.numDigits, at a d that is not 0: THE NUMBER OF d's DECIMAL DIGITS. The world is as it was. (LAID: no walk: one application.) -/
theorem Tryd.internal_strconv_numDigits (u : Nat) (h1 : 1 ≤ u) (h2 : u < 18446744073709551616) (w : World) (htab : Lib.TabIs Tryd.prog w "internal/strconv.uint64pow10" .u64 Lib.pow10Tab) :
    Calls Tryd.prog 108 #[.int .u64 u] w fun e w' => e = .returned (.int .i64 (Lib.nDigits u)) ∧ w' = w := Any.internal_strconv_numDigits Tryd.laysM284 u h1 h2 w htab
def Tryd.lays285_ren : Go.Shelf.Ren := ⟨fun | 285 => 109 | n => n, fun | 37 => 91 | 53 => 110 | 3 => 3 | 4 => 4 | 51 => 140 | 9 => 9 | 5 => 5 | 0 => 0 | n => n, fun | n => n⟩
theorem Tryd.lays285 : Go.Proofs.Lays.n285 Tryd.prog Tryd.lays285_ren := {
  mixed := by kernel_rfl
  f285 := Tryd.func109.trans (congrArg some (by kernel_rfl))
  t0 := Tryd.underlying0
  a0 := Tryd.isAgg0
  z0 := Tryd.sizeOf0
  v0 := Tryd.zeroValue0
  t3 := Tryd.underlying3
  a3 := Tryd.isAgg3
  z3 := Tryd.sizeOf3
  v3 := Tryd.zeroValue3
  t4 := Tryd.underlying4
  a4 := Tryd.isAgg4
  z4 := Tryd.sizeOf4
  v4 := Tryd.zeroValue4
  t5 := Tryd.underlying5
  a5 := Tryd.isAgg5
  z5 := Tryd.sizeOf5
  v5 := Tryd.zeroValue5
  t9 := Tryd.underlying9
  a9 := Tryd.isAgg9
  z9 := Tryd.sizeOf9
  v9 := Tryd.zeroValue9
  t37 := Tryd.underlying91
  a37 := Tryd.isAgg91
  z37 := Tryd.sizeOf91
  v37 := Tryd.zeroValue91
  t51 := Tryd.underlying140
  a51 := Tryd.isAgg140
  z51 := Tryd.sizeOf140
  v51 := Tryd.zeroValue140
  t53 := Tryd.underlying110
  a53 := Tryd.isAgg110
  z53 := Tryd.sizeOf110
  v53 := Tryd.zeroValue110 }
open Go.RowKit Go.Sort Go.Lib in
/-- internal/strconv.formatBase10: "formatBase10 formats the decimal representation of u into a. The caller is responsible for ensuring that a is big enough to hold u. If a is too big, leading zeros will be filled in as needed.": THE ROW HOLDS u's DIGITS ('FmtInv .. 0 ..': every place t holds 'dg u (len - 1 - t)'); all else is as it was but for the count of draws. (LAID: no walk: one application.) -/
theorem Tryd.internal_strconv_formatBase10 (blk off cap : Nat) (u : Nat) (d : Array UInt8) (w : World) (hH : Holds (fun (b : UInt8) => Value.int .u8 (b.toNat : Int)) w blk off d) (hu : u < 10 ^ d.size) (hu64 : u < 18446744073709551616) (hsz : d.size < 4611686018427387904) :
    Calls Tryd.prog 109 #[.slice (some ⟨blk, off, none⟩) d.size cap, .int .u64 u] w fun e w' =>
      e = .returned (.tuple #[]) ∧ ∃ (n v' : Nat) (dk : Array UInt8), w' = (putRow (fun (b : UInt8) => Value.int .u8 (b.toNat : Int)) w blk off dk).drewN n ∧ FmtInv d.size u 0 v' dk := Any.internal_strconv_formatBase10 Tryd.lays285 blk off cap u d w hH hu hu64 hsz
def Tryd.laysM246_ren : Go.Shelf.Ren := ⟨fun | 246 => 135 | 283 => 107 | 284 => 108 | 285 => 109 | 286 => 110 | 129 => 124 | 317 => 123 | 318 => 125 | 319 => 126 | 320 => 127 | 337 => 132 | 338 => 133 | n => n, fun | 2 => 2 | 3 => 3 | 9 => 9 | 4 => 4 | 171 => 127 | 0 => 0 | 53 => 110 | 37 => 91 | 5 => 5 | 173 => 130 | 212 => 139 | 51 => 140 | 20 => 20 | 213 => 141 | 46 => 22 | 232 => 149 | 233 => 150 | n => n, fun | 17 => 2 | 18 => 5 | 19 => 6 | n => n⟩
theorem Tryd.laysM246 : Go.Proofs.LaysM.n246 Tryd.prog Tryd.laysM246_ren := {
  mixed := by kernel_rfl
  f129 := Tryd.func124.trans (congrArg some (by kernel_rfl))
  f246 := Tryd.func135.trans (congrArg some (by kernel_rfl))
  f283 := Tryd.func107.trans (congrArg some (by kernel_rfl))
  f284 := Tryd.func108.trans (congrArg some (by kernel_rfl))
  f285 := Tryd.func109.trans (congrArg some (by kernel_rfl))
  f286 := Tryd.func110.trans (congrArg some (by kernel_rfl))
  f317 := Tryd.func123.trans (congrArg some (by kernel_rfl))
  f318 := Tryd.func125.trans (congrArg some (by kernel_rfl))
  f319 := Tryd.func126.trans (congrArg some (by kernel_rfl))
  f320 := Tryd.func127.trans (congrArg some (by kernel_rfl))
  f337 := Tryd.func132.trans (congrArg some (by kernel_rfl))
  f338 := Tryd.func133.trans (congrArg some (by kernel_rfl))
  t0 := Tryd.underlying0
  a0 := Tryd.isAgg0
  z0 := Tryd.sizeOf0
  v0 := Tryd.zeroValue0
  t2 := Tryd.underlying2
  a2 := Tryd.isAgg2
  z2 := Tryd.sizeOf2
  v2 := Tryd.zeroValue2
  t3 := Tryd.underlying3
  a3 := Tryd.isAgg3
  z3 := Tryd.sizeOf3
  v3 := Tryd.zeroValue3
  t4 := Tryd.underlying4
  a4 := Tryd.isAgg4
  z4 := Tryd.sizeOf4
  v4 := Tryd.zeroValue4
  t5 := Tryd.underlying5
  a5 := Tryd.isAgg5
  z5 := Tryd.sizeOf5
  v5 := Tryd.zeroValue5
  t9 := Tryd.underlying9
  a9 := Tryd.isAgg9
  z9 := Tryd.sizeOf9
  v9 := Tryd.zeroValue9
  t20 := Tryd.underlying20
  a20 := Tryd.isAgg20
  z20 := Tryd.sizeOf20
  v20 := Tryd.zeroValue20
  t37 := Tryd.underlying91
  a37 := Tryd.isAgg91
  z37 := Tryd.sizeOf91
  v37 := Tryd.zeroValue91
  t46 := Tryd.underlying22
  a46 := Tryd.isAgg22
  z46 := Tryd.sizeOf22
  v46 := Tryd.zeroValue22
  t51 := Tryd.underlying140
  a51 := Tryd.isAgg140
  z51 := Tryd.sizeOf140
  v51 := Tryd.zeroValue140
  t53 := Tryd.underlying110
  a53 := Tryd.isAgg110
  z53 := Tryd.sizeOf110
  v53 := Tryd.zeroValue110
  t171 := Tryd.underlying127
  a171 := Tryd.isAgg127
  z171 := Tryd.sizeOf127
  v171 := Tryd.zeroValue127
  t173 := Tryd.underlying130
  a173 := Tryd.isAgg130
  z173 := Tryd.sizeOf130
  v173 := Tryd.zeroValue130
  t212 := Tryd.underlying139
  a212 := Tryd.isAgg139
  z212 := Tryd.sizeOf139
  v212 := Tryd.zeroValue139
  t213 := Tryd.underlying141
  a213 := Tryd.isAgg141
  z213 := Tryd.sizeOf141
  t232 := Tryd.underlying149
  a232 := Tryd.isAgg149
  z232 := Tryd.sizeOf149
  v232 := Tryd.zeroValue149
  t233 := Tryd.underlying150
  a233 := Tryd.isAgg150
  z233 := Tryd.sizeOf150
  v233 := Tryd.zeroValue150
  g17 := by kernel_rfl
  g18 := by kernel_rfl
  g19 := by kernel_rfl
  i0 := by kernel_rfl
  i2 := by kernel_rfl
  i3 := by kernel_rfl
  i4 := by kernel_rfl
  i5 := by kernel_rfl
  i9 := by kernel_rfl
  i20 := by kernel_rfl
  i37 := by kernel_rfl
  i46 := by kernel_rfl
  i51 := by kernel_rfl
  i53 := by kernel_rfl
  i171 := by kernel_rfl
  i173 := by kernel_rfl
  i212 := by kernel_rfl
  i232 := by kernel_rfl
  i233 := by kernel_rfl
  m17 := by kernel_rfl
  m18 := by kernel_rfl
  m19 := by kernel_rfl }
open Go.RowKit Go.Sort Go.Lib in
/-- internal/strconv.FormatInt: "FormatInt returns the string representation of i in the given base": AT BASE 10: i's decimal numeral, for every int64. The world behind the call: the world before it, new blocks behind the heap, draws. (LAID: no walk: one application.) -/
theorem Tryd.internal_strconv_FormatInt_10 (n : Int) (h0 : -9223372036854775808 ≤ n) (h1 : n ≤ 9223372036854775807) (w : World) (htab : Lib.TabIs Tryd.prog w "internal/strconv.uint64pow10" .u64 Lib.pow10Tab) :
    Calls Tryd.prog 135 #[.int .i64 n, .int .i64 10] w fun e w' => e = .returned (.string ⟨(Lib.itoa n).toArray⟩) ∧ ∃ k os, w' = grow (w.drewN k) os := Any.internal_strconv_FormatInt_10 Tryd.laysM246 n h0 h1 w htab
def Tryd.lays246_ren : Go.Shelf.Ren := ⟨fun | 246 => 135 | 283 => 107 | 284 => 108 | 285 => 109 | 286 => 110 | 129 => 124 | 317 => 123 | 318 => 125 | 319 => 126 | 320 => 127 | 337 => 132 | 338 => 133 | n => n, fun | 2 => 2 | 3 => 3 | 9 => 9 | 4 => 4 | 171 => 127 | 0 => 0 | 53 => 110 | 37 => 91 | 5 => 5 | 173 => 130 | 212 => 139 | 51 => 140 | 20 => 20 | 213 => 141 | 46 => 22 | 232 => 149 | 233 => 150 | n => n, fun | 17 => 2 | 18 => 5 | 19 => 6 | n => n⟩
theorem Tryd.lays246 : Go.Proofs.Lays.n246 Tryd.prog Tryd.lays246_ren := {
  mixed := by kernel_rfl
  f129 := Tryd.func124.trans (congrArg some (by kernel_rfl))
  f246 := Tryd.func135.trans (congrArg some (by kernel_rfl))
  f283 := Tryd.func107.trans (congrArg some (by kernel_rfl))
  f284 := Tryd.func108.trans (congrArg some (by kernel_rfl))
  f285 := Tryd.func109.trans (congrArg some (by kernel_rfl))
  f286 := Tryd.func110.trans (congrArg some (by kernel_rfl))
  f317 := Tryd.func123.trans (congrArg some (by kernel_rfl))
  f318 := Tryd.func125.trans (congrArg some (by kernel_rfl))
  f319 := Tryd.func126.trans (congrArg some (by kernel_rfl))
  f320 := Tryd.func127.trans (congrArg some (by kernel_rfl))
  f337 := Tryd.func132.trans (congrArg some (by kernel_rfl))
  f338 := Tryd.func133.trans (congrArg some (by kernel_rfl))
  t0 := Tryd.underlying0
  a0 := Tryd.isAgg0
  z0 := Tryd.sizeOf0
  v0 := Tryd.zeroValue0
  t2 := Tryd.underlying2
  a2 := Tryd.isAgg2
  z2 := Tryd.sizeOf2
  v2 := Tryd.zeroValue2
  t3 := Tryd.underlying3
  a3 := Tryd.isAgg3
  z3 := Tryd.sizeOf3
  v3 := Tryd.zeroValue3
  t4 := Tryd.underlying4
  a4 := Tryd.isAgg4
  z4 := Tryd.sizeOf4
  v4 := Tryd.zeroValue4
  t5 := Tryd.underlying5
  a5 := Tryd.isAgg5
  z5 := Tryd.sizeOf5
  v5 := Tryd.zeroValue5
  t9 := Tryd.underlying9
  a9 := Tryd.isAgg9
  z9 := Tryd.sizeOf9
  v9 := Tryd.zeroValue9
  t20 := Tryd.underlying20
  a20 := Tryd.isAgg20
  z20 := Tryd.sizeOf20
  v20 := Tryd.zeroValue20
  t37 := Tryd.underlying91
  a37 := Tryd.isAgg91
  z37 := Tryd.sizeOf91
  v37 := Tryd.zeroValue91
  t46 := Tryd.underlying22
  a46 := Tryd.isAgg22
  z46 := Tryd.sizeOf22
  v46 := Tryd.zeroValue22
  t51 := Tryd.underlying140
  a51 := Tryd.isAgg140
  z51 := Tryd.sizeOf140
  v51 := Tryd.zeroValue140
  t53 := Tryd.underlying110
  a53 := Tryd.isAgg110
  z53 := Tryd.sizeOf110
  v53 := Tryd.zeroValue110
  t171 := Tryd.underlying127
  a171 := Tryd.isAgg127
  z171 := Tryd.sizeOf127
  v171 := Tryd.zeroValue127
  t173 := Tryd.underlying130
  a173 := Tryd.isAgg130
  z173 := Tryd.sizeOf130
  v173 := Tryd.zeroValue130
  t212 := Tryd.underlying139
  a212 := Tryd.isAgg139
  z212 := Tryd.sizeOf139
  v212 := Tryd.zeroValue139
  t213 := Tryd.underlying141
  a213 := Tryd.isAgg141
  z213 := Tryd.sizeOf141
  t232 := Tryd.underlying149
  a232 := Tryd.isAgg149
  z232 := Tryd.sizeOf149
  v232 := Tryd.zeroValue149
  t233 := Tryd.underlying150
  a233 := Tryd.isAgg150
  z233 := Tryd.sizeOf150
  v233 := Tryd.zeroValue150
  g17 := by kernel_rfl
  g18 := by kernel_rfl
  g19 := by kernel_rfl }
open Go.RowKit Go.Sort Go.Lib in
/-- THE ROAD WITHOUT THE TABLE: 0 <= i < 100: two constants are read, nothing is laid: no premise on the world, and the world is as it was. (LAID: no walk: one application.) -/
theorem Tryd.internal_strconv_FormatInt_10_small (i : Nat) (hi : i < 100) (w : World) :
    Calls Tryd.prog 135 #[.int .i64 i, .int .i64 10] w fun e w' => e = .returned (.string ⟨(Lib.decDigits i).toArray⟩) ∧ w' = w := Any.internal_strconv_FormatInt_10_small Tryd.lays246 i hi w
def Tryd.laysM243_ren : Go.Shelf.Ren := ⟨fun | 243 => 134 | 246 => 135 | 283 => 107 | 284 => 108 | 285 => 109 | 286 => 110 | 129 => 124 | 317 => 123 | 318 => 125 | 319 => 126 | 320 => 127 | 337 => 132 | 338 => 133 | n => n, fun | 3 => 3 | 9 => 9 | 2 => 2 | 4 => 4 | 171 => 127 | 0 => 0 | 53 => 110 | 37 => 91 | 5 => 5 | 173 => 130 | 212 => 139 | 51 => 140 | 20 => 20 | 213 => 141 | 46 => 22 | 232 => 149 | 233 => 150 | n => n, fun | 17 => 2 | 18 => 5 | 19 => 6 | n => n⟩
theorem Tryd.laysM243 : Go.Proofs.LaysM.n243 Tryd.prog Tryd.laysM243_ren := {
  mixed := by kernel_rfl
  f129 := Tryd.func124.trans (congrArg some (by kernel_rfl))
  f243 := Tryd.func134.trans (congrArg some (by kernel_rfl))
  f246 := Tryd.func135.trans (congrArg some (by kernel_rfl))
  f283 := Tryd.func107.trans (congrArg some (by kernel_rfl))
  f284 := Tryd.func108.trans (congrArg some (by kernel_rfl))
  f285 := Tryd.func109.trans (congrArg some (by kernel_rfl))
  f286 := Tryd.func110.trans (congrArg some (by kernel_rfl))
  f317 := Tryd.func123.trans (congrArg some (by kernel_rfl))
  f318 := Tryd.func125.trans (congrArg some (by kernel_rfl))
  f319 := Tryd.func126.trans (congrArg some (by kernel_rfl))
  f320 := Tryd.func127.trans (congrArg some (by kernel_rfl))
  f337 := Tryd.func132.trans (congrArg some (by kernel_rfl))
  f338 := Tryd.func133.trans (congrArg some (by kernel_rfl))
  t0 := Tryd.underlying0
  a0 := Tryd.isAgg0
  z0 := Tryd.sizeOf0
  v0 := Tryd.zeroValue0
  t2 := Tryd.underlying2
  a2 := Tryd.isAgg2
  z2 := Tryd.sizeOf2
  v2 := Tryd.zeroValue2
  t3 := Tryd.underlying3
  a3 := Tryd.isAgg3
  z3 := Tryd.sizeOf3
  v3 := Tryd.zeroValue3
  t4 := Tryd.underlying4
  a4 := Tryd.isAgg4
  z4 := Tryd.sizeOf4
  v4 := Tryd.zeroValue4
  t5 := Tryd.underlying5
  a5 := Tryd.isAgg5
  z5 := Tryd.sizeOf5
  v5 := Tryd.zeroValue5
  t9 := Tryd.underlying9
  a9 := Tryd.isAgg9
  z9 := Tryd.sizeOf9
  v9 := Tryd.zeroValue9
  t20 := Tryd.underlying20
  a20 := Tryd.isAgg20
  z20 := Tryd.sizeOf20
  v20 := Tryd.zeroValue20
  t37 := Tryd.underlying91
  a37 := Tryd.isAgg91
  z37 := Tryd.sizeOf91
  v37 := Tryd.zeroValue91
  t46 := Tryd.underlying22
  a46 := Tryd.isAgg22
  z46 := Tryd.sizeOf22
  v46 := Tryd.zeroValue22
  t51 := Tryd.underlying140
  a51 := Tryd.isAgg140
  z51 := Tryd.sizeOf140
  v51 := Tryd.zeroValue140
  t53 := Tryd.underlying110
  a53 := Tryd.isAgg110
  z53 := Tryd.sizeOf110
  v53 := Tryd.zeroValue110
  t171 := Tryd.underlying127
  a171 := Tryd.isAgg127
  z171 := Tryd.sizeOf127
  v171 := Tryd.zeroValue127
  t173 := Tryd.underlying130
  a173 := Tryd.isAgg130
  z173 := Tryd.sizeOf130
  v173 := Tryd.zeroValue130
  t212 := Tryd.underlying139
  a212 := Tryd.isAgg139
  z212 := Tryd.sizeOf139
  v212 := Tryd.zeroValue139
  t213 := Tryd.underlying141
  a213 := Tryd.isAgg141
  z213 := Tryd.sizeOf141
  t232 := Tryd.underlying149
  a232 := Tryd.isAgg149
  z232 := Tryd.sizeOf149
  v232 := Tryd.zeroValue149
  t233 := Tryd.underlying150
  a233 := Tryd.isAgg150
  z233 := Tryd.sizeOf150
  v233 := Tryd.zeroValue150
  g17 := by kernel_rfl
  g18 := by kernel_rfl
  g19 := by kernel_rfl
  i0 := by kernel_rfl
  i2 := by kernel_rfl
  i3 := by kernel_rfl
  i4 := by kernel_rfl
  i5 := by kernel_rfl
  i9 := by kernel_rfl
  i20 := by kernel_rfl
  i37 := by kernel_rfl
  i46 := by kernel_rfl
  i51 := by kernel_rfl
  i53 := by kernel_rfl
  i171 := by kernel_rfl
  i173 := by kernel_rfl
  i212 := by kernel_rfl
  i232 := by kernel_rfl
  i233 := by kernel_rfl
  m17 := by kernel_rfl
  m18 := by kernel_rfl
  m19 := by kernel_rfl }
open Go.RowKit Go.Sort Go.Lib in
/-- internal/strconv.Itoa: "Itoa is equivalent to FormatInt(int64(i), 10).": i's decimal numeral, for every int. (LAID: no walk: one application.) -/
theorem Tryd.internal_strconv_Itoa (n : Int) (h0 : -9223372036854775808 ≤ n) (h1 : n ≤ 9223372036854775807) (w : World) (htab : Lib.TabIs Tryd.prog w "internal/strconv.uint64pow10" .u64 Lib.pow10Tab) :
    Calls Tryd.prog 134 #[.int .i64 n] w fun e w' => e = .returned (.string ⟨(Lib.itoa n).toArray⟩) ∧ ∃ k os, w' = grow (w.drewN k) os := Any.internal_strconv_Itoa Tryd.laysM243 n h0 h1 w htab
def Tryd.lays243_ren : Go.Shelf.Ren := ⟨fun | 243 => 134 | 246 => 135 | 283 => 107 | 284 => 108 | 285 => 109 | 286 => 110 | 129 => 124 | 317 => 123 | 318 => 125 | 319 => 126 | 320 => 127 | 337 => 132 | 338 => 133 | n => n, fun | 3 => 3 | 9 => 9 | 2 => 2 | 4 => 4 | 171 => 127 | 0 => 0 | 53 => 110 | 37 => 91 | 5 => 5 | 173 => 130 | 212 => 139 | 51 => 140 | 20 => 20 | 213 => 141 | 46 => 22 | 232 => 149 | 233 => 150 | n => n, fun | 17 => 2 | 18 => 5 | 19 => 6 | n => n⟩
theorem Tryd.lays243 : Go.Proofs.Lays.n243 Tryd.prog Tryd.lays243_ren := {
  mixed := by kernel_rfl
  f129 := Tryd.func124.trans (congrArg some (by kernel_rfl))
  f243 := Tryd.func134.trans (congrArg some (by kernel_rfl))
  f246 := Tryd.func135.trans (congrArg some (by kernel_rfl))
  f283 := Tryd.func107.trans (congrArg some (by kernel_rfl))
  f284 := Tryd.func108.trans (congrArg some (by kernel_rfl))
  f285 := Tryd.func109.trans (congrArg some (by kernel_rfl))
  f286 := Tryd.func110.trans (congrArg some (by kernel_rfl))
  f317 := Tryd.func123.trans (congrArg some (by kernel_rfl))
  f318 := Tryd.func125.trans (congrArg some (by kernel_rfl))
  f319 := Tryd.func126.trans (congrArg some (by kernel_rfl))
  f320 := Tryd.func127.trans (congrArg some (by kernel_rfl))
  f337 := Tryd.func132.trans (congrArg some (by kernel_rfl))
  f338 := Tryd.func133.trans (congrArg some (by kernel_rfl))
  t0 := Tryd.underlying0
  a0 := Tryd.isAgg0
  z0 := Tryd.sizeOf0
  v0 := Tryd.zeroValue0
  t2 := Tryd.underlying2
  a2 := Tryd.isAgg2
  z2 := Tryd.sizeOf2
  v2 := Tryd.zeroValue2
  t3 := Tryd.underlying3
  a3 := Tryd.isAgg3
  z3 := Tryd.sizeOf3
  v3 := Tryd.zeroValue3
  t4 := Tryd.underlying4
  a4 := Tryd.isAgg4
  z4 := Tryd.sizeOf4
  v4 := Tryd.zeroValue4
  t5 := Tryd.underlying5
  a5 := Tryd.isAgg5
  z5 := Tryd.sizeOf5
  v5 := Tryd.zeroValue5
  t9 := Tryd.underlying9
  a9 := Tryd.isAgg9
  z9 := Tryd.sizeOf9
  v9 := Tryd.zeroValue9
  t20 := Tryd.underlying20
  a20 := Tryd.isAgg20
  z20 := Tryd.sizeOf20
  v20 := Tryd.zeroValue20
  t37 := Tryd.underlying91
  a37 := Tryd.isAgg91
  z37 := Tryd.sizeOf91
  v37 := Tryd.zeroValue91
  t46 := Tryd.underlying22
  a46 := Tryd.isAgg22
  z46 := Tryd.sizeOf22
  v46 := Tryd.zeroValue22
  t51 := Tryd.underlying140
  a51 := Tryd.isAgg140
  z51 := Tryd.sizeOf140
  v51 := Tryd.zeroValue140
  t53 := Tryd.underlying110
  a53 := Tryd.isAgg110
  z53 := Tryd.sizeOf110
  v53 := Tryd.zeroValue110
  t171 := Tryd.underlying127
  a171 := Tryd.isAgg127
  z171 := Tryd.sizeOf127
  v171 := Tryd.zeroValue127
  t173 := Tryd.underlying130
  a173 := Tryd.isAgg130
  z173 := Tryd.sizeOf130
  v173 := Tryd.zeroValue130
  t212 := Tryd.underlying139
  a212 := Tryd.isAgg139
  z212 := Tryd.sizeOf139
  v212 := Tryd.zeroValue139
  t213 := Tryd.underlying141
  a213 := Tryd.isAgg141
  z213 := Tryd.sizeOf141
  t232 := Tryd.underlying149
  a232 := Tryd.isAgg149
  z232 := Tryd.sizeOf149
  v232 := Tryd.zeroValue149
  t233 := Tryd.underlying150
  a233 := Tryd.isAgg150
  z233 := Tryd.sizeOf150
  v233 := Tryd.zeroValue150
  g17 := by kernel_rfl
  g18 := by kernel_rfl
  g19 := by kernel_rfl }
open Go.RowKit Go.Sort Go.Lib in
/-- THE ROAD WITHOUT THE TABLE: 0 <= i < 100. (LAID: no walk: one application.) -/
theorem Tryd.internal_strconv_Itoa_small (i : Nat) (hi : i < 100) (w : World) :
    Calls Tryd.prog 134 #[.int .i64 i] w fun e w' => e = .returned (.string ⟨(Lib.decDigits i).toArray⟩) ∧ w' = w := Any.internal_strconv_Itoa_small Tryd.lays243 i hi w
def Tryd.laysM171_ren : Go.Shelf.Ren := ⟨fun | 171 => 131 | 243 => 134 | 246 => 135 | 283 => 107 | 284 => 108 | 285 => 109 | 286 => 110 | 129 => 124 | 317 => 123 | 318 => 125 | 319 => 126 | 320 => 127 | 337 => 132 | 338 => 133 | n => n, fun | 3 => 3 | 9 => 9 | 2 => 2 | 4 => 4 | 171 => 127 | 0 => 0 | 53 => 110 | 37 => 91 | 5 => 5 | 173 => 130 | 212 => 139 | 51 => 140 | 20 => 20 | 213 => 141 | 46 => 22 | 232 => 149 | 233 => 150 | n => n, fun | 17 => 2 | 18 => 5 | 19 => 6 | n => n⟩
theorem Tryd.laysM171 : Go.Proofs.LaysM.n171 Tryd.prog Tryd.laysM171_ren := {
  mixed := by kernel_rfl
  f129 := Tryd.func124.trans (congrArg some (by kernel_rfl))
  f171 := Tryd.func131.trans (congrArg some (by kernel_rfl))
  f243 := Tryd.func134.trans (congrArg some (by kernel_rfl))
  f246 := Tryd.func135.trans (congrArg some (by kernel_rfl))
  f283 := Tryd.func107.trans (congrArg some (by kernel_rfl))
  f284 := Tryd.func108.trans (congrArg some (by kernel_rfl))
  f285 := Tryd.func109.trans (congrArg some (by kernel_rfl))
  f286 := Tryd.func110.trans (congrArg some (by kernel_rfl))
  f317 := Tryd.func123.trans (congrArg some (by kernel_rfl))
  f318 := Tryd.func125.trans (congrArg some (by kernel_rfl))
  f319 := Tryd.func126.trans (congrArg some (by kernel_rfl))
  f320 := Tryd.func127.trans (congrArg some (by kernel_rfl))
  f337 := Tryd.func132.trans (congrArg some (by kernel_rfl))
  f338 := Tryd.func133.trans (congrArg some (by kernel_rfl))
  t0 := Tryd.underlying0
  a0 := Tryd.isAgg0
  z0 := Tryd.sizeOf0
  v0 := Tryd.zeroValue0
  t2 := Tryd.underlying2
  a2 := Tryd.isAgg2
  z2 := Tryd.sizeOf2
  v2 := Tryd.zeroValue2
  t3 := Tryd.underlying3
  a3 := Tryd.isAgg3
  z3 := Tryd.sizeOf3
  v3 := Tryd.zeroValue3
  t4 := Tryd.underlying4
  a4 := Tryd.isAgg4
  z4 := Tryd.sizeOf4
  v4 := Tryd.zeroValue4
  t5 := Tryd.underlying5
  a5 := Tryd.isAgg5
  z5 := Tryd.sizeOf5
  v5 := Tryd.zeroValue5
  t9 := Tryd.underlying9
  a9 := Tryd.isAgg9
  z9 := Tryd.sizeOf9
  v9 := Tryd.zeroValue9
  t20 := Tryd.underlying20
  a20 := Tryd.isAgg20
  z20 := Tryd.sizeOf20
  v20 := Tryd.zeroValue20
  t37 := Tryd.underlying91
  a37 := Tryd.isAgg91
  z37 := Tryd.sizeOf91
  v37 := Tryd.zeroValue91
  t46 := Tryd.underlying22
  a46 := Tryd.isAgg22
  z46 := Tryd.sizeOf22
  v46 := Tryd.zeroValue22
  t51 := Tryd.underlying140
  a51 := Tryd.isAgg140
  z51 := Tryd.sizeOf140
  v51 := Tryd.zeroValue140
  t53 := Tryd.underlying110
  a53 := Tryd.isAgg110
  z53 := Tryd.sizeOf110
  v53 := Tryd.zeroValue110
  t171 := Tryd.underlying127
  a171 := Tryd.isAgg127
  z171 := Tryd.sizeOf127
  v171 := Tryd.zeroValue127
  t173 := Tryd.underlying130
  a173 := Tryd.isAgg130
  z173 := Tryd.sizeOf130
  v173 := Tryd.zeroValue130
  t212 := Tryd.underlying139
  a212 := Tryd.isAgg139
  z212 := Tryd.sizeOf139
  v212 := Tryd.zeroValue139
  t213 := Tryd.underlying141
  a213 := Tryd.isAgg141
  z213 := Tryd.sizeOf141
  t232 := Tryd.underlying149
  a232 := Tryd.isAgg149
  z232 := Tryd.sizeOf149
  v232 := Tryd.zeroValue149
  t233 := Tryd.underlying150
  a233 := Tryd.isAgg150
  z233 := Tryd.sizeOf150
  v233 := Tryd.zeroValue150
  g17 := by kernel_rfl
  g18 := by kernel_rfl
  g19 := by kernel_rfl
  i0 := by kernel_rfl
  i2 := by kernel_rfl
  i3 := by kernel_rfl
  i4 := by kernel_rfl
  i5 := by kernel_rfl
  i9 := by kernel_rfl
  i20 := by kernel_rfl
  i37 := by kernel_rfl
  i46 := by kernel_rfl
  i51 := by kernel_rfl
  i53 := by kernel_rfl
  i171 := by kernel_rfl
  i173 := by kernel_rfl
  i212 := by kernel_rfl
  i232 := by kernel_rfl
  i233 := by kernel_rfl
  m17 := by kernel_rfl
  m18 := by kernel_rfl
  m19 := by kernel_rfl }
open Go.RowKit Go.Sort Go.Lib in
/-- strconv.Itoa: "Itoa is equivalent to FormatInt(int64(i), 10).": i's DECIMAL NUMERAL ('Lib.itoa': a '-' where i is negative, then the digits), FOR EVERY int. The world behind the call: the world before it, new blocks behind the heap (the library's 'var a [24]byte'), draws. (LAID: no walk: one application.) -/
theorem Tryd.strconv_Itoa (n : Int) (h0 : -9223372036854775808 ≤ n) (h1 : n ≤ 9223372036854775807) (w : World) (htab : Lib.TabIs Tryd.prog w "internal/strconv.uint64pow10" .u64 Lib.pow10Tab) :
    Calls Tryd.prog 131 #[.int .i64 n] w fun e w' => e = .returned (.string ⟨(Lib.itoa n).toArray⟩) ∧ ∃ k os, w' = grow (w.drewN k) os := Any.strconv_Itoa Tryd.laysM171 n h0 h1 w htab
def Tryd.lays171_ren : Go.Shelf.Ren := ⟨fun | 171 => 131 | 243 => 134 | 246 => 135 | 283 => 107 | 284 => 108 | 285 => 109 | 286 => 110 | 129 => 124 | 317 => 123 | 318 => 125 | 319 => 126 | 320 => 127 | 337 => 132 | 338 => 133 | n => n, fun | 3 => 3 | 9 => 9 | 2 => 2 | 4 => 4 | 171 => 127 | 0 => 0 | 53 => 110 | 37 => 91 | 5 => 5 | 173 => 130 | 212 => 139 | 51 => 140 | 20 => 20 | 213 => 141 | 46 => 22 | 232 => 149 | 233 => 150 | n => n, fun | 17 => 2 | 18 => 5 | 19 => 6 | n => n⟩
theorem Tryd.lays171 : Go.Proofs.Lays.n171 Tryd.prog Tryd.lays171_ren := {
  mixed := by kernel_rfl
  f129 := Tryd.func124.trans (congrArg some (by kernel_rfl))
  f171 := Tryd.func131.trans (congrArg some (by kernel_rfl))
  f243 := Tryd.func134.trans (congrArg some (by kernel_rfl))
  f246 := Tryd.func135.trans (congrArg some (by kernel_rfl))
  f283 := Tryd.func107.trans (congrArg some (by kernel_rfl))
  f284 := Tryd.func108.trans (congrArg some (by kernel_rfl))
  f285 := Tryd.func109.trans (congrArg some (by kernel_rfl))
  f286 := Tryd.func110.trans (congrArg some (by kernel_rfl))
  f317 := Tryd.func123.trans (congrArg some (by kernel_rfl))
  f318 := Tryd.func125.trans (congrArg some (by kernel_rfl))
  f319 := Tryd.func126.trans (congrArg some (by kernel_rfl))
  f320 := Tryd.func127.trans (congrArg some (by kernel_rfl))
  f337 := Tryd.func132.trans (congrArg some (by kernel_rfl))
  f338 := Tryd.func133.trans (congrArg some (by kernel_rfl))
  t0 := Tryd.underlying0
  a0 := Tryd.isAgg0
  z0 := Tryd.sizeOf0
  v0 := Tryd.zeroValue0
  t2 := Tryd.underlying2
  a2 := Tryd.isAgg2
  z2 := Tryd.sizeOf2
  v2 := Tryd.zeroValue2
  t3 := Tryd.underlying3
  a3 := Tryd.isAgg3
  z3 := Tryd.sizeOf3
  v3 := Tryd.zeroValue3
  t4 := Tryd.underlying4
  a4 := Tryd.isAgg4
  z4 := Tryd.sizeOf4
  v4 := Tryd.zeroValue4
  t5 := Tryd.underlying5
  a5 := Tryd.isAgg5
  z5 := Tryd.sizeOf5
  v5 := Tryd.zeroValue5
  t9 := Tryd.underlying9
  a9 := Tryd.isAgg9
  z9 := Tryd.sizeOf9
  v9 := Tryd.zeroValue9
  t20 := Tryd.underlying20
  a20 := Tryd.isAgg20
  z20 := Tryd.sizeOf20
  v20 := Tryd.zeroValue20
  t37 := Tryd.underlying91
  a37 := Tryd.isAgg91
  z37 := Tryd.sizeOf91
  v37 := Tryd.zeroValue91
  t46 := Tryd.underlying22
  a46 := Tryd.isAgg22
  z46 := Tryd.sizeOf22
  v46 := Tryd.zeroValue22
  t51 := Tryd.underlying140
  a51 := Tryd.isAgg140
  z51 := Tryd.sizeOf140
  v51 := Tryd.zeroValue140
  t53 := Tryd.underlying110
  a53 := Tryd.isAgg110
  z53 := Tryd.sizeOf110
  v53 := Tryd.zeroValue110
  t171 := Tryd.underlying127
  a171 := Tryd.isAgg127
  z171 := Tryd.sizeOf127
  v171 := Tryd.zeroValue127
  t173 := Tryd.underlying130
  a173 := Tryd.isAgg130
  z173 := Tryd.sizeOf130
  v173 := Tryd.zeroValue130
  t212 := Tryd.underlying139
  a212 := Tryd.isAgg139
  z212 := Tryd.sizeOf139
  v212 := Tryd.zeroValue139
  t213 := Tryd.underlying141
  a213 := Tryd.isAgg141
  z213 := Tryd.sizeOf141
  t232 := Tryd.underlying149
  a232 := Tryd.isAgg149
  z232 := Tryd.sizeOf149
  v232 := Tryd.zeroValue149
  t233 := Tryd.underlying150
  a233 := Tryd.isAgg150
  z233 := Tryd.sizeOf150
  v233 := Tryd.zeroValue150
  g17 := by kernel_rfl
  g18 := by kernel_rfl
  g19 := by kernel_rfl }
open Go.RowKit Go.Sort Go.Lib in
/-- THE ROAD WITHOUT THE TABLE: 0 <= i < 100: NO PREMISE ON THE WORLD, AND THE WORLD IS AS IT WAS: a row that keeps its argument in that range need list no table ('laid = []'). (LAID: no walk: one application.) -/
theorem Tryd.strconv_Itoa_small (i : Nat) (hi : i < 100) (w : World) :
    Calls Tryd.prog 131 #[.int .i64 i] w fun e w' => e = .returned (.string ⟨(Lib.decDigits i).toArray⟩) ∧ w' = w := Any.strconv_Itoa_small Tryd.lays171 i hi w
def Tryd.laysM181_ren : Go.Shelf.Ren := ⟨fun | 181 => 104 | n => n, fun | 130 => 116 | 3 => 3 | 0 => 0 | 93 => 106 | 37 => 91 | 91 => 104 | 5 => 5 | n => n, fun | n => n⟩
theorem Tryd.laysM181 : Go.Proofs.LaysM.n181 Tryd.prog Tryd.laysM181_ren := {
  mixed := by kernel_rfl
  f181 := Tryd.func104.trans (congrArg some (by kernel_rfl))
  t0 := Tryd.underlying0
  a0 := Tryd.isAgg0
  z0 := Tryd.sizeOf0
  v0 := Tryd.zeroValue0
  t3 := Tryd.underlying3
  a3 := Tryd.isAgg3
  z3 := Tryd.sizeOf3
  v3 := Tryd.zeroValue3
  t37 := Tryd.underlying91
  a37 := Tryd.isAgg91
  z37 := Tryd.sizeOf91
  v37 := Tryd.zeroValue91
  t93 := Tryd.underlying106
  a93 := Tryd.isAgg106
  z93 := Tryd.sizeOf106
  v93 := Tryd.zeroValue106
  t130 := Tryd.underlying116
  a130 := Tryd.isAgg116
  z130 := Tryd.sizeOf116
  v130 := Tryd.zeroValue116
  t5 := Tryd.underlying5
  a5 := Tryd.isAgg5
  z5 := Tryd.sizeOf5
  v5 := Tryd.zeroValue5
  t91 := Tryd.underlying104
  a91 := Tryd.isAgg104
  z91 := Tryd.sizeOf104
  v91 := Tryd.zeroValue104
  i0 := by kernel_rfl
  i3 := by kernel_rfl
  i5 := by kernel_rfl
  i37 := by kernel_rfl
  i91 := by kernel_rfl
  i93 := by kernel_rfl
  i130 := by kernel_rfl }
open Go.RowKit in
/-- (*bytes.Buffer).Len: "Len returns the number of bytes of the unread portion of the buffer; b.Len() == len(b.Bytes()).": the world is as it was but for the count of draws (the statement has two reads: its order is drawn). (LAID: no walk: one application.) -/
theorem Tryd.Buffer_Len (B b : Nat) (bs : List Value) (w : World) (h : Lib.IsBuffer 106 5 B b bs w) :
    Calls Tryd.prog 104 #[.pointer (some ⟨b, 0, none⟩)] w fun e w' => e = .returned (.int .i64 bs.length) ∧ ∃ n, w' = w.drewN n := Any.Buffer_Len Tryd.laysM181 B b bs w h
def Tryd.laysM251_ren : Go.Shelf.Ren := ⟨fun | 251 => 91 | n => n, fun | 130 => 116 | 3 => 3 | 4 => 4 | 0 => 0 | 93 => 106 | 37 => 91 | 91 => 104 | 5 => 5 | n => n, fun | n => n⟩
theorem Tryd.laysM251 : Go.Proofs.LaysM.n251 Tryd.prog Tryd.laysM251_ren := {
  mixed := by kernel_rfl
  f251 := Tryd.func91.trans (congrArg some (by kernel_rfl))
  t0 := Tryd.underlying0
  a0 := Tryd.isAgg0
  z0 := Tryd.sizeOf0
  v0 := Tryd.zeroValue0
  t3 := Tryd.underlying3
  a3 := Tryd.isAgg3
  z3 := Tryd.sizeOf3
  v3 := Tryd.zeroValue3
  t4 := Tryd.underlying4
  a4 := Tryd.isAgg4
  z4 := Tryd.sizeOf4
  v4 := Tryd.zeroValue4
  t37 := Tryd.underlying91
  a37 := Tryd.isAgg91
  z37 := Tryd.sizeOf91
  v37 := Tryd.zeroValue91
  t93 := Tryd.underlying106
  a93 := Tryd.isAgg106
  z93 := Tryd.sizeOf106
  v93 := Tryd.zeroValue106
  t130 := Tryd.underlying116
  a130 := Tryd.isAgg116
  z130 := Tryd.sizeOf116
  v130 := Tryd.zeroValue116
  t5 := Tryd.underlying5
  a5 := Tryd.isAgg5
  z5 := Tryd.sizeOf5
  v5 := Tryd.zeroValue5
  t91 := Tryd.underlying104
  a91 := Tryd.isAgg104
  z91 := Tryd.sizeOf104
  v91 := Tryd.zeroValue104
  i0 := by kernel_rfl
  i3 := by kernel_rfl
  i4 := by kernel_rfl
  i5 := by kernel_rfl
  i37 := by kernel_rfl
  i91 := by kernel_rfl
  i93 := by kernel_rfl
  i130 := by kernel_rfl }
open Go.RowKit in
/-- (*bytes.Buffer).tryGrowByReslice: "tryGrowByReslice is an inlineable version of grow for the fast-case where the internal buffer only needs to be resliced. It returns the index where bytes should be written and whether it succeeded.": THERE IS ROOM: 'buf' is resliced to l + n. (LAID: no walk: one application.) -/
theorem Tryd.Buffer_tryGrow_room (b : Nat) (ao : Option Addr) (l cap n : Nat) (w : World) (c0 : w.cell? ⟨b, 0, none⟩ = some (.slice ao l cap)) (f0 : w.frozen? ⟨b, 0, none⟩ = false) (hlc : l ≤ cap) (hcap : cap ≤ maxLen) (hn : n ≤ cap - l) :
    Calls Tryd.prog 91 #[.pointer (some ⟨b, 0, none⟩), .int .i64 n] w fun e w' => e = .returned (.tuple #[.int .i64 l, .bool true]) ∧ w' = w.setCell ⟨b, 0, none⟩ (.slice ao (l + n) cap) := Any.Buffer_tryGrow_room Tryd.laysM251 b ao l cap n w c0 f0 hlc hcap hn
open Go.RowKit in
/-- .. THERE IS NONE: nothing turns. (LAID: no walk: one application.) -/
theorem Tryd.Buffer_tryGrow_none (b : Nat) (ao : Option Addr) (l cap n : Nat) (w : World) (c0 : w.cell? ⟨b, 0, none⟩ = some (.slice ao l cap)) (hlc : l ≤ cap) (hcap : cap ≤ maxLen) (hn : cap - l < n) :
    Calls Tryd.prog 91 #[.pointer (some ⟨b, 0, none⟩), .int .i64 n] w fun e w' => e = .returned (.tuple #[.int .i64 0, .bool false]) ∧ w' = w := Any.Buffer_tryGrow_none Tryd.laysM251 b ao l cap n w c0 hlc hcap hn
def Tryd.laysM324_ren : Go.Shelf.Ren := ⟨fun | 324 => 122 | n => n, fun | 20 => 20 | 4 => 4 | 75 => 68 | 0 => 0 | 80 => 33 | 9 => 9 | n => n, fun | 14 => 1 | n => n⟩
theorem Tryd.laysM324 : Go.Proofs.LaysM.n324 Tryd.prog Tryd.laysM324_ren := {
  mixed := by kernel_rfl
  f324 := Tryd.func122.trans (congrArg some (by kernel_rfl))
  t0 := Tryd.underlying0
  a0 := Tryd.isAgg0
  z0 := Tryd.sizeOf0
  v0 := Tryd.zeroValue0
  t4 := Tryd.underlying4
  a4 := Tryd.isAgg4
  z4 := Tryd.sizeOf4
  v4 := Tryd.zeroValue4
  t20 := Tryd.underlying20
  a20 := Tryd.isAgg20
  z20 := Tryd.sizeOf20
  v20 := Tryd.zeroValue20
  t75 := Tryd.underlying68
  a75 := Tryd.isAgg68
  z75 := Tryd.sizeOf68
  v75 := Tryd.zeroValue68
  g14 := by kernel_rfl
  t9 := Tryd.underlying9
  a9 := Tryd.isAgg9
  z9 := Tryd.sizeOf9
  v9 := Tryd.zeroValue9
  t80 := Tryd.underlying33
  a80 := Tryd.isAgg33
  z80 := Tryd.sizeOf33
  v80 := Tryd.zeroValue33
  i0 := by kernel_rfl
  i4 := by kernel_rfl
  i9 := by kernel_rfl
  i20 := by kernel_rfl
  i75 := by kernel_rfl
  i80 := by kernel_rfl
  m14 := by kernel_rfl }
theorem Tryd.growSlice_catch_idle (w : World) :
    CallsD Tryd.prog 122 #[] .returning w fun e u' w' => e = .returned (.tuple #[]) ∧ u' = .returning ∧ w' = w := Any.growSlice_catch_idle Tryd.laysM324 w
def Tryd.laysM290_ren : Go.Shelf.Ren := ⟨fun | 290 => 106 | 324 => 122 | n => n, fun | 37 => 91 | 3 => 3 | 0 => 0 | 4 => 4 | 20 => 20 | 75 => 68 | 5 => 5 | 80 => 33 | 9 => 9 | n => n, fun | 14 => 1 | n => n⟩
theorem Tryd.laysM290 : Go.Proofs.LaysM.n290 Tryd.prog Tryd.laysM290_ren := {
  mixed := by kernel_rfl
  f290 := Tryd.func106.trans (congrArg some (by kernel_rfl))
  f324 := Tryd.func122.trans (congrArg some (by kernel_rfl))
  t0 := Tryd.underlying0
  a0 := Tryd.isAgg0
  z0 := Tryd.sizeOf0
  v0 := Tryd.zeroValue0
  t3 := Tryd.underlying3
  a3 := Tryd.isAgg3
  z3 := Tryd.sizeOf3
  v3 := Tryd.zeroValue3
  t4 := Tryd.underlying4
  a4 := Tryd.isAgg4
  z4 := Tryd.sizeOf4
  v4 := Tryd.zeroValue4
  t20 := Tryd.underlying20
  a20 := Tryd.isAgg20
  z20 := Tryd.sizeOf20
  v20 := Tryd.zeroValue20
  t37 := Tryd.underlying91
  a37 := Tryd.isAgg91
  z37 := Tryd.sizeOf91
  v37 := Tryd.zeroValue91
  t75 := Tryd.underlying68
  a75 := Tryd.isAgg68
  z75 := Tryd.sizeOf68
  v75 := Tryd.zeroValue68
  g14 := by kernel_rfl
  t5 := Tryd.underlying5
  a5 := Tryd.isAgg5
  z5 := Tryd.sizeOf5
  v5 := Tryd.zeroValue5
  t9 := Tryd.underlying9
  a9 := Tryd.isAgg9
  z9 := Tryd.sizeOf9
  v9 := Tryd.zeroValue9
  t80 := Tryd.underlying33
  a80 := Tryd.isAgg33
  z80 := Tryd.sizeOf33
  v80 := Tryd.zeroValue33
  i0 := by kernel_rfl
  i3 := by kernel_rfl
  i4 := by kernel_rfl
  i5 := by kernel_rfl
  i9 := by kernel_rfl
  i20 := by kernel_rfl
  i37 := by kernel_rfl
  i75 := by kernel_rfl
  i80 := by kernel_rfl
  m14 := by kernel_rfl }
open Go.RowKit in
/-- bytes.growSlice: "growSlice grows b by n, preserving the original content of b.": OF A SLICE THAT LIES AT THE HEAD OF A ROW: a new row, number 'w.heap.size': it begins with b's l cells; its capacity has room for n more; whatever lay below is as it was. (LAID: no walk: one application.) -/
theorem Tryd.bytes_growSlice_row (g l c n : Nat) (cur : Array Value) (w : World) (hg : w.heap[g]? = some (.cells cur 5 (0, 0))) (hcs : cur.size = c) (hlc : l ≤ c) (hn : 1 ≤ n) (hlim : l + n ≤ 140737488355328) (hc2 : c ≤ 140737488355328) (h1 : ∀ v ∈ cur.toList.take l, v.oneCell' = true) :
    Calls Tryd.prog 106 #[.slice (some ⟨g, 0, none⟩) l c, .int .i64 n] w fun e w' => ∃ cap2 cells, e = .returned (.slice (some ⟨w.heap.size, 0, none⟩) l cap2) ∧ w'.heap[w.heap.size]? = some (.cells cells 5 (0, 0)) ∧
      cells.size = cap2 ∧ cells.toList.take l = cur.toList.take l ∧ l + n ≤ cap2 ∧ cap2 ≤ maxLen ∧ Below w.heap.size w w' := Any.bytes_growSlice_row Tryd.laysM290 g l c n cur w hg hcs hlc hn hlim hc2 h1
open Go.RowKit in
/-- .. OF THE NIL SLICE: a new row with room for n. (LAID: no walk: one application.) -/
theorem Tryd.bytes_growSlice_nil (n : Nat) (w : World) (hn : 1 ≤ n) (hlim : n ≤ 140737488355328) :
    Calls Tryd.prog 106 #[.slice none 0 0, .int .i64 n] w fun e w' => ∃ cap2 cells, e = .returned (.slice (some ⟨w.heap.size, 0, none⟩) 0 cap2) ∧ w'.heap[w.heap.size]? = some (.cells cells 5 (0, 0)) ∧
      cells.size = cap2 ∧ n ≤ cap2 ∧ cap2 ≤ maxLen ∧ Below w.heap.size w w' := Any.bytes_growSlice_nil Tryd.laysM290 n w hn hlim
def Tryd.laysM252_ren : Go.Shelf.Ren := ⟨fun | 252 => 92 | 181 => 104 | 184 => 105 | 251 => 91 | 290 => 106 | 324 => 122 | n => n, fun | 130 => 116 | 3 => 3 | 4 => 4 | 0 => 0 | 93 => 106 | 131 => 55 | 37 => 91 | 75 => 68 | 91 => 104 | 20 => 20 | 5 => 5 | 80 => 33 | 9 => 9 | n => n, fun | 14 => 1 | n => n⟩
theorem Tryd.laysM252 : Go.Proofs.LaysM.n252 Tryd.prog Tryd.laysM252_ren := {
  mixed := by kernel_rfl
  f181 := Tryd.func104.trans (congrArg some (by kernel_rfl))
  f184 := Tryd.func105.trans (congrArg some (by kernel_rfl))
  f251 := Tryd.func91.trans (congrArg some (by kernel_rfl))
  f252 := Tryd.func92.trans (congrArg some (by kernel_rfl))
  f290 := Tryd.func106.trans (congrArg some (by kernel_rfl))
  f324 := Tryd.func122.trans (congrArg some (by kernel_rfl))
  t0 := Tryd.underlying0
  a0 := Tryd.isAgg0
  z0 := Tryd.sizeOf0
  v0 := Tryd.zeroValue0
  t3 := Tryd.underlying3
  a3 := Tryd.isAgg3
  z3 := Tryd.sizeOf3
  v3 := Tryd.zeroValue3
  t4 := Tryd.underlying4
  a4 := Tryd.isAgg4
  z4 := Tryd.sizeOf4
  v4 := Tryd.zeroValue4
  t20 := Tryd.underlying20
  a20 := Tryd.isAgg20
  z20 := Tryd.sizeOf20
  v20 := Tryd.zeroValue20
  t37 := Tryd.underlying91
  a37 := Tryd.isAgg91
  z37 := Tryd.sizeOf91
  v37 := Tryd.zeroValue91
  t75 := Tryd.underlying68
  a75 := Tryd.isAgg68
  z75 := Tryd.sizeOf68
  v75 := Tryd.zeroValue68
  t91 := Tryd.underlying104
  a91 := Tryd.isAgg104
  z91 := Tryd.sizeOf104
  v91 := Tryd.zeroValue104
  t93 := Tryd.underlying106
  a93 := Tryd.isAgg106
  z93 := Tryd.sizeOf106
  v93 := Tryd.zeroValue106
  t130 := Tryd.underlying116
  a130 := Tryd.isAgg116
  z130 := Tryd.sizeOf116
  v130 := Tryd.zeroValue116
  t131 := Tryd.underlying55
  a131 := Tryd.isAgg55
  z131 := Tryd.sizeOf55
  v131 := Tryd.zeroValue55
  g14 := by kernel_rfl
  t5 := Tryd.underlying5
  a5 := Tryd.isAgg5
  z5 := Tryd.sizeOf5
  v5 := Tryd.zeroValue5
  t9 := Tryd.underlying9
  a9 := Tryd.isAgg9
  z9 := Tryd.sizeOf9
  v9 := Tryd.zeroValue9
  t80 := Tryd.underlying33
  a80 := Tryd.isAgg33
  z80 := Tryd.sizeOf33
  v80 := Tryd.zeroValue33
  i0 := by kernel_rfl
  i3 := by kernel_rfl
  i4 := by kernel_rfl
  i5 := by kernel_rfl
  i9 := by kernel_rfl
  i20 := by kernel_rfl
  i37 := by kernel_rfl
  i75 := by kernel_rfl
  i80 := by kernel_rfl
  i91 := by kernel_rfl
  i93 := by kernel_rfl
  i130 := by kernel_rfl
  i131 := by kernel_rfl
  m14 := by kernel_rfl }
open Go.RowKit in
/-- grow, WHERE THE BUFFER HOLDS A ROW, NO BYTE IN IT (behind a Reset), AND THE ROW HAS NO ROOM: growSlice. (THE TEXT OF 'Buffer_grow_row' WITH 0 FOR l, BY PROGRAM: the walk parts on 'm == 0' and writes 0 for l throughout the goal: facts that still say l then do not strike: so l is laid in ahead of the walk.) (LAID: no walk: one application.) -/
theorem Tryd.Buffer_grow_row0 (B b g cap n : Nat) (lr : Int) (cur : Array Value) (bs : List Value) (w : World) (hB : B ≤ b) (hBw : B ≤ w.heap.size) (hbk : w.heap[b]? = some (.cells #[.slice (some ⟨g, 0, none⟩) 0 cap, .int .i64 0, .int .i8 lr] 106 (0, 0))) (hl : bs.length = 0) (hBg : B ≤ g) (hg : w.heap[g]? = some (.cells cur 5 (0, 0))) (hlc : 0 ≤ cap) (hcm : cap ≤ maxLen) (hcs : cur.size = cap) (htake : cur.toList.take 0 = bs) (hgb : g ≠ b) (h1 : ∀ v ∈ bs, v.oneCell' = true) (hn : 1 ≤ n) (hroom : cap - 0 < n) (hlim : 0 + n ≤ 140737488355328) :
    Calls Tryd.prog 92 #[.pointer (some ⟨b, 0, none⟩), .int .i64 n] w fun e w' => e = .returned (.int .i64 0) ∧ ∃ xs, xs.length = n ∧ Lib.IsBuffer 106 5 B b (bs ++ xs) w' ∧ Below B w w' := Any.Buffer_grow_row0 Tryd.laysM252 B b g cap n lr cur bs w hB hBw hbk hl hBg hg hlc hcm hcs htake hgb h1 hn hroom hlim
open Go.RowKit in
/-- grow, WHERE THE BUFFER HOLDS A ROW THAT HAS NO ROOM: growSlice. (LAID: no walk: one application.) -/
theorem Tryd.Buffer_grow_row (B b g l cap n : Nat) (lr : Int) (cur : Array Value) (bs : List Value) (w : World) (hB : B ≤ b) (hBw : B ≤ w.heap.size) (hbk : w.heap[b]? = some (.cells #[.slice (some ⟨g, 0, none⟩) l cap, .int .i64 0, .int .i8 lr] 106 (0, 0))) (hl : bs.length = l) (hBg : B ≤ g) (hg : w.heap[g]? = some (.cells cur 5 (0, 0))) (hlc : l ≤ cap) (hcm : cap ≤ maxLen) (hcs : cur.size = cap) (htake : cur.toList.take l = bs) (hgb : g ≠ b) (h1 : ∀ v ∈ bs, v.oneCell' = true) (hn : 1 ≤ n) (hroom : cap - l < n) (hlim : l + n ≤ 140737488355328) :
    Calls Tryd.prog 92 #[.pointer (some ⟨b, 0, none⟩), .int .i64 n] w fun e w' => e = .returned (.int .i64 l) ∧ ∃ xs, xs.length = n ∧ Lib.IsBuffer 106 5 B b (bs ++ xs) w' ∧ Below B w w' := Any.Buffer_grow_row Tryd.laysM252 B b g l cap n lr cur bs w hB hBw hbk hl hBg hg hlc hcm hcs htake hgb h1 hn hroom hlim
open Go.RowKit in
/-- grow, 'buf' nil, n AT MOST 64: 'b.buf = make([]byte, n, smallBufferSize)'. (LAID: no walk: one application.) -/
theorem Tryd.Buffer_grow_nil_small (B b n : Nat) (lr : Int) (w : World) (hB : B ≤ b) (hBw : B ≤ w.heap.size) (hbk : w.heap[b]? = some (.cells #[.slice none 0 0, .int .i64 0, .int .i8 lr] 106 (0, 0))) (hn : 1 ≤ n) (h64 : n ≤ 64) :
    Calls Tryd.prog 92 #[.pointer (some ⟨b, 0, none⟩), .int .i64 n] w fun e w' => e = .returned (.int .i64 0) ∧ ∃ xs, xs.length = n ∧ Lib.IsBuffer 106 5 B b xs w' ∧ Below B w w' := Any.Buffer_grow_nil_small Tryd.laysM252 B b n lr w hB hBw hbk hn h64
open Go.RowKit in
/-- grow, 'buf' nil, n ABOVE 64: growSlice of the nil slice. (LAID: no walk: one application.) -/
theorem Tryd.Buffer_grow_nil_big (B b n : Nat) (lr : Int) (w : World) (hB : B ≤ b) (hBw : B ≤ w.heap.size) (hbk : w.heap[b]? = some (.cells #[.slice none 0 0, .int .i64 0, .int .i8 lr] 106 (0, 0))) (h64 : 64 < n) (hlim : n ≤ 140737488355328) :
    Calls Tryd.prog 92 #[.pointer (some ⟨b, 0, none⟩), .int .i64 n] w fun e w' => e = .returned (.int .i64 0) ∧ ∃ xs, xs.length = n ∧ Lib.IsBuffer 106 5 B b xs w' ∧ Below B w w' := Any.Buffer_grow_nil_big Tryd.laysM252 B b n lr w hB hBw hbk h64 hlim
open Go.RowKit in
/-- tryGrowByReslice: EITHER there is room: the place to write at is the old length, and the buffer holds the old bytes and n more of whatever lay there; OR there is none: nothing turns, and 'Lib.NoRoom' is what grow asks. (LAID: no walk: one application.) -/
theorem Tryd.Buffer_tryGrow (B b n : Nat) (bs : List Value) (w : World) (h : Lib.IsBuffer 106 5 B b bs w) :
    Calls Tryd.prog 91 #[.pointer (some ⟨b, 0, none⟩), .int .i64 n] w fun e w' =>
      (e = .returned (.tuple #[.int .i64 bs.length, .bool true]) ∧ ∃ xs, xs.length = n ∧ Lib.IsBuffer 106 5 B b (bs ++ xs) w' ∧ Below B w w') ∨
      (e = .returned (.tuple #[.int .i64 0, .bool false]) ∧ w' = w ∧ Lib.NoRoom b n w) := Any.Buffer_tryGrow Tryd.laysM251 B b n bs w h
open Go.RowKit in
/-- (*bytes.Buffer).grow: "grow grows the buffer to guarantee space for n more bytes. It returns the index where bytes should be written.": WHERE THERE IS NO ROOM; UNDER Go's OWN LIMIT (the new length takes at most 2^47 bytes): the old length; the buffer holds the old bytes and n more of whatever. (LAID: no walk: one application.) -/
theorem Tryd.Buffer_grow (B b n : Nat) (bs : List Value) (w : World) (h : Lib.IsBuffer 106 5 B b bs w) (hnr : Lib.NoRoom b n w) (hBw : B ≤ w.heap.size) (h1 : ∀ v ∈ bs, v.oneCell' = true) (hlim : bs.length + n ≤ 140737488355328) :
    Calls Tryd.prog 92 #[.pointer (some ⟨b, 0, none⟩), .int .i64 n] w fun e w' => e = .returned (.int .i64 bs.length) ∧ ∃ xs, xs.length = n ∧ Lib.IsBuffer 106 5 B b (bs ++ xs) w' ∧ Below B w w' := Any.Buffer_grow Tryd.laysM252 B b n bs w h hnr hBw h1 hlim
def Tryd.laysM178_ren : Go.Shelf.Ren := ⟨fun | 178 => 83 | 251 => 91 | 252 => 92 | 181 => 104 | 184 => 105 | 290 => 106 | 324 => 122 | n => n, fun | 130 => 116 | 9 => 9 | 3 => 3 | 75 => 68 | 0 => 0 | 93 => 106 | 91 => 104 | 131 => 55 | 4 => 4 | 37 => 91 | 20 => 20 | 80 => 33 | 5 => 5 | n => n, fun | 14 => 1 | n => n⟩
theorem Tryd.laysM178 : Go.Proofs.LaysM.n178 Tryd.prog Tryd.laysM178_ren := {
  mixed := by kernel_rfl
  f178 := Tryd.func83.trans (congrArg some (by kernel_rfl))
  f181 := Tryd.func104.trans (congrArg some (by kernel_rfl))
  f184 := Tryd.func105.trans (congrArg some (by kernel_rfl))
  f251 := Tryd.func91.trans (congrArg some (by kernel_rfl))
  f252 := Tryd.func92.trans (congrArg some (by kernel_rfl))
  f290 := Tryd.func106.trans (congrArg some (by kernel_rfl))
  f324 := Tryd.func122.trans (congrArg some (by kernel_rfl))
  t0 := Tryd.underlying0
  a0 := Tryd.isAgg0
  z0 := Tryd.sizeOf0
  v0 := Tryd.zeroValue0
  t3 := Tryd.underlying3
  a3 := Tryd.isAgg3
  z3 := Tryd.sizeOf3
  v3 := Tryd.zeroValue3
  t4 := Tryd.underlying4
  a4 := Tryd.isAgg4
  z4 := Tryd.sizeOf4
  v4 := Tryd.zeroValue4
  t9 := Tryd.underlying9
  a9 := Tryd.isAgg9
  z9 := Tryd.sizeOf9
  v9 := Tryd.zeroValue9
  t20 := Tryd.underlying20
  a20 := Tryd.isAgg20
  z20 := Tryd.sizeOf20
  v20 := Tryd.zeroValue20
  t37 := Tryd.underlying91
  a37 := Tryd.isAgg91
  z37 := Tryd.sizeOf91
  v37 := Tryd.zeroValue91
  t75 := Tryd.underlying68
  a75 := Tryd.isAgg68
  z75 := Tryd.sizeOf68
  v75 := Tryd.zeroValue68
  t91 := Tryd.underlying104
  a91 := Tryd.isAgg104
  z91 := Tryd.sizeOf104
  v91 := Tryd.zeroValue104
  t93 := Tryd.underlying106
  a93 := Tryd.isAgg106
  z93 := Tryd.sizeOf106
  v93 := Tryd.zeroValue106
  t130 := Tryd.underlying116
  a130 := Tryd.isAgg116
  z130 := Tryd.sizeOf116
  v130 := Tryd.zeroValue116
  t131 := Tryd.underlying55
  a131 := Tryd.isAgg55
  z131 := Tryd.sizeOf55
  v131 := Tryd.zeroValue55
  g14 := by kernel_rfl
  t5 := Tryd.underlying5
  a5 := Tryd.isAgg5
  z5 := Tryd.sizeOf5
  v5 := Tryd.zeroValue5
  t80 := Tryd.underlying33
  a80 := Tryd.isAgg33
  z80 := Tryd.sizeOf33
  v80 := Tryd.zeroValue33
  i0 := by kernel_rfl
  i3 := by kernel_rfl
  i4 := by kernel_rfl
  i5 := by kernel_rfl
  i9 := by kernel_rfl
  i20 := by kernel_rfl
  i37 := by kernel_rfl
  i75 := by kernel_rfl
  i80 := by kernel_rfl
  i91 := by kernel_rfl
  i93 := by kernel_rfl
  i130 := by kernel_rfl
  i131 := by kernel_rfl
  m14 := by kernel_rfl }
open Go.RowKit in
/-- (*bytes.Buffer).WriteString: "WriteString appends the contents of s to the buffer, growing the buffer as needed. The return value n is the length of s; err is always nil." (LAID: no walk: one application.) -/
theorem Tryd.Buffer_WriteString (B b : Nat) (bs : List Value) (s : ByteArray) (w : World) (h : Lib.IsBuffer 106 5 B b bs w) (hBw : B ≤ w.heap.size) (h1 : ∀ v ∈ bs, v.oneCell' = true) (hlim : bs.length + s.size ≤ 140737488355328) :
    Calls Tryd.prog 83 #[.pointer (some ⟨b, 0, none⟩), .string s] w fun e w' => e = .returned (.tuple #[.int .i64 s.size, .nilIface]) ∧ Lib.IsBuffer 106 5 B b (bs ++ Lib.byteCells s.data.toList) w' ∧ Below B w w' := Any.Buffer_WriteString Tryd.laysM178 B b bs s w h hBw h1 hlim
def Tryd.laysM182_ren : Go.Shelf.Ren := ⟨fun | 182 => 85 | n => n, fun | 130 => 116 | 9 => 9 | 4 => 4 | 0 => 0 | 93 => 106 | 37 => 91 | 3 => 3 | 91 => 104 | 5 => 5 | n => n, fun | n => n⟩
theorem Tryd.laysM182 : Go.Proofs.LaysM.n182 Tryd.prog Tryd.laysM182_ren := {
  mixed := by kernel_rfl
  f182 := Tryd.func85.trans (congrArg some (by kernel_rfl))
  t0 := Tryd.underlying0
  a0 := Tryd.isAgg0
  z0 := Tryd.sizeOf0
  v0 := Tryd.zeroValue0
  t3 := Tryd.underlying3
  a3 := Tryd.isAgg3
  z3 := Tryd.sizeOf3
  v3 := Tryd.zeroValue3
  t4 := Tryd.underlying4
  a4 := Tryd.isAgg4
  z4 := Tryd.sizeOf4
  v4 := Tryd.zeroValue4
  t9 := Tryd.underlying9
  a9 := Tryd.isAgg9
  z9 := Tryd.sizeOf9
  v9 := Tryd.zeroValue9
  t37 := Tryd.underlying91
  a37 := Tryd.isAgg91
  z37 := Tryd.sizeOf91
  v37 := Tryd.zeroValue91
  t93 := Tryd.underlying106
  a93 := Tryd.isAgg106
  z93 := Tryd.sizeOf106
  v93 := Tryd.zeroValue106
  t130 := Tryd.underlying116
  a130 := Tryd.isAgg116
  z130 := Tryd.sizeOf116
  v130 := Tryd.zeroValue116
  t5 := Tryd.underlying5
  a5 := Tryd.isAgg5
  z5 := Tryd.sizeOf5
  v5 := Tryd.zeroValue5
  t91 := Tryd.underlying104
  a91 := Tryd.isAgg104
  z91 := Tryd.sizeOf104
  v91 := Tryd.zeroValue104
  i0 := by kernel_rfl
  i3 := by kernel_rfl
  i4 := by kernel_rfl
  i5 := by kernel_rfl
  i9 := by kernel_rfl
  i37 := by kernel_rfl
  i91 := by kernel_rfl
  i93 := by kernel_rfl
  i130 := by kernel_rfl }
open Go.RowKit in
/-- (*bytes.Buffer).String: "String returns the contents of the unread portion of the buffer as a string.": THE BYTES THAT WERE WRITTEN. The world is as it was but for the count of draws (the statement has two reads: its order is drawn). (LAID: no walk: one application.) -/
theorem Tryd.Buffer_String (B b : Nat) (l : List UInt8) (w : World) (h : Lib.IsBuffer 106 5 B b (Lib.byteCells l) w) :
    Calls Tryd.prog 85 #[.pointer (some ⟨b, 0, none⟩)] w fun e w' => e = .returned (.string ⟨l.toArray⟩) ∧ ∃ n, w' = w.drewN n := Any.Buffer_String Tryd.laysM182 B b l w h
open Go.RowKit in
/-- internal/strconv.Atoi, at a string of 1 to 18 bytes THAT IS NO DECIMAL NUMERAL: 0, AND ErrSyntax (the package's own error number 2). The world behind the call: as it was, or with the one new row that '[]byte(s)' lays. (LAID: no walk: one application.) -/
theorem Tryd.internal_strconv_Atoi_err (s : ByteArray) (hl0 : 1 ≤ s.size) (hl : s.size ≤ 18) (h : Lib.atoi s.data.toList = none) (w : World) :
    Calls Tryd.prog 101 #[.string s] w fun e w' => e = .returned (.tuple #[.int .i64 0, (.iface 132 (.int .i64 2))]) ∧ (w' = w ∨ ∃ t, w' = Lib.bytesWorld w 5 t) := Any.internal_strconv_Atoi_err Tryd.lays244 s hl0 hl h w
def Tryd.lays247_ren : Go.Shelf.Ren := ⟨fun | 247 => 117 | 287 => 115 | 321 => 128 | 322 => 129 | n => n, fun | 9 => 9 | 3 => 3 | 2 => 2 | 75 => 68 | 4 => 4 | 167 => 132 | 5 => 5 | 53 => 110 | 175 => 119 | 46 => 22 | 37 => 91 | 0 => 0 | 21 => 21 | 80 => 33 | n => n, fun | n => n⟩
theorem Tryd.lays247 : Go.Proofs.Lays.n247 Tryd.prog Tryd.lays247_ren := {
  mixed := by kernel_rfl
  f247 := Tryd.func117.trans (congrArg some (by kernel_rfl))
  f287 := Tryd.func115.trans (congrArg some (by kernel_rfl))
  f321 := Tryd.func128.trans (congrArg some (by kernel_rfl))
  f322 := Tryd.func129.trans (congrArg some (by kernel_rfl))
  t0 := Tryd.underlying0
  a0 := Tryd.isAgg0
  z0 := Tryd.sizeOf0
  v0 := Tryd.zeroValue0
  t2 := Tryd.underlying2
  a2 := Tryd.isAgg2
  z2 := Tryd.sizeOf2
  v2 := Tryd.zeroValue2
  t3 := Tryd.underlying3
  a3 := Tryd.isAgg3
  z3 := Tryd.sizeOf3
  v3 := Tryd.zeroValue3
  t4 := Tryd.underlying4
  a4 := Tryd.isAgg4
  z4 := Tryd.sizeOf4
  v4 := Tryd.zeroValue4
  t5 := Tryd.underlying5
  a5 := Tryd.isAgg5
  z5 := Tryd.sizeOf5
  v5 := Tryd.zeroValue5
  t9 := Tryd.underlying9
  a9 := Tryd.isAgg9
  z9 := Tryd.sizeOf9
  v9 := Tryd.zeroValue9
  t21 := Tryd.underlying21
  a21 := Tryd.isAgg21
  z21 := Tryd.sizeOf21
  v21 := Tryd.zeroValue21
  t37 := Tryd.underlying91
  a37 := Tryd.isAgg91
  z37 := Tryd.sizeOf91
  v37 := Tryd.zeroValue91
  t46 := Tryd.underlying22
  a46 := Tryd.isAgg22
  z46 := Tryd.sizeOf22
  v46 := Tryd.zeroValue22
  t53 := Tryd.underlying110
  a53 := Tryd.isAgg110
  z53 := Tryd.sizeOf110
  v53 := Tryd.zeroValue110
  t75 := Tryd.underlying68
  a75 := Tryd.isAgg68
  z75 := Tryd.sizeOf68
  v75 := Tryd.zeroValue68
  t167 := Tryd.underlying132
  a167 := Tryd.isAgg132
  z167 := Tryd.sizeOf132
  v167 := Tryd.zeroValue132
  t175 := Tryd.underlying119
  a175 := Tryd.isAgg119
  z175 := Tryd.sizeOf119
  v175 := Tryd.zeroValue119 }
open Go.RowKit in
/-- internal/strconv.ParseInt at "": 'if s == "" { return 0, ErrSyntax }'. The world is as it was. (LAID: no walk: one application.) -/
theorem Tryd.internal_strconv_ParseInt_empty (base bits : Int) (w : World) :
    Calls Tryd.prog 117 #[.string ⟨#[]⟩, .int .i64 base, .int .i64 bits] w fun e w' => e = .returned (.tuple #[.int .i64 0, (.iface 132 (.int .i64 2))]) ∧ w' = w := Any.internal_strconv_ParseInt_empty Tryd.lays247 base bits w
open Go.RowKit in
/-- internal/strconv.Atoi at "". (LAID: no walk: one application.) -/
theorem Tryd.internal_strconv_Atoi_empty (w : World) :
    Calls Tryd.prog 101 #[.string ⟨#[]⟩] w fun e w' => e = .returned (.tuple #[.int .i64 0, (.iface 132 (.int .i64 2))]) ∧ w' = w := Any.internal_strconv_Atoi_empty Tryd.lays244 w
open Go.RowKit in
/-- internal/strconv.Atoi, AT EVERY STRING OF AT MOST 18 BYTES THAT IS NO DECIMAL NUMERAL: 0, and ErrSyntax. (LAID: no walk: one application.) -/
theorem Tryd.internal_strconv_Atoi_fail (s : ByteArray) (hl : s.size ≤ 18) (h : Lib.atoi s.data.toList = none) (w : World) :
    Calls Tryd.prog 101 #[.string s] w fun e w' => e = .returned (.tuple #[.int .i64 0, (.iface 132 (.int .i64 2))]) ∧ (w' = w ∨ ∃ t, w' = Lib.bytesWorld w 5 t) := Any.internal_strconv_Atoi_fail Tryd.lays244 s hl h w
def Tryd.laysM316_ren : Go.Shelf.Ren := ⟨fun | 316 => 130 | n => n, fun | 9 => 9 | 3 => 3 | 4 => 4 | 37 => 91 | 0 => 0 | 127 => 148 | 5 => 5 | n => n, fun | n => n⟩
theorem Tryd.laysM316 : Go.Proofs.LaysM.n316 Tryd.prog Tryd.laysM316_ren := {
  mixed := by kernel_rfl
  f316 := Tryd.func130.trans (congrArg some (by kernel_rfl))
  t0 := Tryd.underlying0
  a0 := Tryd.isAgg0
  z0 := Tryd.sizeOf0
  v0 := Tryd.zeroValue0
  t3 := Tryd.underlying3
  a3 := Tryd.isAgg3
  z3 := Tryd.sizeOf3
  v3 := Tryd.zeroValue3
  t4 := Tryd.underlying4
  a4 := Tryd.isAgg4
  z4 := Tryd.sizeOf4
  v4 := Tryd.zeroValue4
  t9 := Tryd.underlying9
  a9 := Tryd.isAgg9
  z9 := Tryd.sizeOf9
  v9 := Tryd.zeroValue9
  t37 := Tryd.underlying91
  a37 := Tryd.isAgg91
  z37 := Tryd.sizeOf91
  v37 := Tryd.zeroValue91
  t127 := Tryd.underlying148
  a127 := Tryd.isAgg148
  z127 := Tryd.sizeOf148
  v127 := Tryd.zeroValue148
  t5 := Tryd.underlying5
  a5 := Tryd.isAgg5
  z5 := Tryd.sizeOf5
  v5 := Tryd.zeroValue5
  i0 := by kernel_rfl
  i3 := by kernel_rfl
  i4 := by kernel_rfl
  i5 := by kernel_rfl
  i9 := by kernel_rfl
  i37 := by kernel_rfl
  i127 := by kernel_rfl }
open Go.RowKit in
/-- internal/stringslite.Clone (what strings.Clone calls): "Clone returns a fresh copy of s.": THE SAME BYTES. Of what was there nothing has turned (a new row is laid, and frozen, where s is not empty). (LAID: no walk: one application.) -/
theorem Tryd.stringslite_Clone (s : ByteArray) (w : World) (hlim : s.size ≤ 281474976710656) :
    Calls Tryd.prog 130 #[.string s] w fun e w' => e = .returned (.string s) ∧ Below w.heap.size w w' := Any.stringslite_Clone Tryd.laysM316 s w hlim
def Tryd.laysM279_ren : Go.Shelf.Ren := ⟨fun | 279 => 118 | 316 => 130 | n => n, fun | 9 => 9 | 168 => 135 | 75 => 68 | 210 => 146 | 3 => 3 | 4 => 4 | 37 => 91 | 0 => 0 | 127 => 148 | 80 => 33 | 5 => 5 | n => n, fun | 15 => 3 | n => n⟩
theorem Tryd.laysM279 : Go.Proofs.LaysM.n279 Tryd.prog Tryd.laysM279_ren := {
  mixed := by kernel_rfl
  f279 := Tryd.func118.trans (congrArg some (by kernel_rfl))
  f316 := Tryd.func130.trans (congrArg some (by kernel_rfl))
  t0 := Tryd.underlying0
  a0 := Tryd.isAgg0
  z0 := Tryd.sizeOf0
  v0 := Tryd.zeroValue0
  t3 := Tryd.underlying3
  a3 := Tryd.isAgg3
  z3 := Tryd.sizeOf3
  v3 := Tryd.zeroValue3
  t4 := Tryd.underlying4
  a4 := Tryd.isAgg4
  z4 := Tryd.sizeOf4
  v4 := Tryd.zeroValue4
  t9 := Tryd.underlying9
  a9 := Tryd.isAgg9
  z9 := Tryd.sizeOf9
  v9 := Tryd.zeroValue9
  t37 := Tryd.underlying91
  a37 := Tryd.isAgg91
  z37 := Tryd.sizeOf91
  v37 := Tryd.zeroValue91
  t75 := Tryd.underlying68
  a75 := Tryd.isAgg68
  z75 := Tryd.sizeOf68
  v75 := Tryd.zeroValue68
  t127 := Tryd.underlying148
  a127 := Tryd.isAgg148
  z127 := Tryd.sizeOf148
  v127 := Tryd.zeroValue148
  t168 := Tryd.underlying135
  a168 := Tryd.isAgg135
  z168 := Tryd.sizeOf135
  v168 := Tryd.zeroValue135
  t210 := Tryd.underlying146
  a210 := Tryd.isAgg146
  z210 := Tryd.sizeOf146
  v210 := Tryd.zeroValue146
  g15 := by kernel_rfl
  t5 := Tryd.underlying5
  a5 := Tryd.isAgg5
  z5 := Tryd.sizeOf5
  v5 := Tryd.zeroValue5
  t80 := Tryd.underlying33
  a80 := Tryd.isAgg33
  z80 := Tryd.sizeOf33
  v80 := Tryd.zeroValue33
  i0 := by kernel_rfl
  i3 := by kernel_rfl
  i4 := by kernel_rfl
  i5 := by kernel_rfl
  i9 := by kernel_rfl
  i37 := by kernel_rfl
  i75 := by kernel_rfl
  i80 := by kernel_rfl
  i127 := by kernel_rfl
  i168 := by kernel_rfl
  i210 := by kernel_rfl
  m15 := by kernel_rfl }
open Go.RowKit in
/-- strconv.syntaxError: '&NumError{fn, stringslite.Clone(str), ErrSyntax}': A POINTER TO A NEW BLOCK that holds fn, str's bytes, and what the variable ErrSyntax holds. Of what was there nothing has turned. (LAID: no walk: one application.) -/
theorem Tryd.strconv_syntaxError (fn s : ByteArray) (ev : Value) (w : World) (hlim : s.size ≤ 281474976710656) (hv : w.cell? ⟨3, 0, none⟩ = some ev) (hev : ev = .nilIface ∨ ∃ te pe, ev = .iface te pe) :
    Calls Tryd.prog 118 #[.string fn, .string s] w fun e w' => ∃ N, e = .returned (.pointer (some ⟨N, 0, none⟩)) ∧ w.heap.size ≤ N ∧ w'.heap[N]? = some (.cells #[.string fn, .string s, ev] 146 (0, 0)) ∧ Below w.heap.size w w' := Any.strconv_syntaxError Tryd.laysM279 fn s ev w hlim hv hev
def Tryd.laysC245_ren : Go.Shelf.Ren := ⟨fun | 245 => 102 | 279 => 118 | 280 => 119 | 281 => 120 | 282 => 121 | 316 => 130 | 171 => 131 | 205 => 72 | 243 => 134 | 246 => 135 | 283 => 107 | 284 => 108 | 285 => 109 | 286 => 110 | 129 => 124 | 317 => 123 | 318 => 125 | 319 => 126 | 320 => 127 | 337 => 132 | 338 => 133 | n => n, fun | 9 => 9 | 3 => 3 | 75 => 68 | 167 => 132 | 4 => 4 | 168 => 135 | 210 => 146 | 37 => 91 | 0 => 0 | 127 => 148 | 145 => 114 | 143 => 112 | 2 => 2 | 171 => 127 | 53 => 110 | 5 => 5 | 173 => 130 | 212 => 139 | 51 => 140 | 20 => 20 | 213 => 141 | 46 => 22 | 232 => 149 | 233 => 150 | 80 => 33 | n => n, fun | 15 => 3 | 16 => 4 | 17 => 2 | 18 => 5 | 19 => 6 | n => n⟩
theorem Tryd.laysC245 : Go.Proofs.LaysC.n245 Tryd.prog Tryd.laysC245_ren := {
  mixed := by kernel_rfl
  f129 := Tryd.func124.trans (congrArg some (by kernel_rfl))
  f171 := Tryd.func131.trans (congrArg some (by kernel_rfl))
  f205 := Tryd.func72.trans (congrArg some (by kernel_rfl))
  f243 := Tryd.func134.trans (congrArg some (by kernel_rfl))
  f245 := Tryd.func102.trans (congrArg some (by kernel_rfl))
  f246 := Tryd.func135.trans (congrArg some (by kernel_rfl))
  f279 := Tryd.func118.trans (congrArg some (by kernel_rfl))
  f280 := Tryd.func119.trans (congrArg some (by kernel_rfl))
  f281 := Tryd.func120.trans (congrArg some (by kernel_rfl))
  f282 := Tryd.func121.trans (congrArg some (by kernel_rfl))
  f283 := Tryd.func107.trans (congrArg some (by kernel_rfl))
  f284 := Tryd.func108.trans (congrArg some (by kernel_rfl))
  f285 := Tryd.func109.trans (congrArg some (by kernel_rfl))
  f286 := Tryd.func110.trans (congrArg some (by kernel_rfl))
  f316 := Tryd.func130.trans (congrArg some (by kernel_rfl))
  f317 := Tryd.func123.trans (congrArg some (by kernel_rfl))
  f318 := Tryd.func125.trans (congrArg some (by kernel_rfl))
  f319 := Tryd.func126.trans (congrArg some (by kernel_rfl))
  f320 := Tryd.func127.trans (congrArg some (by kernel_rfl))
  f337 := Tryd.func132.trans (congrArg some (by kernel_rfl))
  f338 := Tryd.func133.trans (congrArg some (by kernel_rfl))
  t0 := Tryd.underlying0
  a0 := Tryd.isAgg0
  z0 := Tryd.sizeOf0
  v0 := Tryd.zeroValue0
  t2 := Tryd.underlying2
  a2 := Tryd.isAgg2
  z2 := Tryd.sizeOf2
  v2 := Tryd.zeroValue2
  t3 := Tryd.underlying3
  a3 := Tryd.isAgg3
  z3 := Tryd.sizeOf3
  v3 := Tryd.zeroValue3
  t4 := Tryd.underlying4
  a4 := Tryd.isAgg4
  z4 := Tryd.sizeOf4
  v4 := Tryd.zeroValue4
  t5 := Tryd.underlying5
  a5 := Tryd.isAgg5
  z5 := Tryd.sizeOf5
  v5 := Tryd.zeroValue5
  t9 := Tryd.underlying9
  a9 := Tryd.isAgg9
  z9 := Tryd.sizeOf9
  v9 := Tryd.zeroValue9
  t20 := Tryd.underlying20
  a20 := Tryd.isAgg20
  z20 := Tryd.sizeOf20
  v20 := Tryd.zeroValue20
  t37 := Tryd.underlying91
  a37 := Tryd.isAgg91
  z37 := Tryd.sizeOf91
  v37 := Tryd.zeroValue91
  t46 := Tryd.underlying22
  a46 := Tryd.isAgg22
  z46 := Tryd.sizeOf22
  v46 := Tryd.zeroValue22
  t51 := Tryd.underlying140
  a51 := Tryd.isAgg140
  z51 := Tryd.sizeOf140
  v51 := Tryd.zeroValue140
  t53 := Tryd.underlying110
  a53 := Tryd.isAgg110
  z53 := Tryd.sizeOf110
  v53 := Tryd.zeroValue110
  t75 := Tryd.underlying68
  a75 := Tryd.isAgg68
  z75 := Tryd.sizeOf68
  v75 := Tryd.zeroValue68
  t127 := Tryd.underlying148
  a127 := Tryd.isAgg148
  z127 := Tryd.sizeOf148
  v127 := Tryd.zeroValue148
  t143 := Tryd.underlying112
  a143 := Tryd.isAgg112
  z143 := Tryd.sizeOf112
  v143 := Tryd.zeroValue112
  t145 := Tryd.underlying114
  a145 := Tryd.isAgg114
  z145 := Tryd.sizeOf114
  v145 := Tryd.zeroValue114
  t167 := Tryd.underlying132
  a167 := Tryd.isAgg132
  z167 := Tryd.sizeOf132
  v167 := Tryd.zeroValue132
  t168 := Tryd.underlying135
  a168 := Tryd.isAgg135
  z168 := Tryd.sizeOf135
  v168 := Tryd.zeroValue135
  t171 := Tryd.underlying127
  a171 := Tryd.isAgg127
  z171 := Tryd.sizeOf127
  v171 := Tryd.zeroValue127
  t173 := Tryd.underlying130
  a173 := Tryd.isAgg130
  z173 := Tryd.sizeOf130
  v173 := Tryd.zeroValue130
  t210 := Tryd.underlying146
  a210 := Tryd.isAgg146
  z210 := Tryd.sizeOf146
  v210 := Tryd.zeroValue146
  t212 := Tryd.underlying139
  a212 := Tryd.isAgg139
  z212 := Tryd.sizeOf139
  v212 := Tryd.zeroValue139
  t213 := Tryd.underlying141
  a213 := Tryd.isAgg141
  z213 := Tryd.sizeOf141
  t232 := Tryd.underlying149
  a232 := Tryd.isAgg149
  z232 := Tryd.sizeOf149
  v232 := Tryd.zeroValue149
  t233 := Tryd.underlying150
  a233 := Tryd.isAgg150
  z233 := Tryd.sizeOf150
  v233 := Tryd.zeroValue150
  g15 := by kernel_rfl
  g16 := by kernel_rfl
  g17 := by kernel_rfl
  g18 := by kernel_rfl
  g19 := by kernel_rfl
  t80 := Tryd.underlying33
  a80 := Tryd.isAgg33
  z80 := Tryd.sizeOf33
  v80 := Tryd.zeroValue33
  i0 := by kernel_rfl
  i2 := by kernel_rfl
  i3 := by kernel_rfl
  i4 := by kernel_rfl
  i5 := by kernel_rfl
  i9 := by kernel_rfl
  i20 := by kernel_rfl
  i37 := by kernel_rfl
  i46 := by kernel_rfl
  i51 := by kernel_rfl
  i53 := by kernel_rfl
  i75 := by kernel_rfl
  i80 := by kernel_rfl
  i127 := by kernel_rfl
  i143 := by kernel_rfl
  i145 := by kernel_rfl
  i167 := by kernel_rfl
  i168 := by kernel_rfl
  i171 := by kernel_rfl
  i173 := by kernel_rfl
  i210 := by kernel_rfl
  i212 := by kernel_rfl
  i232 := by kernel_rfl
  i233 := by kernel_rfl
  m15 := by kernel_rfl
  m16 := by kernel_rfl
  m17 := by kernel_rfl
  m18 := by kernel_rfl
  m19 := by kernel_rfl
  c0 := by kernel_rfl
  c2 := by kernel_rfl
  c3 := by kernel_rfl
  c4 := by kernel_rfl
  c5 := by kernel_rfl
  c9 := by kernel_rfl
  c20 := by kernel_rfl
  c37 := by kernel_rfl
  c46 := by kernel_rfl
  c51 := by kernel_rfl
  c53 := by kernel_rfl
  c75 := by kernel_rfl
  c80 := by kernel_rfl
  c127 := by kernel_rfl
  c143 := by kernel_rfl
  c145 := by kernel_rfl
  c167 := by kernel_rfl
  c168 := by kernel_rfl
  c171 := by kernel_rfl
  c173 := by kernel_rfl
  c210 := by kernel_rfl
  c212 := by kernel_rfl
  c213 := by kernel_rfl
  c232 := by kernel_rfl
  c233 := by kernel_rfl }
open Go.RowKit in
/-- strconv.toError, at the inner package's ErrSyntax: 'syntaxError(fn, s)' as an error: A *NumError IN A NEW BLOCK. (LAID: no walk: one application.) -/
theorem Tryd.strconv_toError_syntax (fn s : ByteArray) (base bits : Int) (ev : Value) (w : World) (hlim : s.size ≤ 281474976710656) (hv : w.cell? ⟨3, 0, none⟩ = some ev) (hev : ev = .nilIface ∨ ∃ te pe, ev = .iface te pe) :
    Calls Tryd.prog 102 #[.string fn, .string s, .int .i64 base, .int .i64 bits, .iface 132 (.int .i64 2)] w fun e w' => ∃ N, e = .returned (.iface 135 (.pointer (some ⟨N, 0, none⟩))) ∧ w.heap.size ≤ N ∧ w'.heap[N]? = some (.cells #[.string fn, .string s, ev] 146 (0, 0)) ∧ Below w.heap.size w w' := Any.strconv_toError_syntax Tryd.laysC245 fn s base bits ev w hlim hv hev
def Tryd.lays321_ren : Go.Shelf.Ren := ⟨fun | 321 => 128 | n => n, fun | 5 => 5 | n => n, fun | n => n⟩
theorem Tryd.lays321 : Go.Proofs.Lays.n321 Tryd.prog Tryd.lays321_ren := {
  mixed := by kernel_rfl
  f321 := Tryd.func128.trans (congrArg some (by kernel_rfl))
  t5 := Tryd.underlying5
  a5 := Tryd.isAgg5
  z5 := Tryd.sizeOf5
  v5 := Tryd.zeroValue5 }
open Go.RowKit in
/-- internal/strconv.lower: 'c | ('x' - 'X')': the bit 32 set. The world is as it was. (LAID: no walk: one application.) -/
theorem Tryd.internal_strconv_lower (c : Int) (w : World) :
    Calls Tryd.prog 128 #[.int .u8 c] w fun e w' => e = .returned (.int .u8 (bits .or .u8 c 32)) ∧ w' = w := Any.internal_strconv_lower Tryd.lays321 c w
def Tryd.lays287_ren : Go.Shelf.Ren := ⟨fun | 287 => 115 | 321 => 128 | 322 => 129 | n => n, fun | 9 => 9 | 3 => 3 | 53 => 110 | 75 => 68 | 4 => 4 | 167 => 132 | 5 => 5 | 46 => 22 | 37 => 91 | 0 => 0 | 21 => 21 | 80 => 33 | n => n, fun | n => n⟩
theorem Tryd.lays287 : Go.Proofs.Lays.n287 Tryd.prog Tryd.lays287_ren := {
  mixed := by kernel_rfl
  f287 := Tryd.func115.trans (congrArg some (by kernel_rfl))
  f321 := Tryd.func128.trans (congrArg some (by kernel_rfl))
  f322 := Tryd.func129.trans (congrArg some (by kernel_rfl))
  t0 := Tryd.underlying0
  a0 := Tryd.isAgg0
  z0 := Tryd.sizeOf0
  v0 := Tryd.zeroValue0
  t3 := Tryd.underlying3
  a3 := Tryd.isAgg3
  z3 := Tryd.sizeOf3
  v3 := Tryd.zeroValue3
  t4 := Tryd.underlying4
  a4 := Tryd.isAgg4
  z4 := Tryd.sizeOf4
  v4 := Tryd.zeroValue4
  t5 := Tryd.underlying5
  a5 := Tryd.isAgg5
  z5 := Tryd.sizeOf5
  v5 := Tryd.zeroValue5
  t9 := Tryd.underlying9
  a9 := Tryd.isAgg9
  z9 := Tryd.sizeOf9
  v9 := Tryd.zeroValue9
  t21 := Tryd.underlying21
  a21 := Tryd.isAgg21
  z21 := Tryd.sizeOf21
  v21 := Tryd.zeroValue21
  t37 := Tryd.underlying91
  a37 := Tryd.isAgg91
  z37 := Tryd.sizeOf91
  v37 := Tryd.zeroValue91
  t46 := Tryd.underlying22
  a46 := Tryd.isAgg22
  z46 := Tryd.sizeOf22
  v46 := Tryd.zeroValue22
  t53 := Tryd.underlying110
  a53 := Tryd.isAgg110
  z53 := Tryd.sizeOf110
  v53 := Tryd.zeroValue110
  t75 := Tryd.underlying68
  a75 := Tryd.isAgg68
  z75 := Tryd.sizeOf68
  v75 := Tryd.zeroValue68
  t167 := Tryd.underlying132
  a167 := Tryd.isAgg132
  z167 := Tryd.sizeOf132
  v167 := Tryd.zeroValue132 }
open Go.RowKit in
/-- internal/strconv.ParseUint(s, 10, 0), s NOT EMPTY: 'Lib.parseUint10 0' OF ITS BYTES: the number; or (0, ErrSyntax); or (the greatest uint64, ErrRange). The world behind the call: the one new row that '[]byte(s)' lays. (LAID: no walk: one application.) -/
theorem Tryd.internal_strconv_ParseUint_10 (t : ByteArray) (hne : t.size ≠ 0) (hmax : t.size ≤ 9223372036854775806) (w : World) :
    Calls Tryd.prog 115 #[.string t, .int .i64 10, .int .i64 0] w fun e w' => e = .returned (Lib.uintTuple 132 (Lib.parseUint10 0 t.data.toList)) ∧ w' = Lib.bytesWorld w 5 t := Any.internal_strconv_ParseUint_10 Tryd.lays287 t hne hmax w
open Go.RowKit in
/-- internal/strconv.ParseUint(s, 10, 0): 'Lib.parseMag' OF ITS BYTES. The world: as it was (the empty string), or with the one new row that '[]byte(s)' lays. (LAID: no walk: one application.) -/
theorem Tryd.internal_strconv_ParseUint_10_any (t : ByteArray) (hmax : t.size ≤ 9223372036854775806) (w : World) :
    Calls Tryd.prog 115 #[.string t, .int .i64 10, .int .i64 0] w fun e w' => e = .returned (Lib.uintTuple 132 (Lib.parseMag t.data.toList)) ∧ (w' = w ∨ w' = Lib.bytesWorld w 5 t) := Any.internal_strconv_ParseUint_10_any Tryd.lays287 t hmax w
def Tryd.laysC247_ren : Go.Shelf.Ren := ⟨fun | 247 => 117 | 287 => 115 | 321 => 128 | 322 => 129 | n => n, fun | 9 => 9 | 3 => 3 | 2 => 2 | 75 => 68 | 4 => 4 | 167 => 132 | 5 => 5 | 53 => 110 | 175 => 119 | 46 => 22 | 37 => 91 | 0 => 0 | 21 => 21 | 80 => 33 | n => n, fun | n => n⟩
theorem Tryd.laysC247 : Go.Proofs.LaysC.n247 Tryd.prog Tryd.laysC247_ren := {
  mixed := by kernel_rfl
  f247 := Tryd.func117.trans (congrArg some (by kernel_rfl))
  f287 := Tryd.func115.trans (congrArg some (by kernel_rfl))
  f321 := Tryd.func128.trans (congrArg some (by kernel_rfl))
  f322 := Tryd.func129.trans (congrArg some (by kernel_rfl))
  t0 := Tryd.underlying0
  a0 := Tryd.isAgg0
  z0 := Tryd.sizeOf0
  v0 := Tryd.zeroValue0
  t2 := Tryd.underlying2
  a2 := Tryd.isAgg2
  z2 := Tryd.sizeOf2
  v2 := Tryd.zeroValue2
  t3 := Tryd.underlying3
  a3 := Tryd.isAgg3
  z3 := Tryd.sizeOf3
  v3 := Tryd.zeroValue3
  t4 := Tryd.underlying4
  a4 := Tryd.isAgg4
  z4 := Tryd.sizeOf4
  v4 := Tryd.zeroValue4
  t5 := Tryd.underlying5
  a5 := Tryd.isAgg5
  z5 := Tryd.sizeOf5
  v5 := Tryd.zeroValue5
  t9 := Tryd.underlying9
  a9 := Tryd.isAgg9
  z9 := Tryd.sizeOf9
  v9 := Tryd.zeroValue9
  t21 := Tryd.underlying21
  a21 := Tryd.isAgg21
  z21 := Tryd.sizeOf21
  v21 := Tryd.zeroValue21
  t37 := Tryd.underlying91
  a37 := Tryd.isAgg91
  z37 := Tryd.sizeOf91
  v37 := Tryd.zeroValue91
  t46 := Tryd.underlying22
  a46 := Tryd.isAgg22
  z46 := Tryd.sizeOf22
  v46 := Tryd.zeroValue22
  t53 := Tryd.underlying110
  a53 := Tryd.isAgg110
  z53 := Tryd.sizeOf110
  v53 := Tryd.zeroValue110
  t75 := Tryd.underlying68
  a75 := Tryd.isAgg68
  z75 := Tryd.sizeOf68
  v75 := Tryd.zeroValue68
  t167 := Tryd.underlying132
  a167 := Tryd.isAgg132
  z167 := Tryd.sizeOf132
  v167 := Tryd.zeroValue132
  t175 := Tryd.underlying119
  a175 := Tryd.isAgg119
  z175 := Tryd.sizeOf119
  v175 := Tryd.zeroValue119
  t80 := Tryd.underlying33
  a80 := Tryd.isAgg33
  z80 := Tryd.sizeOf33
  v80 := Tryd.zeroValue33
  i0 := by kernel_rfl
  i2 := by kernel_rfl
  i3 := by kernel_rfl
  i4 := by kernel_rfl
  i5 := by kernel_rfl
  i9 := by kernel_rfl
  i21 := by kernel_rfl
  i37 := by kernel_rfl
  i46 := by kernel_rfl
  i53 := by kernel_rfl
  i75 := by kernel_rfl
  i80 := by kernel_rfl
  i167 := by kernel_rfl
  i175 := by kernel_rfl
  c0 := by kernel_rfl
  c2 := by kernel_rfl
  c3 := by kernel_rfl
  c4 := by kernel_rfl
  c5 := by kernel_rfl
  c9 := by kernel_rfl
  c21 := by kernel_rfl
  c37 := by kernel_rfl
  c46 := by kernel_rfl
  c53 := by kernel_rfl
  c75 := by kernel_rfl
  c80 := by kernel_rfl
  c167 := by kernel_rfl
  c175 := by kernel_rfl }
open Go.RowKit in
/-- internal/strconv.ParseInt(s, 10, 0), s NOT EMPTY: 'Lib.atoiAll' OF ITS BYTES: (the number, nil); (0, ErrSyntax); (the greatest or the least int64 by the sign, ErrRange). The world: as it was, or with the one new row that '[]byte(..)' lays. (LAID: no walk: one application.) -/
theorem Tryd.internal_strconv_ParseInt_10 (s : ByteArray) (hne : s.size ≠ 0) (hmax : s.size ≤ 9223372036854775806) (w : World) :
    Calls Tryd.prog 117 #[.string s, .int .i64 10, .int .i64 0] w fun e w' => e = .returned (Lib.intTuple 132 (Lib.atoiSat s.data.toList) (Lib.atoiAll s.data.toList)) ∧ (w' = w ∨ ∃ t, w' = Lib.bytesWorld w 5 t) := Any.internal_strconv_ParseInt_10 Tryd.laysC247 s hne hmax w
def Tryd.laysC244_ren : Go.Shelf.Ren := ⟨fun | 244 => 101 | 247 => 117 | 287 => 115 | 321 => 128 | 322 => 129 | n => n, fun | 9 => 9 | 3 => 3 | 75 => 68 | 4 => 4 | 5 => 5 | 167 => 132 | 37 => 91 | 0 => 0 | 85 => 133 | 2 => 2 | 53 => 110 | 175 => 119 | 46 => 22 | 21 => 21 | 80 => 33 | n => n, fun | n => n⟩
theorem Tryd.laysC244 : Go.Proofs.LaysC.n244 Tryd.prog Tryd.laysC244_ren := {
  mixed := by kernel_rfl
  f244 := Tryd.func101.trans (congrArg some (by kernel_rfl))
  f247 := Tryd.func117.trans (congrArg some (by kernel_rfl))
  f287 := Tryd.func115.trans (congrArg some (by kernel_rfl))
  f321 := Tryd.func128.trans (congrArg some (by kernel_rfl))
  f322 := Tryd.func129.trans (congrArg some (by kernel_rfl))
  t0 := Tryd.underlying0
  a0 := Tryd.isAgg0
  z0 := Tryd.sizeOf0
  v0 := Tryd.zeroValue0
  t2 := Tryd.underlying2
  a2 := Tryd.isAgg2
  z2 := Tryd.sizeOf2
  v2 := Tryd.zeroValue2
  t3 := Tryd.underlying3
  a3 := Tryd.isAgg3
  z3 := Tryd.sizeOf3
  v3 := Tryd.zeroValue3
  t4 := Tryd.underlying4
  a4 := Tryd.isAgg4
  z4 := Tryd.sizeOf4
  v4 := Tryd.zeroValue4
  t5 := Tryd.underlying5
  a5 := Tryd.isAgg5
  z5 := Tryd.sizeOf5
  v5 := Tryd.zeroValue5
  t9 := Tryd.underlying9
  a9 := Tryd.isAgg9
  z9 := Tryd.sizeOf9
  v9 := Tryd.zeroValue9
  t21 := Tryd.underlying21
  a21 := Tryd.isAgg21
  z21 := Tryd.sizeOf21
  v21 := Tryd.zeroValue21
  t37 := Tryd.underlying91
  a37 := Tryd.isAgg91
  z37 := Tryd.sizeOf91
  v37 := Tryd.zeroValue91
  t46 := Tryd.underlying22
  a46 := Tryd.isAgg22
  z46 := Tryd.sizeOf22
  v46 := Tryd.zeroValue22
  t53 := Tryd.underlying110
  a53 := Tryd.isAgg110
  z53 := Tryd.sizeOf110
  v53 := Tryd.zeroValue110
  t75 := Tryd.underlying68
  a75 := Tryd.isAgg68
  z75 := Tryd.sizeOf68
  v75 := Tryd.zeroValue68
  t85 := Tryd.underlying133
  a85 := Tryd.isAgg133
  z85 := Tryd.sizeOf133
  v85 := Tryd.zeroValue133
  t167 := Tryd.underlying132
  a167 := Tryd.isAgg132
  z167 := Tryd.sizeOf132
  v167 := Tryd.zeroValue132
  t175 := Tryd.underlying119
  a175 := Tryd.isAgg119
  z175 := Tryd.sizeOf119
  v175 := Tryd.zeroValue119
  t80 := Tryd.underlying33
  a80 := Tryd.isAgg33
  z80 := Tryd.sizeOf33
  v80 := Tryd.zeroValue33
  i0 := by kernel_rfl
  i2 := by kernel_rfl
  i3 := by kernel_rfl
  i4 := by kernel_rfl
  i5 := by kernel_rfl
  i9 := by kernel_rfl
  i21 := by kernel_rfl
  i37 := by kernel_rfl
  i46 := by kernel_rfl
  i53 := by kernel_rfl
  i75 := by kernel_rfl
  i80 := by kernel_rfl
  i85 := by kernel_rfl
  i167 := by kernel_rfl
  i175 := by kernel_rfl
  c0 := by kernel_rfl
  c2 := by kernel_rfl
  c3 := by kernel_rfl
  c4 := by kernel_rfl
  c5 := by kernel_rfl
  c9 := by kernel_rfl
  c21 := by kernel_rfl
  c37 := by kernel_rfl
  c46 := by kernel_rfl
  c53 := by kernel_rfl
  c75 := by kernel_rfl
  c80 := by kernel_rfl
  c85 := by kernel_rfl
  c167 := by kernel_rfl
  c175 := by kernel_rfl }
open Go.RowKit in
/-- internal/strconv.Atoi, AT EVERY STRING OF 19 BYTES OR MORE: 'Lib.atoiAll' OF ITS BYTES: (the number, nil); (0, ErrSyntax); (the greatest or the least int by the sign, ErrRange). (LAID: no walk: one application.) -/
theorem Tryd.internal_strconv_Atoi_long (s : ByteArray) (h19 : 19 ≤ s.size) (hmax : s.size ≤ 9223372036854775806) (w : World) :
    Calls Tryd.prog 101 #[.string s] w fun e w' => e = .returned (Lib.intTuple 132 (Lib.atoiSat s.data.toList) (Lib.atoiAll s.data.toList)) ∧ (w' = w ∨ ∃ t, w' = Lib.bytesWorld w 5 t) := Any.internal_strconv_Atoi_long Tryd.laysC244 s h19 hmax w
open Go.RowKit in
/-- internal/strconv.Atoi, AT EVERY STRING: 'Lib.atoiAll' OF ITS BYTES: (the number, nil); (0, ErrSyntax); (the greatest or the least int by the sign, ErrRange). The world: as it was, or with the one new row that '[]byte(..)' lays. (LAID: no walk: one application.) -/
theorem Tryd.internal_strconv_Atoi_all (s : ByteArray) (hmax : s.size ≤ 9223372036854775806) (w : World) :
    Calls Tryd.prog 101 #[.string s] w fun e w' => e = .returned (Lib.intTuple 132 (Lib.atoiSat s.data.toList) (Lib.atoiAll s.data.toList)) ∧ (w' = w ∨ ∃ t, w' = Lib.bytesWorld w 5 t) := Any.internal_strconv_Atoi_all Tryd.laysC244 s hmax w
def Tryd.laysM280_ren : Go.Shelf.Ren := ⟨fun | 280 => 119 | 316 => 130 | n => n, fun | 9 => 9 | 168 => 135 | 75 => 68 | 210 => 146 | 3 => 3 | 4 => 4 | 37 => 91 | 0 => 0 | 127 => 148 | 80 => 33 | 5 => 5 | n => n, fun | 16 => 4 | n => n⟩
theorem Tryd.laysM280 : Go.Proofs.LaysM.n280 Tryd.prog Tryd.laysM280_ren := {
  mixed := by kernel_rfl
  f280 := Tryd.func119.trans (congrArg some (by kernel_rfl))
  f316 := Tryd.func130.trans (congrArg some (by kernel_rfl))
  t0 := Tryd.underlying0
  a0 := Tryd.isAgg0
  z0 := Tryd.sizeOf0
  v0 := Tryd.zeroValue0
  t3 := Tryd.underlying3
  a3 := Tryd.isAgg3
  z3 := Tryd.sizeOf3
  v3 := Tryd.zeroValue3
  t4 := Tryd.underlying4
  a4 := Tryd.isAgg4
  z4 := Tryd.sizeOf4
  v4 := Tryd.zeroValue4
  t9 := Tryd.underlying9
  a9 := Tryd.isAgg9
  z9 := Tryd.sizeOf9
  v9 := Tryd.zeroValue9
  t37 := Tryd.underlying91
  a37 := Tryd.isAgg91
  z37 := Tryd.sizeOf91
  v37 := Tryd.zeroValue91
  t75 := Tryd.underlying68
  a75 := Tryd.isAgg68
  z75 := Tryd.sizeOf68
  v75 := Tryd.zeroValue68
  t127 := Tryd.underlying148
  a127 := Tryd.isAgg148
  z127 := Tryd.sizeOf148
  v127 := Tryd.zeroValue148
  t168 := Tryd.underlying135
  a168 := Tryd.isAgg135
  z168 := Tryd.sizeOf135
  v168 := Tryd.zeroValue135
  t210 := Tryd.underlying146
  a210 := Tryd.isAgg146
  z210 := Tryd.sizeOf146
  v210 := Tryd.zeroValue146
  g16 := by kernel_rfl
  t5 := Tryd.underlying5
  a5 := Tryd.isAgg5
  z5 := Tryd.sizeOf5
  v5 := Tryd.zeroValue5
  t80 := Tryd.underlying33
  a80 := Tryd.isAgg33
  z80 := Tryd.sizeOf33
  v80 := Tryd.zeroValue33
  i0 := by kernel_rfl
  i3 := by kernel_rfl
  i4 := by kernel_rfl
  i5 := by kernel_rfl
  i9 := by kernel_rfl
  i37 := by kernel_rfl
  i75 := by kernel_rfl
  i80 := by kernel_rfl
  i127 := by kernel_rfl
  i168 := by kernel_rfl
  i210 := by kernel_rfl
  m16 := by kernel_rfl }
open Go.RowKit in
/-- strconv.rangeError: '&NumError{fn, stringslite.Clone(str), ErrRange}': A POINTER TO A NEW BLOCK that holds fn, str's bytes, and what the variable ErrRange holds. Of what was there nothing has turned. (LAID: no walk: one application.) -/
theorem Tryd.strconv_rangeError (fn s : ByteArray) (ev : Value) (w : World) (hlim : s.size ≤ 281474976710656) (hv : w.cell? ⟨4, 0, none⟩ = some ev) (hev : ev = .nilIface ∨ ∃ te pe, ev = .iface te pe) :
    Calls Tryd.prog 119 #[.string fn, .string s] w fun e w' => ∃ N, e = .returned (.pointer (some ⟨N, 0, none⟩)) ∧ w.heap.size ≤ N ∧ w'.heap[N]? = some (.cells #[.string fn, .string s, ev] 146 (0, 0)) ∧ Below w.heap.size w w' := Any.strconv_rangeError Tryd.laysM280 fn s ev w hlim hv hev
open Go.RowKit in
/-- strconv.toError, at the inner package's ErrRange: 'rangeError(fn, s)' as an error: A *NumError IN A NEW BLOCK. (LAID: no walk: one application.) -/
theorem Tryd.strconv_toError_range (fn s : ByteArray) (base bits : Int) (ev : Value) (w : World) (hlim : s.size ≤ 281474976710656) (hv : w.cell? ⟨4, 0, none⟩ = some ev) (hev : ev = .nilIface ∨ ∃ te pe, ev = .iface te pe) :
    Calls Tryd.prog 102 #[.string fn, .string s, .int .i64 base, .int .i64 bits, .iface 132 (.int .i64 1)] w fun e w' => ∃ N, e = .returned (.iface 135 (.pointer (some ⟨N, 0, none⟩))) ∧ w.heap.size ≤ N ∧ w'.heap[N]? = some (.cells #[.string fn, .string s, ev] 146 (0, 0)) ∧ Below w.heap.size w w' := Any.strconv_toError_range Tryd.laysC245 fn s base bits ev w hlim hv hev
def Tryd.laysC172_ren : Go.Shelf.Ren := ⟨fun | 172 => 89 | 244 => 101 | 245 => 102 | 247 => 117 | 279 => 118 | 280 => 119 | 281 => 120 | 282 => 121 | 287 => 115 | 316 => 130 | 171 => 131 | 205 => 72 | 321 => 128 | 322 => 129 | 243 => 134 | 246 => 135 | 283 => 107 | 284 => 108 | 285 => 109 | 286 => 110 | 129 => 124 | 317 => 123 | 318 => 125 | 319 => 126 | 320 => 127 | 337 => 132 | 338 => 133 | n => n, fun | 9 => 9 | 3 => 3 | 75 => 68 | 76 => 107 | 4 => 4 | 5 => 5 | 167 => 132 | 37 => 91 | 0 => 0 | 85 => 133 | 2 => 2 | 168 => 135 | 53 => 110 | 175 => 119 | 46 => 22 | 210 => 146 | 127 => 148 | 145 => 114 | 143 => 112 | 21 => 21 | 171 => 127 | 173 => 130 | 212 => 139 | 51 => 140 | 20 => 20 | 213 => 141 | 232 => 149 | 233 => 150 | 80 => 33 | n => n, fun | 15 => 3 | 16 => 4 | 17 => 2 | 18 => 5 | 19 => 6 | n => n⟩
theorem Tryd.laysC172 : Go.Proofs.LaysC.n172 Tryd.prog Tryd.laysC172_ren := {
  mixed := by kernel_rfl
  f129 := Tryd.func124.trans (congrArg some (by kernel_rfl))
  f171 := Tryd.func131.trans (congrArg some (by kernel_rfl))
  f172 := Tryd.func89.trans (congrArg some (by kernel_rfl))
  f205 := Tryd.func72.trans (congrArg some (by kernel_rfl))
  f243 := Tryd.func134.trans (congrArg some (by kernel_rfl))
  f244 := Tryd.func101.trans (congrArg some (by kernel_rfl))
  f245 := Tryd.func102.trans (congrArg some (by kernel_rfl))
  f246 := Tryd.func135.trans (congrArg some (by kernel_rfl))
  f247 := Tryd.func117.trans (congrArg some (by kernel_rfl))
  f279 := Tryd.func118.trans (congrArg some (by kernel_rfl))
  f280 := Tryd.func119.trans (congrArg some (by kernel_rfl))
  f281 := Tryd.func120.trans (congrArg some (by kernel_rfl))
  f282 := Tryd.func121.trans (congrArg some (by kernel_rfl))
  f283 := Tryd.func107.trans (congrArg some (by kernel_rfl))
  f284 := Tryd.func108.trans (congrArg some (by kernel_rfl))
  f285 := Tryd.func109.trans (congrArg some (by kernel_rfl))
  f286 := Tryd.func110.trans (congrArg some (by kernel_rfl))
  f287 := Tryd.func115.trans (congrArg some (by kernel_rfl))
  f316 := Tryd.func130.trans (congrArg some (by kernel_rfl))
  f317 := Tryd.func123.trans (congrArg some (by kernel_rfl))
  f318 := Tryd.func125.trans (congrArg some (by kernel_rfl))
  f319 := Tryd.func126.trans (congrArg some (by kernel_rfl))
  f320 := Tryd.func127.trans (congrArg some (by kernel_rfl))
  f321 := Tryd.func128.trans (congrArg some (by kernel_rfl))
  f322 := Tryd.func129.trans (congrArg some (by kernel_rfl))
  f337 := Tryd.func132.trans (congrArg some (by kernel_rfl))
  f338 := Tryd.func133.trans (congrArg some (by kernel_rfl))
  t0 := Tryd.underlying0
  a0 := Tryd.isAgg0
  z0 := Tryd.sizeOf0
  v0 := Tryd.zeroValue0
  t2 := Tryd.underlying2
  a2 := Tryd.isAgg2
  z2 := Tryd.sizeOf2
  v2 := Tryd.zeroValue2
  t3 := Tryd.underlying3
  a3 := Tryd.isAgg3
  z3 := Tryd.sizeOf3
  v3 := Tryd.zeroValue3
  t4 := Tryd.underlying4
  a4 := Tryd.isAgg4
  z4 := Tryd.sizeOf4
  v4 := Tryd.zeroValue4
  t5 := Tryd.underlying5
  a5 := Tryd.isAgg5
  z5 := Tryd.sizeOf5
  v5 := Tryd.zeroValue5
  t9 := Tryd.underlying9
  a9 := Tryd.isAgg9
  z9 := Tryd.sizeOf9
  v9 := Tryd.zeroValue9
  t20 := Tryd.underlying20
  a20 := Tryd.isAgg20
  z20 := Tryd.sizeOf20
  v20 := Tryd.zeroValue20
  t21 := Tryd.underlying21
  a21 := Tryd.isAgg21
  z21 := Tryd.sizeOf21
  v21 := Tryd.zeroValue21
  t37 := Tryd.underlying91
  a37 := Tryd.isAgg91
  z37 := Tryd.sizeOf91
  v37 := Tryd.zeroValue91
  t46 := Tryd.underlying22
  a46 := Tryd.isAgg22
  z46 := Tryd.sizeOf22
  v46 := Tryd.zeroValue22
  t51 := Tryd.underlying140
  a51 := Tryd.isAgg140
  z51 := Tryd.sizeOf140
  v51 := Tryd.zeroValue140
  t53 := Tryd.underlying110
  a53 := Tryd.isAgg110
  z53 := Tryd.sizeOf110
  v53 := Tryd.zeroValue110
  t75 := Tryd.underlying68
  a75 := Tryd.isAgg68
  z75 := Tryd.sizeOf68
  v75 := Tryd.zeroValue68
  t76 := Tryd.underlying107
  a76 := Tryd.isAgg107
  z76 := Tryd.sizeOf107
  v76 := Tryd.zeroValue107
  t85 := Tryd.underlying133
  a85 := Tryd.isAgg133
  z85 := Tryd.sizeOf133
  v85 := Tryd.zeroValue133
  t127 := Tryd.underlying148
  a127 := Tryd.isAgg148
  z127 := Tryd.sizeOf148
  v127 := Tryd.zeroValue148
  t143 := Tryd.underlying112
  a143 := Tryd.isAgg112
  z143 := Tryd.sizeOf112
  v143 := Tryd.zeroValue112
  t145 := Tryd.underlying114
  a145 := Tryd.isAgg114
  z145 := Tryd.sizeOf114
  v145 := Tryd.zeroValue114
  t167 := Tryd.underlying132
  a167 := Tryd.isAgg132
  z167 := Tryd.sizeOf132
  v167 := Tryd.zeroValue132
  t168 := Tryd.underlying135
  a168 := Tryd.isAgg135
  z168 := Tryd.sizeOf135
  v168 := Tryd.zeroValue135
  t171 := Tryd.underlying127
  a171 := Tryd.isAgg127
  z171 := Tryd.sizeOf127
  v171 := Tryd.zeroValue127
  t173 := Tryd.underlying130
  a173 := Tryd.isAgg130
  z173 := Tryd.sizeOf130
  v173 := Tryd.zeroValue130
  t175 := Tryd.underlying119
  a175 := Tryd.isAgg119
  z175 := Tryd.sizeOf119
  v175 := Tryd.zeroValue119
  t210 := Tryd.underlying146
  a210 := Tryd.isAgg146
  z210 := Tryd.sizeOf146
  v210 := Tryd.zeroValue146
  t212 := Tryd.underlying139
  a212 := Tryd.isAgg139
  z212 := Tryd.sizeOf139
  v212 := Tryd.zeroValue139
  t213 := Tryd.underlying141
  a213 := Tryd.isAgg141
  z213 := Tryd.sizeOf141
  t232 := Tryd.underlying149
  a232 := Tryd.isAgg149
  z232 := Tryd.sizeOf149
  v232 := Tryd.zeroValue149
  t233 := Tryd.underlying150
  a233 := Tryd.isAgg150
  z233 := Tryd.sizeOf150
  v233 := Tryd.zeroValue150
  g15 := by kernel_rfl
  g16 := by kernel_rfl
  g17 := by kernel_rfl
  g18 := by kernel_rfl
  g19 := by kernel_rfl
  t80 := Tryd.underlying33
  a80 := Tryd.isAgg33
  z80 := Tryd.sizeOf33
  v80 := Tryd.zeroValue33
  i0 := by kernel_rfl
  i2 := by kernel_rfl
  i3 := by kernel_rfl
  i4 := by kernel_rfl
  i5 := by kernel_rfl
  i9 := by kernel_rfl
  i20 := by kernel_rfl
  i21 := by kernel_rfl
  i37 := by kernel_rfl
  i46 := by kernel_rfl
  i51 := by kernel_rfl
  i53 := by kernel_rfl
  i75 := by kernel_rfl
  i76 := by kernel_rfl
  i80 := by kernel_rfl
  i85 := by kernel_rfl
  i127 := by kernel_rfl
  i143 := by kernel_rfl
  i145 := by kernel_rfl
  i167 := by kernel_rfl
  i168 := by kernel_rfl
  i171 := by kernel_rfl
  i173 := by kernel_rfl
  i175 := by kernel_rfl
  i210 := by kernel_rfl
  i212 := by kernel_rfl
  i232 := by kernel_rfl
  i233 := by kernel_rfl
  m15 := by kernel_rfl
  m16 := by kernel_rfl
  m17 := by kernel_rfl
  m18 := by kernel_rfl
  m19 := by kernel_rfl
  c0 := by kernel_rfl
  c2 := by kernel_rfl
  c3 := by kernel_rfl
  c4 := by kernel_rfl
  c5 := by kernel_rfl
  c9 := by kernel_rfl
  c20 := by kernel_rfl
  c21 := by kernel_rfl
  c37 := by kernel_rfl
  c46 := by kernel_rfl
  c51 := by kernel_rfl
  c53 := by kernel_rfl
  c75 := by kernel_rfl
  c76 := by kernel_rfl
  c80 := by kernel_rfl
  c85 := by kernel_rfl
  c127 := by kernel_rfl
  c143 := by kernel_rfl
  c145 := by kernel_rfl
  c167 := by kernel_rfl
  c168 := by kernel_rfl
  c171 := by kernel_rfl
  c173 := by kernel_rfl
  c175 := by kernel_rfl
  c210 := by kernel_rfl
  c212 := by kernel_rfl
  c213 := by kernel_rfl
  c232 := by kernel_rfl
  c233 := by kernel_rfl }
open Go.RowKit in
/-- strconv.Atoi, AT EVERY STRING THAT SPELLS AN int ('Lib.atoiAll .. = .ok v'; of whatever length: leading zeros count): v, AND NO ERROR. The world: as it was, or with the one new row that '[]byte(..)' lays. (LAID: no walk: one application.) -/
theorem Tryd.strconv_Atoi_ok (s : ByteArray) (hmax : s.size ≤ 9223372036854775806) (v : Int) (h : Lib.atoiAll s.data.toList = .ok v) (w : World) :
    Calls Tryd.prog 89 #[.string s] w fun e w' => e = .returned (.tuple #[.int .i64 v, .nilIface]) ∧ (w' = w ∨ ∃ t, w' = Lib.bytesWorld w 5 t) := Any.strconv_Atoi_ok Tryd.laysC172 s hmax v h w
open Go.RowKit in
/-- strconv.Atoi, AT EVERY NUMERAL THAT NO int HOLDS ('.range'): THE GREATEST OR THE LEAST int, BY THE SIGN ('Lib.atoiSat'), AND AN ERROR THAT IS NOT nil: a *NumError in a new block N: {Func: "Atoi", Num: s's bytes, Err: what the variable ErrRange holds}. Of what was there nothing has turned. (LAID: no walk: one application.) -/
theorem Tryd.strconv_Atoi_range (s : ByteArray) (hlim : s.size ≤ 281474976710656) (h : Lib.atoiAll s.data.toList = .range) (ev : Value) (w : World) (hv : w.cell? ⟨4, 0, none⟩ = some ev) (hev : ev = .nilIface ∨ ∃ te pe, ev = .iface te pe) :
    Calls Tryd.prog 89 #[.string s] w fun e w' => ∃ N, e = .returned (.tuple #[.int .i64 (Lib.atoiSat s.data.toList), .iface 135 (.pointer (some ⟨N, 0, none⟩))]) ∧ w.heap.size ≤ N ∧ w'.heap[N]? = some (.cells #[.string ⟨#[65, 116, 111, 105]⟩, .string s, ev] 146 (0, 0)) ∧ Below w.heap.size w w' := Any.strconv_Atoi_range Tryd.laysC172 s hlim h ev w hv hev
end Go.Proofs
