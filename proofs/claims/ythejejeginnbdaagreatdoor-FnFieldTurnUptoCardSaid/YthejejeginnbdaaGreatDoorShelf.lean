/-
  DERIVED: THE SHELF's CONTRACTS AT THIS DUMP, IN PLAIN WORDS (tools/lay-plain.mjs out of 'TryzShelf.lean', which tools/lay-shelf.mjs wrote): THE SAME DECLARATIONS UNDER THE SAME NAMES: 'import', 'namespace', 'open', 'def', 'theorem' AND NOTHING ELSE: no command of the shelf's: FOR A HAND-IN. Each laying: the table of numbers ('.._ren') and one theorem, a field a fact of the dump's own or the kernel's comparison; each contract: ONE APPLICATION.
-/
import Derived.Shelf.Strings.Builder1
import Derived.Shelf.Strings.Builder2
import Derived.Shelf.Strings.OnBuilder
import Derived.Shelf.Small.Bits
import Derived.Shelf.Strings.BuilderF
import Derived.Shelf.Strings.BuilderK
import Derived.Shelf.Utf8.AppendRunePlain
import Derived.Shelf.Strconv.Itoa0
import Derived.Shelf.LaysM
import Derived.Shelf.Bytes.Len
import Derived.Shelf.Bytes.TryGrow
import Derived.Shelf.Bytes.GrowSliceCatch
import Derived.Shelf.Bytes.GrowSlice
import Derived.Shelf.Bytes.String
import Derived.Shelf.Bytes.GrowRow0Kept
import Derived.Shelf.Bytes.GrowRowKept
import Derived.Shelf.Bytes.GrowNilKept
import Derived.Shelf.Bytes.GrowKept
import Derived.Shelf.Bytes.WriteByteKept
import Derived.Shelf.Bytes.ResetKept
import Derived.Shelf.Bytes.BufferK
import Derived.Shelf.Bytes.GrowRow0Own
import Derived.Shelf.Bytes.GrowRowOwn
import Derived.Shelf.Bytes.GrowNilOwn
import Derived.Shelf.Bytes.GrowOwn
import Derived.Ground.MzProg
import Derived.Shelf.Wr.WriteRuneAscii
import Derived.Shelf.Wr.WriteRune
import Derived.Ground.GgtProg
import Derived.Shelf.GgSortMore.Iface
import Derived.Shelf.GgSortMore.IfaceD
import Derived.Shelf.GgSortMore.IfacePart
import Derived.Shelf.GgSortMore.IfacePdq
import Derived.Shelf.GgSortMore.SortSort
import Derived.Ground.GguProg
import Derived.Shelf.GgSortLib.LibTypes
import Derived.Ground.GgsProg
import Derived.Shelf.SlSortFunc.Xorshift
import Derived.Shelf.SlSortIface.SiftDown
import Derived.Shelf.SlSortIface.HeapSort
import Derived.Shelf.SlSortIface.PartialInsertion
import Derived.Test.YthejejeginnbdaaGreatDoorProg
namespace Go.Proofs
open Go.Shelf
def Tryz.lays170_ren : Go.Shelf.Ren := ⟨fun | 170 => 126 | n => n, fun | 70 => 159 | 3 => 3 | 0 => 0 | 72 => 161 | 37 => 58 | 5 => 5 | n => n, fun | n => n⟩
theorem Tryz.lays170 : Go.Proofs.Lays.n170 Tryz.prog Tryz.lays170_ren := {
  mixed := by kernel_rfl
  f170 := Tryz.func126.trans (congrArg some (by kernel_rfl))
  t0 := Tryz.underlying0
  a0 := Tryz.isAgg0
  z0 := Tryz.sizeOf0
  v0 := Tryz.zeroValue0
  t3 := Tryz.underlying3
  a3 := Tryz.isAgg3
  z3 := Tryz.sizeOf3
  v3 := Tryz.zeroValue3
  t37 := Tryz.underlying58
  a37 := Tryz.isAgg58
  z37 := Tryz.sizeOf58
  v37 := Tryz.zeroValue58
  t70 := Tryz.underlying159
  a70 := Tryz.isAgg159
  z70 := Tryz.sizeOf159
  v70 := Tryz.zeroValue159
  t72 := Tryz.underlying161
  a72 := Tryz.isAgg161
  z72 := Tryz.sizeOf161
  v72 := Tryz.zeroValue161 }
open Go.RowKit in
/-- (*strings.Builder).Len: "Len returns the number of accumulated bytes; b.Len() == len(b.String()).": the world is as it was. (LAID: no walk: one application.) -/
theorem Tryz.Builder_Len (B b : Nat) (bs : List Value) (w : World) (h : Lib.IsBuilder 161 5 B b bs w) :
    Calls Tryz.prog 126 #[.pointer (some ⟨b, 0, none⟩)] w fun e w' => e = .returned (.int .i64 bs.length) ∧ w' = w := Any.Builder_Len Tryz.lays170 B b bs w h
def Tryz.lays169_ren : Go.Shelf.Ren := ⟨fun | 169 => 92 | n => n, fun | 70 => 159 | 9 => 9 | 0 => 0 | 72 => 161 | 37 => 58 | 127 => 150 | 3 => 3 | 5 => 5 | n => n, fun | n => n⟩
theorem Tryz.lays169 : Go.Proofs.Lays.n169 Tryz.prog Tryz.lays169_ren := {
  mixed := by kernel_rfl
  f169 := Tryz.func92.trans (congrArg some (by kernel_rfl))
  t0 := Tryz.underlying0
  a0 := Tryz.isAgg0
  z0 := Tryz.sizeOf0
  v0 := Tryz.zeroValue0
  t3 := Tryz.underlying3
  a3 := Tryz.isAgg3
  z3 := Tryz.sizeOf3
  v3 := Tryz.zeroValue3
  t9 := Tryz.underlying9
  a9 := Tryz.isAgg9
  z9 := Tryz.sizeOf9
  v9 := Tryz.zeroValue9
  t37 := Tryz.underlying58
  a37 := Tryz.isAgg58
  z37 := Tryz.sizeOf58
  v37 := Tryz.zeroValue58
  t70 := Tryz.underlying159
  a70 := Tryz.isAgg159
  z70 := Tryz.sizeOf159
  v70 := Tryz.zeroValue159
  t72 := Tryz.underlying161
  a72 := Tryz.isAgg161
  z72 := Tryz.sizeOf161
  v72 := Tryz.zeroValue161
  t127 := Tryz.underlying150
  a127 := Tryz.isAgg150
  z127 := Tryz.sizeOf150
  v127 := Tryz.zeroValue150 }
theorem Tryz.Builder_Extra_169 : Builder.Extra Tryz.prog Tryz.lays169_ren := {
  sizeBuilder := by kernel_rfl
  liesBuilder := by kernel_rfl
  t5 := Tryz.underlying5
  a5 := Tryz.isAgg5
  z5 := Tryz.sizeOf5
  v5 := Tryz.zeroValue5
  infoByte := by kernel_rfl
  cellsByte := by kernel_rfl
  sizeByte := by kernel_rfl
  neB5 := by decide }
open Go.RowKit in
/-- (*strings.Builder).String: "String returns the accumulated string.": OF A BUILDER THAT HOLDS AT LEAST ONE BYTE. ✋ THE MODEL FREEZES THOSE BYTES IN THE BUFFER (unsafe.String): a later write INTO them ends the model's run without an answer; a later append BEHIND them goes on. The statement's order of evaluation is drawn: one draw. (LAID: no walk: one application.) -/
theorem Tryz.Builder_String (B b : Nat) (l : List UInt8) (w : World) (h : Lib.IsBuilder 161 5 B b (Lib.byteCells l) w) (h0 : l ≠ []) :
    Calls Tryz.prog 92 #[.pointer (some ⟨b, 0, none⟩)] w fun e w' => e = .returned (.string ⟨l.toArray⟩) ∧ Below B w w' := Any.Builder_String Tryz.lays169 Tryz.Builder_Extra_169 B b l w h h0
open Go.RowKit in
/-- (*strings.Builder).String OF A BUILDER THAT HOLDS NO BYTE: the empty string. (Its buffer is nil, or a row of which it has taken nothing yet; where that row has NO capacity the model lays one new block for unsafe.SliceData's 'some address'.) One draw. (LAID: no walk: one application.) -/
theorem Tryz.Builder_String_empty (B b : Nat) (w : World) (h : Lib.IsBuilder 161 5 B b [] w) (hBw : B ≤ w.heap.size) :
    Calls Tryz.prog 92 #[.pointer (some ⟨b, 0, none⟩)] w fun e w' => e = .returned (.string ⟨#[]⟩) ∧ Below B w w' := Any.Builder_String_empty Tryz.lays169 Tryz.Builder_Extra_169 B b w h hBw
open Go.RowKit in
/-- (*strings.Builder).String: "String returns the accumulated string.": WHATEVER THE BUILDER HOLDS. (LAID: no walk: one application.) -/
theorem Tryz.Builder_String_any (B b : Nat) (l : List UInt8) (w : World) (h : Lib.IsBuilder 161 5 B b (Lib.byteCells l) w) (hBw : B ≤ w.heap.size) :
    Calls Tryz.prog 92 #[.pointer (some ⟨b, 0, none⟩)] w fun e w' => e = .returned (.string ⟨l.toArray⟩) ∧ Below B w w' := Any.Builder_String_any Tryz.lays169 Tryz.Builder_Extra_169 B b l w h hBw
def Tryz.lays241_ren : Go.Shelf.Ren := ⟨fun | 241 => 94 | 277 => 96 | n => n, fun | 70 => 159 | 3 => 3 | 0 => 0 | 72 => 161 | 37 => 58 | 5 => 5 | n => n, fun | n => n⟩
theorem Tryz.lays241 : Go.Proofs.Lays.n241 Tryz.prog Tryz.lays241_ren := {
  mixed := by kernel_rfl
  f241 := Tryz.func94.trans (congrArg some (by kernel_rfl))
  f277 := Tryz.func96.trans (congrArg some (by kernel_rfl))
  t0 := Tryz.underlying0
  a0 := Tryz.isAgg0
  z0 := Tryz.sizeOf0
  v0 := Tryz.zeroValue0
  t3 := Tryz.underlying3
  a3 := Tryz.isAgg3
  z3 := Tryz.sizeOf3
  v3 := Tryz.zeroValue3
  t37 := Tryz.underlying58
  a37 := Tryz.isAgg58
  z37 := Tryz.sizeOf58
  v37 := Tryz.zeroValue58
  t70 := Tryz.underlying159
  a70 := Tryz.isAgg159
  z70 := Tryz.sizeOf159
  v70 := Tryz.zeroValue159
  t72 := Tryz.underlying161
  a72 := Tryz.isAgg161
  z72 := Tryz.sizeOf161
  v72 := Tryz.zeroValue161 }
theorem Tryz.Builder_Extra_241 : Builder.Extra Tryz.prog Tryz.lays241_ren := {
  sizeBuilder := by kernel_rfl
  liesBuilder := by kernel_rfl
  t5 := Tryz.underlying5
  a5 := Tryz.isAgg5
  z5 := Tryz.sizeOf5
  v5 := Tryz.zeroValue5
  infoByte := by kernel_rfl
  cellsByte := by kernel_rfl
  sizeByte := by kernel_rfl
  neB5 := by decide }
open Go.RowKit in
/-- (*strings.Builder).grow (no doc but "grow copies the buffer to a new, larger buffer so that there are at least n bytes of capacity beyond len(b.buf)."): AT A BUILDER WITHOUT A BUFFER: a new row of whatever bytes for its buffer, none of them its own yet. Three draws. (LAID: no walk: one application.) -/
theorem Tryz.Builder_grow_fresh (B b n : Nat) (w : World) (hB : B ≤ b) (hbk : w.heap[b]? = some (.cells #[.pointer (some ⟨b, 0, none⟩), .slice none 0 0] 161 (0, 0))) (hBw : B ≤ w.heap.size) (hn : n ≤ 281474976710656) :
    Calls Tryz.prog 94 #[.pointer (some ⟨b, 0, none⟩), .int .i64 n] w fun e w' => e = .returned (.tuple #[]) ∧ (Lib.BuilderAt 161 5 B b (.pointer (some ⟨b, 0, none⟩)) [] w' ∧ Below B w w') := Any.Builder_grow_fresh Tryz.lays241 Tryz.Builder_Extra_241 B b n w hB hbk hBw hn
def Tryz.lays165_ren : Go.Shelf.Ren := ⟨fun | 165 => 90 | 240 => 93 | 241 => 94 | 276 => 95 | 277 => 96 | n => n, fun | 70 => 159 | 3 => 3 | 0 => 0 | 4 => 4 | 9 => 9 | 20 => 20 | 72 => 161 | 37 => 58 | 164 => 164 | 5 => 5 | n => n, fun | n => n⟩
theorem Tryz.lays165 : Go.Proofs.Lays.n165 Tryz.prog Tryz.lays165_ren := {
  mixed := by kernel_rfl
  f165 := Tryz.func90.trans (congrArg some (by kernel_rfl))
  f240 := Tryz.func93.trans (congrArg some (by kernel_rfl))
  f241 := Tryz.func94.trans (congrArg some (by kernel_rfl))
  f276 := Tryz.func95.trans (congrArg some (by kernel_rfl))
  f277 := Tryz.func96.trans (congrArg some (by kernel_rfl))
  t0 := Tryz.underlying0
  a0 := Tryz.isAgg0
  z0 := Tryz.sizeOf0
  v0 := Tryz.zeroValue0
  t3 := Tryz.underlying3
  a3 := Tryz.isAgg3
  z3 := Tryz.sizeOf3
  v3 := Tryz.zeroValue3
  t4 := Tryz.underlying4
  a4 := Tryz.isAgg4
  z4 := Tryz.sizeOf4
  v4 := Tryz.zeroValue4
  t9 := Tryz.underlying9
  a9 := Tryz.isAgg9
  z9 := Tryz.sizeOf9
  v9 := Tryz.zeroValue9
  t20 := Tryz.underlying20
  a20 := Tryz.isAgg20
  z20 := Tryz.sizeOf20
  v20 := Tryz.zeroValue20
  t37 := Tryz.underlying58
  a37 := Tryz.isAgg58
  z37 := Tryz.sizeOf58
  v37 := Tryz.zeroValue58
  t70 := Tryz.underlying159
  a70 := Tryz.isAgg159
  z70 := Tryz.sizeOf159
  v70 := Tryz.zeroValue159
  t72 := Tryz.underlying161
  a72 := Tryz.isAgg161
  z72 := Tryz.sizeOf161
  v72 := Tryz.zeroValue161
  t164 := Tryz.underlying164
  a164 := Tryz.isAgg164
  z164 := Tryz.sizeOf164
  v164 := Tryz.zeroValue164 }
theorem Tryz.Builder_Extra_165 : Builder.Extra Tryz.prog Tryz.lays165_ren := {
  sizeBuilder := by kernel_rfl
  liesBuilder := by kernel_rfl
  t5 := Tryz.underlying5
  a5 := Tryz.isAgg5
  z5 := Tryz.sizeOf5
  v5 := Tryz.zeroValue5
  infoByte := by kernel_rfl
  cellsByte := by kernel_rfl
  sizeByte := by kernel_rfl
  neB5 := by decide }
open Go.RowKit in
/-- (*strings.Builder).Grow AT A BUILDER THAT HAS NOT BEEN WRITTEN ('var b strings.Builder; b.Grow(n)'): "Grow grows b's capacity, if necessary, to guarantee space for another n bytes.": it holds no byte behind it as before it. (LAID: no walk: one application.) -/
theorem Tryz.Builder_Grow_fresh (B b n : Nat) (w : World) (hB : B ≤ b) (hbk : w.heap[b]? = some (.cells #[.pointer none, .slice none 0 0] 161 (0, 0))) (hBw : B ≤ w.heap.size) (hn : n ≤ 281474976710656) :
    Calls Tryz.prog 90 #[.pointer (some ⟨b, 0, none⟩), .int .i64 n] w fun e w' => e = .returned (.tuple #[]) ∧ (Lib.BuilderAt 161 5 B b (.pointer (some ⟨b, 0, none⟩)) [] w' ∧ Below B w w') := Any.Builder_Grow_fresh Tryz.lays165 Tryz.Builder_Extra_165 B b n w hB hbk hBw hn
def Tryz.lays156_ren : Go.Shelf.Ren := ⟨fun | 156 => 89 | 165 => 90 | 166 => 91 | 169 => 92 | 240 => 93 | 241 => 94 | 276 => 95 | 277 => 96 | n => n, fun | 31 => 63 | 9 => 9 | 3 => 3 | 4 => 4 | 0 => 0 | 20 => 20 | 72 => 161 | 76 => 96 | 70 => 159 | 37 => 58 | 75 => 60 | 127 => 150 | 164 => 164 | 5 => 5 | 80 => 50 | n => n, fun | n => n⟩
theorem Tryz.lays156 : Go.Proofs.Lays.n156 Tryz.prog Tryz.lays156_ren := {
  mixed := by kernel_rfl
  f156 := Tryz.func89.trans (congrArg some (by kernel_rfl))
  f165 := Tryz.func90.trans (congrArg some (by kernel_rfl))
  f166 := Tryz.func91.trans (congrArg some (by kernel_rfl))
  f169 := Tryz.func92.trans (congrArg some (by kernel_rfl))
  f240 := Tryz.func93.trans (congrArg some (by kernel_rfl))
  f241 := Tryz.func94.trans (congrArg some (by kernel_rfl))
  f276 := Tryz.func95.trans (congrArg some (by kernel_rfl))
  f277 := Tryz.func96.trans (congrArg some (by kernel_rfl))
  t0 := Tryz.underlying0
  a0 := Tryz.isAgg0
  z0 := Tryz.sizeOf0
  v0 := Tryz.zeroValue0
  t3 := Tryz.underlying3
  a3 := Tryz.isAgg3
  z3 := Tryz.sizeOf3
  v3 := Tryz.zeroValue3
  t4 := Tryz.underlying4
  a4 := Tryz.isAgg4
  z4 := Tryz.sizeOf4
  v4 := Tryz.zeroValue4
  t9 := Tryz.underlying9
  a9 := Tryz.isAgg9
  z9 := Tryz.sizeOf9
  v9 := Tryz.zeroValue9
  t20 := Tryz.underlying20
  a20 := Tryz.isAgg20
  z20 := Tryz.sizeOf20
  v20 := Tryz.zeroValue20
  t31 := Tryz.underlying63
  a31 := Tryz.isAgg63
  z31 := Tryz.sizeOf63
  v31 := Tryz.zeroValue63
  t37 := Tryz.underlying58
  a37 := Tryz.isAgg58
  z37 := Tryz.sizeOf58
  v37 := Tryz.zeroValue58
  t70 := Tryz.underlying159
  a70 := Tryz.isAgg159
  z70 := Tryz.sizeOf159
  v70 := Tryz.zeroValue159
  t72 := Tryz.underlying161
  a72 := Tryz.isAgg161
  z72 := Tryz.sizeOf161
  v72 := Tryz.zeroValue161
  t75 := Tryz.underlying60
  a75 := Tryz.isAgg60
  z75 := Tryz.sizeOf60
  v75 := Tryz.zeroValue60
  t76 := Tryz.underlying96
  a76 := Tryz.isAgg96
  z76 := Tryz.sizeOf96
  v76 := Tryz.zeroValue96
  t127 := Tryz.underlying150
  a127 := Tryz.isAgg150
  z127 := Tryz.sizeOf150
  v127 := Tryz.zeroValue150
  t164 := Tryz.underlying164
  a164 := Tryz.isAgg164
  z164 := Tryz.sizeOf164
  v164 := Tryz.zeroValue164 }
theorem Tryz.Builder_Extra_156 : Builder.Extra Tryz.prog Tryz.lays156_ren := {
  sizeBuilder := by kernel_rfl
  liesBuilder := by kernel_rfl
  t5 := Tryz.underlying5
  a5 := Tryz.isAgg5
  z5 := Tryz.sizeOf5
  v5 := Tryz.zeroValue5
  infoByte := by kernel_rfl
  cellsByte := by kernel_rfl
  sizeByte := by kernel_rfl
  neB5 := by decide }
open Go.RowKit in
/-- No element: the empty string; the world is as it was. (Whatever the slice's address and capacity: a nil slice too.) (LAID: no walk: one application.) -/
theorem Tryz.strings_Join_none (a : Option Addr) (c : Nat) (sep : ByteArray) (w : World) :
    Calls Tryz.prog 89 #[.slice a 0 c, .string sep] w fun e w' => e = .returned (.string ⟨#[]⟩) ∧ w' = w := Any.strings_Join_none Tryz.lays156 Tryz.Builder_Extra_156 a c sep w
open Go.RowKit in
/-- strings.Join: "Join concatenates the elements of its first argument to create a single string. The separator string sep is placed between elements in the resulting string.": HOWEVER MANY ELEMENTS. Below the heap's end the world is as it was. (LAID: no walk: one application.) -/
theorem Tryz.strings_Join (bk o c : Nat) (xs : List ByteArray) (sep : ByteArray) (w : World) (hcells : ∀ (j : Nat) x, xs[j]? = some x → w.cell? ⟨bk, o + j, none⟩ = some (.string x)) (hbk : bk < w.heap.size) (hN : xs.length ≤ 140737488355328) (hcap : xs.length ≤ c) (hlen : (Lib.join (xs.map (·.data.toList)) sep.data.toList).length ≤ 140737488355328) :
    Calls Tryz.prog 89 #[.slice (some ⟨bk, o, none⟩) xs.length c, .string sep] w fun e w' => e = .returned (.string ⟨(Lib.join (xs.map (·.data.toList)) sep.data.toList).toArray⟩) ∧ Below w.heap.size w w' := Any.strings_Join Tryz.lays156 Tryz.Builder_Extra_156 bk o c xs sep w hcells hbk hN hcap hlen
def Tryz.lays128_ren : Go.Shelf.Ren := ⟨fun | 128 => 51 | n => n, fun | 51 => 114 | 3 => 3 | 4 => 4 | 46 => 107 | 5 => 5 | 9 => 9 | n => n, fun | n => n⟩
theorem Tryz.lays128 : Go.Proofs.Lays.n128 Tryz.prog Tryz.lays128_ren := {
  mixed := by kernel_rfl
  f128 := Tryz.func51.trans (congrArg some (by kernel_rfl))
  t3 := Tryz.underlying3
  a3 := Tryz.isAgg3
  z3 := Tryz.sizeOf3
  v3 := Tryz.zeroValue3
  t4 := Tryz.underlying4
  a4 := Tryz.isAgg4
  z4 := Tryz.sizeOf4
  v4 := Tryz.zeroValue4
  t5 := Tryz.underlying5
  a5 := Tryz.isAgg5
  z5 := Tryz.sizeOf5
  v5 := Tryz.zeroValue5
  t9 := Tryz.underlying9
  a9 := Tryz.isAgg9
  z9 := Tryz.sizeOf9
  v9 := Tryz.zeroValue9
  t46 := Tryz.underlying107
  a46 := Tryz.isAgg107
  z46 := Tryz.sizeOf107
  v46 := Tryz.zeroValue107
  t51 := Tryz.underlying114
  a51 := Tryz.isAgg114
  z51 := Tryz.sizeOf114
  v51 := Tryz.zeroValue114 }
/-- bits.Len32: "Len32 returns the minimum number of bits required to represent x; the result is 0 for x == 0.": IT RETURNS 'Lib.bitLen x'; the world is as it was. ('h0', 'h1': x is a uint32.) (LAID: no walk: one application.) -/
theorem Tryz.bits_Len32 (x : Int) (w : World) (h0 : 0 ≤ x) (h1 : x ≤ 4294967295) :
    Calls Tryz.prog 51 #[.int .u32 x] w fun e w' => e = .returned (.int .i64 (Lib.bitLen x.toNat)) ∧ w' = w := Any.bits_Len32 Tryz.lays128 x w h0 h1
def Tryz.lays125_ren : Go.Shelf.Ren := ⟨fun | 125 => 43 | 128 => 51 | 129 => 52 | n => n, fun | 46 => 107 | 3 => 3 | 51 => 114 | 53 => 122 | 4 => 4 | 5 => 5 | 9 => 9 | n => n, fun | n => n⟩
theorem Tryz.lays125 : Go.Proofs.Lays.n125 Tryz.prog Tryz.lays125_ren := {
  mixed := by kernel_rfl
  f125 := Tryz.func43.trans (congrArg some (by kernel_rfl))
  f128 := Tryz.func51.trans (congrArg some (by kernel_rfl))
  f129 := Tryz.func52.trans (congrArg some (by kernel_rfl))
  t3 := Tryz.underlying3
  a3 := Tryz.isAgg3
  z3 := Tryz.sizeOf3
  v3 := Tryz.zeroValue3
  t4 := Tryz.underlying4
  a4 := Tryz.isAgg4
  z4 := Tryz.sizeOf4
  v4 := Tryz.zeroValue4
  t5 := Tryz.underlying5
  a5 := Tryz.isAgg5
  z5 := Tryz.sizeOf5
  v5 := Tryz.zeroValue5
  t9 := Tryz.underlying9
  a9 := Tryz.isAgg9
  z9 := Tryz.sizeOf9
  v9 := Tryz.zeroValue9
  t46 := Tryz.underlying107
  a46 := Tryz.isAgg107
  z46 := Tryz.sizeOf107
  v46 := Tryz.zeroValue107
  t51 := Tryz.underlying114
  a51 := Tryz.isAgg114
  z51 := Tryz.sizeOf114
  v51 := Tryz.zeroValue114
  t53 := Tryz.underlying122
  a53 := Tryz.isAgg122
  z53 := Tryz.sizeOf122
  v53 := Tryz.zeroValue122 }
/-- bits.Len: "Len returns the minimum number of bits required to represent x; the result is 0 for x == 0.": IT RETURNS 'Lib.bitLen x'; the world is as it was. (A uint has 64 bits in the model.) ITS CALLEE bits.Len64 IS MET BY ITS OWN CONTRACT OFF THE SHELF (lay that first). (LAID: no walk: one application.) -/
theorem Tryz.bits_Len (x : Int) (w : World) (h0 : 0 ≤ x) (h1 : x ≤ 18446744073709551615) :
    Calls Tryz.prog 43 #[.int .u64 x] w fun e w' => e = .returned (.int .i64 (Lib.bitLen x.toNat)) ∧ w' = w := Any.bits_Len Tryz.lays125 x w h0 h1
open Go.RowKit in
/-- (*strings.Builder).Len: "Len returns the number of accumulated bytes; b.Len() == len(b.String()).": the world is as it was. (THE FORM '_f': 'Lib.IsBuilderF'.) (LAID: no walk: one application.) -/
theorem Tryz.Builder_Len_f (B b : Nat) (bs : List Value) (w : World) (h : Lib.IsBuilderF 161 5 B b bs w) :
    Calls Tryz.prog 126 #[.pointer (some ⟨b, 0, none⟩)] w fun e w' => e = .returned (.int .i64 bs.length) ∧ w' = w := Any.Builder_Len_f Tryz.lays170 B b bs w h
open Go.RowKit in
/-- (*strings.Builder).String: "String returns the accumulated string.": OF A BUILDER THAT HOLDS AT LEAST ONE BYTE. ✋ THE MODEL FREEZES THOSE BYTES IN THE BUFFER (unsafe.String): a later write INTO them ends the model's run without an answer; a later append BEHIND them goes on. The statement's order of evaluation is drawn: one draw. THE FORM '_f': IT SAYS BESIDES THAT THE BUILDER IS A BUILDER STILL ('Lib.IsBuilderF', the same bytes): SO IT CAN BE WRITTEN ON: 'b.WriteString(b.String()[:k])'. (LAID: no walk: one application.) -/
theorem Tryz.Builder_String_f (B b : Nat) (l : List UInt8) (w : World) (h : Lib.IsBuilderF 161 5 B b (Lib.byteCells l) w) (h0 : l ≠ []) :
    Calls Tryz.prog 92 #[.pointer (some ⟨b, 0, none⟩)] w fun e w' => e = .returned (.string ⟨l.toArray⟩) ∧ (Lib.IsBuilderF 161 5 B b (Lib.byteCells l) w' ∧ Below B w w') := Any.Builder_String_f Tryz.lays169 Tryz.Builder_Extra_169 B b l w h h0
open Go.RowKit in
/-- (*strings.Builder).String OF A BUILDER THAT HOLDS NO BYTE: the empty string; THE FORM '_f': a builder still. (LAID: no walk: one application.) -/
theorem Tryz.Builder_String_empty_f (B b : Nat) (w : World) (h : Lib.IsBuilderF 161 5 B b [] w) (hBw : B ≤ w.heap.size) :
    Calls Tryz.prog 92 #[.pointer (some ⟨b, 0, none⟩)] w fun e w' => e = .returned (.string ⟨#[]⟩) ∧ (Lib.IsBuilderF 161 5 B b [] w' ∧ Below B w w') := Any.Builder_String_empty_f Tryz.lays169 Tryz.Builder_Extra_169 B b w h hBw
open Go.RowKit in
/-- (*strings.Builder).String: "String returns the accumulated string.": WHATEVER THE BUILDER HOLDS; THE FORM '_f': OF A BUILDER THAT MAY HAVE BEEN READ BEFORE; AND IT IS A BUILDER STILL, holding the same bytes: it can be written on. (LAID: no walk: one application.) -/
theorem Tryz.Builder_String_any_f (B b : Nat) (l : List UInt8) (w : World) (h : Lib.IsBuilderF 161 5 B b (Lib.byteCells l) w) (hBw : B ≤ w.heap.size) :
    Calls Tryz.prog 92 #[.pointer (some ⟨b, 0, none⟩)] w fun e w' => e = .returned (.string ⟨l.toArray⟩) ∧ (Lib.IsBuilderF 161 5 B b (Lib.byteCells l) w' ∧ Below B w w') := Any.Builder_String_any_f Tryz.lays169 Tryz.Builder_Extra_169 B b l w h hBw
open Go.RowKit in
/-- (*strings.Builder).String: "String returns the accumulated string.": OF A BUILDER THAT HOLDS AT LEAST ONE BYTE. ✋ THE MODEL FREEZES THOSE BYTES IN THE BUFFER (unsafe.String): a later write INTO them ends the model's run without an answer; a later append BEHIND them goes on. The statement's order of evaluation is drawn: one draw. THE FORM '_k': OVER 'Lib.IsBuilderF' (a builder that 'String()' may have read), AND WITH THE FRAME THAT REACHES ABOVE THE BUILDER: 'Lib.OthersKept': every block that is not b and is no row of uint8's stands as it stood: the iterator of a range among them. (LAID: no walk: one application.) -/
theorem Tryz.Builder_String_k (B b : Nat) (l : List UInt8) (w : World) (h : Lib.IsBuilderF 161 5 B b (Lib.byteCells l) w) (h0 : l ≠ []) :
    Calls Tryz.prog 92 #[.pointer (some ⟨b, 0, none⟩)] w fun e w' => e = .returned (.string ⟨l.toArray⟩) ∧ (Lib.IsBuilderF 161 5 B b (Lib.byteCells l) w' ∧ Below B w w' ∧ Lib.OthersKept 5 (some b) w w') := Any.Builder_String_k Tryz.lays169 Tryz.Builder_Extra_169 B b l w h h0
open Go.RowKit in
/-- (*strings.Builder).String OF A BUILDER THAT HOLDS NO BYTE: the empty string; THE FORM '_k': OVER 'Lib.IsBuilderF' (a builder that 'String()' may have read), AND WITH THE FRAME THAT REACHES ABOVE THE BUILDER: 'Lib.OthersKept': every block that is not b and is no row of uint8's stands as it stood: the iterator of a range among them. (LAID: no walk: one application.) -/
theorem Tryz.Builder_String_empty_k (B b : Nat) (w : World) (h : Lib.IsBuilderF 161 5 B b [] w) (hBw : B ≤ w.heap.size) :
    Calls Tryz.prog 92 #[.pointer (some ⟨b, 0, none⟩)] w fun e w' => e = .returned (.string ⟨#[]⟩) ∧ (Lib.IsBuilderF 161 5 B b [] w' ∧ Below B w w' ∧ Lib.OthersKept 5 (some b) w w') := Any.Builder_String_empty_k Tryz.lays169 Tryz.Builder_Extra_169 B b w h hBw
open Go.RowKit in
/-- (*strings.Builder).String: "String returns the accumulated string.": WHATEVER THE BUILDER HOLDS; THE FORM '_k': OVER 'Lib.IsBuilderF' (a builder that 'String()' may have read), AND WITH THE FRAME THAT REACHES ABOVE THE BUILDER: 'Lib.OthersKept': every block that is not b and is no row of uint8's stands as it stood: the iterator of a range among them. (LAID: no walk: one application.) -/
theorem Tryz.Builder_String_any_k (B b : Nat) (l : List UInt8) (w : World) (h : Lib.IsBuilderF 161 5 B b (Lib.byteCells l) w) (hBw : B ≤ w.heap.size) :
    Calls Tryz.prog 92 #[.pointer (some ⟨b, 0, none⟩)] w fun e w' => e = .returned (.string ⟨l.toArray⟩) ∧ (Lib.IsBuilderF 161 5 B b (Lib.byteCells l) w' ∧ Below B w w' ∧ Lib.OthersKept 5 (some b) w w') := Any.Builder_String_any_k Tryz.lays169 Tryz.Builder_Extra_169 B b l w h hBw
def Tryz.lays278_ren : Go.Shelf.Ren := ⟨fun | 278 => 64 | n => n, fun | 37 => 58 | 21 => 21 | 51 => 114 | 4 => 4 | 46 => 107 | 5 => 5 | n => n, fun | n => n⟩
theorem Tryz.lays278 : Go.Proofs.Lays.n278 Tryz.prog Tryz.lays278_ren := {
  mixed := by kernel_rfl
  f278 := Tryz.func64.trans (congrArg some (by kernel_rfl))
  t4 := Tryz.underlying4
  a4 := Tryz.isAgg4
  z4 := Tryz.sizeOf4
  v4 := Tryz.zeroValue4
  t5 := Tryz.underlying5
  a5 := Tryz.isAgg5
  z5 := Tryz.sizeOf5
  v5 := Tryz.zeroValue5
  t21 := Tryz.underlying21
  a21 := Tryz.isAgg21
  z21 := Tryz.sizeOf21
  v21 := Tryz.zeroValue21
  t37 := Tryz.underlying58
  a37 := Tryz.isAgg58
  z37 := Tryz.sizeOf58
  v37 := Tryz.zeroValue58
  t46 := Tryz.underlying107
  a46 := Tryz.isAgg107
  z46 := Tryz.sizeOf107
  v46 := Tryz.zeroValue107
  t51 := Tryz.underlying114
  a51 := Tryz.isAgg114
  z51 := Tryz.sizeOf114
  v51 := Tryz.zeroValue114 }
open Go.RowKit in
/-- unicode/utf8.appendRuneNonASCII (what AppendRune calls for all but ASCII), ONTO A ROW OF BYTES THAT THE CALL OWNS: every int32 that is no ASCII rune: 'Lib.runeCells r' goes in behind what the row holds. (LAID: no walk: one application.) -/
theorem Tryz.utf8_appendRuneNonASCII_plain (B : Nat) (v : Value) (n : Nat) (xs : List Value) (r : Int) (hr0 : -2147483648 ≤ r) (hr1 : r ≤ 2147483647) (hna : r < 0 ∨ 128 ≤ r) (w : World) (hown : w.ownsRow B 5 1 v n xs) (hlen : n + 4 ≤ 140737488355328) (hBw : B ≤ w.heap.size) :
    Calls Tryz.prog 64 #[v, .int .i32 r] w fun e w' => ∃ v', e = .returned v' ∧ w'.ownsRow B 5 1 v' (n + (Lib.runeCells r).length) (xs ++ Lib.runeCells r) ∧ ∃ o, (w.alloc o).grownBy w' v.ownBlock := Any.utf8_appendRuneNonASCII_plain Tryz.lays278 (by kernel_rfl) B v n xs r hr0 hr1 hna w hown hlen hBw
def Tryz.lays242_ren : Go.Shelf.Ren := ⟨fun | 242 => 50 | 278 => 64 | n => n, fun | 37 => 58 | 21 => 21 | 51 => 114 | 4 => 4 | 5 => 5 | 46 => 107 | n => n, fun | n => n⟩
theorem Tryz.lays242 : Go.Proofs.Lays.n242 Tryz.prog Tryz.lays242_ren := {
  mixed := by kernel_rfl
  f242 := Tryz.func50.trans (congrArg some (by kernel_rfl))
  f278 := Tryz.func64.trans (congrArg some (by kernel_rfl))
  t4 := Tryz.underlying4
  a4 := Tryz.isAgg4
  z4 := Tryz.sizeOf4
  v4 := Tryz.zeroValue4
  t5 := Tryz.underlying5
  a5 := Tryz.isAgg5
  z5 := Tryz.sizeOf5
  v5 := Tryz.zeroValue5
  t21 := Tryz.underlying21
  a21 := Tryz.isAgg21
  z21 := Tryz.sizeOf21
  v21 := Tryz.zeroValue21
  t37 := Tryz.underlying58
  a37 := Tryz.isAgg58
  z37 := Tryz.sizeOf58
  v37 := Tryz.zeroValue58
  t46 := Tryz.underlying107
  a46 := Tryz.isAgg107
  z46 := Tryz.sizeOf107
  v46 := Tryz.zeroValue107
  t51 := Tryz.underlying114
  a51 := Tryz.isAgg114
  z51 := Tryz.sizeOf114
  v51 := Tryz.zeroValue114 }
open Go.RowKit in
/-- unicode/utf8.AppendRune: "AppendRune appends the UTF-8 encoding of r to the end of p and returns the extended buffer. If the rune is out of range, it appends the encoding of RuneError.": ONTO A ROW OF BYTES THAT THE CALL OWNS (its head frozen or not): EVERY int32: 'Lib.runeCells r' goes in behind what the row holds; the world: one new block (the bytes as the call's variadic argument), then what 'append' does to the row. (LAID: no walk: one application.) -/
theorem Tryz.utf8_AppendRune_plain (B : Nat) (v : Value) (n : Nat) (xs : List Value) (r : Int) (hr0 : -2147483648 ≤ r) (hr1 : r ≤ 2147483647) (w : World) (hown : w.ownsRow B 5 1 v n xs) (hlen : n + 4 ≤ 140737488355328) (hBw : B ≤ w.heap.size) :
    Calls Tryz.prog 50 #[v, .int .i32 r] w fun e w' => ∃ v', e = .returned v' ∧ w'.ownsRow B 5 1 v' (n + (Lib.runeCells r).length) (xs ++ Lib.runeCells r) ∧ ∃ o, (w.alloc o).grownBy w' v.ownBlock := Any.utf8_AppendRune_plain Tryz.lays242 (by kernel_rfl) B v n xs r hr0 hr1 w hown hlen hBw
def Tryz.lays129_ren : Go.Shelf.Ren := ⟨fun | 129 => 52 | n => n, fun | 53 => 122 | 3 => 3 | 4 => 4 | 46 => 107 | 5 => 5 | 9 => 9 | n => n, fun | n => n⟩
theorem Tryz.lays129 : Go.Proofs.Lays.n129 Tryz.prog Tryz.lays129_ren := {
  mixed := by kernel_rfl
  f129 := Tryz.func52.trans (congrArg some (by kernel_rfl))
  t3 := Tryz.underlying3
  a3 := Tryz.isAgg3
  z3 := Tryz.sizeOf3
  v3 := Tryz.zeroValue3
  t4 := Tryz.underlying4
  a4 := Tryz.isAgg4
  z4 := Tryz.sizeOf4
  v4 := Tryz.zeroValue4
  t5 := Tryz.underlying5
  a5 := Tryz.isAgg5
  z5 := Tryz.sizeOf5
  v5 := Tryz.zeroValue5
  t9 := Tryz.underlying9
  a9 := Tryz.isAgg9
  z9 := Tryz.sizeOf9
  v9 := Tryz.zeroValue9
  t46 := Tryz.underlying107
  a46 := Tryz.isAgg107
  z46 := Tryz.sizeOf107
  v46 := Tryz.zeroValue107
  t53 := Tryz.underlying122
  a53 := Tryz.isAgg122
  z53 := Tryz.sizeOf122
  v53 := Tryz.zeroValue122 }
/-- bits.Len64: "Len64 returns the minimum number of bits required to represent x; the result is 0 for x == 0.": IT RETURNS 'Lib.bitLen x'; the world is as it was. ('h0', 'h1': x is a uint64.) (LAID: no walk: one application.) -/
theorem Tryz.bits_Len64 (x : Int) (w : World) (h0 : 0 ≤ x) (h1 : x ≤ 18446744073709551615) :
    Calls Tryz.prog 52 #[.int .u64 x] w fun e w' => e = .returned (.int .i64 (Lib.bitLen x.toNat)) ∧ w' = w := Any.bits_Len64 Tryz.lays129 x w h0 h1
def Tryz.laysM181_ren : Go.Shelf.Ren := ⟨fun | 181 => 61 | n => n, fun | 130 => 94 | 3 => 3 | 0 => 0 | 93 => 113 | 37 => 58 | 91 => 111 | 5 => 5 | n => n, fun | n => n⟩
theorem Tryz.laysM181 : Go.Proofs.LaysM.n181 Tryz.prog Tryz.laysM181_ren := {
  mixed := by kernel_rfl
  f181 := Tryz.func61.trans (congrArg some (by kernel_rfl))
  t0 := Tryz.underlying0
  a0 := Tryz.isAgg0
  z0 := Tryz.sizeOf0
  v0 := Tryz.zeroValue0
  t3 := Tryz.underlying3
  a3 := Tryz.isAgg3
  z3 := Tryz.sizeOf3
  v3 := Tryz.zeroValue3
  t37 := Tryz.underlying58
  a37 := Tryz.isAgg58
  z37 := Tryz.sizeOf58
  v37 := Tryz.zeroValue58
  t93 := Tryz.underlying113
  a93 := Tryz.isAgg113
  z93 := Tryz.sizeOf113
  v93 := Tryz.zeroValue113
  t130 := Tryz.underlying94
  a130 := Tryz.isAgg94
  z130 := Tryz.sizeOf94
  v130 := Tryz.zeroValue94
  t5 := Tryz.underlying5
  a5 := Tryz.isAgg5
  z5 := Tryz.sizeOf5
  v5 := Tryz.zeroValue5
  t91 := Tryz.underlying111
  a91 := Tryz.isAgg111
  z91 := Tryz.sizeOf111
  v91 := Tryz.zeroValue111
  i0 := by kernel_rfl
  i3 := by kernel_rfl
  i5 := by kernel_rfl
  i37 := by kernel_rfl
  i91 := by kernel_rfl
  i93 := by kernel_rfl
  i130 := by kernel_rfl }
open Go.RowKit in
/-- (*bytes.Buffer).Len: "Len returns the number of bytes of the unread portion of the buffer; b.Len() == len(b.Bytes()).": the world is as it was but for the count of draws (the statement has two reads: its order is drawn). (LAID: no walk: one application.) -/
theorem Tryz.Buffer_Len (B b : Nat) (bs : List Value) (w : World) (h : Lib.IsBuffer 113 5 B b bs w) :
    Calls Tryz.prog 61 #[.pointer (some ⟨b, 0, none⟩)] w fun e w' => e = .returned (.int .i64 bs.length) ∧ ∃ n, w' = w.drewN n := Any.Buffer_Len Tryz.laysM181 B b bs w h
def Tryz.laysM251_ren : Go.Shelf.Ren := ⟨fun | 251 => 48 | n => n, fun | 130 => 94 | 3 => 3 | 4 => 4 | 0 => 0 | 93 => 113 | 37 => 58 | 91 => 111 | 5 => 5 | n => n, fun | n => n⟩
theorem Tryz.laysM251 : Go.Proofs.LaysM.n251 Tryz.prog Tryz.laysM251_ren := {
  mixed := by kernel_rfl
  f251 := Tryz.func48.trans (congrArg some (by kernel_rfl))
  t0 := Tryz.underlying0
  a0 := Tryz.isAgg0
  z0 := Tryz.sizeOf0
  v0 := Tryz.zeroValue0
  t3 := Tryz.underlying3
  a3 := Tryz.isAgg3
  z3 := Tryz.sizeOf3
  v3 := Tryz.zeroValue3
  t4 := Tryz.underlying4
  a4 := Tryz.isAgg4
  z4 := Tryz.sizeOf4
  v4 := Tryz.zeroValue4
  t37 := Tryz.underlying58
  a37 := Tryz.isAgg58
  z37 := Tryz.sizeOf58
  v37 := Tryz.zeroValue58
  t93 := Tryz.underlying113
  a93 := Tryz.isAgg113
  z93 := Tryz.sizeOf113
  v93 := Tryz.zeroValue113
  t130 := Tryz.underlying94
  a130 := Tryz.isAgg94
  z130 := Tryz.sizeOf94
  v130 := Tryz.zeroValue94
  t5 := Tryz.underlying5
  a5 := Tryz.isAgg5
  z5 := Tryz.sizeOf5
  v5 := Tryz.zeroValue5
  t91 := Tryz.underlying111
  a91 := Tryz.isAgg111
  z91 := Tryz.sizeOf111
  v91 := Tryz.zeroValue111
  i0 := by kernel_rfl
  i3 := by kernel_rfl
  i4 := by kernel_rfl
  i5 := by kernel_rfl
  i37 := by kernel_rfl
  i91 := by kernel_rfl
  i93 := by kernel_rfl
  i130 := by kernel_rfl }
open Go.RowKit in
/-- (*bytes.Buffer).tryGrowByReslice: "tryGrowByReslice is an inlineable version of grow for the fast-case where the internal buffer only needs to be resliced. It returns the index where bytes should be written and whether it succeeded.": THERE IS ROOM: 'buf' is resliced to l + n. (LAID: no walk: one application.) -/
theorem Tryz.Buffer_tryGrow_room (b : Nat) (ao : Option Addr) (l cap n : Nat) (w : World) (c0 : w.cell? ⟨b, 0, none⟩ = some (.slice ao l cap)) (f0 : w.frozen? ⟨b, 0, none⟩ = false) (hlc : l ≤ cap) (hcap : cap ≤ maxLen) (hn : n ≤ cap - l) :
    Calls Tryz.prog 48 #[.pointer (some ⟨b, 0, none⟩), .int .i64 n] w fun e w' => e = .returned (.tuple #[.int .i64 l, .bool true]) ∧ w' = w.setCell ⟨b, 0, none⟩ (.slice ao (l + n) cap) := Any.Buffer_tryGrow_room Tryz.laysM251 b ao l cap n w c0 f0 hlc hcap hn
open Go.RowKit in
/-- .. THERE IS NONE: nothing turns. (LAID: no walk: one application.) -/
theorem Tryz.Buffer_tryGrow_none (b : Nat) (ao : Option Addr) (l cap n : Nat) (w : World) (c0 : w.cell? ⟨b, 0, none⟩ = some (.slice ao l cap)) (hlc : l ≤ cap) (hcap : cap ≤ maxLen) (hn : cap - l < n) :
    Calls Tryz.prog 48 #[.pointer (some ⟨b, 0, none⟩), .int .i64 n] w fun e w' => e = .returned (.tuple #[.int .i64 0, .bool false]) ∧ w' = w := Any.Buffer_tryGrow_none Tryz.laysM251 b ao l cap n w c0 hlc hcap hn
def Tryz.laysM324_ren : Go.Shelf.Ren := ⟨fun | 324 => 70 | n => n, fun | 20 => 20 | 4 => 4 | 75 => 60 | 0 => 0 | 80 => 50 | 9 => 9 | n => n, fun | 14 => 0 | n => n⟩
theorem Tryz.laysM324 : Go.Proofs.LaysM.n324 Tryz.prog Tryz.laysM324_ren := {
  mixed := by kernel_rfl
  f324 := Tryz.func70.trans (congrArg some (by kernel_rfl))
  t0 := Tryz.underlying0
  a0 := Tryz.isAgg0
  z0 := Tryz.sizeOf0
  v0 := Tryz.zeroValue0
  t4 := Tryz.underlying4
  a4 := Tryz.isAgg4
  z4 := Tryz.sizeOf4
  v4 := Tryz.zeroValue4
  t20 := Tryz.underlying20
  a20 := Tryz.isAgg20
  z20 := Tryz.sizeOf20
  v20 := Tryz.zeroValue20
  t75 := Tryz.underlying60
  a75 := Tryz.isAgg60
  z75 := Tryz.sizeOf60
  v75 := Tryz.zeroValue60
  g14 := by kernel_rfl
  t9 := Tryz.underlying9
  a9 := Tryz.isAgg9
  z9 := Tryz.sizeOf9
  v9 := Tryz.zeroValue9
  t80 := Tryz.underlying50
  a80 := Tryz.isAgg50
  z80 := Tryz.sizeOf50
  v80 := Tryz.zeroValue50
  i0 := by kernel_rfl
  i4 := by kernel_rfl
  i9 := by kernel_rfl
  i20 := by kernel_rfl
  i75 := by kernel_rfl
  i80 := by kernel_rfl
  m14 := by kernel_rfl }
theorem Tryz.growSlice_catch_idle (w : World) :
    CallsD Tryz.prog 70 #[] .returning w fun e u' w' => e = .returned (.tuple #[]) ∧ u' = .returning ∧ w' = w := Any.growSlice_catch_idle Tryz.laysM324 w
def Tryz.laysM290_ren : Go.Shelf.Ren := ⟨fun | 290 => 63 | 324 => 70 | n => n, fun | 37 => 58 | 3 => 3 | 0 => 0 | 4 => 4 | 20 => 20 | 75 => 60 | 5 => 5 | 80 => 50 | 9 => 9 | n => n, fun | 14 => 0 | n => n⟩
theorem Tryz.laysM290 : Go.Proofs.LaysM.n290 Tryz.prog Tryz.laysM290_ren := {
  mixed := by kernel_rfl
  f290 := Tryz.func63.trans (congrArg some (by kernel_rfl))
  f324 := Tryz.func70.trans (congrArg some (by kernel_rfl))
  t0 := Tryz.underlying0
  a0 := Tryz.isAgg0
  z0 := Tryz.sizeOf0
  v0 := Tryz.zeroValue0
  t3 := Tryz.underlying3
  a3 := Tryz.isAgg3
  z3 := Tryz.sizeOf3
  v3 := Tryz.zeroValue3
  t4 := Tryz.underlying4
  a4 := Tryz.isAgg4
  z4 := Tryz.sizeOf4
  v4 := Tryz.zeroValue4
  t20 := Tryz.underlying20
  a20 := Tryz.isAgg20
  z20 := Tryz.sizeOf20
  v20 := Tryz.zeroValue20
  t37 := Tryz.underlying58
  a37 := Tryz.isAgg58
  z37 := Tryz.sizeOf58
  v37 := Tryz.zeroValue58
  t75 := Tryz.underlying60
  a75 := Tryz.isAgg60
  z75 := Tryz.sizeOf60
  v75 := Tryz.zeroValue60
  g14 := by kernel_rfl
  t5 := Tryz.underlying5
  a5 := Tryz.isAgg5
  z5 := Tryz.sizeOf5
  v5 := Tryz.zeroValue5
  t9 := Tryz.underlying9
  a9 := Tryz.isAgg9
  z9 := Tryz.sizeOf9
  v9 := Tryz.zeroValue9
  t80 := Tryz.underlying50
  a80 := Tryz.isAgg50
  z80 := Tryz.sizeOf50
  v80 := Tryz.zeroValue50
  i0 := by kernel_rfl
  i3 := by kernel_rfl
  i4 := by kernel_rfl
  i5 := by kernel_rfl
  i9 := by kernel_rfl
  i20 := by kernel_rfl
  i37 := by kernel_rfl
  i75 := by kernel_rfl
  i80 := by kernel_rfl
  m14 := by kernel_rfl }
open Go.RowKit in
/-- bytes.growSlice: "growSlice grows b by n, preserving the original content of b.": OF A SLICE THAT LIES AT THE HEAD OF A ROW: a new row, number 'w.heap.size': it begins with b's l cells; its capacity has room for n more; whatever lay below is as it was. (LAID: no walk: one application.) -/
theorem Tryz.bytes_growSlice_row (g l c n : Nat) (cur : Array Value) (w : World) (hg : w.heap[g]? = some (.cells cur 5 (0, 0))) (hcs : cur.size = c) (hlc : l ≤ c) (hn : 1 ≤ n) (hlim : l + n ≤ 140737488355328) (hc2 : c ≤ 140737488355328) (h1 : ∀ v ∈ cur.toList.take l, v.oneCell' = true) :
    Calls Tryz.prog 63 #[.slice (some ⟨g, 0, none⟩) l c, .int .i64 n] w fun e w' => ∃ cap2 cells, e = .returned (.slice (some ⟨w.heap.size, 0, none⟩) l cap2) ∧ w'.heap[w.heap.size]? = some (.cells cells 5 (0, 0)) ∧
      cells.size = cap2 ∧ cells.toList.take l = cur.toList.take l ∧ l + n ≤ cap2 ∧ cap2 ≤ maxLen ∧ Below w.heap.size w w' := Any.bytes_growSlice_row Tryz.laysM290 g l c n cur w hg hcs hlc hn hlim hc2 h1
open Go.RowKit in
/-- .. OF THE NIL SLICE: a new row with room for n. (LAID: no walk: one application.) -/
theorem Tryz.bytes_growSlice_nil (n : Nat) (w : World) (hn : 1 ≤ n) (hlim : n ≤ 140737488355328) :
    Calls Tryz.prog 63 #[.slice none 0 0, .int .i64 n] w fun e w' => ∃ cap2 cells, e = .returned (.slice (some ⟨w.heap.size, 0, none⟩) 0 cap2) ∧ w'.heap[w.heap.size]? = some (.cells cells 5 (0, 0)) ∧
      cells.size = cap2 ∧ n ≤ cap2 ∧ cap2 ≤ maxLen ∧ Below w.heap.size w w' := Any.bytes_growSlice_nil Tryz.laysM290 n w hn hlim
def Tryz.laysM182_ren : Go.Shelf.Ren := ⟨fun | 182 => 42 | n => n, fun | 130 => 94 | 9 => 9 | 4 => 4 | 0 => 0 | 93 => 113 | 37 => 58 | 3 => 3 | 91 => 111 | 5 => 5 | n => n, fun | n => n⟩
theorem Tryz.laysM182 : Go.Proofs.LaysM.n182 Tryz.prog Tryz.laysM182_ren := {
  mixed := by kernel_rfl
  f182 := Tryz.func42.trans (congrArg some (by kernel_rfl))
  t0 := Tryz.underlying0
  a0 := Tryz.isAgg0
  z0 := Tryz.sizeOf0
  v0 := Tryz.zeroValue0
  t3 := Tryz.underlying3
  a3 := Tryz.isAgg3
  z3 := Tryz.sizeOf3
  v3 := Tryz.zeroValue3
  t4 := Tryz.underlying4
  a4 := Tryz.isAgg4
  z4 := Tryz.sizeOf4
  v4 := Tryz.zeroValue4
  t9 := Tryz.underlying9
  a9 := Tryz.isAgg9
  z9 := Tryz.sizeOf9
  v9 := Tryz.zeroValue9
  t37 := Tryz.underlying58
  a37 := Tryz.isAgg58
  z37 := Tryz.sizeOf58
  v37 := Tryz.zeroValue58
  t93 := Tryz.underlying113
  a93 := Tryz.isAgg113
  z93 := Tryz.sizeOf113
  v93 := Tryz.zeroValue113
  t130 := Tryz.underlying94
  a130 := Tryz.isAgg94
  z130 := Tryz.sizeOf94
  v130 := Tryz.zeroValue94
  t5 := Tryz.underlying5
  a5 := Tryz.isAgg5
  z5 := Tryz.sizeOf5
  v5 := Tryz.zeroValue5
  t91 := Tryz.underlying111
  a91 := Tryz.isAgg111
  z91 := Tryz.sizeOf111
  v91 := Tryz.zeroValue111
  i0 := by kernel_rfl
  i3 := by kernel_rfl
  i4 := by kernel_rfl
  i5 := by kernel_rfl
  i9 := by kernel_rfl
  i37 := by kernel_rfl
  i91 := by kernel_rfl
  i93 := by kernel_rfl
  i130 := by kernel_rfl }
open Go.RowKit in
/-- (*bytes.Buffer).String: "String returns the contents of the unread portion of the buffer as a string.": THE BYTES THAT WERE WRITTEN. The world is as it was but for the count of draws (the statement has two reads: its order is drawn). (LAID: no walk: one application.) -/
theorem Tryz.Buffer_String (B b : Nat) (l : List UInt8) (w : World) (h : Lib.IsBuffer 113 5 B b (Lib.byteCells l) w) :
    Calls Tryz.prog 42 #[.pointer (some ⟨b, 0, none⟩)] w fun e w' => e = .returned (.string ⟨l.toArray⟩) ∧ ∃ n, w' = w.drewN n := Any.Buffer_String Tryz.laysM182 B b l w h
def Tryz.laysM252_ren : Go.Shelf.Ren := ⟨fun | 252 => 49 | 181 => 61 | 184 => 62 | 251 => 48 | 290 => 63 | 324 => 70 | n => n, fun | 130 => 94 | 3 => 3 | 4 => 4 | 0 => 0 | 93 => 113 | 131 => 116 | 37 => 58 | 75 => 60 | 91 => 111 | 20 => 20 | 5 => 5 | 80 => 50 | 9 => 9 | n => n, fun | 14 => 0 | n => n⟩
theorem Tryz.laysM252 : Go.Proofs.LaysM.n252 Tryz.prog Tryz.laysM252_ren := {
  mixed := by kernel_rfl
  f181 := Tryz.func61.trans (congrArg some (by kernel_rfl))
  f184 := Tryz.func62.trans (congrArg some (by kernel_rfl))
  f251 := Tryz.func48.trans (congrArg some (by kernel_rfl))
  f252 := Tryz.func49.trans (congrArg some (by kernel_rfl))
  f290 := Tryz.func63.trans (congrArg some (by kernel_rfl))
  f324 := Tryz.func70.trans (congrArg some (by kernel_rfl))
  t0 := Tryz.underlying0
  a0 := Tryz.isAgg0
  z0 := Tryz.sizeOf0
  v0 := Tryz.zeroValue0
  t3 := Tryz.underlying3
  a3 := Tryz.isAgg3
  z3 := Tryz.sizeOf3
  v3 := Tryz.zeroValue3
  t4 := Tryz.underlying4
  a4 := Tryz.isAgg4
  z4 := Tryz.sizeOf4
  v4 := Tryz.zeroValue4
  t20 := Tryz.underlying20
  a20 := Tryz.isAgg20
  z20 := Tryz.sizeOf20
  v20 := Tryz.zeroValue20
  t37 := Tryz.underlying58
  a37 := Tryz.isAgg58
  z37 := Tryz.sizeOf58
  v37 := Tryz.zeroValue58
  t75 := Tryz.underlying60
  a75 := Tryz.isAgg60
  z75 := Tryz.sizeOf60
  v75 := Tryz.zeroValue60
  t91 := Tryz.underlying111
  a91 := Tryz.isAgg111
  z91 := Tryz.sizeOf111
  v91 := Tryz.zeroValue111
  t93 := Tryz.underlying113
  a93 := Tryz.isAgg113
  z93 := Tryz.sizeOf113
  v93 := Tryz.zeroValue113
  t130 := Tryz.underlying94
  a130 := Tryz.isAgg94
  z130 := Tryz.sizeOf94
  v130 := Tryz.zeroValue94
  t131 := Tryz.underlying116
  a131 := Tryz.isAgg116
  z131 := Tryz.sizeOf116
  v131 := Tryz.zeroValue116
  g14 := by kernel_rfl
  t5 := Tryz.underlying5
  a5 := Tryz.isAgg5
  z5 := Tryz.sizeOf5
  v5 := Tryz.zeroValue5
  t9 := Tryz.underlying9
  a9 := Tryz.isAgg9
  z9 := Tryz.sizeOf9
  v9 := Tryz.zeroValue9
  t80 := Tryz.underlying50
  a80 := Tryz.isAgg50
  z80 := Tryz.sizeOf50
  v80 := Tryz.zeroValue50
  i0 := by kernel_rfl
  i3 := by kernel_rfl
  i4 := by kernel_rfl
  i5 := by kernel_rfl
  i9 := by kernel_rfl
  i20 := by kernel_rfl
  i37 := by kernel_rfl
  i75 := by kernel_rfl
  i80 := by kernel_rfl
  i91 := by kernel_rfl
  i93 := by kernel_rfl
  i130 := by kernel_rfl
  i131 := by kernel_rfl
  m14 := by kernel_rfl }
open Go.RowKit in
/-- grow, WHERE THE BUFFER HOLDS A ROW, NO BYTE IN IT (behind a Reset), AND THE ROW HAS NO ROOM: growSlice. (THE TEXT OF 'Buffer_grow_row' WITH 0 FOR l, BY PROGRAM: the walk parts on 'm == 0' and writes 0 for l throughout the goal: facts that still say l then do not strike: so l is laid in ahead of the walk.) (LAID: no walk: one application.) -/
theorem Tryz.Buffer_grow_row0_kept (B b g cap n : Nat) (lr : Int) (cur : Array Value) (bs : List Value) (w : World) (hB : B ≤ b) (hBw : B ≤ w.heap.size) (hbk : w.heap[b]? = some (.cells #[.slice (some ⟨g, 0, none⟩) 0 cap, .int .i64 0, .int .i8 lr] 113 (0, 0))) (hl : bs.length = 0) (hBg : B ≤ g) (hg : w.heap[g]? = some (.cells cur 5 (0, 0))) (hlc : 0 ≤ cap) (hcm : cap ≤ maxLen) (hcs : cur.size = cap) (htake : cur.toList.take 0 = bs) (hgb : g ≠ b) (h1 : ∀ v ∈ bs, v.oneCell' = true) (hn : 1 ≤ n) (hroom : cap - 0 < n) (hlim : 0 + n ≤ 140737488355328) :
    Calls Tryz.prog 49 #[.pointer (some ⟨b, 0, none⟩), .int .i64 n] w fun e w' => e = .returned (.int .i64 0) ∧ ∃ xs, xs.length = n ∧ Lib.IsBuffer 113 5 B b (bs ++ xs) w' ∧ Below B w w' ∧ Lib.OthersKept 5 (some b) w w' := Any.Buffer_grow_row0_kept Tryz.laysM252 B b g cap n lr cur bs w hB hBw hbk hl hBg hg hlc hcm hcs htake hgb h1 hn hroom hlim
open Go.RowKit in
/-- grow, WHERE THE BUFFER HOLDS A ROW THAT HAS NO ROOM: growSlice. (LAID: no walk: one application.) -/
theorem Tryz.Buffer_grow_row_kept (B b g l cap n : Nat) (lr : Int) (cur : Array Value) (bs : List Value) (w : World) (hB : B ≤ b) (hBw : B ≤ w.heap.size) (hbk : w.heap[b]? = some (.cells #[.slice (some ⟨g, 0, none⟩) l cap, .int .i64 0, .int .i8 lr] 113 (0, 0))) (hl : bs.length = l) (hBg : B ≤ g) (hg : w.heap[g]? = some (.cells cur 5 (0, 0))) (hlc : l ≤ cap) (hcm : cap ≤ maxLen) (hcs : cur.size = cap) (htake : cur.toList.take l = bs) (hgb : g ≠ b) (h1 : ∀ v ∈ bs, v.oneCell' = true) (hn : 1 ≤ n) (hroom : cap - l < n) (hlim : l + n ≤ 140737488355328) :
    Calls Tryz.prog 49 #[.pointer (some ⟨b, 0, none⟩), .int .i64 n] w fun e w' => e = .returned (.int .i64 l) ∧ ∃ xs, xs.length = n ∧ Lib.IsBuffer 113 5 B b (bs ++ xs) w' ∧ Below B w w' ∧ Lib.OthersKept 5 (some b) w w' := Any.Buffer_grow_row_kept Tryz.laysM252 B b g l cap n lr cur bs w hB hBw hbk hl hBg hg hlc hcm hcs htake hgb h1 hn hroom hlim
open Go.RowKit in
/-- grow, 'buf' nil, n AT MOST 64: 'b.buf = make([]byte, n, smallBufferSize)'. (LAID: no walk: one application.) -/
theorem Tryz.Buffer_grow_nil_small_kept (B b n : Nat) (lr : Int) (w : World) (hB : B ≤ b) (hBw : B ≤ w.heap.size) (hbk : w.heap[b]? = some (.cells #[.slice none 0 0, .int .i64 0, .int .i8 lr] 113 (0, 0))) (hn : 1 ≤ n) (h64 : n ≤ 64) :
    Calls Tryz.prog 49 #[.pointer (some ⟨b, 0, none⟩), .int .i64 n] w fun e w' => e = .returned (.int .i64 0) ∧ ∃ xs, xs.length = n ∧ Lib.IsBuffer 113 5 B b xs w' ∧ Below B w w' ∧ Lib.OthersKept 5 (some b) w w' := Any.Buffer_grow_nil_small_kept Tryz.laysM252 B b n lr w hB hBw hbk hn h64
open Go.RowKit in
/-- grow, 'buf' nil, n ABOVE 64: growSlice of the nil slice. (LAID: no walk: one application.) -/
theorem Tryz.Buffer_grow_nil_big_kept (B b n : Nat) (lr : Int) (w : World) (hB : B ≤ b) (hBw : B ≤ w.heap.size) (hbk : w.heap[b]? = some (.cells #[.slice none 0 0, .int .i64 0, .int .i8 lr] 113 (0, 0))) (h64 : 64 < n) (hlim : n ≤ 140737488355328) :
    Calls Tryz.prog 49 #[.pointer (some ⟨b, 0, none⟩), .int .i64 n] w fun e w' => e = .returned (.int .i64 0) ∧ ∃ xs, xs.length = n ∧ Lib.IsBuffer 113 5 B b xs w' ∧ Below B w w' ∧ Lib.OthersKept 5 (some b) w w' := Any.Buffer_grow_nil_big_kept Tryz.laysM252 B b n lr w hB hBw hbk h64 hlim
open Go.RowKit in
/-- tryGrowByReslice: EITHER there is room: the place to write at is the old length, and the buffer holds the old bytes and n more of whatever lay there; OR there is none: nothing turns, and 'Lib.NoRoom' is what grow asks. (LAID: no walk: one application.) -/
theorem Tryz.Buffer_tryGrow_kept (B b n : Nat) (bs : List Value) (w : World) (h : Lib.IsBuffer 113 5 B b bs w) :
    Calls Tryz.prog 48 #[.pointer (some ⟨b, 0, none⟩), .int .i64 n] w fun e w' =>
      (e = .returned (.tuple #[.int .i64 bs.length, .bool true]) ∧ ∃ xs, xs.length = n ∧ Lib.IsBuffer 113 5 B b (bs ++ xs) w' ∧ Below B w w' ∧ Lib.OthersKept 5 (some b) w w') ∨
      (e = .returned (.tuple #[.int .i64 0, .bool false]) ∧ w' = w ∧ Lib.NoRoom b n w) := Any.Buffer_tryGrow_kept Tryz.laysM251 B b n bs w h
open Go.RowKit in
/-- (*bytes.Buffer).grow: "grow grows the buffer to guarantee space for n more bytes. It returns the index where bytes should be written.": WHERE THERE IS NO ROOM; UNDER Go's OWN LIMIT (the new length takes at most 2^47 bytes): the old length; the buffer holds the old bytes and n more of whatever. (LAID: no walk: one application.) -/
theorem Tryz.Buffer_grow_kept (B b n : Nat) (bs : List Value) (w : World) (h : Lib.IsBuffer 113 5 B b bs w) (hnr : Lib.NoRoom b n w) (hBw : B ≤ w.heap.size) (h1 : ∀ v ∈ bs, v.oneCell' = true) (hlim : bs.length + n ≤ 140737488355328) :
    Calls Tryz.prog 49 #[.pointer (some ⟨b, 0, none⟩), .int .i64 n] w fun e w' => e = .returned (.int .i64 bs.length) ∧ ∃ xs, xs.length = n ∧ Lib.IsBuffer 113 5 B b (bs ++ xs) w' ∧ Below B w w' ∧ Lib.OthersKept 5 (some b) w w' := Any.Buffer_grow_kept Tryz.laysM252 B b n bs w h hnr hBw h1 hlim
def Tryz.laysM179_ren : Go.Shelf.Ren := ⟨fun | 179 => 47 | 251 => 48 | 252 => 49 | 181 => 61 | 184 => 62 | 290 => 63 | 324 => 70 | n => n, fun | 130 => 94 | 5 => 5 | 75 => 60 | 0 => 0 | 93 => 113 | 91 => 111 | 3 => 3 | 131 => 116 | 4 => 4 | 37 => 58 | 20 => 20 | 80 => 50 | 9 => 9 | n => n, fun | 14 => 0 | n => n⟩
theorem Tryz.laysM179 : Go.Proofs.LaysM.n179 Tryz.prog Tryz.laysM179_ren := {
  mixed := by kernel_rfl
  f179 := Tryz.func47.trans (congrArg some (by kernel_rfl))
  f181 := Tryz.func61.trans (congrArg some (by kernel_rfl))
  f184 := Tryz.func62.trans (congrArg some (by kernel_rfl))
  f251 := Tryz.func48.trans (congrArg some (by kernel_rfl))
  f252 := Tryz.func49.trans (congrArg some (by kernel_rfl))
  f290 := Tryz.func63.trans (congrArg some (by kernel_rfl))
  f324 := Tryz.func70.trans (congrArg some (by kernel_rfl))
  t0 := Tryz.underlying0
  a0 := Tryz.isAgg0
  z0 := Tryz.sizeOf0
  v0 := Tryz.zeroValue0
  t3 := Tryz.underlying3
  a3 := Tryz.isAgg3
  z3 := Tryz.sizeOf3
  v3 := Tryz.zeroValue3
  t4 := Tryz.underlying4
  a4 := Tryz.isAgg4
  z4 := Tryz.sizeOf4
  v4 := Tryz.zeroValue4
  t5 := Tryz.underlying5
  a5 := Tryz.isAgg5
  z5 := Tryz.sizeOf5
  v5 := Tryz.zeroValue5
  t20 := Tryz.underlying20
  a20 := Tryz.isAgg20
  z20 := Tryz.sizeOf20
  v20 := Tryz.zeroValue20
  t37 := Tryz.underlying58
  a37 := Tryz.isAgg58
  z37 := Tryz.sizeOf58
  v37 := Tryz.zeroValue58
  t75 := Tryz.underlying60
  a75 := Tryz.isAgg60
  z75 := Tryz.sizeOf60
  v75 := Tryz.zeroValue60
  t91 := Tryz.underlying111
  a91 := Tryz.isAgg111
  z91 := Tryz.sizeOf111
  v91 := Tryz.zeroValue111
  t93 := Tryz.underlying113
  a93 := Tryz.isAgg113
  z93 := Tryz.sizeOf113
  v93 := Tryz.zeroValue113
  t130 := Tryz.underlying94
  a130 := Tryz.isAgg94
  z130 := Tryz.sizeOf94
  v130 := Tryz.zeroValue94
  t131 := Tryz.underlying116
  a131 := Tryz.isAgg116
  z131 := Tryz.sizeOf116
  v131 := Tryz.zeroValue116
  g14 := by kernel_rfl
  t9 := Tryz.underlying9
  a9 := Tryz.isAgg9
  z9 := Tryz.sizeOf9
  v9 := Tryz.zeroValue9
  t80 := Tryz.underlying50
  a80 := Tryz.isAgg50
  z80 := Tryz.sizeOf50
  v80 := Tryz.zeroValue50
  i0 := by kernel_rfl
  i3 := by kernel_rfl
  i4 := by kernel_rfl
  i5 := by kernel_rfl
  i9 := by kernel_rfl
  i20 := by kernel_rfl
  i37 := by kernel_rfl
  i75 := by kernel_rfl
  i80 := by kernel_rfl
  i91 := by kernel_rfl
  i93 := by kernel_rfl
  i130 := by kernel_rfl
  i131 := by kernel_rfl
  m14 := by kernel_rfl }
open Go.RowKit in
/-- (*bytes.Buffer).WriteByte: "WriteByte appends the byte c to the buffer, growing the buffer as needed. The returned error is always nil". (LAID: no walk: one application.) -/
theorem Tryz.Buffer_WriteByte_kept (B b : Nat) (bs : List Value) (c : Int) (w : World) (h : Lib.IsBuffer 113 5 B b bs w) (hBw : B ≤ w.heap.size) (h1 : ∀ v ∈ bs, v.oneCell' = true) (hlim : bs.length + 1 ≤ 140737488355328) :
    Calls Tryz.prog 47 #[.pointer (some ⟨b, 0, none⟩), .int .u8 c] w fun e w' => e = .returned .nilIface ∧ Lib.IsBuffer 113 5 B b (bs ++ [.int .u8 c]) w' ∧ Below B w w' ∧ Lib.OthersKept 5 (some b) w w' := Any.Buffer_WriteByte_kept Tryz.laysM179 B b bs c w h hBw h1 hlim
def Tryz.laysM184_ren : Go.Shelf.Ren := ⟨fun | 184 => 62 | n => n, fun | 130 => 94 | 0 => 0 | 93 => 113 | 37 => 58 | 3 => 3 | 91 => 111 | 5 => 5 | n => n, fun | n => n⟩
theorem Tryz.laysM184 : Go.Proofs.LaysM.n184 Tryz.prog Tryz.laysM184_ren := {
  mixed := by kernel_rfl
  f184 := Tryz.func62.trans (congrArg some (by kernel_rfl))
  t0 := Tryz.underlying0
  a0 := Tryz.isAgg0
  z0 := Tryz.sizeOf0
  v0 := Tryz.zeroValue0
  t3 := Tryz.underlying3
  a3 := Tryz.isAgg3
  z3 := Tryz.sizeOf3
  v3 := Tryz.zeroValue3
  t37 := Tryz.underlying58
  a37 := Tryz.isAgg58
  z37 := Tryz.sizeOf58
  v37 := Tryz.zeroValue58
  t91 := Tryz.underlying111
  a91 := Tryz.isAgg111
  z91 := Tryz.sizeOf111
  v91 := Tryz.zeroValue111
  t93 := Tryz.underlying113
  a93 := Tryz.isAgg113
  z93 := Tryz.sizeOf113
  v93 := Tryz.zeroValue113
  t130 := Tryz.underlying94
  a130 := Tryz.isAgg94
  z130 := Tryz.sizeOf94
  v130 := Tryz.zeroValue94
  t5 := Tryz.underlying5
  a5 := Tryz.isAgg5
  z5 := Tryz.sizeOf5
  v5 := Tryz.zeroValue5
  i0 := by kernel_rfl
  i3 := by kernel_rfl
  i5 := by kernel_rfl
  i37 := by kernel_rfl
  i91 := by kernel_rfl
  i93 := by kernel_rfl
  i130 := by kernel_rfl }
open Go.RowKit in
/-- (*bytes.Buffer).Reset: "Reset resets the buffer to be empty, but it retains the underlying storage for use by future writes." (LAID: no walk: one application.) -/
theorem Tryz.Buffer_Reset_kept (B b : Nat) (bs : List Value) (w : World) (h : Lib.IsBuffer 113 5 B b bs w) :
    Calls Tryz.prog 62 #[.pointer (some ⟨b, 0, none⟩)] w fun e w' => e = .returned (.tuple #[]) ∧ Lib.IsBuffer 113 5 B b [] w' ∧ Below B w w' ∧ Lib.OthersKept 5 (some b) w w' := Any.Buffer_Reset_kept Tryz.laysM184 B b bs w h
open Go.RowKit in
theorem Tryz.Buffer_WriteByte_k (B b : Nat) (bs : List Value) (c : Int) (w : World) (h : Lib.IsBuffer 113 5 B b bs w) (hBw : B ≤ w.heap.size) (h1 : ∀ v ∈ bs, v.oneCell' = true) (hlim : bs.length + 1 ≤ 140737488355328) :
    Calls Tryz.prog 47 #[.pointer (some ⟨b, 0, none⟩), .int .u8 c] w fun e w' => e = .returned .nilIface ∧ Lib.IsBuffer 113 5 B b (bs ++ [.int .u8 c]) w' ∧ Below B w w' ∧ Lib.OthersKept 5 (some b) w w' := Any.Buffer_WriteByte_k Tryz.laysM179 B b bs c w h hBw h1 hlim
open Go.RowKit in
theorem Tryz.Buffer_Reset_k (B b : Nat) (bs : List Value) (w : World) (h : Lib.IsBuffer 113 5 B b bs w) :
    Calls Tryz.prog 62 #[.pointer (some ⟨b, 0, none⟩)] w fun e w' => e = .returned (.tuple #[]) ∧ Lib.IsBuffer 113 5 B b [] w' ∧ Below B w w' ∧ Lib.OthersKept 5 (some b) w w' := Any.Buffer_Reset_k Tryz.laysM184 B b bs w h
open Go.RowKit in
/-- grow, WHERE THE BUFFER HOLDS A ROW, NO BYTE IN IT (behind a Reset), AND THE ROW HAS NO ROOM: growSlice. (THE TEXT OF 'Buffer_grow_row' WITH 0 FOR l, BY PROGRAM: the walk parts on 'm == 0' and writes 0 for l throughout the goal: facts that still say l then do not strike: so l is laid in ahead of the walk.) (LAID: no walk: one application.) -/
theorem Tryz.Buffer_grow_row0_own (B b g cap n : Nat) (lr : Int) (cur : Array Value) (bs : List Value) (w : World) (hB : B ≤ b) (hBw : B ≤ w.heap.size) (hbk : w.heap[b]? = some (.cells #[.slice (some ⟨g, 0, none⟩) 0 cap, .int .i64 0, .int .i8 lr] 113 (0, 0))) (hl : bs.length = 0) (hBg : B ≤ g) (hg : w.heap[g]? = some (.cells cur 5 (0, 0))) (hlc : 0 ≤ cap) (hcm : cap ≤ maxLen) (hcs : cur.size = cap) (htake : cur.toList.take 0 = bs) (hgb : g ≠ b) (h1 : ∀ v ∈ bs, v.oneCell' = true) (hn : 1 ≤ n) (hroom : cap - 0 < n) (hlim : 0 + n ≤ 140737488355328) :
    Calls Tryz.prog 49 #[.pointer (some ⟨b, 0, none⟩), .int .i64 n] w fun e w' => e = .returned (.int .i64 0) ∧ ∃ xs, xs.length = n ∧ Lib.IsBuffer 113 5 B b (bs ++ xs) w' ∧ Below B w w' ∧ Lib.OthersKept 5 (some b) w w' ∧ w.grownBy w' (some b) := Any.Buffer_grow_row0_own Tryz.laysM252 B b g cap n lr cur bs w hB hBw hbk hl hBg hg hlc hcm hcs htake hgb h1 hn hroom hlim
open Go.RowKit in
/-- grow, WHERE THE BUFFER HOLDS A ROW THAT HAS NO ROOM: growSlice. (LAID: no walk: one application.) -/
theorem Tryz.Buffer_grow_row_own (B b g l cap n : Nat) (lr : Int) (cur : Array Value) (bs : List Value) (w : World) (hB : B ≤ b) (hBw : B ≤ w.heap.size) (hbk : w.heap[b]? = some (.cells #[.slice (some ⟨g, 0, none⟩) l cap, .int .i64 0, .int .i8 lr] 113 (0, 0))) (hl : bs.length = l) (hBg : B ≤ g) (hg : w.heap[g]? = some (.cells cur 5 (0, 0))) (hlc : l ≤ cap) (hcm : cap ≤ maxLen) (hcs : cur.size = cap) (htake : cur.toList.take l = bs) (hgb : g ≠ b) (h1 : ∀ v ∈ bs, v.oneCell' = true) (hn : 1 ≤ n) (hroom : cap - l < n) (hlim : l + n ≤ 140737488355328) :
    Calls Tryz.prog 49 #[.pointer (some ⟨b, 0, none⟩), .int .i64 n] w fun e w' => e = .returned (.int .i64 l) ∧ ∃ xs, xs.length = n ∧ Lib.IsBuffer 113 5 B b (bs ++ xs) w' ∧ Below B w w' ∧ Lib.OthersKept 5 (some b) w w' ∧ w.grownBy w' (some b) := Any.Buffer_grow_row_own Tryz.laysM252 B b g l cap n lr cur bs w hB hBw hbk hl hBg hg hlc hcm hcs htake hgb h1 hn hroom hlim
open Go.RowKit in
/-- grow, 'buf' nil, n AT MOST 64: 'b.buf = make([]byte, n, smallBufferSize)'. (LAID: no walk: one application.) -/
theorem Tryz.Buffer_grow_nil_small_own (B b n : Nat) (lr : Int) (w : World) (hB : B ≤ b) (hBw : B ≤ w.heap.size) (hbk : w.heap[b]? = some (.cells #[.slice none 0 0, .int .i64 0, .int .i8 lr] 113 (0, 0))) (hn : 1 ≤ n) (h64 : n ≤ 64) :
    Calls Tryz.prog 49 #[.pointer (some ⟨b, 0, none⟩), .int .i64 n] w fun e w' => e = .returned (.int .i64 0) ∧ ∃ xs, xs.length = n ∧ Lib.IsBuffer 113 5 B b xs w' ∧ Below B w w' ∧ Lib.OthersKept 5 (some b) w w' ∧ w.grownBy w' (some b) := Any.Buffer_grow_nil_small_own Tryz.laysM252 B b n lr w hB hBw hbk hn h64
open Go.RowKit in
/-- grow, 'buf' nil, n ABOVE 64: growSlice of the nil slice. (LAID: no walk: one application.) -/
theorem Tryz.Buffer_grow_nil_big_own (B b n : Nat) (lr : Int) (w : World) (hB : B ≤ b) (hBw : B ≤ w.heap.size) (hbk : w.heap[b]? = some (.cells #[.slice none 0 0, .int .i64 0, .int .i8 lr] 113 (0, 0))) (h64 : 64 < n) (hlim : n ≤ 140737488355328) :
    Calls Tryz.prog 49 #[.pointer (some ⟨b, 0, none⟩), .int .i64 n] w fun e w' => e = .returned (.int .i64 0) ∧ ∃ xs, xs.length = n ∧ Lib.IsBuffer 113 5 B b xs w' ∧ Below B w w' ∧ Lib.OthersKept 5 (some b) w w' ∧ w.grownBy w' (some b) := Any.Buffer_grow_nil_big_own Tryz.laysM252 B b n lr w hB hBw hbk h64 hlim
open Go.RowKit in
/-- tryGrowByReslice: EITHER there is room: the place to write at is the old length, and the buffer holds the old bytes and n more of whatever lay there; OR there is none: nothing turns, and 'Lib.NoRoom' is what grow asks. (LAID: no walk: one application.) -/
theorem Tryz.Buffer_tryGrow_own (B b n : Nat) (bs : List Value) (w : World) (h : Lib.IsBuffer 113 5 B b bs w) :
    Calls Tryz.prog 48 #[.pointer (some ⟨b, 0, none⟩), .int .i64 n] w fun e w' =>
      (e = .returned (.tuple #[.int .i64 bs.length, .bool true]) ∧ ∃ xs, xs.length = n ∧ Lib.IsBuffer 113 5 B b (bs ++ xs) w' ∧ Below B w w' ∧ Lib.OthersKept 5 (some b) w w' ∧ w.grownBy w' (some b)) ∨
      (e = .returned (.tuple #[.int .i64 0, .bool false]) ∧ w' = w ∧ Lib.NoRoom b n w) := Any.Buffer_tryGrow_own Tryz.laysM251 B b n bs w h
open Go.RowKit in
/-- (*bytes.Buffer).grow: "grow grows the buffer to guarantee space for n more bytes. It returns the index where bytes should be written.": WHERE THERE IS NO ROOM; UNDER Go's OWN LIMIT (the new length takes at most 2^47 bytes): the old length; the buffer holds the old bytes and n more of whatever. (LAID: no walk: one application.) -/
theorem Tryz.Buffer_grow_own (B b n : Nat) (bs : List Value) (w : World) (h : Lib.IsBuffer 113 5 B b bs w) (hnr : Lib.NoRoom b n w) (hBw : B ≤ w.heap.size) (h1 : ∀ v ∈ bs, v.oneCell' = true) (hlim : bs.length + n ≤ 140737488355328) :
    Calls Tryz.prog 49 #[.pointer (some ⟨b, 0, none⟩), .int .i64 n] w fun e w' => e = .returned (.int .i64 bs.length) ∧ ∃ xs, xs.length = n ∧ Lib.IsBuffer 113 5 B b (bs ++ xs) w' ∧ Below B w w' ∧ Lib.OthersKept 5 (some b) w w' ∧ w.grownBy w' (some b) := Any.Buffer_grow_own Tryz.laysM252 B b n bs w h hnr hBw h1 hlim
def Tryz.laysWr5_ren : Go.Shelf.Ren := ⟨fun | 5 => 41 | 7 => 47 | 8 => 48 | 9 => 49 | 10 => 50 | 11 => 61 | 12 => 62 | 13 => 63 | 14 => 64 | 15 => 70 | n => n, fun | 34 => 94 | 21 => 21 | 3 => 3 | 28 => 60 | 35 => 114 | 4 => 4 | 5 => 5 | 0 => 0 | 26 => 113 | 24 => 111 | 37 => 116 | 22 => 58 | 43 => 107 | 20 => 20 | 31 => 50 | 9 => 9 | n => n, fun | 0 => 0 | n => n⟩
theorem Tryz.laysWr5 : Go.Proofs.LaysWr.n5 Tryz.prog Tryz.laysWr5_ren := {
  mixed := by kernel_rfl
  f5 := Tryz.func41.trans (congrArg some (by kernel_rfl))
  f7 := Tryz.func47.trans (congrArg some (by kernel_rfl))
  f8 := Tryz.func48.trans (congrArg some (by kernel_rfl))
  f9 := Tryz.func49.trans (congrArg some (by kernel_rfl))
  f10 := Tryz.func50.trans (congrArg some (by kernel_rfl))
  f11 := Tryz.func61.trans (congrArg some (by kernel_rfl))
  f12 := Tryz.func62.trans (congrArg some (by kernel_rfl))
  f13 := Tryz.func63.trans (congrArg some (by kernel_rfl))
  f14 := Tryz.func64.trans (congrArg some (by kernel_rfl))
  f15 := Tryz.func70.trans (congrArg some (by kernel_rfl))
  t0 := Tryz.underlying0
  a0 := Tryz.isAgg0
  z0 := Tryz.sizeOf0
  v0 := Tryz.zeroValue0
  i0 := by kernel_rfl
  t3 := Tryz.underlying3
  a3 := Tryz.isAgg3
  z3 := Tryz.sizeOf3
  v3 := Tryz.zeroValue3
  i3 := by kernel_rfl
  t4 := Tryz.underlying4
  a4 := Tryz.isAgg4
  z4 := Tryz.sizeOf4
  v4 := Tryz.zeroValue4
  i4 := by kernel_rfl
  t5 := Tryz.underlying5
  a5 := Tryz.isAgg5
  z5 := Tryz.sizeOf5
  v5 := Tryz.zeroValue5
  i5 := by kernel_rfl
  t9 := Tryz.underlying9
  a9 := Tryz.isAgg9
  z9 := Tryz.sizeOf9
  v9 := Tryz.zeroValue9
  i9 := by kernel_rfl
  t20 := Tryz.underlying20
  a20 := Tryz.isAgg20
  z20 := Tryz.sizeOf20
  v20 := Tryz.zeroValue20
  i20 := by kernel_rfl
  t21 := Tryz.underlying21
  a21 := Tryz.isAgg21
  z21 := Tryz.sizeOf21
  v21 := Tryz.zeroValue21
  i21 := by kernel_rfl
  t22 := Tryz.underlying58
  a22 := Tryz.isAgg58
  z22 := Tryz.sizeOf58
  v22 := Tryz.zeroValue58
  i22 := by kernel_rfl
  t24 := Tryz.underlying111
  a24 := Tryz.isAgg111
  z24 := Tryz.sizeOf111
  v24 := Tryz.zeroValue111
  i24 := by kernel_rfl
  t26 := Tryz.underlying113
  a26 := Tryz.isAgg113
  z26 := Tryz.sizeOf113
  v26 := Tryz.zeroValue113
  i26 := by kernel_rfl
  t28 := Tryz.underlying60
  a28 := Tryz.isAgg60
  z28 := Tryz.sizeOf60
  v28 := Tryz.zeroValue60
  i28 := by kernel_rfl
  t31 := Tryz.underlying50
  a31 := Tryz.isAgg50
  z31 := Tryz.sizeOf50
  v31 := Tryz.zeroValue50
  i31 := by kernel_rfl
  t34 := Tryz.underlying94
  a34 := Tryz.isAgg94
  z34 := Tryz.sizeOf94
  v34 := Tryz.zeroValue94
  i34 := by kernel_rfl
  t35 := Tryz.underlying114
  a35 := Tryz.isAgg114
  z35 := Tryz.sizeOf114
  v35 := Tryz.zeroValue114
  i35 := by kernel_rfl
  t37 := Tryz.underlying116
  a37 := Tryz.isAgg116
  z37 := Tryz.sizeOf116
  v37 := Tryz.zeroValue116
  i37 := by kernel_rfl
  t43 := Tryz.underlying107
  a43 := Tryz.isAgg107
  z43 := Tryz.sizeOf107
  v43 := Tryz.zeroValue107
  i43 := by kernel_rfl
  g0 := by kernel_rfl
  m0 := by kernel_rfl }
open Go.RowKit in
/-- (*bytes.Buffer).WriteRune, AT A RUNE OF ASCII: (1, nil); THE BUFFER HOLDS ONE BYTE MORE: r. The frames: as WriteByte's '_k'. (LAID: no walk: one application.) -/
theorem Tryz.Buffer_WriteRune_ascii (B b : Nat) (bs : List Value) (r : Int) (h0 : 0 ≤ r) (h128 : r < 128) (w : World) (h : Lib.IsBuffer 113 5 B b bs w) (hBw : B ≤ w.heap.size) (h1 : ∀ v ∈ bs, v.oneCell' = true) (hlim : bs.length + 1 ≤ 140737488355328) :
    Calls Tryz.prog 41 #[.pointer (some ⟨b, 0, none⟩), .int .i32 r] w fun e w' => e = .returned (.tuple #[.int .i64 1, .nilIface]) ∧ Lib.IsBuffer 113 5 B b (bs ++ [.int .u8 r]) w' ∧ Below B w w' ∧ Lib.OthersKept 5 (some b) w w' := Any.Buffer_WriteRune_ascii Tryz.laysWr5 B b bs r h0 h128 w h hBw h1 hlim
open Go.RowKit in
/-- (*bytes.Buffer).WriteRune, AT A RUNE THAT IS NOT OF ASCII (negative, or from 128 on). (LAID: no walk: one application.) -/
theorem Tryz.Buffer_WriteRune_other (B b : Nat) (bs : List Value) (r : Int) (hr0 : -2147483648 ≤ r) (hr1 : r ≤ 2147483647) (hna : r < 0 ∨ 128 ≤ r) (w : World) (h : Lib.IsBuffer 113 5 B b bs w) (hBw : B ≤ w.heap.size) (h1 : ∀ v ∈ bs, v.oneCell' = true) (hlim : bs.length + 4 ≤ 140737488355328) :
    Calls Tryz.prog 41 #[.pointer (some ⟨b, 0, none⟩), .int .i32 r] w fun e w' => e = .returned (.tuple #[.int .i64 (Lib.runeCells r).length, .nilIface]) ∧ Lib.IsBuffer 113 5 B b (bs ++ Lib.runeCells r) w' ∧ Below B w w' ∧ Lib.OthersKept 5 (some b) w w' := Any.Buffer_WriteRune_other Tryz.laysWr5 B b bs r hr0 hr1 hna w h hBw h1 hlim
open Go.RowKit in
/-- (*bytes.Buffer).WriteRune, AT EVERY RUNE: (the number of its bytes, nil); THE BUFFER HOLDS THEM BEHIND WHAT IT HELD. The frames: as '_k'. NO WALK: the two roads as one. (LAID: no walk: one application.) -/
theorem Tryz.Buffer_WriteRune_k (B b : Nat) (bs : List Value) (r : Int) (hr0 : -2147483648 ≤ r) (hr1 : r ≤ 2147483647) (w : World) (h : Lib.IsBuffer 113 5 B b bs w) (hBw : B ≤ w.heap.size) (h1 : ∀ v ∈ bs, v.oneCell' = true) (hlim : bs.length + 4 ≤ 140737488355328) :
    Calls Tryz.prog 41 #[.pointer (some ⟨b, 0, none⟩), .int .i32 r] w fun e w' => e = .returned (.tuple #[.int .i64 (Lib.runeCells r).length, .nilIface]) ∧ Lib.IsBuffer 113 5 B b (bs ++ Lib.runeCells r) w' ∧ Below B w w' ∧ Lib.OthersKept 5 (some b) w w' := Any.Buffer_WriteRune_k Tryz.laysWr5 B b bs r hr0 hr1 w h hBw h1 hlim
def Tryz.laysGt33_ren : Go.Shelf.Ren := ⟨fun | 33 => 53 | n => n, fun | 45 => 104 | 3 => 3 | 4 => 4 | 0 => 0 | 43 => 105 | 26 => 128 | 38 => 132 | n => n, fun | n => n⟩
theorem Tryz.laysGt33 : Go.Proofs.LaysGt.n33 Tryz.prog Tryz.laysGt33_ren := {
  mixed := by kernel_rfl
  f33 := Tryz.func53.trans (congrArg some (by kernel_rfl))
  t0 := Tryz.underlying0
  a0 := Tryz.isAgg0
  z0 := Tryz.sizeOf0
  v0 := Tryz.zeroValue0
  i0 := by kernel_rfl
  t3 := Tryz.underlying3
  a3 := Tryz.isAgg3
  z3 := Tryz.sizeOf3
  v3 := Tryz.zeroValue3
  i3 := by kernel_rfl
  t4 := Tryz.underlying4
  a4 := Tryz.isAgg4
  z4 := Tryz.sizeOf4
  v4 := Tryz.zeroValue4
  i4 := by kernel_rfl
  t26 := Tryz.underlying128
  a26 := Tryz.isAgg128
  z26 := Tryz.sizeOf128
  v26 := Tryz.zeroValue128
  i26 := by kernel_rfl
  t38 := Tryz.underlying132
  a38 := Tryz.isAgg132
  z38 := Tryz.sizeOf132
  v38 := Tryz.zeroValue132
  i38 := by kernel_rfl
  t43 := Tryz.underlying105
  a43 := Tryz.isAgg105
  z43 := Tryz.sizeOf105
  v43 := Tryz.zeroValue105
  i43 := by kernel_rfl
  t45 := Tryz.underlying104
  a45 := Tryz.isAgg104
  z45 := Tryz.sizeOf104
  v45 := Tryz.zeroValue104
  i45 := by kernel_rfl }
open Go.RowKit Go.Lib Go.Sort in
theorem Tryz.insertionSort_iface {α : Type} [Inhabited α] (T : TypeId) (rv : Value) (gl gs : Nat) (rL : Reaches Tryz.prog T rv "Less" gl) (rS : Reaches Tryz.prog T rv "Swap" gs) (enc : α → Value) (lt : α → α → Bool) (blk off a b : Nat) (d : Array α) (w : World) (hless : LessM Tryz.prog gl rv enc lt blk off d.size w) (hswap : SwapM Tryz.prog gs rv enc blk off d.size) (hH : Holds enc w blk off d) (hab : a ≤ b) (hb : b ≤ d.size) (hsz : d.size < 4611686018427387904) :
    Calls Tryz.prog 53 #[.iface T rv, .int .i64 a, .int .i64 b] w fun e w' =>
      e = .returned (.tuple #[]) ∧ ∃ n, w' = putRow enc (Sort.ahead w n) blk off (Sort.insertionSort lt d a b) := Any.insertionSort_iface Tryz.laysGt33 T rv gl gs rL rS enc lt blk off a b d w hless hswap hH hab hb hsz
open Go.RowKit Go.Lib Go.Sort in
/-- sort.insertionSort, from a world to a 'sortWorld' of it. (LAID: no walk: one application.) -/
theorem Tryz.insertionSort_iface_w {α : Type} [Inhabited α] (T : TypeId) (rv : Value) (gl gs : Nat) (rL : Reaches Tryz.prog T rv "Less" gl) (rS : Reaches Tryz.prog T rv "Swap" gs) (enc : α → Value) (lt : α → α → Bool) (blk off a b : Nat) (d : Array α) (w : World) (hless : LessM Tryz.prog gl rv enc lt blk off d.size w) (hswap : SwapM Tryz.prog gs rv enc blk off d.size) (hH : Holds enc w blk off d) (hab : a ≤ b) (hb : b ≤ d.size) (hsz : d.size < 4611686018427387904) :
    Calls Tryz.prog 53 #[.iface T rv, .int .i64 a, .int .i64 b] w fun e w' => e = .returned (.tuple #[]) ∧ ∃ n os, w' = sortWorld enc w blk off n (Sort.insertionSort lt d a b) os := Any.insertionSort_iface_w Tryz.laysGt33 T rv gl gs rL rS enc lt blk off a b d w hless hswap hH hab hb hsz
def Tryz.laysGt37_ren : Go.Shelf.Ren := ⟨fun | 37 => 57 | n => n, fun | 45 => 104 | 3 => 3 | 4 => 4 | 0 => 0 | 43 => 105 | 26 => 128 | 38 => 132 | n => n, fun | n => n⟩
theorem Tryz.laysGt37 : Go.Proofs.LaysGt.n37 Tryz.prog Tryz.laysGt37_ren := {
  mixed := by kernel_rfl
  f37 := Tryz.func57.trans (congrArg some (by kernel_rfl))
  t0 := Tryz.underlying0
  a0 := Tryz.isAgg0
  z0 := Tryz.sizeOf0
  v0 := Tryz.zeroValue0
  i0 := by kernel_rfl
  t3 := Tryz.underlying3
  a3 := Tryz.isAgg3
  z3 := Tryz.sizeOf3
  v3 := Tryz.zeroValue3
  i3 := by kernel_rfl
  t4 := Tryz.underlying4
  a4 := Tryz.isAgg4
  z4 := Tryz.sizeOf4
  v4 := Tryz.zeroValue4
  i4 := by kernel_rfl
  t26 := Tryz.underlying128
  a26 := Tryz.isAgg128
  z26 := Tryz.sizeOf128
  v26 := Tryz.zeroValue128
  i26 := by kernel_rfl
  t38 := Tryz.underlying132
  a38 := Tryz.isAgg132
  z38 := Tryz.sizeOf132
  v38 := Tryz.zeroValue132
  i38 := by kernel_rfl
  t43 := Tryz.underlying105
  a43 := Tryz.isAgg105
  z43 := Tryz.sizeOf105
  v43 := Tryz.zeroValue105
  i43 := by kernel_rfl
  t45 := Tryz.underlying104
  a45 := Tryz.isAgg104
  z45 := Tryz.sizeOf104
  v45 := Tryz.zeroValue104
  i45 := by kernel_rfl }
open Go.RowKit Go.Lib Go.Sort in
theorem Tryz.reverseRange_iface {α : Type} [Inhabited α] (T : TypeId) (rv : Value) (gs : Nat) (rS : Reaches Tryz.prog T rv "Swap" gs) (enc : α → Value) (blk off a b : Nat) (d : Array α) (w : World) (hswap : SwapM Tryz.prog gs rv enc blk off d.size) (hH : Holds enc w blk off d) (hab : a ≤ b) (hb : b ≤ d.size) (hsz : d.size < 4611686018427387904) :
    Calls Tryz.prog 57 #[.iface T rv, .int .i64 a, .int .i64 b] w fun e w' => e = .returned (.tuple #[]) ∧ ∃ n, w' = putRow enc (Sort.ahead w n) blk off (reverseRange d a b) := Any.reverseRange_iface Tryz.laysGt37 T rv gs rS enc blk off a b d w hswap hH hab hb hsz
open Go.RowKit Go.Lib Go.Sort in
theorem Tryz.reverseRange_iface_w {α : Type} [Inhabited α] (T : TypeId) (rv : Value) (gs : Nat) (rS : Reaches Tryz.prog T rv "Swap" gs) (enc : α → Value) (blk off a b : Nat) (d : Array α) (w : World) (hswap : SwapM Tryz.prog gs rv enc blk off d.size) (hH : Holds enc w blk off d) (hab : a ≤ b) (hb : b ≤ d.size) (hsz : d.size < 4611686018427387904) :
    Calls Tryz.prog 57 #[.iface T rv, .int .i64 a, .int .i64 b] w fun e w' => e = .returned (.tuple #[]) ∧ ∃ n os, w' = sortWorld enc w blk off n (reverseRange d a b) os := Any.reverseRange_iface_w Tryz.laysGt37 T rv gs rS enc blk off a b d w hswap hH hab hb hsz
def Tryz.laysGt50_ren : Go.Shelf.Ren := ⟨fun | 50 => 71 | n => n, fun | 45 => 104 | 3 => 3 | 71 => 137 | 4 => 4 | 0 => 0 | 43 => 105 | 26 => 128 | 38 => 132 | n => n, fun | n => n⟩
theorem Tryz.laysGt50 : Go.Proofs.LaysGt.n50 Tryz.prog Tryz.laysGt50_ren := {
  mixed := by kernel_rfl
  f50 := Tryz.func71.trans (congrArg some (by kernel_rfl))
  t0 := Tryz.underlying0
  a0 := Tryz.isAgg0
  z0 := Tryz.sizeOf0
  v0 := Tryz.zeroValue0
  i0 := by kernel_rfl
  t3 := Tryz.underlying3
  a3 := Tryz.isAgg3
  z3 := Tryz.sizeOf3
  v3 := Tryz.zeroValue3
  i3 := by kernel_rfl
  t4 := Tryz.underlying4
  a4 := Tryz.isAgg4
  z4 := Tryz.sizeOf4
  v4 := Tryz.zeroValue4
  i4 := by kernel_rfl
  t26 := Tryz.underlying128
  a26 := Tryz.isAgg128
  z26 := Tryz.sizeOf128
  v26 := Tryz.zeroValue128
  i26 := by kernel_rfl
  t38 := Tryz.underlying132
  a38 := Tryz.isAgg132
  z38 := Tryz.sizeOf132
  v38 := Tryz.zeroValue132
  i38 := by kernel_rfl
  t43 := Tryz.underlying105
  a43 := Tryz.isAgg105
  z43 := Tryz.sizeOf105
  v43 := Tryz.zeroValue105
  i43 := by kernel_rfl
  t45 := Tryz.underlying104
  a45 := Tryz.isAgg104
  z45 := Tryz.sizeOf104
  v45 := Tryz.zeroValue104
  i45 := by kernel_rfl
  t71 := Tryz.underlying137
  a71 := Tryz.isAgg137
  z71 := Tryz.sizeOf137
  v71 := Tryz.zeroValue137
  i71 := by kernel_rfl }
open Go.RowKit Go.Lib Go.Sort in
theorem Tryz.order2_iface {α : Type} [Inhabited α] (T : TypeId) (rv : Value) (gl : Nat) (rL : Reaches Tryz.prog T rv "Less" gl) (enc : α → Value) (lt : α → α → Bool) (blk off : Nat) (w0 W : World) (d : Array α) (a b cb co s : Nat) (hL : LessM Tryz.prog gl rv enc lt blk off d.size w0) (hW : SW enc w0 blk off d W) (ha : a < d.size) (hb : b < d.size) (hS : Holds (Value.int .i64) W cb co (one s)) (hs : s < 4611686018427387904) :
    Calls Tryz.prog 71 #[.iface T rv, .int .i64 a, .int .i64 b, .pointer (some ⟨cb, co, none⟩)] W fun e w' =>
      e = .returned (.tuple #[.int .i64 (order2 lt d a b s).1, .int .i64 (order2 lt d a b s).2.1]) ∧ ∃ n os, w' = sortWorld (Value.int .i64) W cb co n (one (order2 lt d a b s).2.2) os := Any.order2_iface Tryz.laysGt50 T rv gl rL enc lt blk off w0 W d a b cb co s hL hW ha hb hS hs
def Tryz.laysGt47_ren : Go.Shelf.Ren := ⟨fun | 47 => 69 | 50 => 71 | n => n, fun | 45 => 104 | 3 => 3 | 71 => 137 | 74 => 140 | 4 => 4 | 0 => 0 | 43 => 105 | 26 => 128 | 38 => 132 | n => n, fun | n => n⟩
theorem Tryz.laysGt47 : Go.Proofs.LaysGt.n47 Tryz.prog Tryz.laysGt47_ren := {
  mixed := by kernel_rfl
  f47 := Tryz.func69.trans (congrArg some (by kernel_rfl))
  f50 := Tryz.func71.trans (congrArg some (by kernel_rfl))
  t0 := Tryz.underlying0
  a0 := Tryz.isAgg0
  z0 := Tryz.sizeOf0
  v0 := Tryz.zeroValue0
  i0 := by kernel_rfl
  t3 := Tryz.underlying3
  a3 := Tryz.isAgg3
  z3 := Tryz.sizeOf3
  v3 := Tryz.zeroValue3
  i3 := by kernel_rfl
  t4 := Tryz.underlying4
  a4 := Tryz.isAgg4
  z4 := Tryz.sizeOf4
  v4 := Tryz.zeroValue4
  i4 := by kernel_rfl
  t26 := Tryz.underlying128
  a26 := Tryz.isAgg128
  z26 := Tryz.sizeOf128
  v26 := Tryz.zeroValue128
  i26 := by kernel_rfl
  t38 := Tryz.underlying132
  a38 := Tryz.isAgg132
  z38 := Tryz.sizeOf132
  v38 := Tryz.zeroValue132
  i38 := by kernel_rfl
  t43 := Tryz.underlying105
  a43 := Tryz.isAgg105
  z43 := Tryz.sizeOf105
  v43 := Tryz.zeroValue105
  i43 := by kernel_rfl
  t45 := Tryz.underlying104
  a45 := Tryz.isAgg104
  z45 := Tryz.sizeOf104
  v45 := Tryz.zeroValue104
  i45 := by kernel_rfl
  t71 := Tryz.underlying137
  a71 := Tryz.isAgg137
  z71 := Tryz.sizeOf137
  v71 := Tryz.zeroValue137
  i71 := by kernel_rfl
  t74 := Tryz.underlying140
  a74 := Tryz.isAgg140
  z74 := Tryz.sizeOf140
  v74 := Tryz.zeroValue140
  i74 := by kernel_rfl }
open Go.RowKit Go.Lib Go.Sort in
theorem Tryz.median_iface {α : Type} [Inhabited α] (T : TypeId) (rv : Value) (gl : Nat) (rL : Reaches Tryz.prog T rv "Less" gl) (enc : α → Value) (lt : α → α → Bool) (blk off : Nat) (w0 W : World) (d : Array α) (a b c cb co s : Nat) (hL : LessM Tryz.prog gl rv enc lt blk off d.size w0) (hW : SW enc w0 blk off d W) (ha : a < d.size) (hb : b < d.size) (hc : c < d.size) (hS : Holds (Value.int .i64) W cb co (one s)) (hcb0 : w0.heap.size ≤ cb) (hcb : cb < W.heap.size) (hs : s + 3 < 4611686018427387904) :
    Calls Tryz.prog 69 #[.iface T rv, .int .i64 a, .int .i64 b, .int .i64 c, .pointer (some ⟨cb, co, none⟩)] W fun e w' =>
      e = .returned (.int .i64 (median lt d a b c s).1) ∧ ∃ n os, w' = sortWorld (Value.int .i64) W cb co n (one (median lt d a b c s).2) os := Any.median_iface Tryz.laysGt47 T rv gl rL enc lt blk off w0 W d a b c cb co s hL hW ha hb hc hS hcb0 hcb hs
def Tryz.laysGt46_ren : Go.Shelf.Ren := ⟨fun | 46 => 68 | 47 => 69 | 50 => 71 | n => n, fun | 45 => 104 | 3 => 3 | 71 => 137 | 74 => 140 | 4 => 4 | 0 => 0 | 43 => 105 | 26 => 128 | 38 => 132 | n => n, fun | n => n⟩
theorem Tryz.laysGt46 : Go.Proofs.LaysGt.n46 Tryz.prog Tryz.laysGt46_ren := {
  mixed := by kernel_rfl
  f46 := Tryz.func68.trans (congrArg some (by kernel_rfl))
  f47 := Tryz.func69.trans (congrArg some (by kernel_rfl))
  f50 := Tryz.func71.trans (congrArg some (by kernel_rfl))
  t0 := Tryz.underlying0
  a0 := Tryz.isAgg0
  z0 := Tryz.sizeOf0
  v0 := Tryz.zeroValue0
  i0 := by kernel_rfl
  t3 := Tryz.underlying3
  a3 := Tryz.isAgg3
  z3 := Tryz.sizeOf3
  v3 := Tryz.zeroValue3
  i3 := by kernel_rfl
  t4 := Tryz.underlying4
  a4 := Tryz.isAgg4
  z4 := Tryz.sizeOf4
  v4 := Tryz.zeroValue4
  i4 := by kernel_rfl
  t26 := Tryz.underlying128
  a26 := Tryz.isAgg128
  z26 := Tryz.sizeOf128
  v26 := Tryz.zeroValue128
  i26 := by kernel_rfl
  t38 := Tryz.underlying132
  a38 := Tryz.isAgg132
  z38 := Tryz.sizeOf132
  v38 := Tryz.zeroValue132
  i38 := by kernel_rfl
  t43 := Tryz.underlying105
  a43 := Tryz.isAgg105
  z43 := Tryz.sizeOf105
  v43 := Tryz.zeroValue105
  i43 := by kernel_rfl
  t45 := Tryz.underlying104
  a45 := Tryz.isAgg104
  z45 := Tryz.sizeOf104
  v45 := Tryz.zeroValue104
  i45 := by kernel_rfl
  t71 := Tryz.underlying137
  a71 := Tryz.isAgg137
  z71 := Tryz.sizeOf137
  v71 := Tryz.zeroValue137
  i71 := by kernel_rfl
  t74 := Tryz.underlying140
  a74 := Tryz.isAgg140
  z74 := Tryz.sizeOf140
  v74 := Tryz.zeroValue140
  i74 := by kernel_rfl }
open Go.RowKit Go.Lib Go.Sort in
theorem Tryz.medianAdjacent_iface {α : Type} [Inhabited α] (T : TypeId) (rv : Value) (gl : Nat) (rL : Reaches Tryz.prog T rv "Less" gl) (enc : α → Value) (lt : α → α → Bool) (blk off : Nat) (w0 W : World) (d : Array α) (a cb co s : Nat) (hL : LessM Tryz.prog gl rv enc lt blk off d.size w0) (hW : SW enc w0 blk off d W) (ha1 : 1 ≤ a) (ha2 : a + 1 < d.size) (hsz : d.size < 4611686018427387904) (hS : Holds (Value.int .i64) W cb co (one s)) (hcb0 : w0.heap.size ≤ cb) (hcb : cb < W.heap.size) (hs : s + 3 < 4611686018427387904) :
    Calls Tryz.prog 68 #[.iface T rv, .int .i64 a, .pointer (some ⟨cb, co, none⟩)] W fun e w' =>
      e = .returned (.int .i64 (medianAdjacent lt d a s).1) ∧ ∃ n os, w' = sortWorld (Value.int .i64) W cb co n (one (medianAdjacent lt d a s).2) os := Any.medianAdjacent_iface Tryz.laysGt46 T rv gl rL enc lt blk off w0 W d a cb co s hL hW ha1 ha2 hsz hS hcb0 hcb hs
def Tryz.laysGt36_ren : Go.Shelf.Ren := ⟨fun | 36 => 56 | 46 => 68 | 47 => 69 | 50 => 71 | n => n, fun | 45 => 104 | 3 => 3 | 60 => 124 | 0 => 0 | 4 => 4 | 71 => 137 | 74 => 140 | 43 => 105 | 26 => 128 | 38 => 132 | n => n, fun | n => n⟩
theorem Tryz.laysGt36 : Go.Proofs.LaysGt.n36 Tryz.prog Tryz.laysGt36_ren := {
  mixed := by kernel_rfl
  f36 := Tryz.func56.trans (congrArg some (by kernel_rfl))
  f46 := Tryz.func68.trans (congrArg some (by kernel_rfl))
  f47 := Tryz.func69.trans (congrArg some (by kernel_rfl))
  f50 := Tryz.func71.trans (congrArg some (by kernel_rfl))
  t0 := Tryz.underlying0
  a0 := Tryz.isAgg0
  z0 := Tryz.sizeOf0
  v0 := Tryz.zeroValue0
  i0 := by kernel_rfl
  t3 := Tryz.underlying3
  a3 := Tryz.isAgg3
  z3 := Tryz.sizeOf3
  v3 := Tryz.zeroValue3
  i3 := by kernel_rfl
  t4 := Tryz.underlying4
  a4 := Tryz.isAgg4
  z4 := Tryz.sizeOf4
  v4 := Tryz.zeroValue4
  i4 := by kernel_rfl
  t26 := Tryz.underlying128
  a26 := Tryz.isAgg128
  z26 := Tryz.sizeOf128
  v26 := Tryz.zeroValue128
  i26 := by kernel_rfl
  t38 := Tryz.underlying132
  a38 := Tryz.isAgg132
  z38 := Tryz.sizeOf132
  v38 := Tryz.zeroValue132
  i38 := by kernel_rfl
  t43 := Tryz.underlying105
  a43 := Tryz.isAgg105
  z43 := Tryz.sizeOf105
  v43 := Tryz.zeroValue105
  i43 := by kernel_rfl
  t45 := Tryz.underlying104
  a45 := Tryz.isAgg104
  z45 := Tryz.sizeOf104
  v45 := Tryz.zeroValue104
  i45 := by kernel_rfl
  t60 := Tryz.underlying124
  a60 := Tryz.isAgg124
  z60 := Tryz.sizeOf124
  v60 := Tryz.zeroValue124
  i60 := by kernel_rfl
  t71 := Tryz.underlying137
  a71 := Tryz.isAgg137
  z71 := Tryz.sizeOf137
  v71 := Tryz.zeroValue137
  i71 := by kernel_rfl
  t74 := Tryz.underlying140
  a74 := Tryz.isAgg140
  z74 := Tryz.sizeOf140
  v74 := Tryz.zeroValue140
  i74 := by kernel_rfl }
open Go.RowKit Go.Lib Go.Sort in
/-- sort.choosePivot (zsortinterface.go): THE LIBRARY's OWN TEXT COMPUTES 'Sort.choosePivot lt d a b'; the row is not turned; W is grown. (Derived/Shelf/GgSortFunc/Pivot.lean's text, turned by program.) (LAID: no walk: one application.) -/
theorem Tryz.choosePivot_iface {α : Type} [Inhabited α] (T : TypeId) (rv : Value) (gl : Nat) (rL : Reaches Tryz.prog T rv "Less" gl) (enc : α → Value) (lt : α → α → Bool) (blk off a b : Nat) (W : World) (d : Array α) (hless : LessM Tryz.prog gl rv enc lt blk off d.size W) (hH : Holds enc W blk off d) (hab : a < b) (hb : b ≤ d.size) (hsz : d.size < 4611686018427387904) :
    Calls Tryz.prog 56 #[.iface T rv, .int .i64 a, .int .i64 b] W fun e w' =>
      e = .returned (.tuple #[.int .i64 (choosePivot lt d a b).1, .int .i64 (hintCode (choosePivot lt d a b).2)]) ∧ ∃ n os, w' = grow (Sort.ahead W n) os := Any.choosePivot_iface Tryz.laysGt36 T rv gl rL enc lt blk off a b W d hless hH hab hb hsz
def Tryz.laysGt39_ren : Go.Shelf.Ren := ⟨fun | 39 => 59 | n => n, fun | 45 => 104 | 3 => 3 | 0 => 0 | 4 => 4 | 43 => 105 | 26 => 128 | 38 => 132 | n => n, fun | n => n⟩
theorem Tryz.laysGt39 : Go.Proofs.LaysGt.n39 Tryz.prog Tryz.laysGt39_ren := {
  mixed := by kernel_rfl
  f39 := Tryz.func59.trans (congrArg some (by kernel_rfl))
  t0 := Tryz.underlying0
  a0 := Tryz.isAgg0
  z0 := Tryz.sizeOf0
  v0 := Tryz.zeroValue0
  i0 := by kernel_rfl
  t3 := Tryz.underlying3
  a3 := Tryz.isAgg3
  z3 := Tryz.sizeOf3
  v3 := Tryz.zeroValue3
  i3 := by kernel_rfl
  t4 := Tryz.underlying4
  a4 := Tryz.isAgg4
  z4 := Tryz.sizeOf4
  v4 := Tryz.zeroValue4
  i4 := by kernel_rfl
  t26 := Tryz.underlying128
  a26 := Tryz.isAgg128
  z26 := Tryz.sizeOf128
  v26 := Tryz.zeroValue128
  i26 := by kernel_rfl
  t38 := Tryz.underlying132
  a38 := Tryz.isAgg132
  z38 := Tryz.sizeOf132
  v38 := Tryz.zeroValue132
  i38 := by kernel_rfl
  t43 := Tryz.underlying105
  a43 := Tryz.isAgg105
  z43 := Tryz.sizeOf105
  v43 := Tryz.zeroValue105
  i43 := by kernel_rfl
  t45 := Tryz.underlying104
  a45 := Tryz.isAgg104
  z45 := Tryz.sizeOf104
  v45 := Tryz.zeroValue104
  i45 := by kernel_rfl }
open Go.RowKit Go.Lib Go.Sort in
theorem Tryz.partitionEqual_iface {α : Type} [Inhabited α] (T : TypeId) (rv : Value) (gl gs : Nat) (rL : Reaches Tryz.prog T rv "Less" gl) (rS : Reaches Tryz.prog T rv "Swap" gs) (enc : α → Value) (lt : α → α → Bool) (blk off a b pivot : Nat) (d : Array α) (W : World) (hless : LessM Tryz.prog gl rv enc lt blk off d.size W) (hswap : SwapM Tryz.prog gs rv enc blk off d.size) (hH : Holds enc W blk off d) (hap : a ≤ pivot) (hpb : pivot < b) (hb : b ≤ d.size) (hsz : d.size < 4611686018427387904) :
    Calls Tryz.prog 59 #[.iface T rv, .int .i64 a, .int .i64 b, .int .i64 pivot] W fun e w' =>
      e = .returned (.int .i64 (Sort.partitionEqual lt d a b pivot).1) ∧ ∃ n, w' = (putRow enc W blk off (Sort.partitionEqual lt d a b pivot).2).drewN n := Any.partitionEqual_iface Tryz.laysGt39 T rv gl gs rL rS enc lt blk off a b pivot d W hless hswap hH hap hpb hb hsz
def Tryz.laysGt40_ren : Go.Shelf.Ren := ⟨fun | 40 => 60 | n => n, fun | 45 => 104 | 3 => 3 | 4 => 4 | 0 => 0 | 43 => 105 | 26 => 128 | 38 => 132 | n => n, fun | n => n⟩
theorem Tryz.laysGt40 : Go.Proofs.LaysGt.n40 Tryz.prog Tryz.laysGt40_ren := {
  mixed := by kernel_rfl
  f40 := Tryz.func60.trans (congrArg some (by kernel_rfl))
  t0 := Tryz.underlying0
  a0 := Tryz.isAgg0
  z0 := Tryz.sizeOf0
  v0 := Tryz.zeroValue0
  i0 := by kernel_rfl
  t3 := Tryz.underlying3
  a3 := Tryz.isAgg3
  z3 := Tryz.sizeOf3
  v3 := Tryz.zeroValue3
  i3 := by kernel_rfl
  t4 := Tryz.underlying4
  a4 := Tryz.isAgg4
  z4 := Tryz.sizeOf4
  v4 := Tryz.zeroValue4
  i4 := by kernel_rfl
  t26 := Tryz.underlying128
  a26 := Tryz.isAgg128
  z26 := Tryz.sizeOf128
  v26 := Tryz.zeroValue128
  i26 := by kernel_rfl
  t38 := Tryz.underlying132
  a38 := Tryz.isAgg132
  z38 := Tryz.sizeOf132
  v38 := Tryz.zeroValue132
  i38 := by kernel_rfl
  t43 := Tryz.underlying105
  a43 := Tryz.isAgg105
  z43 := Tryz.sizeOf105
  v43 := Tryz.zeroValue105
  i43 := by kernel_rfl
  t45 := Tryz.underlying104
  a45 := Tryz.isAgg104
  z45 := Tryz.sizeOf104
  v45 := Tryz.zeroValue104
  i45 := by kernel_rfl }
open Go.RowKit Go.Lib Go.Sort in
theorem Tryz.partition_iface {α : Type} [Inhabited α] (T : TypeId) (rv : Value) (gl gs : Nat) (rL : Reaches Tryz.prog T rv "Less" gl) (rS : Reaches Tryz.prog T rv "Swap" gs) (enc : α → Value) (lt : α → α → Bool) (blk off a b pivot : Nat) (d : Array α) (W : World) (hless : LessM Tryz.prog gl rv enc lt blk off d.size W) (hswap : SwapM Tryz.prog gs rv enc blk off d.size) (hH : Holds enc W blk off d) (hap : a ≤ pivot) (hpb : pivot < b) (hb : b ≤ d.size) (hsz : d.size < 4611686018427387904) :
    Calls Tryz.prog 60 #[.iface T rv, .int .i64 a, .int .i64 b, .int .i64 pivot] W fun e w' =>
      e = .returned (.tuple #[.int .i64 (Sort.partition lt d a b pivot).1, .bool (Sort.partition lt d a b pivot).2.1]) ∧ ∃ n, w' = (putRow enc W blk off (Sort.partition lt d a b pivot).2.2).drewN n := Any.partition_iface Tryz.laysGt40 T rv gl gs rL rS enc lt blk off a b pivot d W hless hswap hH hap hpb hb hsz
open Go.RowKit Go.Lib Go.Sort in
theorem Tryz.partitionEqual_iface_w {α : Type} [Inhabited α] (T : TypeId) (rv : Value) (gl gs : Nat) (rL : Reaches Tryz.prog T rv "Less" gl) (rS : Reaches Tryz.prog T rv "Swap" gs) (enc : α → Value) (lt : α → α → Bool) (blk off a b pivot : Nat) (d : Array α) (W : World) (hless : LessM Tryz.prog gl rv enc lt blk off d.size W) (hswap : SwapM Tryz.prog gs rv enc blk off d.size) (hH : Holds enc W blk off d) (hap : a ≤ pivot) (hpb : pivot < b) (hb : b ≤ d.size) (hsz : d.size < 4611686018427387904) :
    Calls Tryz.prog 59 #[.iface T rv, .int .i64 a, .int .i64 b, .int .i64 pivot] W fun e w' => e = .returned (.int .i64 (Sort.partitionEqual lt d a b pivot).1) ∧ ∃ n os, w' = sortWorld enc W blk off n (Sort.partitionEqual lt d a b pivot).2 os := Any.partitionEqual_iface_w Tryz.laysGt39 T rv gl gs rL rS enc lt blk off a b pivot d W hless hswap hH hap hpb hb hsz
open Go.RowKit Go.Lib Go.Sort in
theorem Tryz.partition_iface_w {α : Type} [Inhabited α] (T : TypeId) (rv : Value) (gl gs : Nat) (rL : Reaches Tryz.prog T rv "Less" gl) (rS : Reaches Tryz.prog T rv "Swap" gs) (enc : α → Value) (lt : α → α → Bool) (blk off a b pivot : Nat) (d : Array α) (W : World) (hless : LessM Tryz.prog gl rv enc lt blk off d.size W) (hswap : SwapM Tryz.prog gs rv enc blk off d.size) (hH : Holds enc W blk off d) (hap : a ≤ pivot) (hpb : pivot < b) (hb : b ≤ d.size) (hsz : d.size < 4611686018427387904) :
    Calls Tryz.prog 60 #[.iface T rv, .int .i64 a, .int .i64 b, .int .i64 pivot] W fun e w' => e = .returned (.tuple #[.int .i64 (Sort.partition lt d a b pivot).1, .bool (Sort.partition lt d a b pivot).2.1]) ∧ ∃ n os, w' = sortWorld enc W blk off n (Sort.partition lt d a b pivot).2.2 os := Any.partition_iface_w Tryz.laysGt40 T rv gl gs rL rS enc lt blk off a b pivot d W hless hswap hH hap hpb hb hsz
def Tryz.laysGt18_ren : Go.Shelf.Ren := ⟨fun | 18 => 44 | 33 => 53 | 34 => 54 | 35 => 55 | 36 => 56 | 37 => 57 | 38 => 58 | 39 => 59 | 40 => 60 | 43 => 65 | 44 => 66 | 45 => 67 | 46 => 68 | 47 => 69 | 17 => 43 | 50 => 71 | 31 => 51 | 32 => 52 | n => n, fun | 45 => 104 | 3 => 3 | 4 => 4 | 0 => 0 | 61 => 125 | 60 => 124 | 65 => 116 | 67 => 133 | 47 => 107 | 58 => 122 | 71 => 137 | 73 => 139 | 74 => 140 | 56 => 114 | 5 => 5 | 9 => 9 | 43 => 105 | 26 => 128 | 38 => 132 | n => n, fun | n => n⟩
theorem Tryz.laysGt18 : Go.Proofs.LaysGt.n18 Tryz.prog Tryz.laysGt18_ren := {
  mixed := by kernel_rfl
  f17 := Tryz.func43.trans (congrArg some (by kernel_rfl))
  f18 := Tryz.func44.trans (congrArg some (by kernel_rfl))
  f31 := Tryz.func51.trans (congrArg some (by kernel_rfl))
  f32 := Tryz.func52.trans (congrArg some (by kernel_rfl))
  f33 := Tryz.func53.trans (congrArg some (by kernel_rfl))
  f34 := Tryz.func54.trans (congrArg some (by kernel_rfl))
  f35 := Tryz.func55.trans (congrArg some (by kernel_rfl))
  f36 := Tryz.func56.trans (congrArg some (by kernel_rfl))
  f37 := Tryz.func57.trans (congrArg some (by kernel_rfl))
  f38 := Tryz.func58.trans (congrArg some (by kernel_rfl))
  f39 := Tryz.func59.trans (congrArg some (by kernel_rfl))
  f40 := Tryz.func60.trans (congrArg some (by kernel_rfl))
  f43 := Tryz.func65.trans (congrArg some (by kernel_rfl))
  f44 := Tryz.func66.trans (congrArg some (by kernel_rfl))
  f45 := Tryz.func67.trans (congrArg some (by kernel_rfl))
  f46 := Tryz.func68.trans (congrArg some (by kernel_rfl))
  f47 := Tryz.func69.trans (congrArg some (by kernel_rfl))
  f50 := Tryz.func71.trans (congrArg some (by kernel_rfl))
  t0 := Tryz.underlying0
  a0 := Tryz.isAgg0
  z0 := Tryz.sizeOf0
  v0 := Tryz.zeroValue0
  i0 := by kernel_rfl
  t3 := Tryz.underlying3
  a3 := Tryz.isAgg3
  z3 := Tryz.sizeOf3
  v3 := Tryz.zeroValue3
  i3 := by kernel_rfl
  t4 := Tryz.underlying4
  a4 := Tryz.isAgg4
  z4 := Tryz.sizeOf4
  v4 := Tryz.zeroValue4
  i4 := by kernel_rfl
  t5 := Tryz.underlying5
  a5 := Tryz.isAgg5
  z5 := Tryz.sizeOf5
  v5 := Tryz.zeroValue5
  i5 := by kernel_rfl
  t9 := Tryz.underlying9
  a9 := Tryz.isAgg9
  z9 := Tryz.sizeOf9
  v9 := Tryz.zeroValue9
  i9 := by kernel_rfl
  t26 := Tryz.underlying128
  a26 := Tryz.isAgg128
  z26 := Tryz.sizeOf128
  v26 := Tryz.zeroValue128
  i26 := by kernel_rfl
  t38 := Tryz.underlying132
  a38 := Tryz.isAgg132
  z38 := Tryz.sizeOf132
  v38 := Tryz.zeroValue132
  i38 := by kernel_rfl
  t43 := Tryz.underlying105
  a43 := Tryz.isAgg105
  z43 := Tryz.sizeOf105
  v43 := Tryz.zeroValue105
  i43 := by kernel_rfl
  t45 := Tryz.underlying104
  a45 := Tryz.isAgg104
  z45 := Tryz.sizeOf104
  v45 := Tryz.zeroValue104
  i45 := by kernel_rfl
  t47 := Tryz.underlying107
  a47 := Tryz.isAgg107
  z47 := Tryz.sizeOf107
  v47 := Tryz.zeroValue107
  i47 := by kernel_rfl
  t56 := Tryz.underlying114
  a56 := Tryz.isAgg114
  z56 := Tryz.sizeOf114
  v56 := Tryz.zeroValue114
  i56 := by kernel_rfl
  t58 := Tryz.underlying122
  a58 := Tryz.isAgg122
  z58 := Tryz.sizeOf122
  v58 := Tryz.zeroValue122
  i58 := by kernel_rfl
  t60 := Tryz.underlying124
  a60 := Tryz.isAgg124
  z60 := Tryz.sizeOf124
  v60 := Tryz.zeroValue124
  i60 := by kernel_rfl
  t61 := Tryz.underlying125
  a61 := Tryz.isAgg125
  z61 := Tryz.sizeOf125
  v61 := Tryz.zeroValue125
  i61 := by kernel_rfl
  t65 := Tryz.underlying116
  a65 := Tryz.isAgg116
  z65 := Tryz.sizeOf116
  v65 := Tryz.zeroValue116
  i65 := by kernel_rfl
  t67 := Tryz.underlying133
  a67 := Tryz.isAgg133
  z67 := Tryz.sizeOf133
  v67 := Tryz.zeroValue133
  i67 := by kernel_rfl
  t71 := Tryz.underlying137
  a71 := Tryz.isAgg137
  z71 := Tryz.sizeOf137
  v71 := Tryz.zeroValue137
  i71 := by kernel_rfl
  t73 := Tryz.underlying139
  a73 := Tryz.isAgg139
  z73 := Tryz.sizeOf139
  v73 := Tryz.zeroValue139
  i73 := by kernel_rfl
  t74 := Tryz.underlying140
  a74 := Tryz.isAgg140
  z74 := Tryz.sizeOf140
  v74 := Tryz.zeroValue140
  i74 := by kernel_rfl }
open Go.RowKit Go.Lib Go.Sort in
theorem Tryz.pdqsort_iface {α : Type} [Inhabited α] (T : TypeId) (rv : Value) (gl gs : Nat) (rL : Reaches Tryz.prog T rv "Less" gl) (rS : Reaches Tryz.prog T rv "Swap" gs) (enc : α → Value) (lt : α → α → Bool) (hO : SWO lt) (C : IfaceThree Tryz.prog Tryz.laysGt18_ren T rv gl gs enc lt) :
    ∀ (N blk off a b limit : Nat) (d : Array α) (w : World), b - a < N → LessM Tryz.prog gl rv enc lt blk off d.size w → SwapM Tryz.prog gs rv enc blk off d.size → Holds enc w blk off d → blk < w.heap.size → a ≤ b → b ≤ d.size → d.size < 4611686018427387904 → limit < 4611686018427387904 → Below lt a b d →
    Calls Tryz.prog 44 #[.iface T rv, .int .i64 a, .int .i64 b, .int .i64 limit] w fun e w' => e = .returned (.tuple #[]) ∧ At enc w blk off (pdq lt d a b limit true true) w' := Any.pdqsort_iface Tryz.laysGt18 T rv gl gs rL rS enc lt hO C
def Tryz.laysGt11_ren : Go.Shelf.Ren := ⟨fun | 11 => 37 | 17 => 43 | 18 => 44 | 31 => 51 | 32 => 52 | 33 => 53 | 34 => 54 | 35 => 55 | 36 => 56 | 37 => 57 | 38 => 58 | 39 => 59 | 40 => 60 | 43 => 65 | 44 => 66 | 45 => 67 | 46 => 68 | 47 => 69 | 50 => 71 | n => n, fun | 45 => 104 | 3 => 3 | 4 => 4 | 47 => 107 | 0 => 0 | 56 => 114 | 58 => 122 | 61 => 125 | 60 => 124 | 65 => 116 | 5 => 5 | 9 => 9 | 67 => 133 | 71 => 137 | 73 => 139 | 74 => 140 | 43 => 105 | 26 => 128 | 38 => 132 | n => n, fun | n => n⟩
theorem Tryz.laysGt11 : Go.Proofs.LaysGt.n11 Tryz.prog Tryz.laysGt11_ren := {
  mixed := by kernel_rfl
  f11 := Tryz.func37.trans (congrArg some (by kernel_rfl))
  f17 := Tryz.func43.trans (congrArg some (by kernel_rfl))
  f18 := Tryz.func44.trans (congrArg some (by kernel_rfl))
  f31 := Tryz.func51.trans (congrArg some (by kernel_rfl))
  f32 := Tryz.func52.trans (congrArg some (by kernel_rfl))
  f33 := Tryz.func53.trans (congrArg some (by kernel_rfl))
  f34 := Tryz.func54.trans (congrArg some (by kernel_rfl))
  f35 := Tryz.func55.trans (congrArg some (by kernel_rfl))
  f36 := Tryz.func56.trans (congrArg some (by kernel_rfl))
  f37 := Tryz.func57.trans (congrArg some (by kernel_rfl))
  f38 := Tryz.func58.trans (congrArg some (by kernel_rfl))
  f39 := Tryz.func59.trans (congrArg some (by kernel_rfl))
  f40 := Tryz.func60.trans (congrArg some (by kernel_rfl))
  f43 := Tryz.func65.trans (congrArg some (by kernel_rfl))
  f44 := Tryz.func66.trans (congrArg some (by kernel_rfl))
  f45 := Tryz.func67.trans (congrArg some (by kernel_rfl))
  f46 := Tryz.func68.trans (congrArg some (by kernel_rfl))
  f47 := Tryz.func69.trans (congrArg some (by kernel_rfl))
  f50 := Tryz.func71.trans (congrArg some (by kernel_rfl))
  t0 := Tryz.underlying0
  a0 := Tryz.isAgg0
  z0 := Tryz.sizeOf0
  v0 := Tryz.zeroValue0
  i0 := by kernel_rfl
  t3 := Tryz.underlying3
  a3 := Tryz.isAgg3
  z3 := Tryz.sizeOf3
  v3 := Tryz.zeroValue3
  i3 := by kernel_rfl
  t4 := Tryz.underlying4
  a4 := Tryz.isAgg4
  z4 := Tryz.sizeOf4
  v4 := Tryz.zeroValue4
  i4 := by kernel_rfl
  t5 := Tryz.underlying5
  a5 := Tryz.isAgg5
  z5 := Tryz.sizeOf5
  v5 := Tryz.zeroValue5
  i5 := by kernel_rfl
  t9 := Tryz.underlying9
  a9 := Tryz.isAgg9
  z9 := Tryz.sizeOf9
  v9 := Tryz.zeroValue9
  i9 := by kernel_rfl
  t26 := Tryz.underlying128
  a26 := Tryz.isAgg128
  z26 := Tryz.sizeOf128
  v26 := Tryz.zeroValue128
  i26 := by kernel_rfl
  t38 := Tryz.underlying132
  a38 := Tryz.isAgg132
  z38 := Tryz.sizeOf132
  v38 := Tryz.zeroValue132
  i38 := by kernel_rfl
  t43 := Tryz.underlying105
  a43 := Tryz.isAgg105
  z43 := Tryz.sizeOf105
  v43 := Tryz.zeroValue105
  i43 := by kernel_rfl
  t45 := Tryz.underlying104
  a45 := Tryz.isAgg104
  z45 := Tryz.sizeOf104
  v45 := Tryz.zeroValue104
  i45 := by kernel_rfl
  t47 := Tryz.underlying107
  a47 := Tryz.isAgg107
  z47 := Tryz.sizeOf107
  v47 := Tryz.zeroValue107
  i47 := by kernel_rfl
  t56 := Tryz.underlying114
  a56 := Tryz.isAgg114
  z56 := Tryz.sizeOf114
  v56 := Tryz.zeroValue114
  i56 := by kernel_rfl
  t58 := Tryz.underlying122
  a58 := Tryz.isAgg122
  z58 := Tryz.sizeOf122
  v58 := Tryz.zeroValue122
  i58 := by kernel_rfl
  t60 := Tryz.underlying124
  a60 := Tryz.isAgg124
  z60 := Tryz.sizeOf124
  v60 := Tryz.zeroValue124
  i60 := by kernel_rfl
  t61 := Tryz.underlying125
  a61 := Tryz.isAgg125
  z61 := Tryz.sizeOf125
  v61 := Tryz.zeroValue125
  i61 := by kernel_rfl
  t65 := Tryz.underlying116
  a65 := Tryz.isAgg116
  z65 := Tryz.sizeOf116
  v65 := Tryz.zeroValue116
  i65 := by kernel_rfl
  t67 := Tryz.underlying133
  a67 := Tryz.isAgg133
  z67 := Tryz.sizeOf133
  v67 := Tryz.zeroValue133
  i67 := by kernel_rfl
  t71 := Tryz.underlying137
  a71 := Tryz.isAgg137
  z71 := Tryz.sizeOf137
  v71 := Tryz.zeroValue137
  i71 := by kernel_rfl
  t73 := Tryz.underlying139
  a73 := Tryz.isAgg139
  z73 := Tryz.sizeOf139
  v73 := Tryz.zeroValue139
  i73 := by kernel_rfl
  t74 := Tryz.underlying140
  a74 := Tryz.isAgg140
  z74 := Tryz.sizeOf140
  v74 := Tryz.zeroValue140
  i74 := by kernel_rfl }
open Go.RowKit Go.Lib Go.Sort in
theorem Tryz.sort_Sort_tiny {α : Type} [Inhabited α] (T : TypeId) (rv : Value) (gn : Nat) (rN : Reaches Tryz.prog T rv "Len" gn) (n : Nat) (hn : n ≤ 1) (w : World) (hlen : LenM Tryz.prog gn rv n w) :
    Calls Tryz.prog 37 #[.iface T rv] w fun e w' => e = .returned (.tuple #[]) ∧ ∃ q, w' = w.drewN q := Any.sort_Sort_tiny Tryz.laysGt11 T rv gn rN n hn w hlen
open Go.RowKit Go.Lib Go.Sort in
/-- **sort.Sort: WHAT THE ROW HOLDS, TO THE ELEMENT.** (LAID: no walk: one application.) -/
theorem Tryz.sort_Sort_eq {α : Type} [Inhabited α] (T : TypeId) (rv : Value) (gn gl gs : Nat) (rN : Reaches Tryz.prog T rv "Len" gn) (rL : Reaches Tryz.prog T rv "Less" gl) (rS : Reaches Tryz.prog T rv "Swap" gs) (enc : α → Value) (lt : α → α → Bool) (hO : SWO lt) (blk off : Nat) (d : Array α) (h2 : 2 ≤ d.size) (hsz : d.size < 4611686018427387904) (w : World) (hlen : LenM Tryz.prog gn rv d.size w) (hless : LessM Tryz.prog gl rv enc lt blk off d.size w) (hswap : SwapM Tryz.prog gs rv enc blk off d.size) (hH : Holds enc w blk off d) (hblk : blk < w.heap.size) :
    Calls Tryz.prog 37 #[.iface T rv] w fun e w' => e = .returned (.tuple #[]) ∧ ∃ n os, w' = grow (putRow enc (Sort.ahead w n) blk off (pdq lt d 0 d.size (Lib.bitLen d.size) true true)) os := Any.sort_Sort_eq Tryz.laysGt11 T rv gn gl gs rN rL rS enc lt hO blk off d h2 hsz w hlen hless hswap hH hblk
open Go.RowKit Go.Lib Go.Sort in
/-- **sort.Sort, IN THE DOCUMENTATION's OWN TERMS ("Sort sorts data in ascending order as determined by the Less method. .. The sort is not guaranteed to be stable"): A PERMUTATION OF WHAT THE ROW HELD, SORTED BY 'lt'.** (LAID: no walk: one application.) -/
theorem Tryz.sort_Sort_sorted {α : Type} [Inhabited α] (T : TypeId) (rv : Value) (gn gl gs : Nat) (rN : Reaches Tryz.prog T rv "Len" gn) (rL : Reaches Tryz.prog T rv "Less" gl) (rS : Reaches Tryz.prog T rv "Swap" gs) (enc : α → Value) (lt : α → α → Bool) (hO : SWO lt) (blk off : Nat) (d : Array α) (h2 : 2 ≤ d.size) (hsz : d.size < 4611686018427387904) (w : World) (hlen : LenM Tryz.prog gn rv d.size w) (hless : LessM Tryz.prog gl rv enc lt blk off d.size w) (hswap : SwapM Tryz.prog gs rv enc blk off d.size) (hH : Holds enc w blk off d) (hblk : blk < w.heap.size) :
    Calls Tryz.prog 37 #[.iface T rv] w fun e w' => e = .returned (.tuple #[]) ∧ ∃ d' n os, PermIn 0 d.size d d' ∧ SortedIn lt 0 d.size d' ∧ w' = grow (putRow enc (Sort.ahead w n) blk off d') os := Any.sort_Sort_sorted Tryz.laysGt11 T rv gn gl gs rN rL rS enc lt hO blk off d h2 hsz w hlen hless hswap hH hblk
def Tryz.laysGu48_ren : Go.Shelf.Ren := ⟨fun | 48 => 114 | n => n, fun | 27 => 87 | 3 => 3 | 9 => 9 | n => n, fun | n => n⟩
theorem Tryz.laysGu48 : Go.Proofs.LaysGu.n48 Tryz.prog Tryz.laysGu48_ren := {
  mixed := by kernel_rfl
  f48 := Tryz.func114.trans (congrArg some (by kernel_rfl))
  t3 := Tryz.underlying3
  a3 := Tryz.isAgg3
  z3 := Tryz.sizeOf3
  v3 := Tryz.zeroValue3
  i3 := by kernel_rfl
  t9 := Tryz.underlying9
  a9 := Tryz.isAgg9
  z9 := Tryz.sizeOf9
  v9 := Tryz.zeroValue9
  i9 := by kernel_rfl
  t27 := Tryz.underlying87
  a27 := Tryz.isAgg87
  z27 := Tryz.sizeOf87
  v27 := Tryz.zeroValue87
  i27 := by kernel_rfl }
open Go.RowKit Go.Lib Go.Sort in
theorem Tryz.StringSlice_Len (p : Option Addr) (n c : Nat) (W : World) :
    LenM Tryz.prog 114 (.slice p n c) n W := Any.StringSlice_Len Tryz.laysGu48 p n c W
def Tryz.laysGu49_ren : Go.Shelf.Ren := ⟨fun | 49 => 115 | n => n, fun | 27 => 87 | 3 => 3 | 4 => 4 | 0 => 0 | 9 => 9 | n => n, fun | n => n⟩
theorem Tryz.laysGu49 : Go.Proofs.LaysGu.n49 Tryz.prog Tryz.laysGu49_ren := {
  mixed := by kernel_rfl
  f49 := Tryz.func115.trans (congrArg some (by kernel_rfl))
  t0 := Tryz.underlying0
  a0 := Tryz.isAgg0
  z0 := Tryz.sizeOf0
  v0 := Tryz.zeroValue0
  i0 := by kernel_rfl
  t3 := Tryz.underlying3
  a3 := Tryz.isAgg3
  z3 := Tryz.sizeOf3
  v3 := Tryz.zeroValue3
  i3 := by kernel_rfl
  t4 := Tryz.underlying4
  a4 := Tryz.isAgg4
  z4 := Tryz.sizeOf4
  v4 := Tryz.zeroValue4
  i4 := by kernel_rfl
  t9 := Tryz.underlying9
  a9 := Tryz.isAgg9
  z9 := Tryz.sizeOf9
  v9 := Tryz.zeroValue9
  i9 := by kernel_rfl
  t27 := Tryz.underlying87
  a27 := Tryz.isAgg87
  z27 := Tryz.sizeOf87
  v27 := Tryz.zeroValue87
  i27 := by kernel_rfl }
open Go.RowKit Go.Lib Go.Sort in
theorem Tryz.StringSlice_Less (blk off c size : Nat) (W : World) (G : Nat → List UInt8) (hc : ∀ t, t < size → W.cell? ⟨blk, off + t, none⟩ = some (encS (G t))) (i j : Nat) (hi : i < size) (hj : j < size) (_hsz : size < 4611686018427387904) :
    Calls Tryz.prog 115 #[.slice (some ⟨blk, off, none⟩) size c, .int .i64 i, .int .i64 j] W fun e w' => e = .returned (.bool (ltStr (G i) (G j))) ∧ ∃ q, w' = W.drewN q := Any.StringSlice_Less Tryz.laysGu49 blk off c size W G hc i j hi hj _hsz
def Tryz.laysGu51_ren : Go.Shelf.Ren := ⟨fun | 51 => 116 | n => n, fun | 27 => 87 | 3 => 3 | 0 => 0 | 9 => 9 | n => n, fun | n => n⟩
theorem Tryz.laysGu51 : Go.Proofs.LaysGu.n51 Tryz.prog Tryz.laysGu51_ren := {
  mixed := by kernel_rfl
  f51 := Tryz.func116.trans (congrArg some (by kernel_rfl))
  t0 := Tryz.underlying0
  a0 := Tryz.isAgg0
  z0 := Tryz.sizeOf0
  v0 := Tryz.zeroValue0
  i0 := by kernel_rfl
  t3 := Tryz.underlying3
  a3 := Tryz.isAgg3
  z3 := Tryz.sizeOf3
  v3 := Tryz.zeroValue3
  i3 := by kernel_rfl
  t9 := Tryz.underlying9
  a9 := Tryz.isAgg9
  z9 := Tryz.sizeOf9
  v9 := Tryz.zeroValue9
  i9 := by kernel_rfl
  t27 := Tryz.underlying87
  a27 := Tryz.isAgg87
  z27 := Tryz.sizeOf87
  v27 := Tryz.zeroValue87
  i27 := by kernel_rfl }
open Go.RowKit Go.Lib Go.Sort in
theorem Tryz.StringSlice_Swap (blk off c size : Nat) (W : World) (x y : List UInt8) (i j : Nat) (hi : i < size) (hj : j < size) (_hsz : size < 4611686018427387904) (ci : W.cell? ⟨blk, off + i, none⟩ = some (encS x)) (cj : W.cell? ⟨blk, off + j, none⟩ = some (encS y)) (fi : W.frozen? ⟨blk, off + i, none⟩ = false) (fj : W.frozen? ⟨blk, off + j, none⟩ = false) :
    Calls Tryz.prog 116 #[.slice (some ⟨blk, off, none⟩) size c, .int .i64 i, .int .i64 j] W fun e w' => e = .returned (.tuple #[]) ∧ ∃ q, w' = ((W.setCell ⟨blk, off + i, none⟩ (encS y)).setCell ⟨blk, off + j, none⟩ (encS x)).drewN q := Any.StringSlice_Swap Tryz.laysGu51 blk off c size W x y i j hi hj _hsz ci cj fi fj
open Go.RowKit Go.Lib Go.Sort in
theorem Tryz.StringSlice_LessM (blk off c : Nat) (d : Array (List UInt8)) (w : World) (hH : Holds encS w blk off d) (hblk : blk < w.heap.size) (hsz : d.size < 4611686018427387904) :
    LessM Tryz.prog 115 (.slice (some ⟨blk, off, none⟩) d.size c) encS ltStr blk off d.size w := Any.StringSlice_LessM Tryz.laysGu49 blk off c d w hH hblk hsz
open Go.RowKit Go.Lib Go.Sort in
theorem Tryz.StringSlice_SwapM (blk off c size : Nat) (hsz : size < 4611686018427387904) :
    SwapM Tryz.prog 116 (.slice (some ⟨blk, off, none⟩) size c) encS blk off size := Any.StringSlice_SwapM Tryz.laysGu51 blk off c size hsz
def Tryz.laysGg36_ren : Go.Shelf.Ren := ⟨fun | 36 => 67 | n => n, fun | 66 => 139 | 51 => 122 | 0 => 0 | 60 => 133 | 41 => 107 | n => n, fun | n => n⟩
theorem Tryz.laysGg36 : Go.Proofs.LaysGg.n36 Tryz.prog Tryz.laysGg36_ren := {
  mixed := by kernel_rfl
  f36 := Tryz.func67.trans (congrArg some (by kernel_rfl))
  t0 := Tryz.underlying0
  a0 := Tryz.isAgg0
  z0 := Tryz.sizeOf0
  v0 := Tryz.zeroValue0
  i0 := by kernel_rfl
  t41 := Tryz.underlying107
  a41 := Tryz.isAgg107
  z41 := Tryz.sizeOf107
  v41 := Tryz.zeroValue107
  i41 := by kernel_rfl
  t51 := Tryz.underlying122
  a51 := Tryz.isAgg122
  z51 := Tryz.sizeOf122
  v51 := Tryz.zeroValue122
  i51 := by kernel_rfl
  t60 := Tryz.underlying133
  a60 := Tryz.isAgg133
  z60 := Tryz.sizeOf133
  v60 := Tryz.zeroValue133
  i60 := by kernel_rfl
  t66 := Tryz.underlying139
  a66 := Tryz.isAgg139
  z66 := Tryz.sizeOf139
  v66 := Tryz.zeroValue139
  i66 := by kernel_rfl }
open Go.RowKit Go.Lib Go.Sort in
/-- '*r ^= *r << 13; *r ^= *r >> 7; *r ^= *r << 17; return uint64(*r)': the cell holds 'xorNextN X' and that is handed back; three draws; nothing else turns. (LAID: no walk: one application.) -/
theorem Tryz.xorshift_Next (rb ro X : Nat) (hX : X < 18446744073709551616) (w : World) (hc : w.cell? ⟨rb, ro, none⟩ = some (.int .u64 X)) (hf : w.frozen? ⟨rb, ro, none⟩ = false) :
    Calls Tryz.prog 67 #[.pointer (some ⟨rb, ro, none⟩)] w fun e w' => e = .returned (.int .u64 (xorNextN X : Nat)) ∧ w' = (w.setCell ⟨rb, ro, none⟩ (.int .u64 (xorNextN X : Nat))).drewN 3 := Any.xorshift_Next Tryz.laysGg36 rb ro X hX w hc hf
def Tryz.laysGg35_ren : Go.Shelf.Ren := ⟨fun | 35 => 66 | 13 => 43 | 24 => 51 | 25 => 52 | n => n, fun | 3 => 3 | 41 => 107 | 49 => 114 | 51 => 122 | 4 => 4 | 5 => 5 | 9 => 9 | n => n, fun | n => n⟩
theorem Tryz.laysGg35 : Go.Proofs.LaysGg.n35 Tryz.prog Tryz.laysGg35_ren := {
  mixed := by kernel_rfl
  f13 := Tryz.func43.trans (congrArg some (by kernel_rfl))
  f24 := Tryz.func51.trans (congrArg some (by kernel_rfl))
  f25 := Tryz.func52.trans (congrArg some (by kernel_rfl))
  f35 := Tryz.func66.trans (congrArg some (by kernel_rfl))
  t3 := Tryz.underlying3
  a3 := Tryz.isAgg3
  z3 := Tryz.sizeOf3
  v3 := Tryz.zeroValue3
  i3 := by kernel_rfl
  t4 := Tryz.underlying4
  a4 := Tryz.isAgg4
  z4 := Tryz.sizeOf4
  v4 := Tryz.zeroValue4
  i4 := by kernel_rfl
  t5 := Tryz.underlying5
  a5 := Tryz.isAgg5
  z5 := Tryz.sizeOf5
  v5 := Tryz.zeroValue5
  i5 := by kernel_rfl
  t9 := Tryz.underlying9
  a9 := Tryz.isAgg9
  z9 := Tryz.sizeOf9
  v9 := Tryz.zeroValue9
  i9 := by kernel_rfl
  t41 := Tryz.underlying107
  a41 := Tryz.isAgg107
  z41 := Tryz.sizeOf107
  v41 := Tryz.zeroValue107
  i41 := by kernel_rfl
  t49 := Tryz.underlying114
  a49 := Tryz.isAgg114
  z49 := Tryz.sizeOf114
  v49 := Tryz.zeroValue114
  i49 := by kernel_rfl
  t51 := Tryz.underlying122
  a51 := Tryz.isAgg122
  z51 := Tryz.sizeOf122
  v51 := Tryz.zeroValue122
  i51 := by kernel_rfl }
open Go.RowKit Go.Lib Go.Sort in
/-- 'return 1 << bits.Len(uint(length))'. (LAID: no walk: one application.) -/
theorem Tryz.nextPowerOfTwo (n : Nat) (hn : n < 4611686018427387904) (w : World) :
    Calls Tryz.prog 66 #[.int .i64 n] w fun e w' => e = .returned (.int .u64 ((1 <<< bitsLen n : Nat) : Int)) ∧ w' = w := Any.nextPowerOfTwo Tryz.laysGg35 n hn w
def Tryz.laysGt43_ren : Go.Shelf.Ren := ⟨fun | 43 => 65 | n => n, fun | 45 => 104 | 3 => 3 | 4 => 4 | 0 => 0 | 43 => 105 | 26 => 128 | 38 => 132 | n => n, fun | n => n⟩
theorem Tryz.laysGt43 : Go.Proofs.LaysGt.n43 Tryz.prog Tryz.laysGt43_ren := {
  mixed := by kernel_rfl
  f43 := Tryz.func65.trans (congrArg some (by kernel_rfl))
  t0 := Tryz.underlying0
  a0 := Tryz.isAgg0
  z0 := Tryz.sizeOf0
  v0 := Tryz.zeroValue0
  i0 := by kernel_rfl
  t3 := Tryz.underlying3
  a3 := Tryz.isAgg3
  z3 := Tryz.sizeOf3
  v3 := Tryz.zeroValue3
  i3 := by kernel_rfl
  t4 := Tryz.underlying4
  a4 := Tryz.isAgg4
  z4 := Tryz.sizeOf4
  v4 := Tryz.zeroValue4
  i4 := by kernel_rfl
  t26 := Tryz.underlying128
  a26 := Tryz.isAgg128
  z26 := Tryz.sizeOf128
  v26 := Tryz.zeroValue128
  i26 := by kernel_rfl
  t38 := Tryz.underlying132
  a38 := Tryz.isAgg132
  z38 := Tryz.sizeOf132
  v38 := Tryz.zeroValue132
  i38 := by kernel_rfl
  t43 := Tryz.underlying105
  a43 := Tryz.isAgg105
  z43 := Tryz.sizeOf105
  v43 := Tryz.zeroValue105
  i43 := by kernel_rfl
  t45 := Tryz.underlying104
  a45 := Tryz.isAgg104
  z45 := Tryz.sizeOf104
  v45 := Tryz.zeroValue104
  i45 := by kernel_rfl }
open Go.RowKit Go.Lib Go.Sort in
theorem Tryz.siftDown_iface {α : Type} [Inhabited α] (T : TypeId) (rv : Value) (gl gs : Nat) (rL : Reaches Tryz.prog T rv "Less" gl) (rS : Reaches Tryz.prog T rv "Swap" gs) (enc : α → Value) (lt : α → α → Bool) (blk off lo hi first : Nat) (d : Array α) (w : World) (hless : LessM Tryz.prog gl rv enc lt blk off d.size w) (hswap : SwapM Tryz.prog gs rv enc blk off d.size) (hH : Holds enc w blk off d) (hlo : lo ≤ hi) (hb : first + hi ≤ d.size) (hsz : d.size < 4611686018427387904) :
    Calls Tryz.prog 65 #[.iface T rv, .int .i64 lo, .int .i64 hi, .int .i64 first] w fun e w' =>
      e = .returned (.tuple #[]) ∧ ∃ n, w' = putRow enc (Sort.ahead w n) blk off (siftDown lt hi first lo d) := Any.siftDown_iface Tryz.laysGt43 T rv gl gs rL rS enc lt blk off lo hi first d w hless hswap hH hlo hb hsz
open Go.RowKit Go.Lib Go.Sort in
/-- sort.siftDown, from a world to a 'sortWorld' of it. (LAID: no walk: one application.) -/
theorem Tryz.siftDown_iface_w {α : Type} [Inhabited α] (T : TypeId) (rv : Value) (gl gs : Nat) (rL : Reaches Tryz.prog T rv "Less" gl) (rS : Reaches Tryz.prog T rv "Swap" gs) (enc : α → Value) (lt : α → α → Bool) (blk off lo hi first : Nat) (d : Array α) (w : World) (hless : LessM Tryz.prog gl rv enc lt blk off d.size w) (hswap : SwapM Tryz.prog gs rv enc blk off d.size) (hH : Holds enc w blk off d) (hlo : lo ≤ hi) (hb : first + hi ≤ d.size) (hsz : d.size < 4611686018427387904) :
    Calls Tryz.prog 65 #[.iface T rv, .int .i64 lo, .int .i64 hi, .int .i64 first] w fun e w' => e = .returned (.tuple #[]) ∧ ∃ n os, w' = sortWorld enc w blk off n (siftDown lt hi first lo d) os := Any.siftDown_iface_w Tryz.laysGt43 T rv gl gs rL rS enc lt blk off lo hi first d w hless hswap hH hlo hb hsz
def Tryz.laysGt34_ren : Go.Shelf.Ren := ⟨fun | 34 => 54 | 43 => 65 | n => n, fun | 45 => 104 | 3 => 3 | 4 => 4 | 0 => 0 | 43 => 105 | 26 => 128 | 38 => 132 | n => n, fun | n => n⟩
theorem Tryz.laysGt34 : Go.Proofs.LaysGt.n34 Tryz.prog Tryz.laysGt34_ren := {
  mixed := by kernel_rfl
  f34 := Tryz.func54.trans (congrArg some (by kernel_rfl))
  f43 := Tryz.func65.trans (congrArg some (by kernel_rfl))
  t0 := Tryz.underlying0
  a0 := Tryz.isAgg0
  z0 := Tryz.sizeOf0
  v0 := Tryz.zeroValue0
  i0 := by kernel_rfl
  t3 := Tryz.underlying3
  a3 := Tryz.isAgg3
  z3 := Tryz.sizeOf3
  v3 := Tryz.zeroValue3
  i3 := by kernel_rfl
  t4 := Tryz.underlying4
  a4 := Tryz.isAgg4
  z4 := Tryz.sizeOf4
  v4 := Tryz.zeroValue4
  i4 := by kernel_rfl
  t26 := Tryz.underlying128
  a26 := Tryz.isAgg128
  z26 := Tryz.sizeOf128
  v26 := Tryz.zeroValue128
  i26 := by kernel_rfl
  t38 := Tryz.underlying132
  a38 := Tryz.isAgg132
  z38 := Tryz.sizeOf132
  v38 := Tryz.zeroValue132
  i38 := by kernel_rfl
  t43 := Tryz.underlying105
  a43 := Tryz.isAgg105
  z43 := Tryz.sizeOf105
  v43 := Tryz.zeroValue105
  i43 := by kernel_rfl
  t45 := Tryz.underlying104
  a45 := Tryz.isAgg104
  z45 := Tryz.sizeOf104
  v45 := Tryz.zeroValue104
  i45 := by kernel_rfl }
open Go.RowKit Go.Lib Go.Sort in
theorem Tryz.heapSort_iface_w {α : Type} [Inhabited α] (T : TypeId) (rv : Value) (gl gs : Nat) (rL : Reaches Tryz.prog T rv "Less" gl) (rS : Reaches Tryz.prog T rv "Swap" gs) (enc : α → Value) (lt : α → α → Bool) (blk off a b : Nat) (d : Array α) (w : World) (hless : LessM Tryz.prog gl rv enc lt blk off d.size w) (hswap : SwapM Tryz.prog gs rv enc blk off d.size) (hH : Holds enc w blk off d) (hblk : blk < w.heap.size) (hab : a ≤ b) (hb : b ≤ d.size) (hsz : d.size < 4611686018427387904) :
    Calls Tryz.prog 54 #[.iface T rv, .int .i64 a, .int .i64 b] w fun e w' => e = .returned (.tuple #[]) ∧ ∃ n os, w' = sortWorld enc w blk off n (heapSort lt d a b) os := Any.heapSort_iface_w Tryz.laysGt34 T rv gl gs rL rS enc lt blk off a b d w hless hswap hH hblk hab hb hsz
def Tryz.laysGt38_ren : Go.Shelf.Ren := ⟨fun | 38 => 58 | n => n, fun | 45 => 104 | 3 => 3 | 4 => 4 | 0 => 0 | 43 => 105 | 26 => 128 | 38 => 132 | n => n, fun | n => n⟩
theorem Tryz.laysGt38 : Go.Proofs.LaysGt.n38 Tryz.prog Tryz.laysGt38_ren := {
  mixed := by kernel_rfl
  f38 := Tryz.func58.trans (congrArg some (by kernel_rfl))
  t0 := Tryz.underlying0
  a0 := Tryz.isAgg0
  z0 := Tryz.sizeOf0
  v0 := Tryz.zeroValue0
  i0 := by kernel_rfl
  t3 := Tryz.underlying3
  a3 := Tryz.isAgg3
  z3 := Tryz.sizeOf3
  v3 := Tryz.zeroValue3
  i3 := by kernel_rfl
  t4 := Tryz.underlying4
  a4 := Tryz.isAgg4
  z4 := Tryz.sizeOf4
  v4 := Tryz.zeroValue4
  i4 := by kernel_rfl
  t26 := Tryz.underlying128
  a26 := Tryz.isAgg128
  z26 := Tryz.sizeOf128
  v26 := Tryz.zeroValue128
  i26 := by kernel_rfl
  t38 := Tryz.underlying132
  a38 := Tryz.isAgg132
  z38 := Tryz.sizeOf132
  v38 := Tryz.zeroValue132
  i38 := by kernel_rfl
  t43 := Tryz.underlying105
  a43 := Tryz.isAgg105
  z43 := Tryz.sizeOf105
  v43 := Tryz.zeroValue105
  i43 := by kernel_rfl
  t45 := Tryz.underlying104
  a45 := Tryz.isAgg104
  z45 := Tryz.sizeOf104
  v45 := Tryz.zeroValue104
  i45 := by kernel_rfl }
open Go.RowKit Go.Lib Go.Sort in
theorem Tryz.partialInsertionSort_iface {α : Type} [Inhabited α] (T : TypeId) (rv : Value) (gl gs : Nat) (rL : Reaches Tryz.prog T rv "Less" gl) (rS : Reaches Tryz.prog T rv "Swap" gs) (enc : α → Value) (lt : α → α → Bool) (blk off a b : Nat) (d : Array α) (w : World) (hless : LessM Tryz.prog gl rv enc lt blk off d.size w) (hswap : SwapM Tryz.prog gs rv enc blk off d.size) (hH : Holds enc w blk off d) (hab : a < b) (hb : b ≤ d.size) (hsz : d.size < 4611686018427387904) :
    Calls Tryz.prog 58 #[.iface T rv, .int .i64 a, .int .i64 b] w fun e w' =>
      e = .returned (.bool (Sort.partialInsertionSort lt d a b).2) ∧ ∃ n, w' = putRow enc (Sort.ahead w n) blk off (Sort.partialInsertionSort lt d a b).1 := Any.partialInsertionSort_iface Tryz.laysGt38 T rv gl gs rL rS enc lt blk off a b d w hless hswap hH hab hb hsz
open Go.RowKit Go.Lib Go.Sort in
/-- sort.partialInsertionSort, from a world to a 'sortWorld' of it. (LAID: no walk: one application.) -/
theorem Tryz.partialInsertionSort_iface_w {α : Type} [Inhabited α] (T : TypeId) (rv : Value) (gl gs : Nat) (rL : Reaches Tryz.prog T rv "Less" gl) (rS : Reaches Tryz.prog T rv "Swap" gs) (enc : α → Value) (lt : α → α → Bool) (blk off a b : Nat) (d : Array α) (w : World) (hless : LessM Tryz.prog gl rv enc lt blk off d.size w) (hswap : SwapM Tryz.prog gs rv enc blk off d.size) (hH : Holds enc w blk off d) (hab : a < b) (hb : b ≤ d.size) (hsz : d.size < 4611686018427387904) :
    Calls Tryz.prog 58 #[.iface T rv, .int .i64 a, .int .i64 b] w fun e w' => e = .returned (.bool (Sort.partialInsertionSort lt d a b).2) ∧ ∃ n os, w' = sortWorld enc w blk off n (Sort.partialInsertionSort lt d a b).1 os := Any.partialInsertionSort_iface_w Tryz.laysGt38 T rv gl gs rL rS enc lt blk off a b d w hless hswap hH hab hb hsz
end Go.Proofs
