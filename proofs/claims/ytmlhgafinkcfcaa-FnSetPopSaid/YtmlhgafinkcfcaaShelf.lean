/-
  DERIVED: THE SHELF's CONTRACTS AT THIS DUMP, IN PLAIN WORDS (tools/lay-plain.mjs out of 'TryShelf.lean', which tools/lay-shelf.mjs wrote): THE SAME DECLARATIONS UNDER THE SAME NAMES: 'import', 'namespace', 'open', 'def', 'theorem' AND NOTHING ELSE: no command of the shelf's: FOR A HAND-IN. Each laying: the table of numbers ('.._ren') and one theorem, a field a fact of the dump's own or the kernel's comparison; each contract: ONE APPLICATION.
-/
import Derived.Shelf.Small.Bits
import Derived.Shelf.Strconv.Itoa0
import Derived.Shelf.Sort.Plain
import Derived.Ground.Names2Prog
import Derived.Shelf.Slices.SearchI
import Derived.Test.YtmlhgafinkcfcaaProg
namespace Go.Proofs
open Go.Shelf
def Try.lays128_ren : Go.Shelf.Ren := ⟨fun | 128 => 79 | n => n, fun | 51 => 111 | 3 => 3 | 4 => 4 | 46 => 40 | 5 => 5 | 9 => 9 | n => n, fun | n => n⟩
theorem Try.lays128 : Go.Proofs.Lays.n128 Try.prog Try.lays128_ren := {
  mixed := by kernel_rfl
  f128 := Try.func79.trans (congrArg some (by kernel_rfl))
  t3 := Try.underlying3
  a3 := Try.isAgg3
  z3 := Try.sizeOf3
  v3 := Try.zeroValue3
  t4 := Try.underlying4
  a4 := Try.isAgg4
  z4 := Try.sizeOf4
  v4 := Try.zeroValue4
  t5 := Try.underlying5
  a5 := Try.isAgg5
  z5 := Try.sizeOf5
  v5 := Try.zeroValue5
  t9 := Try.underlying9
  a9 := Try.isAgg9
  z9 := Try.sizeOf9
  v9 := Try.zeroValue9
  t46 := Try.underlying40
  a46 := Try.isAgg40
  z46 := Try.sizeOf40
  v46 := Try.zeroValue40
  t51 := Try.underlying111
  a51 := Try.isAgg111
  z51 := Try.sizeOf111
  v51 := Try.zeroValue111 }
/-- bits.Len32: "Len32 returns the minimum number of bits required to represent x; the result is 0 for x == 0.": IT RETURNS 'Lib.bitLen x'; the world is as it was. ('h0', 'h1': x is a uint32.) (LAID: no walk: one application.) -/
theorem Try.bits_Len32 (x : Int) (w : World) (h0 : 0 ≤ x) (h1 : x ≤ 4294967295) :
    Calls Try.prog 79 #[.int .u32 x] w fun e w' => e = .returned (.int .i64 (Lib.bitLen x.toNat)) ∧ w' = w := Any.bits_Len32 Try.lays128 x w h0 h1
def Try.lays125_ren : Go.Shelf.Ren := ⟨fun | 125 => 66 | 128 => 79 | 129 => 80 | n => n, fun | 46 => 40 | 3 => 3 | 51 => 111 | 53 => 113 | 4 => 4 | 5 => 5 | 9 => 9 | n => n, fun | n => n⟩
theorem Try.lays125 : Go.Proofs.Lays.n125 Try.prog Try.lays125_ren := {
  mixed := by kernel_rfl
  f125 := Try.func66.trans (congrArg some (by kernel_rfl))
  f128 := Try.func79.trans (congrArg some (by kernel_rfl))
  f129 := Try.func80.trans (congrArg some (by kernel_rfl))
  t3 := Try.underlying3
  a3 := Try.isAgg3
  z3 := Try.sizeOf3
  v3 := Try.zeroValue3
  t4 := Try.underlying4
  a4 := Try.isAgg4
  z4 := Try.sizeOf4
  v4 := Try.zeroValue4
  t5 := Try.underlying5
  a5 := Try.isAgg5
  z5 := Try.sizeOf5
  v5 := Try.zeroValue5
  t9 := Try.underlying9
  a9 := Try.isAgg9
  z9 := Try.sizeOf9
  v9 := Try.zeroValue9
  t46 := Try.underlying40
  a46 := Try.isAgg40
  z46 := Try.sizeOf40
  v46 := Try.zeroValue40
  t51 := Try.underlying111
  a51 := Try.isAgg111
  z51 := Try.sizeOf111
  v51 := Try.zeroValue111
  t53 := Try.underlying113
  a53 := Try.isAgg113
  z53 := Try.sizeOf113
  v53 := Try.zeroValue113 }
/-- bits.Len: "Len returns the minimum number of bits required to represent x; the result is 0 for x == 0.": IT RETURNS 'Lib.bitLen x'; the world is as it was. (A uint has 64 bits in the model.) ITS CALLEE bits.Len64 IS MET BY ITS OWN CONTRACT OFF THE SHELF (lay that first). (LAID: no walk: one application.) -/
theorem Try.bits_Len (x : Int) (w : World) (h0 : 0 ≤ x) (h1 : x ≤ 18446744073709551615) :
    Calls Try.prog 66 #[.int .u64 x] w fun e w' => e = .returned (.int .i64 (Lib.bitLen x.toNat)) ∧ w' = w := Any.bits_Len Try.lays125 x w h0 h1
def Try.lays129_ren : Go.Shelf.Ren := ⟨fun | 129 => 80 | n => n, fun | 53 => 113 | 3 => 3 | 4 => 4 | 46 => 40 | 5 => 5 | 9 => 9 | n => n, fun | n => n⟩
theorem Try.lays129 : Go.Proofs.Lays.n129 Try.prog Try.lays129_ren := {
  mixed := by kernel_rfl
  f129 := Try.func80.trans (congrArg some (by kernel_rfl))
  t3 := Try.underlying3
  a3 := Try.isAgg3
  z3 := Try.sizeOf3
  v3 := Try.zeroValue3
  t4 := Try.underlying4
  a4 := Try.isAgg4
  z4 := Try.sizeOf4
  v4 := Try.zeroValue4
  t5 := Try.underlying5
  a5 := Try.isAgg5
  z5 := Try.sizeOf5
  v5 := Try.zeroValue5
  t9 := Try.underlying9
  a9 := Try.isAgg9
  z9 := Try.sizeOf9
  v9 := Try.zeroValue9
  t46 := Try.underlying40
  a46 := Try.isAgg40
  z46 := Try.sizeOf40
  v46 := Try.zeroValue40
  t53 := Try.underlying113
  a53 := Try.isAgg113
  z53 := Try.sizeOf113
  v53 := Try.zeroValue113 }
/-- bits.Len64: "Len64 returns the minimum number of bits required to represent x; the result is 0 for x == 0.": IT RETURNS 'Lib.bitLen x'; the world is as it was. ('h0', 'h1': x is a uint64.) (LAID: no walk: one application.) -/
theorem Try.bits_Len64 (x : Int) (w : World) (h0 : 0 ≤ x) (h1 : x ≤ 18446744073709551615) :
    Calls Try.prog 80 #[.int .u64 x] w fun e w' => e = .returned (.int .i64 (Lib.bitLen x.toNat)) ∧ w' = w := Any.bits_Len64 Try.lays129 x w h0 h1
def Try.lays189_ren : Go.Shelf.Ren := ⟨fun | 189 => 58 | 125 => 66 | 257 => 65 | 128 => 79 | 129 => 80 | 294 => 70 | 295 => 71 | 296 => 72 | 297 => 73 | 298 => 74 | 299 => 75 | 216 => 76 | 300 => 77 | 301 => 78 | 328 => 90 | 329 => 91 | 330 => 92 | 331 => 93 | 332 => 94 | 215 => 95 | 343 => 100 | n => n, fun | 28 => 22 | 3 => 3 | 46 => 40 | 0 => 0 | 51 => 111 | 53 => 113 | 4 => 4 | 183 => 104 | 182 => 103 | 131 => 59 | 5 => 5 | 9 => 9 | 218 => 120 | 222 => 124 | 228 => 128 | 229 => 129 | n => n, fun | n => n⟩
theorem Try.lays189 : Go.Proofs.Lays.n189 Try.prog Try.lays189_ren := {
  mixed := by kernel_rfl
  f125 := Try.func66.trans (congrArg some (by kernel_rfl))
  f128 := Try.func79.trans (congrArg some (by kernel_rfl))
  f129 := Try.func80.trans (congrArg some (by kernel_rfl))
  f189 := Try.func58.trans (congrArg some (by kernel_rfl))
  f215 := Try.func95.trans (congrArg some (by kernel_rfl))
  f216 := Try.func76.trans (congrArg some (by kernel_rfl))
  f257 := Try.func65.trans (congrArg some (by kernel_rfl))
  f294 := Try.func70.trans (congrArg some (by kernel_rfl))
  f295 := Try.func71.trans (congrArg some (by kernel_rfl))
  f296 := Try.func72.trans (congrArg some (by kernel_rfl))
  f297 := Try.func73.trans (congrArg some (by kernel_rfl))
  f298 := Try.func74.trans (congrArg some (by kernel_rfl))
  f299 := Try.func75.trans (congrArg some (by kernel_rfl))
  f300 := Try.func77.trans (congrArg some (by kernel_rfl))
  f301 := Try.func78.trans (congrArg some (by kernel_rfl))
  f328 := Try.func90.trans (congrArg some (by kernel_rfl))
  f329 := Try.func91.trans (congrArg some (by kernel_rfl))
  f330 := Try.func92.trans (congrArg some (by kernel_rfl))
  f331 := Try.func93.trans (congrArg some (by kernel_rfl))
  f332 := Try.func94.trans (congrArg some (by kernel_rfl))
  f343 := Try.func100.trans (congrArg some (by kernel_rfl))
  t0 := Try.underlying0
  a0 := Try.isAgg0
  z0 := Try.sizeOf0
  v0 := Try.zeroValue0
  t3 := Try.underlying3
  a3 := Try.isAgg3
  z3 := Try.sizeOf3
  v3 := Try.zeroValue3
  t4 := Try.underlying4
  a4 := Try.isAgg4
  z4 := Try.sizeOf4
  v4 := Try.zeroValue4
  t5 := Try.underlying5
  a5 := Try.isAgg5
  z5 := Try.sizeOf5
  v5 := Try.zeroValue5
  t9 := Try.underlying9
  a9 := Try.isAgg9
  z9 := Try.sizeOf9
  v9 := Try.zeroValue9
  t28 := Try.underlying22
  a28 := Try.isAgg22
  z28 := Try.sizeOf22
  v28 := Try.zeroValue22
  t46 := Try.underlying40
  a46 := Try.isAgg40
  z46 := Try.sizeOf40
  v46 := Try.zeroValue40
  t51 := Try.underlying111
  a51 := Try.isAgg111
  z51 := Try.sizeOf111
  v51 := Try.zeroValue111
  t53 := Try.underlying113
  a53 := Try.isAgg113
  z53 := Try.sizeOf113
  v53 := Try.zeroValue113
  t131 := Try.underlying59
  a131 := Try.isAgg59
  z131 := Try.sizeOf59
  v131 := Try.zeroValue59
  t182 := Try.underlying103
  a182 := Try.isAgg103
  z182 := Try.sizeOf103
  v182 := Try.zeroValue103
  t183 := Try.underlying104
  a183 := Try.isAgg104
  z183 := Try.sizeOf104
  v183 := Try.zeroValue104
  t218 := Try.underlying120
  a218 := Try.isAgg120
  z218 := Try.sizeOf120
  v218 := Try.zeroValue120
  t222 := Try.underlying124
  a222 := Try.isAgg124
  z222 := Try.sizeOf124
  v222 := Try.zeroValue124
  t228 := Try.underlying128
  a228 := Try.isAgg128
  z228 := Try.sizeOf128
  v228 := Try.zeroValue128
  t229 := Try.underlying129
  a229 := Try.isAgg129
  z229 := Try.sizeOf129
  v229 := Try.zeroValue129 }
open Go.Sort Go.RowKit in
theorem Try.slices_Sort_int (blk off cap : Nat) (zs : List Int) (w : World) (hH : Holds (Value.int .i64) w blk off zs.toArray) (hblk : blk < w.heap.size) (hsz : zs.length < 4611686018427387904) :
    Calls Try.prog 58 #[.slice (some ⟨blk, off, none⟩) zs.length cap] w fun e w' =>
      e = .returned (.tuple #[]) ∧ ∃ n os, w' = grow (putRow (Value.int .i64) (Sort.ahead w n) blk off (zs.mergeSort fun x y => decide (x ≤ y)).toArray) os := Any.slices_Sort_int Try.lays189 blk off cap zs w hH hblk hsz
def Try.lays190_ren : Go.Shelf.Ren := ⟨fun | 190 => 64 | 125 => 66 | 258 => 69 | 128 => 79 | 129 => 80 | 302 => 81 | 303 => 82 | 304 => 83 | 305 => 84 | 306 => 85 | 307 => 86 | 308 => 87 | 309 => 88 | 310 => 89 | 333 => 96 | 329 => 91 | 330 => 92 | 334 => 97 | 335 => 98 | 336 => 99 | 344 => 101 | n => n, fun | 31 => 36 | 9 => 9 | 3 => 3 | 46 => 40 | 0 => 0 | 51 => 111 | 53 => 113 | 4 => 4 | 183 => 104 | 182 => 103 | 131 => 59 | 5 => 5 | 218 => 120 | 222 => 124 | 228 => 128 | 229 => 129 | n => n, fun | n => n⟩
theorem Try.lays190 : Go.Proofs.Lays.n190 Try.prog Try.lays190_ren := {
  mixed := by kernel_rfl
  f125 := Try.func66.trans (congrArg some (by kernel_rfl))
  f128 := Try.func79.trans (congrArg some (by kernel_rfl))
  f129 := Try.func80.trans (congrArg some (by kernel_rfl))
  f190 := Try.func64.trans (congrArg some (by kernel_rfl))
  f258 := Try.func69.trans (congrArg some (by kernel_rfl))
  f302 := Try.func81.trans (congrArg some (by kernel_rfl))
  f303 := Try.func82.trans (congrArg some (by kernel_rfl))
  f304 := Try.func83.trans (congrArg some (by kernel_rfl))
  f305 := Try.func84.trans (congrArg some (by kernel_rfl))
  f306 := Try.func85.trans (congrArg some (by kernel_rfl))
  f307 := Try.func86.trans (congrArg some (by kernel_rfl))
  f308 := Try.func87.trans (congrArg some (by kernel_rfl))
  f309 := Try.func88.trans (congrArg some (by kernel_rfl))
  f310 := Try.func89.trans (congrArg some (by kernel_rfl))
  f329 := Try.func91.trans (congrArg some (by kernel_rfl))
  f330 := Try.func92.trans (congrArg some (by kernel_rfl))
  f333 := Try.func96.trans (congrArg some (by kernel_rfl))
  f334 := Try.func97.trans (congrArg some (by kernel_rfl))
  f335 := Try.func98.trans (congrArg some (by kernel_rfl))
  f336 := Try.func99.trans (congrArg some (by kernel_rfl))
  f344 := Try.func101.trans (congrArg some (by kernel_rfl))
  t0 := Try.underlying0
  a0 := Try.isAgg0
  z0 := Try.sizeOf0
  v0 := Try.zeroValue0
  t3 := Try.underlying3
  a3 := Try.isAgg3
  z3 := Try.sizeOf3
  v3 := Try.zeroValue3
  t4 := Try.underlying4
  a4 := Try.isAgg4
  z4 := Try.sizeOf4
  v4 := Try.zeroValue4
  t5 := Try.underlying5
  a5 := Try.isAgg5
  z5 := Try.sizeOf5
  v5 := Try.zeroValue5
  t9 := Try.underlying9
  a9 := Try.isAgg9
  z9 := Try.sizeOf9
  v9 := Try.zeroValue9
  t31 := Try.underlying36
  a31 := Try.isAgg36
  z31 := Try.sizeOf36
  v31 := Try.zeroValue36
  t46 := Try.underlying40
  a46 := Try.isAgg40
  z46 := Try.sizeOf40
  v46 := Try.zeroValue40
  t51 := Try.underlying111
  a51 := Try.isAgg111
  z51 := Try.sizeOf111
  v51 := Try.zeroValue111
  t53 := Try.underlying113
  a53 := Try.isAgg113
  z53 := Try.sizeOf113
  v53 := Try.zeroValue113
  t131 := Try.underlying59
  a131 := Try.isAgg59
  z131 := Try.sizeOf59
  v131 := Try.zeroValue59
  t182 := Try.underlying103
  a182 := Try.isAgg103
  z182 := Try.sizeOf103
  v182 := Try.zeroValue103
  t183 := Try.underlying104
  a183 := Try.isAgg104
  z183 := Try.sizeOf104
  v183 := Try.zeroValue104
  t218 := Try.underlying120
  a218 := Try.isAgg120
  z218 := Try.sizeOf120
  v218 := Try.zeroValue120
  t222 := Try.underlying124
  a222 := Try.isAgg124
  z222 := Try.sizeOf124
  v222 := Try.zeroValue124
  t228 := Try.underlying128
  a228 := Try.isAgg128
  z228 := Try.sizeOf128
  v228 := Try.zeroValue128
  t229 := Try.underlying129
  a229 := Try.isAgg129
  z229 := Try.sizeOf129
  v229 := Try.zeroValue129 }
open Go.Sort Go.RowKit in
theorem Try.slices_Sort_string (blk off cap : Nat) (ss : List (List UInt8)) (w : World) (hH : Holds encStr w blk off ss.toArray) (hblk : blk < w.heap.size) (hsz : ss.length < 4611686018427387904) :
    Calls Try.prog 64 #[.slice (some ⟨blk, off, none⟩) ss.length cap] w fun e w' =>
      e = .returned (.tuple #[]) ∧ ∃ n os, w' = grow (putRow encStr (Sort.ahead w n) blk off (ss.mergeSort fun x y => decide (x ≤ y)).toArray) os := Any.slices_Sort_string Try.lays190 blk off cap ss w hH hblk hsz
def Try.lays192_ren : Go.Shelf.Ren := ⟨fun | 192 => 55 | 190 => 64 | 125 => 66 | 258 => 69 | 128 => 79 | 129 => 80 | 302 => 81 | 303 => 82 | 304 => 83 | 305 => 84 | 306 => 85 | 307 => 86 | 308 => 87 | 309 => 88 | 310 => 89 | 333 => 96 | 329 => 91 | 330 => 92 | 334 => 97 | 335 => 98 | 336 => 99 | 344 => 101 | n => n, fun | 31 => 36 | 0 => 0 | 9 => 9 | 3 => 3 | 46 => 40 | 51 => 111 | 53 => 113 | 4 => 4 | 183 => 104 | 182 => 103 | 131 => 59 | 5 => 5 | 218 => 120 | 222 => 124 | 228 => 128 | 229 => 129 | n => n, fun | n => n⟩
theorem Try.lays192 : Go.Proofs.Lays.n192 Try.prog Try.lays192_ren := {
  mixed := by kernel_rfl
  f125 := Try.func66.trans (congrArg some (by kernel_rfl))
  f128 := Try.func79.trans (congrArg some (by kernel_rfl))
  f129 := Try.func80.trans (congrArg some (by kernel_rfl))
  f190 := Try.func64.trans (congrArg some (by kernel_rfl))
  f192 := Try.func55.trans (congrArg some (by kernel_rfl))
  f258 := Try.func69.trans (congrArg some (by kernel_rfl))
  f302 := Try.func81.trans (congrArg some (by kernel_rfl))
  f303 := Try.func82.trans (congrArg some (by kernel_rfl))
  f304 := Try.func83.trans (congrArg some (by kernel_rfl))
  f305 := Try.func84.trans (congrArg some (by kernel_rfl))
  f306 := Try.func85.trans (congrArg some (by kernel_rfl))
  f307 := Try.func86.trans (congrArg some (by kernel_rfl))
  f308 := Try.func87.trans (congrArg some (by kernel_rfl))
  f309 := Try.func88.trans (congrArg some (by kernel_rfl))
  f310 := Try.func89.trans (congrArg some (by kernel_rfl))
  f329 := Try.func91.trans (congrArg some (by kernel_rfl))
  f330 := Try.func92.trans (congrArg some (by kernel_rfl))
  f333 := Try.func96.trans (congrArg some (by kernel_rfl))
  f334 := Try.func97.trans (congrArg some (by kernel_rfl))
  f335 := Try.func98.trans (congrArg some (by kernel_rfl))
  f336 := Try.func99.trans (congrArg some (by kernel_rfl))
  f344 := Try.func101.trans (congrArg some (by kernel_rfl))
  t0 := Try.underlying0
  a0 := Try.isAgg0
  z0 := Try.sizeOf0
  v0 := Try.zeroValue0
  t3 := Try.underlying3
  a3 := Try.isAgg3
  z3 := Try.sizeOf3
  v3 := Try.zeroValue3
  t4 := Try.underlying4
  a4 := Try.isAgg4
  z4 := Try.sizeOf4
  v4 := Try.zeroValue4
  t5 := Try.underlying5
  a5 := Try.isAgg5
  z5 := Try.sizeOf5
  v5 := Try.zeroValue5
  t9 := Try.underlying9
  a9 := Try.isAgg9
  z9 := Try.sizeOf9
  v9 := Try.zeroValue9
  t31 := Try.underlying36
  a31 := Try.isAgg36
  z31 := Try.sizeOf36
  v31 := Try.zeroValue36
  t46 := Try.underlying40
  a46 := Try.isAgg40
  z46 := Try.sizeOf40
  v46 := Try.zeroValue40
  t51 := Try.underlying111
  a51 := Try.isAgg111
  z51 := Try.sizeOf111
  v51 := Try.zeroValue111
  t53 := Try.underlying113
  a53 := Try.isAgg113
  z53 := Try.sizeOf113
  v53 := Try.zeroValue113
  t131 := Try.underlying59
  a131 := Try.isAgg59
  z131 := Try.sizeOf59
  v131 := Try.zeroValue59
  t182 := Try.underlying103
  a182 := Try.isAgg103
  z182 := Try.sizeOf103
  v182 := Try.zeroValue103
  t183 := Try.underlying104
  a183 := Try.isAgg104
  z183 := Try.sizeOf104
  v183 := Try.zeroValue104
  t218 := Try.underlying120
  a218 := Try.isAgg120
  z218 := Try.sizeOf120
  v218 := Try.zeroValue120
  t222 := Try.underlying124
  a222 := Try.isAgg124
  z222 := Try.sizeOf124
  v222 := Try.zeroValue124
  t228 := Try.underlying128
  a228 := Try.isAgg128
  z228 := Try.sizeOf128
  v228 := Try.zeroValue128
  t229 := Try.underlying129
  a229 := Try.isAgg129
  z229 := Try.sizeOf129
  v229 := Try.zeroValue129 }
open Go.Sort Go.RowKit in
theorem Try.sort_Strings (blk off cap : Nat) (ss : List (List UInt8)) (w : World) (hH : Holds encStr w blk off ss.toArray) (hblk : blk < w.heap.size) (hsz : ss.length < 4611686018427387904) :
    Calls Try.prog 55 #[.slice (some ⟨blk, off, none⟩) ss.length cap] w fun e w' =>
      e = .returned (.tuple #[]) ∧ ∃ n os, w' = grow (putRow encStr (Sort.ahead w n) blk off (ss.mergeSort fun x y => decide (x ≤ y)).toArray) os := Any.sort_Strings Try.lays192 blk off cap ss w hH hblk hsz
def Try.laysNm237_ren : Go.Shelf.Ren := ⟨fun | 37 => 95 | n => n, fun | 3 => 3 | 4 => 4 | n => n, fun | n => n⟩
theorem Try.laysNm237 : Go.Proofs.Lays2.n37 Try.prog Try.laysNm237_ren := {
  mixed := by kernel_rfl
  f37 := Try.func95.trans (congrArg some (by kernel_rfl))
  t3 := Try.underlying3
  a3 := Try.isAgg3
  z3 := Try.sizeOf3
  v3 := Try.zeroValue3
  t4 := Try.underlying4
  a4 := Try.isAgg4
  z4 := Try.sizeOf4
  v4 := Try.zeroValue4 }
open Go.RowKit Go.Lib in
/-- cmp.isNaN[int]: 'x != x': false. (LAID: no walk: one application.) -/
theorem Try.cmp_isNaN_int2 (x : Int) (w : World) :
    Calls Try.prog 95 #[.int .i64 x] w fun e w' => e = .returned (.bool false) ∧ w' = w := Any.cmp_isNaN_int2 Try.laysNm237 x w
def Try.laysNm231_ren : Go.Shelf.Ren := ⟨fun | 31 => 76 | 37 => 95 | n => n, fun | 3 => 3 | 4 => 4 | n => n, fun | n => n⟩
theorem Try.laysNm231 : Go.Proofs.Lays2.n31 Try.prog Try.laysNm231_ren := {
  mixed := by kernel_rfl
  f31 := Try.func76.trans (congrArg some (by kernel_rfl))
  f37 := Try.func95.trans (congrArg some (by kernel_rfl))
  t3 := Try.underlying3
  a3 := Try.isAgg3
  z3 := Try.sizeOf3
  v3 := Try.zeroValue3
  t4 := Try.underlying4
  a4 := Try.isAgg4
  z4 := Try.sizeOf4
  v4 := Try.zeroValue4 }
open Go.RowKit Go.Lib in
/-- cmp.Less[int]: "Less reports whether x is less than y.": 'x < y'; the world is as it was. (LAID: no walk: one application.) -/
theorem Try.cmp_Less_int2 (x y : Int) (w : World) :
    Calls Try.prog 76 #[.int .i64 x, .int .i64 y] w fun e w' => e = .returned (.bool (decide (x < y))) ∧ w' = w := Any.cmp_Less_int2 Try.laysNm231 x y w
end Go.Proofs
