/- Functions of the program as plain Lean functions, and that the machine's calls do what these say: written for this claim by wip/myprint.py over the kit's print.py. -/
import Derived.Test.YtomoefldmgfaoaaDoorProg
import Derived.Below
import Derived.Deep.Draws
import Derived.Deep.AppendLies
import Derived.Maps.AppendAt
import Derived.OwnWalk
import Derived.Laws.BytesArg
import Derived.Laws.MakeOwn
import Derived.Laws.OwnMore
import Derived.Deep.OwnRows
import Derived.Tactics
import Derived.Lib.ConvBytes
import Derived.Laws.Slices
import Derived.WalkKit
import Derived.KernelRfl
import Derived.RowKit3
import Derived.Deep.LoopGhost
import Derived.Deep.QuietTactic
import Derived.BigQuiet
import Derived.WideLaws
import Derived.Deep.DeepCutAuto
import Derived.Deep.CutBlock
import Derived.Deep.RegionHeld3
import Derived.Laws.Rows
import Derived.Lib.AppendStr
import Derived.ArgAppend
import Derived.Laws.IdiomCopy
import Derived.OrdersHeld
import Derived.Laws.BitsLemmas
import Derived.RowKit
import Derived.WalkMore
import Derived.Test.YtomoefldmgfaoaaDoorPvSa
import Derived.Test.YtomoefldmgfaoaaDoorWWords
import Derived.Test.YtomoefldmgfaoaaDoorWLast
import Derived.Test.YtomoefldmgfaoaaDoorWTab
import Derived.Test.YtomoefldmgfaoaaDoorWQPut
import Derived.Test.YtomoefldmgfaoaaDoorWApart
import Derived.Test.YtomoefldmgfaoaaDoorWArr
import Derived.Test.YtomoefldmgfaoaaDoorWZeros
import Derived.Test.YtomoefldmgfaoaaDoorWFoot
import Derived.Test.YtomoefldmgfaoaaDoorWKept
import Derived.Test.YtomoefldmgfaoaaDoorWShare
import Derived.Test.YtomoefldmgfaoaaDoorWN
import Derived.Test.YtomoefldmgfaoaaDoorWRepsOne
import Derived.Test.YtomoefldmgfaoaaDoorWGuard
import Derived.Test.YtomoefldmgfaoaaDoorWNEv
import Derived.Test.YtomoefldmgfaoaaDoorWMore
namespace Go.Proofs.YtomoefldmgfaoaaDoor.PFnVersionSteps
open Go.RowKit Go.Proofs.YtomoefldmgfaoaaDoorW.PrintWords Go.Proofs.YtomoefldmgfaoaaDoorW.PrintLast Go.Proofs.YtomoefldmgfaoaaDoorW.PrintMore
attribute [local go_sem] max2_int min2_int max_two min_two max_three min_three max_four min_four   -- for this text's walks alone
set_option linter.unusedVariables false
set_option linter.unusedSimpArgs false
abbrev bS_ := @below_set
abbrev bN_ := @blk_drewN
abbrev bA_ := @blk_alloc
abbrev bD_ := @blk_drew
abbrev aM_ := @Aside0.mk
abbrev wN_ := @pw_below_drewN
abbrev bE_ := @below_drew1
abbrev bB_ := @below_alloc
abbrev bF_ := @blk_frozen
abbrev bC_ := @blk_cell
abbrev kN_ := @Kd.R_drewN
abbrev kA_ := @Kd.R_alloc
abbrev kD_ := @Kd.R_drew



def errW : Option Int → Value
 | none => .nilIface
 | some c => .iface 0 (.int .i64 c)
theorem errW_none : errW none = .nilIface := rfl
theorem errW_some (c : Int) : errW (some c) = .iface 0 (.int .i64 c) := rfl

theorem info9 : (Tryd.prog.info? 9).map (fun i => (i.zero, i.size, i.bytes)) = some (some (.string ⟨#[]⟩), 1, 16) := by kernel_rfl
theorem info22 : (Tryd.prog.info? 22).map (fun i => (i.zero, i.size, i.bytes)) = some (some (.int .u64 0), 1, 8) := by kernel_rfl
-- the values' own types
/-! #### struct type 47 -/
structure S47 where
 f0 : Int
 f1 : Int
 f2 : Int
 f3 : ByteArray
def z47 : S47 := ⟨(0 : Int), (0 : Int), (0 : Int), (⟨#[]⟩ : ByteArray)⟩
def k47 : Kd S47 := Kd.iso (Kd.pair (Kd.int .i64) (Kd.pair (Kd.int .u64) (Kd.pair (Kd.int .i64) Kd.string))) (fun x : S47 => (x.f0, x.f1, x.f2, x.f3))
theorem k47_open {w : World} {x : S47} {cs : List Value} (h : k47.K w x cs) : cs = [.int .i64 x.f0, .int .u64 x.f1, .int .i64 x.f2, .string x.f3] := by
 obtain ⟨_, _, rfl, rfl, ⟨_, _, rfl, rfl, ⟨_, _, rfl, rfl, rfl⟩⟩⟩ := h
 exact rfl
def rd_T47 (xs : List S47) (i : Int) : S47 := xs.getD i.toNat z47
theorem at_T47 {w : World} {A : Option Addr} {n : Nat} {xs : List S47} (h : Kd.C k47 w A n xs) (i : Int) (h0 : 0 ≤ i) (h1 : i < n) : ∃ ad , A = some ad ∧ w.cell? (ad.add (i.toNat * 4)) = some (.int .i64 (rd_T47 xs i).f0) ∧ w.cell? ⟨(ad.add (i.toNat * 4)).block, (ad.add (i.toNat * 4)).off + 1, none⟩ = some (.int .u64 (rd_T47 xs i).f1) ∧ w.cell? ⟨(ad.add (i.toNat * 4)).block, (ad.add (i.toNat * 4)).off + 2, none⟩ = some (.int .i64 (rd_T47 xs i).f2) ∧ w.cell? ⟨(ad.add (i.toNat * 4)).block, (ad.add (i.toNat * 4)).off + 3, none⟩ = some (.string (rd_T47 xs i).f3) := by
 obtain ⟨ad, c, e, _, hK, hc0⟩ := Kd.C_get h z47 i h0 h1
 have hc : ∀ j u, c[j]? = some u → w.cell? (ad.add (i.toNat * 4 + j)) = some u := hc0
 obtain rfl := k47_open hK
 exact ⟨ad, e, hc 0 _ rfl, by rw [← add_field _ _ 1 (by omega)]; exact hc 1 _ rfl, by rw [← add_field _ _ 2 (by omega)]; exact hc 2 _ rfl, by rw [← add_field _ _ 3 (by omega)]; exact hc 3 _ rfl⟩

def rd_L5 (xs : List (List S47)) (i : Int) : (List S47) := xs.getD i.toNat ([] : List S47)
def rd_L7 (xs : List (List Int)) (i : Int) : (List Int) := xs.getD i.toNat ([] : List Int)
/-! #### struct type 28 -/
structure S28 where
 f0 : Bool
 f1 : (List Int)
 f2 : ByteArray
 f3 : ByteArray
 f4 : ByteArray
 f5 : Int
 f6 : Int
 f7 : Int
def z28 : S28 := ⟨false, ([] : List Int), (⟨#[]⟩ : ByteArray), (⟨#[]⟩ : ByteArray), (⟨#[]⟩ : ByteArray), (0 : Int), (0 : Int), (0 : Int)⟩
def k28 : Kd S28 := Kd.iso (Kd.pair Kd.bool (Kd.pair (Kd.slice 22 (Kd.int .u64)) (Kd.pair Kd.string (Kd.pair Kd.string (Kd.pair Kd.string (Kd.pair (Kd.int .u64) (Kd.pair (Kd.int .u64) (Kd.int .u64)))))))) (fun x : S28 => (x.f0, x.f1, x.f2, x.f3, x.f4, x.f5, x.f6, x.f7))
theorem k28_open {w : World} {x : S28} {cs : List Value} (h : k28.K w x cs) : ∃ A1 c1, cs = [.bool x.f0, .slice A1 x.f1.length c1, .string x.f2, .string x.f3, .string x.f4, .int .u64 x.f5, .int .u64 x.f6, .int .u64 x.f7] ∧ x.f1.length ≤ c1 ∧ (Kd.int .u64).C w A1 x.f1.length x.f1 := by
 obtain ⟨_, _, rfl, rfl, ⟨_, _, rfl, ⟨A1, c1, rfl, l1, g1⟩, ⟨_, _, rfl, rfl, ⟨_, _, rfl, rfl, ⟨_, _, rfl, rfl, ⟨_, _, rfl, rfl, ⟨_, _, rfl, rfl, rfl⟩⟩⟩⟩⟩⟩⟩ := h
 exact ⟨A1, c1, rfl, l1, g1⟩
theorem k28_mkM (w : World) (base : Nat) (ok : Nat → Prop) (x : S28) {v1 : Value} (g1 : (Kd.int .u64).R 22 w base ok v1 x.f1) : k28.M w base ok x [.bool x.f0, v1, .string x.f2, .string x.f3, .string x.f4, .int .u64 x.f5, .int .u64 x.f6, .int .u64 x.f7] := ⟨[.bool x.f0], [v1, .string x.f2, .string x.f3, .string x.f4, .int .u64 x.f5, .int .u64 x.f6, .int .u64 x.f7], rfl, rfl, ⟨[v1], [.string x.f2, .string x.f3, .string x.f4, .int .u64 x.f5, .int .u64 x.f6, .int .u64 x.f7], rfl, ⟨v1, rfl, g1⟩, ⟨[.string x.f2], [.string x.f3, .string x.f4, .int .u64 x.f5, .int .u64 x.f6, .int .u64 x.f7], rfl, rfl, ⟨[.string x.f3], [.string x.f4, .int .u64 x.f5, .int .u64 x.f6, .int .u64 x.f7], rfl, rfl, ⟨[.string x.f4], [.int .u64 x.f5, .int .u64 x.f6, .int .u64 x.f7], rfl, rfl, ⟨[.int .u64 x.f5], [.int .u64 x.f6, .int .u64 x.f7], rfl, rfl, ⟨[.int .u64 x.f6], [.int .u64 x.f7], rfl, rfl, rfl⟩⟩⟩⟩⟩⟩⟩
def rd_T28 (xs : List S28) (i : Int) : S28 := xs.getD i.toNat z28
theorem at_T28 {w : World} {A : Option Addr} {n : Nat} {xs : List S28} (h : Kd.C k28 w A n xs) (i : Int) (h0 : 0 ≤ i) (h1 : i < n) : ∃ ad A1 c1, A = some ad ∧ w.cell? (ad.add (i.toNat * 8)) = some (.bool (rd_T28 xs i).f0) ∧ w.cell? ⟨(ad.add (i.toNat * 8)).block, (ad.add (i.toNat * 8)).off + 1, none⟩ = some (.slice A1 (rd_T28 xs i).f1.length c1) ∧ w.cell? ⟨(ad.add (i.toNat * 8)).block, (ad.add (i.toNat * 8)).off + 2, none⟩ = some (.string (rd_T28 xs i).f2) ∧ w.cell? ⟨(ad.add (i.toNat * 8)).block, (ad.add (i.toNat * 8)).off + 3, none⟩ = some (.string (rd_T28 xs i).f3) ∧ w.cell? ⟨(ad.add (i.toNat * 8)).block, (ad.add (i.toNat * 8)).off + 4, none⟩ = some (.string (rd_T28 xs i).f4) ∧ w.cell? ⟨(ad.add (i.toNat * 8)).block, (ad.add (i.toNat * 8)).off + 5, none⟩ = some (.int .u64 (rd_T28 xs i).f5) ∧ w.cell? ⟨(ad.add (i.toNat * 8)).block, (ad.add (i.toNat * 8)).off + 6, none⟩ = some (.int .u64 (rd_T28 xs i).f6) ∧ w.cell? ⟨(ad.add (i.toNat * 8)).block, (ad.add (i.toNat * 8)).off + 7, none⟩ = some (.int .u64 (rd_T28 xs i).f7) ∧ (rd_T28 xs i).f1.length ≤ c1 ∧ (Kd.int .u64).C w A1 (rd_T28 xs i).f1.length (rd_T28 xs i).f1 := by
 obtain ⟨ad, c, e, _, hK, hc0⟩ := Kd.C_get h z28 i h0 h1
 have hc : ∀ j u, c[j]? = some u → w.cell? (ad.add (i.toNat * 8 + j)) = some u := hc0
 obtain ⟨A1, c1, rfl, l1, g1⟩ := k28_open hK
 exact ⟨ad, A1, c1, e, hc 0 _ rfl, by rw [← add_field _ _ 1 (by omega)]; exact hc 1 _ rfl, by rw [← add_field _ _ 2 (by omega)]; exact hc 2 _ rfl, by rw [← add_field _ _ 3 (by omega)]; exact hc 3 _ rfl, by rw [← add_field _ _ 4 (by omega)]; exact hc 4 _ rfl, by rw [← add_field _ _ 5 (by omega)]; exact hc 5 _ rfl, by rw [← add_field _ _ 6 (by omega)]; exact hc 6 _ rfl, by rw [← add_field _ _ 7 (by omega)]; exact hc 7 _ rfl, l1, g1⟩

def rd_L9 (xs : List (List S28)) (i : Int) : (List S28) := xs.getD i.toNat ([] : List S28)
end Go.Proofs.YtomoefldmgfaoaaDoor.PFnVersionSteps
