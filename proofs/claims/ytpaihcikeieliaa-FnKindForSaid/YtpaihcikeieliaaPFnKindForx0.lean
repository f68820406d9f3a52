/- Functions of the program as plain Lean functions, and that the machine's calls do what these say: written for this claim by wip/myprint.py over the kit's print.py. -/
import Derived.Test.YtpaihcikeieliaaProg
import Derived.Below
import Derived.Deep.Draws
import Derived.Deep.AppendLies
import Derived.Maps.AppendAt
import Derived.OwnWalk
import Derived.Laws.BytesArg
import Derived.Laws.MakeOwn
import Derived.Laws.OwnMore
import Derived.Deep.OwnRows
import Derived.Tactics
import Derived.Lib.ConvBytes
import Derived.Laws.Slices
import Derived.WalkKit
import Derived.KernelRfl
import Derived.RowKit3
import Derived.Deep.LoopGhost
import Derived.Deep.QuietTactic
import Derived.BigQuiet
import Derived.WideLaws
import Derived.Deep.DeepCutAuto
import Derived.Deep.CutBlock
import Derived.Deep.RegionHeld3
import Derived.Laws.Rows
import Derived.Lib.AppendStr
import Derived.ArgAppend
import Derived.Laws.IdiomCopy
import Derived.OrdersHeld
import Derived.Laws.BitsLemmas
import Derived.RowKit
import Derived.Test.YtpaihcikeieliaaWWords
import Derived.Test.YtpaihcikeieliaaWLast
import Derived.Test.YtpaihcikeieliaaWTab
import Derived.Test.YtpaihcikeieliaaWFour
import Derived.Test.YtpaihcikeieliaaWQPut
import Derived.Test.YtpaihcikeieliaaWApart
import Derived.Test.YtpaihcikeieliaaWArr
import Derived.Test.YtpaihcikeieliaaWZeros
import Derived.Test.YtpaihcikeieliaaWFoot
import Derived.Test.YtpaihcikeieliaaWKept
import Derived.Test.YtpaihcikeieliaaWShare
import Derived.Test.YtpaihcikeieliaaWN
import Derived.Test.YtpaihcikeieliaaWFootNe
import Derived.Test.YtpaihcikeieliaaWAt
import Derived.Test.YtpaihcikeieliaaWEqStruct
import Derived.Test.YtpaihcikeieliaaWRepsOne
import Derived.Test.YtpaihcikeieliaaWInv
import Derived.Test.YtpaihcikeieliaaWInvWords
import Derived.Test.YtpaihcikeieliaaWGuard
import Derived.Test.YtpaihcikeieliaaWNEv
import Derived.Test.YtpaihcikeieliaaWMore
namespace Go.Proofs.Ytpaihcikeieliaa.PFnKindFor
open Go.RowKit Go.Proofs.YtpaihcikeieliaaW.PrintWords Go.Proofs.YtpaihcikeieliaaW.PrintLast Go.Proofs.YtpaihcikeieliaaW.PrintMore
attribute [local go_sem] max2_int min2_int max_two min_two max_three min_three max_four min_four   -- for this text's walks alone
set_option linter.unusedVariables false
set_option linter.unusedSimpArgs false



def errW : Option Int → Value
  | none => .nilIface
  | some c => .iface 0 (.int .i64 c)
theorem errW_none : errW none = .nilIface := rfl
theorem errW_some (c : Int) : errW (some c) = .iface 0 (.int .i64 c) := rfl

theorem info49 : (Try.prog.info? 49).map (fun i => (i.zero, i.size, i.bytes)) = some (some (.agg #[(.string ⟨#[]⟩), (.string ⟨#[]⟩), (.string ⟨#[]⟩)]), 3, 48) := by kernel_rfl
-- the values' own types
/-! #### struct type 25 -/
structure S25 where
  f0 : ByteArray
  f1 : ByteArray
  f2 : ByteArray
def z25 : S25 := ⟨(⟨#[]⟩ : ByteArray), (⟨#[]⟩ : ByteArray), (⟨#[]⟩ : ByteArray)⟩
def k25 : Kd S25 := Kd.iso (Kd.pair Kd.string (Kd.pair Kd.string Kd.string)) (fun x : S25 => (x.f0, x.f1, x.f2))
theorem k25_open {w : World} {x : S25} {cs : List Value} (h : k25.K w x cs) : cs = [.string x.f0, .string x.f1, .string x.f2] := by
  obtain ⟨_, _, rfl, rfl, ⟨_, _, rfl, rfl, rfl⟩⟩ := h
  exact rfl
theorem k25_openM {w : World} {base : Nat} {ok : Nat → Prop} {x : S25} {cs : List Value} (h : k25.M w base ok x cs) : cs = [.string x.f0, .string x.f1, .string x.f2] := by
  obtain ⟨_, _, rfl, rfl, ⟨_, _, rfl, rfl, rfl⟩⟩ := h
  exact rfl
theorem k25_mk (w : World) (x : S25)  : k25.K w x [.string x.f0, .string x.f1, .string x.f2] := ⟨[.string x.f0], [.string x.f1, .string x.f2], rfl, rfl, ⟨[.string x.f1], [.string x.f2], rfl, rfl, rfl⟩⟩
theorem k25_mkM (w : World) (base : Nat) (ok : Nat → Prop) (x : S25)  : k25.M w base ok x [.string x.f0, .string x.f1, .string x.f2] := ⟨[.string x.f0], [.string x.f1, .string x.f2], rfl, rfl, ⟨[.string x.f1], [.string x.f2], rfl, rfl, rfl⟩⟩
def rd_T25 (xs : List S25) (i : Int) : S25 := xs.getD i.toNat z25
theorem at_T25 {w : World} {A : Option Addr} {n : Nat} {xs : List S25} (h : Kd.C k25 w A n xs) (i : Int) (h0 : 0 ≤ i) (h1 : i < n) : ∃ ad , A = some ad ∧ w.cell? (ad.add (i.toNat * 3)) = some (.string (rd_T25 xs i).f0) ∧ w.cell? ⟨(ad.add (i.toNat * 3)).block, (ad.add (i.toNat * 3)).off + 1, none⟩ = some (.string (rd_T25 xs i).f1) ∧ w.cell? ⟨(ad.add (i.toNat * 3)).block, (ad.add (i.toNat * 3)).off + 2, none⟩ = some (.string (rd_T25 xs i).f2) := by
  obtain ⟨ad, c, e, _, hK, hc0⟩ := Kd.C_get h z25 i h0 h1
  have hc : ∀ j u, c[j]? = some u → w.cell? (ad.add (i.toNat * 3 + j)) = some u := hc0
  obtain rfl := k25_open hK
  exact ⟨ad, e, hc 0 _ rfl, by rw [← add_field _ _ 1 (by omega)]; exact hc 1 _ rfl, by rw [← add_field _ _ 2 (by omega)]; exact hc 2 _ rfl⟩

/-! #### struct type 49 -/
structure S49 where
  f0 : ByteArray
  f1 : ByteArray
  f2 : ByteArray
def z49 : S49 := ⟨(⟨#[]⟩ : ByteArray), (⟨#[]⟩ : ByteArray), (⟨#[]⟩ : ByteArray)⟩
def k49 : Kd S49 := Kd.iso (Kd.pair Kd.string (Kd.pair Kd.string Kd.string)) (fun x : S49 => (x.f0, x.f1, x.f2))
theorem k49_open {w : World} {x : S49} {cs : List Value} (h : k49.K w x cs) : cs = [.string x.f0, .string x.f1, .string x.f2] := by
  obtain ⟨_, _, rfl, rfl, ⟨_, _, rfl, rfl, rfl⟩⟩ := h
  exact rfl
theorem k49_openM {w : World} {base : Nat} {ok : Nat → Prop} {x : S49} {cs : List Value} (h : k49.M w base ok x cs) : cs = [.string x.f0, .string x.f1, .string x.f2] := by
  obtain ⟨_, _, rfl, rfl, ⟨_, _, rfl, rfl, rfl⟩⟩ := h
  exact rfl
theorem k49_mk (w : World) (x : S49)  : k49.K w x [.string x.f0, .string x.f1, .string x.f2] := ⟨[.string x.f0], [.string x.f1, .string x.f2], rfl, rfl, ⟨[.string x.f1], [.string x.f2], rfl, rfl, rfl⟩⟩
theorem k49_mkM (w : World) (base : Nat) (ok : Nat → Prop) (x : S49)  : k49.M w base ok x [.string x.f0, .string x.f1, .string x.f2] := ⟨[.string x.f0], [.string x.f1, .string x.f2], rfl, rfl, ⟨[.string x.f1], [.string x.f2], rfl, rfl, rfl⟩⟩
def rd_T49 (xs : List S49) (i : Int) : S49 := xs.getD i.toNat z49
theorem at_T49 {w : World} {A : Option Addr} {n : Nat} {xs : List S49} (h : Kd.C k49 w A n xs) (i : Int) (h0 : 0 ≤ i) (h1 : i < n) : ∃ ad , A = some ad ∧ w.cell? (ad.add (i.toNat * 3)) = some (.string (rd_T49 xs i).f0) ∧ w.cell? ⟨(ad.add (i.toNat * 3)).block, (ad.add (i.toNat * 3)).off + 1, none⟩ = some (.string (rd_T49 xs i).f1) ∧ w.cell? ⟨(ad.add (i.toNat * 3)).block, (ad.add (i.toNat * 3)).off + 2, none⟩ = some (.string (rd_T49 xs i).f2) := by
  obtain ⟨ad, c, e, _, hK, hc0⟩ := Kd.C_get h z49 i h0 h1
  have hc : ∀ j u, c[j]? = some u → w.cell? (ad.add (i.toNat * 3 + j)) = some u := hc0
  obtain rfl := k49_open hK
  exact ⟨ad, e, hc 0 _ rfl, by rw [← add_field _ _ 1 (by omega)]; exact hc 1 _ rfl, by rw [← add_field _ _ 2 (by omega)]; exact hc 2 _ rfl⟩

end Go.Proofs.Ytpaihcikeieliaa.PFnKindFor
