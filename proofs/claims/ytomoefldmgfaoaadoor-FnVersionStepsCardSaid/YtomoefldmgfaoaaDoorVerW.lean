/- Versions: a number's decimal digits, as the library writes them. -/
import Derived.Test.YtomoefldmgfaoaaDoorShelf
import Derived.Test.YtomoefldmgfaoaaDoorWWords
import Derived.WalkKit
import Derived.WalkMore
import Derived.KernelRfl
import Derived.Shelf.SlSortCmp.QuietGrown
import Derived.Deep.QuietTactic
import Derived.BigQuiet
import Derived.Lib.ItoaMem
import Derived.Lib.AppendIntMem
set_option linter.unusedVariables false
set_option linter.unusedSimpArgs false
namespace Go.Proofs.YtomoefldmgfaoaaDoor.Ver
open Go Go.Sort Go.RowKit Go.Proofs.YtomoefldmgfaoaaDoorW.PrintWords

def dig (u : Nat) : ByteArray := ⟨(Lib.decDigits u).toArray⟩
theorem fin0 (w : World) (o : Obj) (dk : Array UInt8) (k : Nat) : ∃ os, (putRow (fun (b : UInt8) => Value.int .u8 (b.toNat : Int)) (w.alloc o) w.heap.size 0 dk).drewN k = grow (w.drewN k) os := by
  rw [alloc_eq_grow]
  obtain ⟨os', _, e⟩ := putRow_grow_new (fun (b : UInt8) => Value.int .u8 (b.toNat : Int)) w #[o] w.heap.size 0 dk (Nat.le_refl _)
  exact ⟨os', by rw [e]; rfl⟩
set_option maxHeartbeats 6400000 in
set_option maxRecDepth 100000 in
theorem fmt_inner (u : Nat) (hu64 : u < 18446744073709551616) (w : World) (htab : Lib.TabIs Tryd.prog w "internal/strconv.uint64pow10" .u64 Lib.pow10Tab) :
    Calls Tryd.prog 93 #[.int .u64 (u : Int), .int .i64 10] w fun e w' => e = .returned (.string (dig u)) ∧ Below w.heap.size w w' := by
  have mixed : Tryd.prog.follows .mixedOrders = true := by kernel_rfl
  have ta := Tryd.underlying127
  have ts := Tryd.underlying91
  have t9 := Tryd.underlying9
  by_cases hs : u < 100
  · have q1 : ((u : Int) < 100) = True := eq_true (by omega)
    have q2 : (u < 100) = True := eq_true (by omega)
    have e1 : wrap64 (u : Int) = (u : Int) := IntWalk.wrap64_in _ ⟨by omega, by omega⟩
    go_enter Tryd.func93, Tryd.ntmps93
    go_wp2_with (go_at_call 107; refine (Tryd.internal_strconv_small u hs _).mono ?_; rintro e w' ⟨rfl, rfl⟩)
    go_ret
    exact ⟨rfl, Below.refl _ _⟩
  · have hu1 : 1 ≤ u := by omega
    have hnd20 : Lib.nDigits u ≤ 20 := by have := Lib.numDigits_eq u hu1 hu64; split at this <;> omega
    have q1 : ((u : Int) < 100) = False := eq_false (by omega)
    have hal : Tryd.prog.arrayLen 127 = 24 := by simp [Program.arrayLen, ta]
    have hsl0 : ∀ W, (Instr.sliceAt 127 (.pointer (some ⟨w.heap.size, 0, none⟩)) none (some (.int .i64 (Lib.nDigits u : Int))) none).run Tryd.prog W = .ok (.slice (some ⟨w.heap.size, 0, none⟩) (Lib.nDigits u) 24) W := fun W => by
      rw [run_sliceAt_array_h W 127 ⟨w.heap.size, 0, none⟩ (by simp [Program.arrayLen, Program.elem, ta]) .i64 (Lib.nDigits u : Int) (by omega) (by rw [hal]; omega)]
      go_simp
      try omega
    have hH0 := Lib.holds_zero0 w 127 (Lib.nDigits u) (by omega)
    have hfmt := Tryd.internal_strconv_formatBase10 w.heap.size 0 24 u (Array.replicate (Lib.nDigits u) 0) (w.alloc (.cells Lib.zeros24 127)) hH0 (by rw [Array.size_replicate]; exact Lib.lt_pow_nDigits u) hu64 (by rw [Array.size_replicate]; omega)
    rw [Array.size_replicate] at hfmt
    have HH0 := Lib.hid hH0
    clear hH0 hal
    go_enter Tryd.func93, Tryd.ntmps93
    go_wp2_with (first
      | (go_at_call 108; refine (Tryd.internal_strconv_numDigits u hu1 hu64 _ (Lib.tabIs_alloc htab _)).mono ?_; rintro e w' ⟨rfl, rfl⟩))
    go_at_call 109
    refine hfmt.mono ?_
    rintro e w' ⟨rfl, k, v', dk, rfl, hF⟩
    have hcv : (convert 91 9 (.slice (some ⟨w.heap.size, 0, none⟩) (Lib.nDigits u) 24)).run Tryd.prog ((putRow (fun (b : UInt8) => Value.int .u8 (b.toNat : Int)) (w.alloc (.cells Lib.zeros24 127)) w.heap.size 0 dk).drewN k) = .ok (.string (dig u)) ((putRow (fun (b : UInt8) => Value.int .u8 (b.toNat : Int)) (w.alloc (.cells Lib.zeros24 127)) w.heap.size 0 dk).drewN k) := by
      have h := run_convert_bytes_back (P := Tryd.prog) ((putRow (fun (b : UInt8) => Value.int .u8 (b.toNat : Int)) (w.alloc (.cells Lib.zeros24 127)) w.heap.size 0 dk).drewN k) 91 9 5 ⟨w.heap.size, 0, none⟩ 24 (Lib.decDigits u) ts Tryd.underlying5 t9 (fun j hj => by
        rw [Lib.row_is_numeral hF j hj, Lib.add_plain, World.cell?_drewN]
        exact cell?_putRow (fun (b : UInt8) => Value.int .u8 (b.toNat : Int)) _ w.heap.size 0 _ dk HH0.out (by rw [hF.size, Array.size_replicate]) j (by rw [hF.size]; rw [Lib.decDigits_length] at hj; exact hj))
      rw [Lib.decDigits_length] at h
      exact h
    go_wp2
    go_ret
    obtain ⟨os, eo⟩ := fin0 w (.cells Lib.zeros24 127) dk k
    exact ⟨rfl, by rw [eo]; exact Lib.below_grow _ _ (Nat.le_refl _) k os⟩
theorem fmt_calls (u : Nat) (hu64 : u < 18446744073709551616) (w : World) (htab : Lib.TabIs Tryd.prog w "internal/strconv.uint64pow10" .u64 Lib.pow10Tab) :
    Calls Tryd.prog 84 #[.int .u64 (u : Int), .int .i64 10] w fun e w' => e = .returned (.string (dig u)) ∧ Below w.heap.size w w' := by
  go_enter Tryd.func84, Tryd.ntmps84
  go_wp2_with (go_at_call 93; refine (fmt_inner u hu64 _ htab).mono ?_; rintro e w' ⟨rfl, hb⟩)
  go_ret
  exact ⟨rfl, hb⟩
end Go.Proofs.YtomoefldmgfaoaaDoor.Ver
