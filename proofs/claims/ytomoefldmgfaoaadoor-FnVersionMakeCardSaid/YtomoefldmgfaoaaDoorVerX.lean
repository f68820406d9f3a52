/- Versions: the text of a version of two numbers. -/
import Derived.Test.YtomoefldmgfaoaaDoorVerW
import Derived.Lib.BufferOld
set_option linter.unusedVariables false
set_option linter.unusedSimpArgs false
namespace Go.Proofs.YtomoefldmgfaoaaDoor.Ver
open Go Go.Sort Go.RowKit Go.Proofs.YtomoefldmgfaoaaDoorW.PrintWords

def txt (a m : Nat) : ByteArray := ⟨(Lib.decDigits a ++ 46 :: Lib.decDigits m).toArray⟩
theorem dig_data (u : Nat) : (dig u).data.toList = Lib.decDigits u := rfl
theorem dig_len : ∀ (k u : Nat), u < 10 ^ (k + 1) → (Lib.decDigits u).length ≤ k + 1 := by
  intro k u h
  rw [Lib.decDigits_length]
  induction k generalizing u with
  | zero => rw [Lib.nDigits_small (by omega)]; omega
  | succ k ih =>
    by_cases hu : u < 10
    · rw [Lib.nDigits_small hu]; omega
    · rw [Lib.nDigits_big hu]
      have := ih (u / 10) (by rw [Nat.pow_succ] at h; omega)
      omega
theorem dig_size (u : Nat) (h : u < 18446744073709551616) : (dig u).size ≤ 20 := by
  have := dig_len 19 u (by omega)
  show (Lib.decDigits u).toArray.size ≤ 20
  simpa using this
theorem cells_add (l k : List UInt8) : Lib.byteCells l ++ Lib.byteCells k = Lib.byteCells (l ++ k) := by simp [Lib.byteCells]
/-- The cells of a version of two numbers. -/
def IsVer (w : World) (g c a m : Nat) : Prop := w.heap[g]? = some (.cells #[.slice (some ⟨c, 0, none⟩) 2 2, .bool false, .string ⟨#[]⟩, .string ⟨#[]⟩] 90 (0, 0)) ∧ w.heap[c]? = some (.cells #[.int .u64 (a : Int), .int .u64 (m : Int)] 22 (0, 0))
theorem IsVer.below {w w' : World} {g c a m : Nat} (h : IsVer w g c a m) (hb : Below w.heap.size w w') : IsVer w' g c a m := ⟨blk_below h.1 hb, blk_below h.2 hb⟩

set_option maxHeartbeats 6400000 in
set_option maxRecDepth 100000 in
theorem str_calls (g c a m : Nat) (ha : a < 18446744073709551616) (hm : m < 18446744073709551616) (w : World) (hv : IsVer w g c a m) (htab : Lib.TabIs Tryd.prog w "internal/strconv.uint64pow10" .u64 Lib.pow10Tab) :
    Calls Tryd.prog 62 #[.pointer (some ⟨g, 0, none⟩)] w fun e w' => e = .returned (.string (txt a m)) ∧ Below w.heap.size w w' := by
  have mixed : Tryd.prog.follows .mixedOrders = true := by kernel_rfl
  have hu1 := Tryd.underlying90
  have hu2 := Tryd.underlying106
  have HT : Aside0 (∀ w', Below w.heap.size w w' → Lib.TabIs Tryd.prog w' "internal/strconv.uint64pow10" .u64 Lib.pow10Tab) := ⟨Lib.tabBelow_of_tabIs htab⟩
  have HV := Aside0.mk hv
  have HA := Aside0.mk (fun w h => fmt_calls a ha w h)
  have HM := Aside0.mk (fun w h => fmt_calls m hm w h)
  have sa := Aside0.mk (dig_size a ha)
  have sm := Aside0.mk (dig_size m hm)
  have c0 : w.cell? ⟨g, 0, none⟩ = some (.slice (some ⟨c, 0, none⟩) 2 2) := blk_cell hv.1 0
  have d0 : w.cell? ⟨c, 0, none⟩ = some (.int .u64 (a : Int)) := blk_cell hv.2 0
  have hgl : g < w.heap.size := blk_lt hv.1
  have hcl : c < w.heap.size := blk_lt hv.2
  have I0 := Aside0.mk (Lib.fresh_isBuffer 106 5 w)
  have len2 : (Lib.byteCells (Lib.decDigits a)).length + (⟨#[46]⟩ : ByteArray).size ≤ 140737488355328 := by
    have h1 := dig_len 19 a (by omega)
    have h2 : (⟨#[46]⟩ : ByteArray).size = 1 := rfl
    rw [Lib.byteCells_length]; omega
  have len4 : (Lib.byteCells (Lib.decDigits a ++ [46])).length + (dig m).size ≤ 140737488355328 := by
    have h1 := dig_len 19 a (by omega)
    have h2 := dig_size m hm
    rw [Lib.byteCells_length, List.length_append]; simp; omega
  clear htab hv ha hm
  go_enter Tryd.func62, Tryd.ntmps62
  go_wp2
  refine wp_loop_rounds 3 ?_
  rw [rounds_succ]
  go_wp2_with (first
    | (go_at_call 84; (with_reducible refine (HA.out _ (HT.out _ (below_alloc (Below.refl _ _) _))).mono ?_); rintro e w1 ⟨rfl, hb⟩; have I1 := Aside0.mk (Lib.IsBuffer.old I0.out hb); have B1 := Aside0.mk (below_step (below_alloc (Below.refl w.heap.size w) _) hb); clear hb)
    | (go_at_call 83; (with_reducible refine (Tryd.Buffer_WriteString _ _ _ _ _ I1.out B1.out.size (by simp) (by have := sa.out; simp; omega)).mono ?_); rintro e w2 ⟨rfl, hi, hb⟩; have I2 : Aside0 (Lib.IsBuffer 106 5 w.heap.size w.heap.size (Lib.byteCells (Lib.decDigits a)) w2) := ⟨hi⟩; have B2 := Aside0.mk (B1.out.trans hb); have d1 : w2.cell? ⟨c, 1, none⟩ = some (.int .u64 (m : Int)) := blk_cell (HV.out.below B2.out).2 1; clear hb hi))
  rw [rounds_succ]
  go_wp2_with (first
    | (go_at_call 83; (with_reducible refine (Tryd.Buffer_WriteString _ _ _ _ _ I2.out B2.out.size (Lib.byteCells_one _) len2).mono ?_); rintro e w3 ⟨rfl, hi, hb⟩; have I3 : Aside0 (Lib.IsBuffer 106 5 w.heap.size w.heap.size (Lib.byteCells (Lib.decDigits a ++ [46])) w3) := ⟨by rw [← cells_add]; exact hi⟩; have B3 := Aside0.mk (B2.out.trans hb); clear hb hi)
    | (go_at_call 84; (with_reducible refine (HM.out _ (HT.out _ B3.out)).mono ?_); rintro e w4 ⟨rfl, hb⟩; have I4 := Aside0.mk (Lib.IsBuffer.old I3.out hb); have B4 := Aside0.mk (below_step B3.out hb); clear hb)
    | (go_at_call 83; (with_reducible refine (Tryd.Buffer_WriteString _ _ _ _ _ I4.out B4.out.size (Lib.byteCells_one _) len4).mono ?_); rintro e w5 ⟨rfl, hi, hb⟩; have I5 : Aside0 (Lib.IsBuffer 106 5 w.heap.size w.heap.size (Lib.byteCells (Lib.decDigits a ++ [46] ++ Lib.decDigits m)) w5) := ⟨by rw [← cells_add]; exact hi⟩; have B5 := Aside0.mk (B4.out.trans hb); have V5 := Aside0.mk (HV.out.below B5.out); have k2 : w5.cell? ⟨g, 2, none⟩ = some (.string ⟨#[]⟩) := blk_cell V5.out.1 2; have k3 : w5.cell? ⟨g, 3, none⟩ = some (.string ⟨#[]⟩) := blk_cell V5.out.1 3; clear hb hi))
  rw [rounds_succ]
  go_wp2_with (go_at_call 85; (with_reducible refine (Tryd.Buffer_String _ _ _ _ I5.out).mono ?_); rintro e w6 ⟨rfl, n, rfl⟩)
  go_ret
  exact ⟨rfl, pw_below_drewN B5.out _⟩
end Go.Proofs.YtomoefldmgfaoaaDoor.Ver
