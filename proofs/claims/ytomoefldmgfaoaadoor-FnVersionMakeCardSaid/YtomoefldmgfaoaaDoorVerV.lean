/- Versions: made, and compared with what was asked. -/
import Derived.Test.YtomoefldmgfaoaaDoorVerY
import Derived.Test.YtomoefldmgfaoaaDoorVerP
import Derived.Lib.QuietBelow
set_option linter.unusedVariables false
set_option linter.unusedSimpArgs false
namespace Go.Proofs.YtomoefldmgfaoaaDoor.Ver
open Go Go.Sort Go.RowKit Go.Proofs.YtomoefldmgfaoaaDoorW.PrintWords Go.Proofs.YtomoefldmgfaoaaDoor.PFnVersionMake

set_option maxRecDepth 100000 in
theorem mm_calls (a m : Nat) (w : World) : Calls Tryd.prog 30 #[.int .u64 (a : Int), .int .u64 (m : Int)] w fun e w' => ∃ g c, e = .returned (.pointer (some ⟨g, 0, none⟩)) ∧ IsVer w' g c a m ∧ Below w.heap.size w w' := by
  have hu1 := Tryd.underlying90
  go_enter Tryd.func30, Tryd.ntmps30
  go_wp2
  go_ret
  refine ⟨w.heap.size + 1, w.heap.size, rfl, ⟨?_, ?_⟩, ?_⟩
  · have h := blk_new (w.alloc (.cells #[.int .u64 (a : Int), .int .u64 (m : Int)] 22)) (.cells #[.slice (some ⟨w.heap.size, 0, none⟩) 2 2, .bool false, .string ⟨#[]⟩, .string ⟨#[]⟩] 90)
    rw [show (w.alloc (.cells #[.int .u64 (a : Int), .int .u64 (m : Int)] 22)).heap.size = w.heap.size + 1 by simp] at h
    exact h
  · exact blk_alloc (blk_new w _) _
  · repeat (first | exact Below.refl _ _ | apply below_alloc | apply pw_below_drewN | apply below_drew1)
set_option maxHeartbeats 6400000 in
set_option maxRecDepth 100000 in
theorem make_calls (a m : Nat) (ha : a < 18446744073709551616) (hm : m < 18446744073709551616) (w : World) (htab : Lib.TabIs Tryd.prog w "internal/strconv.uint64pow10" .u64 Lib.pow10Tab) :
    Calls Tryd.prog 10 #[.int .u64 (a : Int), .int .u64 (m : Int)] w fun e w' => ∃ bc cp, e = .returned (verOut bc cp a m) ∧ Two w' bc a m ∧ Below w.heap.size w w' := by
  have mixed : Tryd.prog.follows .mixedOrders = true := by kernel_rfl
  have hu2 := Tryd.underlying28
  have HT : Aside0 (∀ w', Below w.heap.size w w' → Lib.TabIs Tryd.prog w' "internal/strconv.uint64pow10" .u64 Lib.pow10Tab) := ⟨Lib.tabBelow_of_tabIs htab⟩
  have HM := Aside0.mk (fun w => mm_calls a m w)
  have HV := Aside0.mk (fun g c w hv h => ver_calls g c a m ha hm w hv h)
  clear htab ha hm
  go_enter Tryd.func10, Tryd.ntmps10
  go_wp2_with (first
    | (go_at_call 30; (with_reducible refine (HM.out _).mono ?_); rintro e w1 ⟨g, c, rfl, hv, hb⟩; have B1 := Aside0.mk (below_step (below_alloc (Below.refl w.heap.size w) _) hb); have V1 := Aside0.mk hv; have R1 : Aside0 (w1.heap[w.heap.size]? = some zero28) := ⟨blk_below (blk_new w zero28) hb⟩; clear hv hb)
    | (go_at_call 29; (with_reducible refine (HV.out _ _ _ V1.out (HT.out _ B1.out)).mono ?_); rintro e w2 ⟨bc, cp, rfl, hT, hbc, hb⟩; have B2 := Aside0.mk (below_step B1.out hb); have T2 := Aside0.mk hT; have R2 := Aside0.mk (blk_below R1.out hb); have hne : w.heap.size < bc := Nat.lt_of_lt_of_le (blk_lt R1.out) hbc; have c0 : w2.cell? ⟨w.heap.size, 0, none⟩ = some (.bool false) := blk_cell R2.out 0; have f0 := blk_frozen R2.out 0; have c1 : w2.cell? ⟨w.heap.size, 1, none⟩ = some (.slice none 0 0) := blk_cell R2.out 1; have f1 := blk_frozen R2.out 1; have c2 : w2.cell? ⟨w.heap.size, 2, none⟩ = some (.string ⟨#[]⟩) := blk_cell R2.out 2; have f2 := blk_frozen R2.out 2; have c3 : w2.cell? ⟨w.heap.size, 3, none⟩ = some (.string ⟨#[]⟩) := blk_cell R2.out 3; have f3 := blk_frozen R2.out 3; have c4 : w2.cell? ⟨w.heap.size, 4, none⟩ = some (.string ⟨#[]⟩) := blk_cell R2.out 4; have f4 := blk_frozen R2.out 4; have c5 : w2.cell? ⟨w.heap.size, 5, none⟩ = some (.int .u64 0) := blk_cell R2.out 5; have f5 := blk_frozen R2.out 5; have c6 : w2.cell? ⟨w.heap.size, 6, none⟩ = some (.int .u64 0) := blk_cell R2.out 6; have f6 := blk_frozen R2.out 6; have c7 : w2.cell? ⟨w.heap.size, 7, none⟩ = some (.int .u64 0) := blk_cell R2.out 7; have f7 := blk_frozen R2.out 7; have hs2 := (B2.out).size; clear hb hT hbc))
  refine bodyPost_ret (v := verOut bc cp a m) (by simp [results, Tryd.results10, go_sem, c0, f0, c1, f1, c2, f2, c3, f3, c4, f4, c5, f5, c6, f6, c7, f7, hs2, verOut]) rfl ⟨bc, cp, rfl, ?_, ?_⟩
  · repeat (first | (with_reducible exact T2.out) | refine Two.set ?_ (by omega))
  · repeat (first | (with_reducible exact B2.out) | refine below_set ?_ (Nat.le_refl _))

theorem two_C {w : World} {b a m : Nat} (h : Two w b a m) : Kd.C (Kd.int .u64) w (some ⟨b, 0, none⟩) ([(a : Int), (m : Int)] : List Int).length [(a : Int), (m : Int)] := by
  refine ⟨rfl, by show 2 ≤ _; omega, fun _ => ⟨⟨b, 0, none⟩, rfl, fun j p hp => ⟨[.int .u64 p], rfl, rfl, fun i u hu => ?_⟩⟩⟩
  match i, hu with
  | 0, hu =>
    obtain rfl : Value.int .u64 p = u := by simpa using hu
    match j, hp with
    | 0, hp => obtain rfl : (a : Int) = p := by simpa using hp
               exact h.1
    | 1, hp => obtain rfl : (m : Int) = p := by simpa using hp
               exact h.2
theorem text_calls (b0 c0 a m : Nat) (ha : a < 18446744073709551616) (hm : m < 18446744073709551616) (hc : 2 ≤ c0) (w : World) (h : Two w b0 a m) :
    Calls Tryd.prog 13 #[.agg #[.slice (some ⟨b0, 0, none⟩) 2 c0, .bool false, .string ⟨#[]⟩, .string ⟨#[]⟩]] w fun e w' => e = .returned (.string (txt a m)) ∧ Below w.heap.size w w' :=
  spec_Version_Text.calls 30 (some ⟨b0, 0, none⟩) c0 [(a : Int), (m : Int)] false ⟨#[]⟩ ⟨#[]⟩ (txt a m) w (two_C h) hc (text_f a m 30 ha hm (Nat.le_refl _))
theorem part_calls (b0 c0 a m : Nat) (hc : 2 ≤ c0) (i : Int) (r : Int) (hr : spec_Version_part.f [(a : Int), (m : Int)] false ⟨#[]⟩ ⟨#[]⟩ i = some r) (w : World) (h : Two w b0 a m) :
    Calls Tryd.prog 28 #[.agg #[.slice (some ⟨b0, 0, none⟩) 2 c0, .bool false, .string ⟨#[]⟩, .string ⟨#[]⟩], .int .i64 i] w fun e w' => e = .returned (.int .u64 r) ∧ Below w.heap.size w w' :=
  spec_Version_part.calls (some ⟨b0, 0, none⟩) c0 [(a : Int), (m : Int)] false ⟨#[]⟩ ⟨#[]⟩ i r w (two_C h) hc hr
end Go.Proofs.YtomoefldmgfaoaaDoor.Ver
