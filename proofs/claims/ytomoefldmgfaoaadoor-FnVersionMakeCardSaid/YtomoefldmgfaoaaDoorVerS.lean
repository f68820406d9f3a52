/- Versions: the comparison. -/
import Derived.Test.YtomoefldmgfaoaaDoorVerV
set_option linter.unusedVariables false
set_option linter.unusedSimpArgs false
namespace Go.Proofs.YtomoefldmgfaoaaDoor.Ver
open Go Go.Sort Go.RowKit Go.Proofs.YtomoefldmgfaoaaDoorW.PrintWords Go.Proofs.YtomoefldmgfaoaaDoor.PFnVersionMake

theorem part0 (a m : Int) : spec_Version_part.f [a, m] false ⟨#[]⟩ ⟨#[]⟩ 0 = some a := rfl
theorem part1 (a m : Int) : spec_Version_part.f [a, m] false ⟨#[]⟩ ⟨#[]⟩ 1 = some m := rfl
theorem part2 (a m : Int) : spec_Version_part.f [a, m] false ⟨#[]⟩ ⟨#[]⟩ 2 = some 0 := rfl
set_option maxHeartbeats 6400000 in
set_option maxRecDepth 100000 in
theorem same_calls (b0 c0 bc cp a m : Nat) (ha : a < 18446744073709551616) (hm : m < 18446744073709551616) (hc : 2 ≤ c0) (w : World) (h0 : Two w b0 a m) (h1 : Two w bc a m) :
    Calls Tryd.prog 9 #[.agg #[.slice (some ⟨b0, 0, none⟩) 2 c0, .bool false, .string ⟨#[]⟩, .string ⟨#[]⟩], verOut bc cp a m] w fun e w' => e = .returned (.bool true) ∧ Below w.heap.size w w' := by
  have mixed : Tryd.prog.follows .mixedOrders = true := by kernel_rfl
  have hu1 := Tryd.underlying26
  have hu2 := Tryd.underlying28
  have HX := Aside0.mk (fun w h => text_calls b0 c0 a m ha hm hc w h)
  have H0 := Aside0.mk (fun w h => part_calls b0 c0 a m hc 0 a (part0 _ _) w h)
  have H1 := Aside0.mk (fun w h => part_calls b0 c0 a m hc 1 m (part1 _ _) w h)
  have H2 := Aside0.mk (fun w h => part_calls b0 c0 a m hc 2 0 (part2 _ _) w h)
  have T0 := Aside0.mk h0
  have T1 := Aside0.mk h1
  clear h0 h1 ha hm hc
  go_enter Tryd.func9, Tryd.ntmps9
  go_wp2
  obtain ⟨W, hW⟩ : ∃ W, W = (w.alloc (.cells #[.slice (some ⟨b0, 0, none⟩) 2 c0, .bool false, .string ⟨#[]⟩, .string ⟨#[]⟩] 26)).alloc (.cells #[.bool true, .slice (some ⟨bc, 0, none⟩) 2 cp, .string ⟨#[]⟩, .string ⟨#[]⟩, .string (txt a m), .int .u64 (a : Int), .int .u64 (m : Int), .int .u64 0] 28) := ⟨_, rfl⟩
  have HWb : Aside0 (Below w.heap.size w W) := ⟨by rw [hW]; exact below_alloc (below_alloc (Below.refl _ _) _) _⟩
  have RA : W.heap[w.heap.size]? = some (.cells #[.slice (some ⟨b0, 0, none⟩) 2 c0, .bool false, .string ⟨#[]⟩, .string ⟨#[]⟩] 26 (0, 0)) := by rw [hW]; exact blk_alloc (blk_new w _) _
  have RB : W.heap[w.heap.size + 1]? = some (.cells #[.bool true, .slice (some ⟨bc, 0, none⟩) 2 cp, .string ⟨#[]⟩, .string ⟨#[]⟩, .string (txt a m), .int .u64 (a : Int), .int .u64 (m : Int), .int .u64 0] 28 (0, 0)) := by
    rw [hW]
    have h := blk_new (w.alloc (.cells #[.slice (some ⟨b0, 0, none⟩) 2 c0, .bool false, .string ⟨#[]⟩, .string ⟨#[]⟩] 26)) (.cells #[.bool true, .slice (some ⟨bc, 0, none⟩) 2 cp, .string ⟨#[]⟩, .string ⟨#[]⟩, .string (txt a m), .int .u64 (a : Int), .int .u64 (m : Int), .int .u64 0] 28)
    rw [show (w.alloc (.cells #[.slice (some ⟨b0, 0, none⟩) 2 c0, .bool false, .string ⟨#[]⟩, .string ⟨#[]⟩] 26)).heap.size = w.heap.size + 1 by simp] at h
    exact h
  have TA := Aside0.mk (T0.out.below HWb.out)
  have TB := Aside0.mk (T1.out.below HWb.out)
  have a0 : ∀ d os, (grow (redrawn W d) os).cell? ⟨w.heap.size, 0, none⟩ = some (.slice (some ⟨b0, 0, none⟩) 2 c0) := fun d os => cell_regrown (blk_cell RA 0) d os
  have a1 : ∀ d os, (grow (redrawn W d) os).cell? ⟨w.heap.size, 1, none⟩ = some (.bool false) := fun d os => cell_regrown (blk_cell RA 1) d os
  have a2 : ∀ d os, (grow (redrawn W d) os).cell? ⟨w.heap.size, 2, none⟩ = some (.string ⟨#[]⟩) := fun d os => cell_regrown (blk_cell RA 2) d os
  have a3 : ∀ d os, (grow (redrawn W d) os).cell? ⟨w.heap.size, 3, none⟩ = some (.string ⟨#[]⟩) := fun d os => cell_regrown (blk_cell RA 3) d os
  have x0 : ∀ d os, (grow (redrawn W d) os).cell? ⟨w.heap.size + 1, 0, none⟩ = some (.bool true) := fun d os => cell_regrown (blk_cell RB 0) d os
  have x1 : ∀ d os, (grow (redrawn W d) os).cell? ⟨w.heap.size + 1, 1, none⟩ = some (.slice (some ⟨bc, 0, none⟩) 2 cp) := fun d os => cell_regrown (blk_cell RB 1) d os
  have x2 : ∀ d os, (grow (redrawn W d) os).cell? ⟨w.heap.size + 1, 2, none⟩ = some (.string ⟨#[]⟩) := fun d os => cell_regrown (blk_cell RB 2) d os
  have x3 : ∀ d os, (grow (redrawn W d) os).cell? ⟨w.heap.size + 1, 3, none⟩ = some (.string ⟨#[]⟩) := fun d os => cell_regrown (blk_cell RB 3) d os
  have x4 : ∀ d os, (grow (redrawn W d) os).cell? ⟨w.heap.size + 1, 4, none⟩ = some (.string (txt a m)) := fun d os => cell_regrown (blk_cell RB 4) d os
  have x5 : ∀ d os, (grow (redrawn W d) os).cell? ⟨w.heap.size + 1, 5, none⟩ = some (.int .u64 (a : Int)) := fun d os => cell_regrown (blk_cell RB 5) d os
  have x6 : ∀ d os, (grow (redrawn W d) os).cell? ⟨w.heap.size + 1, 6, none⟩ = some (.int .u64 (m : Int)) := fun d os => cell_regrown (blk_cell RB 6) d os
  have x7 : ∀ d os, (grow (redrawn W d) os).cell? ⟨w.heap.size + 1, 7, none⟩ = some (.int .u64 0) := fun d os => cell_regrown (blk_cell RB 7) d os
  have d0 : ∀ d os, (grow (redrawn W d) os).cell? ⟨b0, 0, none⟩ = some (.int .u64 (a : Int)) := fun d os => cell_regrown TA.out.1 d os
  have d1 : ∀ d os, (grow (redrawn W d) os).cell? ⟨b0, 1, none⟩ = some (.int .u64 (m : Int)) := fun d os => cell_regrown TA.out.2 d os
  have e0 : ∀ d os, (grow (redrawn W d) os).cell? ⟨bc, 0, none⟩ = some (.int .u64 (a : Int)) := fun d os => cell_regrown TB.out.1 d os
  have e1 : ∀ d os, (grow (redrawn W d) os).cell? ⟨bc, 1, none⟩ = some (.int .u64 (m : Int)) := fun d os => cell_regrown TB.out.2 d os
  rw [← hW]
  have RA0 := Aside0.mk RA
  have RB0 := Aside0.mk RB
  clear hW RA RB
  refine wp_region_quiet_below (by assumption) (by kernel_rfl) ?_
  repeat (go_big_quiet_step (first | (go_at_call 13; with_reducible exact Calls.regrown_of (HX.out _ (TA.out.below (below_regrown _ _ _)))) | (go_at_call 28; with_reducible exact Calls.regrown_of (H0.out _ (TA.out.below (below_regrown _ _ _)))) | (go_at_call 28; with_reducible exact Calls.regrown_of (H1.out _ (TA.out.below (below_regrown _ _ _))))))
  refine wpQuiet_nil ?_
  intro _ hw'
  obtain ⟨⟨dq, osq⟩, hw''⟩ := hw'
  subst hw''
  go_wp2
  refine wp_loop_rounds 3 ?_
  rw [rounds_succ]
  go_wp2
  repeat (go_quiet (fail); try go_wp2)
  rw [rounds_succ]
  go_wp2
  repeat (go_quiet (fail); try go_wp2)
  rw [rounds_succ]
  go_wp2
  generalize hW2 : (grow (redrawn W dq) osq).drewN _ = W2
  have HB2 : Aside0 (Below W.heap.size W W2) := ⟨by rw [← hW2]; exact pw_below_drewN (below_regrown W dq osq) _⟩
  have RA2 := blk_below RA0.out HB2.out
  have RB2 := blk_below RB0.out HB2.out
  have TA2 := Aside0.mk (TA.out.below HB2.out)
  clear hW2 a0 a1 a2 a3 x0 x1 x2 x3 x4 x5 x6 x7 d0 d1 e0 e1
  have a0 : ∀ d os, (grow (redrawn W2 d) os).cell? ⟨w.heap.size, 0, none⟩ = some (.slice (some ⟨b0, 0, none⟩) 2 c0) := fun d os => cell_regrown (blk_cell RA2 0) d os
  have a1 : ∀ d os, (grow (redrawn W2 d) os).cell? ⟨w.heap.size, 1, none⟩ = some (.bool false) := fun d os => cell_regrown (blk_cell RA2 1) d os
  have a2 : ∀ d os, (grow (redrawn W2 d) os).cell? ⟨w.heap.size, 2, none⟩ = some (.string ⟨#[]⟩) := fun d os => cell_regrown (blk_cell RA2 2) d os
  have a3 : ∀ d os, (grow (redrawn W2 d) os).cell? ⟨w.heap.size, 3, none⟩ = some (.string ⟨#[]⟩) := fun d os => cell_regrown (blk_cell RA2 3) d os
  have x7 : ∀ d os, (grow (redrawn W2 d) os).cell? ⟨w.heap.size + 1, 7, none⟩ = some (.int .u64 0) := fun d os => cell_regrown (blk_cell RB2 7) d os
  clear RA2 RB2
  refine wp_region_quiet_below (by assumption) (by kernel_rfl) ?_
  repeat (go_big_quiet_step (first | (go_at_call 28; with_reducible exact Calls.regrown_of (H2.out _ (TA2.out.below (below_regrown _ _ _))))))
  refine wpQuiet_nil ?_
  intro _ hw'
  obtain ⟨⟨dq2, osq2⟩, hw''⟩ := hw'
  subst hw''
  go_wp2
  go_ret
  exact ⟨by first | rfl | (simp; done), below_step HWb.out (HB2.out.trans ((below_regrown W2 dq2 osq2).mono HB2.out.size))⟩
end Go.Proofs.YtomoefldmgfaoaaDoor.Ver
