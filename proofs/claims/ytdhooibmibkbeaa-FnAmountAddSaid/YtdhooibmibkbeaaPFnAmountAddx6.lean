/- Functions of the program as plain Lean functions, and that the machine's calls do what these say: written for this claim by wip/myprint.py over the kit's print.py. -/
import Derived.Test.YtdhooibmibkbeaaPFnAmountAddx0
import Derived.Test.YtdhooibmibkbeaaPFnAmountAddx4
import Derived.Test.YtdhooibmibkbeaaPFnAmountAddx5
namespace Go.Proofs.Ytdhooibmibkbeaa.PFnAmountAdd
open Go.RowKit Go.Proofs.YtdhooibmibkbeaaW.PrintWords Go.Proofs.YtdhooibmibkbeaaW.PrintLast Go.Proofs.YtdhooibmibkbeaaW.PrintMore
attribute [local go_sem] max2_int min2_int max_two min_two max_three min_three max_four min_four   -- for this text's walks alone
set_option linter.unusedVariables false
set_option linter.unusedSimpArgs false

/-! ### spec_DecimalAdd: function 8 -/
mutual
def spec_DecimalAdd.j0 : Nat → Int → Bool → Bool → List Int → Int → Bool → List Int → Int → Option (Bool × List Int × Int × Bool)
 | 0, _, _, _, _, _, _, _, _ => none
 | k + 1, x6, x33, x201000, x201001, x201002, x202000, x202001, x202002 => if x33 = true then (some (false, ([] : List Int), 0, false)) else (if (x201000 != x202000) = true then ((spec_larger.f k x201000 x201001 x201002 x202000 x202001 x202002).bind fun t203 => (spec_DecimalAdd.j1 k x6 (decide (t203 < 0)) x201000 x201001 x201002 x202000 x202001 x202002)) else (spec_DecimalAdd.j1 k x6 false x201000 x201001 x201002 x202000 x202001 x202002))
def spec_DecimalAdd.j1 : Nat → Int → Bool → Bool → List Int → Int → Bool → List Int → Int → Option (Bool × List Int × Int × Bool)
 | 0, _, _, _, _, _, _, _, _ => none
 | k + 1, x6, x45, x201000, x201001, x201002, x202000, x202001, x202002 => if x45 = true then ((spec_wide.f k x202000 x202001 x202002 x6).bind fun t204 => ((spec_wide.f k x201000 x201001 x201002 x6).bind fun t207 => ((spec_sum.f k x202000 t204 t207 (x202000 != x201000) x6).bind fun bt210 => (some (bt210.1, bt210.2.1, bt210.2.2, true))))) else ((spec_wide.f k x201000 x201001 x201002 x6).bind fun t215 => ((spec_wide.f k x202000 x202001 x202002 x6).bind fun t218 => ((spec_sum.f k x201000 t215 t218 (x201000 != x202000) x6).bind fun bt221 => (some (bt221.1, bt221.2.1, bt221.2.2, true)))))
end
def spec_DecimalAdd.f (k : Nat) (a0_0 : Bool) (l0_1 : List Int) (a0_2 : Int) (a1_0 : Bool) (l1_1 : List Int) (a1_2 : Int) : Option (Bool × List Int × Int × Bool) := if (l0_1.length : Int) = 0 then (some (a1_0, l1_1, a1_2, true)) else (if (l1_1.length : Int) = 0 then (some (a0_0, l0_1, a0_2, true)) else (if (wrap64 (a0_2 - (mn a0_2 a1_2))) > 2000 then (spec_DecimalAdd.j0 k (mn a0_2 a1_2) true a0_0 l0_1 a0_2 a1_0 l1_1 a1_2) else (spec_DecimalAdd.j0 k (mn a0_2 a1_2) (decide ((wrap64 (a1_2 - (mn a0_2 a1_2))) > 2000)) a0_0 l0_1 a0_2 a1_0 l1_1 a1_2)))
theorem spec_DecimalAdd.mono_l : ∀ k, (∀ y0 y1 y2 y3 y4 y5 y6 y7, LeO (spec_DecimalAdd.j0 k y0 y1 y2 y3 y4 y5 y6 y7) (spec_DecimalAdd.j0 (k + 1) y0 y1 y2 y3 y4 y5 y6 y7)) ∧ (∀ y0 y1 y2 y3 y4 y5 y6 y7, LeO (spec_DecimalAdd.j1 k y0 y1 y2 y3 y4 y5 y6 y7) (spec_DecimalAdd.j1 (k + 1) y0 y1 y2 y3 y4 y5 y6 y7))
 | 0 => ⟨fun _ _ _ _ _ _ _ _ r h => by simp [spec_DecimalAdd.j0] at h, fun _ _ _ _ _ _ _ _ r h => by simp [spec_DecimalAdd.j1] at h⟩
 | k + 1 => by
  obtain ⟨ih0, ih1⟩ := spec_DecimalAdd.mono_l k
  refine ⟨?_, ?_⟩
  ·
   intro y0 y1 y2 y3 y4 y5 y6 y7
   unfold spec_DecimalAdd.j0
   repeat' first
   | (with_reducible exact ih0 _ _ _ _ _ _ _ _)
   | (with_reducible exact ih1 _ _ _ _ _ _ _ _)
   | (with_reducible exact spec_larger.mono _ _ _ _ _ _ _)
   | (with_reducible exact spec_sum.mono _ _ _ _ _ _)
   | (with_reducible exact spec_wide.mono _ _ _ _ _)
   | (with_reducible exact LeO.refl _)
   | (with_reducible exact LeO.none _)
   | (with_reducible refine LeO.ite ?_ ?_)
   | (with_reducible refine LeO.bind ?_ (fun _ => ?_))
   | exact ih0 _ _ _ _ _ _ _ _
   | exact ih1 _ _ _ _ _ _ _ _
   | exact spec_larger.mono _ _ _ _ _ _ _
   | exact spec_sum.mono _ _ _ _ _ _
   | exact spec_wide.mono _ _ _ _ _
   | exact LeO.none _
   | refine LeO.ite ?_ ?_
   | refine LeO.bind ?_ (fun _ => ?_)
  ·
   intro y0 y1 y2 y3 y4 y5 y6 y7
   unfold spec_DecimalAdd.j1
   repeat' first
   | (with_reducible exact ih0 _ _ _ _ _ _ _ _)
   | (with_reducible exact ih1 _ _ _ _ _ _ _ _)
   | (with_reducible exact spec_larger.mono _ _ _ _ _ _ _)
   | (with_reducible exact spec_sum.mono _ _ _ _ _ _)
   | (with_reducible exact spec_wide.mono _ _ _ _ _)
   | (with_reducible exact LeO.refl _)
   | (with_reducible exact LeO.none _)
   | (with_reducible refine LeO.ite ?_ ?_)
   | (with_reducible refine LeO.bind ?_ (fun _ => ?_))
   | exact ih0 _ _ _ _ _ _ _ _
   | exact ih1 _ _ _ _ _ _ _ _
   | exact spec_larger.mono _ _ _ _ _ _ _
   | exact spec_sum.mono _ _ _ _ _ _
   | exact spec_wide.mono _ _ _ _ _
   | exact LeO.none _
   | refine LeO.ite ?_ ?_
   | refine LeO.bind ?_ (fun _ => ?_)
theorem spec_DecimalAdd.mono : ∀ a0 a1 a2 a3 a4 a5 k, LeO (spec_DecimalAdd.f k a0 a1 a2 a3 a4 a5) (spec_DecimalAdd.f (k + 1) a0 a1 a2 a3 a4 a5) := by
 intro a0 a1 a2 a3 a4 a5 k
 obtain ⟨ih0, ih1⟩ := spec_DecimalAdd.mono_l k
 unfold spec_DecimalAdd.f
 repeat' first
   | (with_reducible exact ih0 _ _ _ _ _ _ _ _)
   | (with_reducible exact ih1 _ _ _ _ _ _ _ _)
   | (with_reducible exact spec_larger.mono _ _ _ _ _ _ _)
   | (with_reducible exact spec_sum.mono _ _ _ _ _ _)
   | (with_reducible exact spec_wide.mono _ _ _ _ _)
   | (with_reducible exact LeO.refl _)
   | (with_reducible exact LeO.none _)
   | (with_reducible refine LeO.ite ?_ ?_)
   | (with_reducible refine LeO.bind ?_ (fun _ => ?_))
   | exact ih0 _ _ _ _ _ _ _ _
   | exact ih1 _ _ _ _ _ _ _ _
   | exact spec_larger.mono _ _ _ _ _ _ _
   | exact spec_sum.mono _ _ _ _ _ _
   | exact spec_wide.mono _ _ _ _ _
   | exact LeO.none _
   | refine LeO.ite ?_ ?_
   | refine LeO.bind ?_ (fun _ => ?_)
def spec_DecimalAdd.T10 : Bool × List (List Nat × List Nat) := (true, [([], []), ([0], [0]), ([], []), ([], []), ([2, 3], [2, 3]), ([], []), ([], []), ([5, 6, 4], [5, 6]), ([], []), ([8], [8]), ([], []), ([10], [10]), ([9, 11], [9, 11]), ([], []), ([1, 4, 7, 12, 13, 7], [1, 4, 7, 12, 13]), ([14, 14, 0, 1, 2, 3, 4, 5, 6, 7, 8, 9, 10, 11, 12, 13, 14], [14]), ([15, 0, 1, 2, 3, 4, 5, 6, 7, 8, 9, 10, 11, 12, 13, 14, 15], [])])
def spec_DecimalAdd.B10 : List Nat := [0, 1, 0, 0, 12, 0, 0, 124, 0, 256, 0, 1024, 3840, 0, 16383, 32767, 65535]
theorem spec_DecimalAdd.tab10 : rtab .any (opsOf Try.f8 10) = spec_DecimalAdd.T10 := by kernel_rfl
theorem spec_DecimalAdd.bits10 : waitsOk spec_DecimalAdd.T10.2 spec_DecimalAdd.B10 = true := by kernel_rfl
set_option maxHeartbeats 8000000 in
set_option maxRecDepth 100000 in
theorem spec_DecimalAdd.calls (k : Nat) (a0_0 : Bool) (P0_1_ : Nat → Prop) (u9000_ : Value) (l0_1 : List Int) (a0_2 : Int) (a1_0 : Bool) (P1_1_ : Nat → Prop) (u9001_ : Value) (l1_1 : List Int) (a1_2 : Int) (r1 : Bool) (r2 : List Int) (r3 : Int) (r4 : Bool) (w0 w : World) (hB : Below w0.heap.size w0 w) (ho0_1 : Kd.R (Kd.int .i64) 3 w w0.heap.size P0_1_ u9000_ l0_1) (hp0_1_1_1 : ∀ k_, P0_1_ k_ → ¬ P1_1_ k_) (ho1_1 : Kd.R (Kd.int .i64) 3 w w0.heap.size P1_1_ u9001_ l1_1) (hp1_1_0_1 : ∀ k_, P1_1_ k_ → ¬ P0_1_ k_) (h : spec_DecimalAdd.f k a0_0 l0_1 a0_2 a1_0 l1_1 a1_2 = some (r1, r2, r3, r4)) :
  Calls Try.prog 8 #[.agg #[.bool a0_0, u9000_, .int .i64 a0_2], .agg #[.bool a1_0, u9001_, .int .i64 a1_2]] w fun e w' => ∃ v1_ : Value, e = .returned (.tuple #[.agg #[.bool r1, v1_, .int .i64 r3], .bool r4]) ∧ Kd.R (Kd.int .i64) 3 w' w0.heap.size (fun k_ => ((P0_1_ k_ ∨ P1_1_ k_) ∨ w.heap.size ≤ k_)) v1_ r2 ∧ Below w0.heap.size w0 w' ∧ Kept w w' (fun k_ => P0_1_ k_ ∨ P1_1_ k_) := by
 have hu26 := Try.underlying26
 have HO0_1 := aM_ (show Kd.R (Kd.int .i64) 3 w w0.heap.size (fun k_ => ((P0_1_ k_ ∨ P1_1_ k_) ∨ w.heap.size ≤ k_) ∧ some k_ ≠ (u9001_ : Value).ownBlock) u9000_ l0_1 from Kd.R_mono ho0_1 (fun k_ hk => ⟨(.inl (.inl hk)), fun e_ => hp0_1_1_1 k_ hk (ho1_1.1 k_ e_.symm)⟩))
 have HO1_1 := aM_ (show Kd.R (Kd.int .i64) 3 w w0.heap.size (fun k_ => ((P0_1_ k_ ∨ P1_1_ k_) ∨ w.heap.size ≤ k_) ∧ some k_ ≠ (u9000_ : Value).ownBlock) u9001_ l1_1 from Kd.R_mono ho1_1 (fun k_ hk => ⟨(.inl (.inr hk)), fun e_ => hp1_1_0_1 k_ hk (ho0_1.1 k_ e_.symm)⟩))
 have HK := aM_ (Kept.refl w (fun k_ => P0_1_ k_ ∨ P1_1_ k_))
 have HW0 := aM_ hB.size
 have HB := aM_ hB
 clear hB
 have H : (if (l0_1.length : Int) = 0 then (some (a1_0, l1_1, a1_2, true)) else (if (l1_1.length : Int) = 0 then (some (a0_0, l0_1, a0_2, true)) else (if (wrap64 (a0_2 - (mn a0_2 a1_2))) > 2000 then (spec_DecimalAdd.j0 k (mn a0_2 a1_2) true a0_0 l0_1 a0_2 a1_0 l1_1 a1_2) else (spec_DecimalAdd.j0 k (mn a0_2 a1_2) (decide ((wrap64 (a1_2 - (mn a0_2 a1_2))) > 2000)) a0_0 l0_1 a0_2 a1_0 l1_1 a1_2)))) = some (r1, r2, r3, r4) := h
 clear h
 by_cases c3 : (l0_1.length : Int) = 0
 ·
  rw [if_pos c3] at H
  have c3b0 : ((l0_1.length : Int) == 0) = true := beq_iff_eq.mpr c3
  have c3b1 : ((l0_1.length : Int) != 0) = false := bne_eq_false_iff_eq.mpr c3
  clear c3
  simp only [Option.some.injEq, Prod.mk.injEq] at H
  obtain ⟨rfl, rfl, rfl, rfl⟩ := H
  obtain ⟨Ao4, co4, eo4⟩ := Kd.R_slice HO0_1.out
  subst eo4
  go_enter Try.func8, Try.ntmps8
  go_wp2_with (first | ((with_reducible refine gate_dst (N := 2) rfl ?_); refine box_event ?hg (N := 2) ?hd (cs := #[.bool a0_0, .slice Ao4 l0_1.length co4, .int .i64 a0_2]) (t := 26) ?hr ?_; (case hd => rfl); (case hg => rfl); (case hr => first | (go_simp; done) | (go_simp; rfl)); intro gb200 hg w5 hbox hb; have n0_ := aM_ (Kd.R_below (by (with_reducible repeat (first | apply kA_ | apply kN_ | apply kD_)); exact HO0_1.out) hb); have n1_ := aM_ (Kd.R_below (by (with_reducible repeat (first | apply kA_ | apply kN_ | apply kD_)); exact HO1_1.out) hb); have n2_ := aM_ (Kept.below (S := (fun k_ => P0_1_ k_ ∨ P1_1_ k_)) (by repeat (first | (with_reducible first | exact HK.out | apply Kept.alloc | apply Kept.drewN | apply Kept.drew) | exact HK.out)) hb); have n3_ := aM_ (below_step (by repeat (first | (with_reducible first | exact HB.out | apply bB_ | apply wN_ | apply bE_) | exact HB.out)) hb); have n4_ := aM_ (hbox); have n5_ := aM_ ((by rw [hg]; exact (by first | exact HK.out.1 | exact (show Kept w _ (fun k_ => P0_1_ k_ ∨ P1_1_ k_) from by repeat (first | (with_reducible first | exact HK.out | apply Kept.alloc | apply Kept.drewN | apply Kept.drew) | exact HK.out)).1) : w.heap.size ≤ gb200)); have n6_ := aM_ ((by rw [hg]; exact (below_size (by repeat (first | (with_reducible first | exact HB.out | apply bB_ | apply wN_ | apply bE_) | exact HB.out))) : w0.heap.size ≤ gb200)); clear HO0_1; clear HO1_1; clear HK; clear HB; have HO0_1 := n0_; have HO1_1 := n1_; have HK := n2_; have HB := n3_; have BK200 := n4_; have GW200 := n5_; have GE200 := n6_; clear n0_ n1_ n2_ n3_ n4_ n5_ n6_; clear hb hbox hg; obtain ⟨Ao6, co6, eo6⟩ := Kd.R_slice HO1_1.out; subst eo6) | ((with_reducible refine gate_dst (N := 3) rfl ?_); refine box_event ?hg (N := 3) ?hd (cs := #[.bool a1_0, .slice Ao6 l1_1.length co6, .int .i64 a1_2]) (t := 26) ?hr ?_; (case hd => rfl); (case hg => rfl); (case hr => first | (go_simp; done) | (go_simp; rfl)); intro gb201 hg w7 hbox hb; have n0_ := aM_ (Kd.R_below (by (with_reducible repeat (first | apply kA_ | apply kN_ | apply kD_)); exact HO0_1.out) hb); have n1_ := aM_ (Kd.R_below (by (with_reducible repeat (first | apply kA_ | apply kN_ | apply kD_)); exact HO1_1.out) hb); have n2_ := aM_ (blk_below (g := gb200) (o := .cells #[.bool a0_0, .slice Ao4 l0_1.length co4, .int .i64 a0_2] 26 (0, 0)) (by (with_reducible repeat (first | refine bN_ ?_ _ | refine bD_ ?_ | refine bA_ ?_ _)); exact BK200.out) hb); have n3_ := aM_ (Kept.below (S := (fun k_ => P0_1_ k_ ∨ P1_1_ k_)) (by repeat (first | (with_reducible first | exact HK.out | apply Kept.alloc | apply Kept.drewN | apply Kept.drew | refine Kept.setCell ?_ (.inr GW200.out) _) | exact HK.out)) hb); have n4_ := aM_ (below_step (by repeat (first | (with_reducible first | exact HB.out | apply bB_ | apply wN_ | apply bE_ | refine bS_ ?_ GE200.out) | exact HB.out)) hb); have n5_ := aM_ (hbox); have n6_ := aM_ ((by rw [hg]; exact (by first | exact HK.out.1 | exact (show Kept w _ (fun k_ => P0_1_ k_ ∨ P1_1_ k_) from by repeat (first | (with_reducible first | exact HK.out | apply Kept.alloc | apply Kept.drewN | apply Kept.drew | refine Kept.setCell ?_ (.inr GW200.out) _) | exact HK.out)).1) : w.heap.size ≤ gb201)); have n7_ := aM_ ((by rw [hg]; exact (below_size (by repeat (first | (with_reducible first | exact HB.out | apply bB_ | apply wN_ | apply bE_ | refine bS_ ?_ GE200.out) | exact HB.out))) : w0.heap.size ≤ gb201)); have n8_ := aM_ ((by rw [hg]; exact Nat.ne_of_lt (blk_lt (g := gb200) (o := .cells #[.bool a0_0, .slice Ao4 l0_1.length co4, .int .i64 a0_2] 26 (0, 0)) (by (with_reducible repeat (first | refine bN_ ?_ _ | refine bD_ ?_ | refine bA_ ?_ _)); exact BK200.out)) : gb200 ≠ gb201)); have n9_ := aM_ ((by rw [hg]; exact Nat.ne_of_gt (blk_lt (g := gb200) (o := .cells #[.bool a0_0, .slice Ao4 l0_1.length co4, .int .i64 a0_2] 26 (0, 0)) (by (with_reducible repeat (first | refine bN_ ?_ _ | refine bD_ ?_ | refine bA_ ?_ _)); exact BK200.out)) : gb201 ≠ gb200)); clear HO0_1; clear HO1_1; clear BK200; clear HK; clear HB; have HO0_1 := n0_; have HO1_1 := n1_; have BK200 := n2_; have HK := n3_; have HB := n4_; have BK201 := n5_; have GW201 := n6_; have GE201 := n7_; have NB200_201 := n8_; have NB201_200 := n9_; clear n0_ n1_ n2_ n3_ n4_ n5_ n6_ n7_ n8_ n9_; clear hb hbox hg) | ((with_reducible refine gate_dst (N := 4) rfl ?_); refine box_event ?hg (N := 4) ?hd (cs := #[.bool false, .slice none 0 0, .int .i64 0]) (t := 26) ?hr ?_; (case hd => rfl); (case hg => rfl); (case hr => first | (go_simp; done) | (go_simp; rfl)); intro gb202 hg w8 hbox hb; have n0_ := aM_ (Kd.R_below (by (with_reducible repeat (first | apply kA_ | apply kN_ | apply kD_)); exact HO0_1.out) hb); have n1_ := aM_ (Kd.R_below (by (with_reducible repeat (first | apply kA_ | apply kN_ | apply kD_)); exact HO1_1.out) hb); have n2_ := aM_ (blk_below (g := gb200) (o := .cells #[.bool a0_0, .slice Ao4 l0_1.length co4, .int .i64 a0_2] 26 (0, 0)) (by (with_reducible repeat (first | refine bN_ ?_ _ | refine bD_ ?_ | refine bA_ ?_ _)); exact BK200.out) hb); have n3_ := aM_ (blk_below (g := gb201) (o := .cells #[.bool a1_0, .slice Ao6 l1_1.length co6, .int .i64 a1_2] 26 (0, 0)) (by (with_reducible repeat (first | refine bN_ ?_ _ | refine bD_ ?_ | refine bA_ ?_ _)); exact BK201.out) hb); have n4_ := aM_ (Kept.below (S := (fun k_ => P0_1_ k_ ∨ P1_1_ k_)) (by repeat (first | (with_reducible first | exact HK.out | apply Kept.alloc | apply Kept.drewN | apply Kept.drew | refine Kept.setCell ?_ (.inr GW200.out) _ | refine Kept.setCell ?_ (.inr GW201.out) _) | exact HK.out)) hb); have n5_ := aM_ (below_step (by repeat (first | (with_reducible first | exact HB.out | apply bB_ | apply wN_ | apply bE_ | refine bS_ ?_ GE200.out | refine bS_ ?_ GE201.out) | exact HB.out)) hb); have n6_ := aM_ (hbox); have n7_ := aM_ ((by rw [hg]; exact (by first | exact HK.out.1 | exact (show Kept w _ (fun k_ => P0_1_ k_ ∨ P1_1_ k_) from by repeat (first | (with_reducible first | exact HK.out | apply Kept.alloc | apply Kept.drewN | apply Kept.drew | refine Kept.setCell ?_ (.inr GW200.out) _ | refine Kept.setCell ?_ (.inr GW201.out) _) | exact HK.out)).1) : w.heap.size ≤ gb202)); have n8_ := aM_ ((by rw [hg]; exact (below_size (by repeat (first | (with_reducible first | exact HB.out | apply bB_ | apply wN_ | apply bE_ | refine bS_ ?_ GE200.out | refine bS_ ?_ GE201.out) | exact HB.out))) : w0.heap.size ≤ gb202)); have n9_ := aM_ ((by rw [hg]; exact Nat.ne_of_lt (blk_lt (g := gb200) (o := .cells #[.bool a0_0, .slice Ao4 l0_1.length co4, .int .i64 a0_2] 26 (0, 0)) (by (with_reducible repeat (first | refine bN_ ?_ _ | refine bD_ ?_ | refine bA_ ?_ _)); exact BK200.out)) : gb200 ≠ gb202)); have n10_ := aM_ ((by rw [hg]; exact Nat.ne_of_gt (blk_lt (g := gb200) (o := .cells #[.bool a0_0, .slice Ao4 l0_1.length co4, .int .i64 a0_2] 26 (0, 0)) (by (with_reducible repeat (first | refine bN_ ?_ _ | refine bD_ ?_ | refine bA_ ?_ _)); exact BK200.out)) : gb202 ≠ gb200)); have n11_ := aM_ ((by rw [hg]; exact Nat.ne_of_lt (blk_lt (g := gb201) (o := .cells #[.bool a1_0, .slice Ao6 l1_1.length co6, .int .i64 a1_2] 26 (0, 0)) (by (with_reducible repeat (first | refine bN_ ?_ _ | refine bD_ ?_ | refine bA_ ?_ _)); exact BK201.out)) : gb201 ≠ gb202)); have n12_ := aM_ ((by rw [hg]; exact Nat.ne_of_gt (blk_lt (g := gb201) (o := .cells #[.bool a1_0, .slice Ao6 l1_1.length co6, .int .i64 a1_2] 26 (0, 0)) (by (with_reducible repeat (first | refine bN_ ?_ _ | refine bD_ ?_ | refine bA_ ?_ _)); exact BK201.out)) : gb202 ≠ gb201)); clear HO0_1; clear HO1_1; clear BK200; clear BK201; clear HK; clear HB; have HO0_1 := n0_; have HO1_1 := n1_; have BK200 := n2_; have BK201 := n3_; have HK := n4_; have HB := n5_; have BK202 := n6_; have GW202 := n7_; have GE202 := n8_; have NB200_202 := n9_; have NB202_200 := n10_; have NB201_202 := n11_; have NB202_201 := n12_; clear n0_ n1_ n2_ n3_ n4_ n5_ n6_ n7_ n8_ n9_ n10_ n11_ n12_; clear hb hbox hg; have hnb9 := NB200_201.out; have hnc9 := NB201_200.out; have hnb10 := NB200_202.out; have hnc10 := NB202_200.out; have hcz11_0 : w8.cell? ⟨gb200, 0, none⟩ = some (.bool a0_0) := (bC_ BK200.out 0).trans rfl; have hcz11_1 : w8.cell? ⟨gb200, 1, none⟩ = some (.slice Ao4 l0_1.length co4) := (bC_ BK200.out 1).trans rfl; have hcz11_2 : w8.cell? ⟨gb200, 2, none⟩ = some (.int .i64 a0_2) := (bC_ BK200.out 2).trans rfl; have hfz11_0 := bF_ BK200.out 0; have hfz11_1 := bF_ BK200.out 1; have hfz11_2 := bF_ BK200.out 2; have hnb12 := NB201_202.out; have hnc12 := NB202_201.out; have hcz13_0 : w8.cell? ⟨gb201, 0, none⟩ = some (.bool a1_0) := (bC_ BK201.out 0).trans rfl; have hcz13_1 : w8.cell? ⟨gb201, 1, none⟩ = some (.slice Ao6 l1_1.length co6) := (bC_ BK201.out 1).trans rfl; have hcz13_2 : w8.cell? ⟨gb201, 2, none⟩ = some (.int .i64 a1_2) := (bC_ BK201.out 2).trans rfl; have hfz13_0 := bF_ BK201.out 0; have hfz13_1 := bF_ BK201.out 1; have hfz13_2 := bF_ BK201.out 2; have hcz14_0 : w8.cell? ⟨gb202, 0, none⟩ = some (.bool false) := (bC_ BK202.out 0).trans rfl; have hcz14_1 : w8.cell? ⟨gb202, 1, none⟩ = some (.slice none 0 0) := (bC_ BK202.out 1).trans rfl; have hcz14_2 : w8.cell? ⟨gb202, 2, none⟩ = some (.int .i64 0) := (bC_ BK202.out 2).trans rfl; have hfz14_0 := bF_ BK202.out 0; have hfz14_1 := bF_ BK202.out 1; have hfz14_2 := bF_ BK202.out 2))
  refine bodyPost_ret (results_ct rfl _ _ gb202 26 #[.bool a1_0, .slice Ao6 l1_1.length co6, .int .i64 a1_2] (0, 0) _ rfl (by (with_reducible repeat (first | refine bN_ ?_ _ | refine bD_ ?_ | refine bA_ ?_ _)); refine blk_put (cs := #[.bool a1_0, .slice Ao6 l1_1.length co6, .int .i64 0]) ?_ 2 _ rfl; (with_reducible repeat (first | refine bN_ ?_ _ | refine bD_ ?_ | refine bA_ ?_ _)); refine blk_put (cs := #[.bool a1_0, .slice none 0 0, .int .i64 0]) ?_ 1 _ rfl; (with_reducible repeat (first | refine bN_ ?_ _ | refine bD_ ?_ | refine bA_ ?_ _)); refine blk_put (cs := #[.bool false, .slice none 0 0, .int .i64 0]) ?_ 0 _ rfl; (with_reducible repeat (first | refine bN_ ?_ _ | refine bD_ ?_ | refine bA_ ?_ _)); exact BK202.out) Try.underlying26 rfl (by kernel_rfl)) rfl ?_
  exact ⟨_, by first | rfl | (simp [errW_none, errW_some] <;> rfl) | (simp [*, errW_none, errW_some] <;> rfl), by (with_reducible repeat (first | apply kA_ | apply kN_ | apply kD_)); exact Kd.R_mono (Kd.R_far (p := ⟨gb202, 2, none⟩) (Kd.R_far (p := ⟨gb202, 1, none⟩) (Kd.R_far (p := ⟨gb202, 0, none⟩) (Kd.R_types HO1_1.out BK202.out (by decide)) (fun _ hk => hk.2) (.bool a1_0)) (fun _ hk => hk.2) (.slice Ao6 l1_1.length co6)) (fun _ hk => hk.2) (.int .i64 a1_2)) (fun _ hk => hk.1.1), by repeat (first | (with_reducible first | exact HB.out | apply bB_ | apply wN_ | apply bE_ | refine bS_ ?_ GE200.out | refine bS_ ?_ GE201.out | refine bS_ ?_ GE202.out) | exact HB.out), by repeat (first | (with_reducible first | exact HK.out | apply Kept.alloc | apply Kept.drewN | apply Kept.drew | refine Kept.setCell ?_ (.inr GW200.out) _ | refine Kept.setCell ?_ (.inr GW201.out) _ | refine Kept.setCell ?_ (.inr GW202.out) _) | exact HK.out)⟩
 ·
  rw [if_neg c3] at H
  have c3b0 : ((l0_1.length : Int) == 0) = false := beq_eq_false_iff_ne.mpr c3
  have c3b1 : ((l0_1.length : Int) != 0) = true := bne_iff_ne.mpr c3
  have c3b2 : ¬ (l0_1 = []) := fun h_ => c3 (by rw [h_]; rfl)
  by_cases c15 : (l1_1.length : Int) = 0
  ·
   rw [if_pos c15] at H
   have c15b0 : ((l1_1.length : Int) == 0) = true := beq_iff_eq.mpr c15
   have c15b1 : ((l1_1.length : Int) != 0) = false := bne_eq_false_iff_eq.mpr c15
   clear c15
   simp only [Option.some.injEq, Prod.mk.injEq] at H
   obtain ⟨rfl, rfl, rfl, rfl⟩ := H
   obtain ⟨Ao16, co16, eo16⟩ := Kd.R_slice HO0_1.out
   subst eo16
   go_enter Try.func8, Try.ntmps8
   go_wp2_with (first | ((with_reducible refine gate_dst (N := 2) rfl ?_); refine box_event ?hg (N := 2) ?hd (cs := #[.bool a0_0, .slice Ao16 l0_1.length co16, .int .i64 a0_2]) (t := 26) ?hr ?_; (case hd => rfl); (case hg => rfl); (case hr => first | (go_simp; done) | (go_simp; rfl)); intro gb200 hg w17 hbox hb; have n0_ := aM_ (Kd.R_below (by (with_reducible repeat (first | apply kA_ | apply kN_ | apply kD_)); exact HO0_1.out) hb); have n1_ := aM_ (Kd.R_below (by (with_reducible repeat (first | apply kA_ | apply kN_ | apply kD_)); exact HO1_1.out) hb); have n2_ := aM_ (Kept.below (S := (fun k_ => P0_1_ k_ ∨ P1_1_ k_)) (by repeat (first | (with_reducible first | exact HK.out | apply Kept.alloc | apply Kept.drewN | apply Kept.drew) | exact HK.out)) hb); have n3_ := aM_ (below_step (by repeat (first | (with_reducible first | exact HB.out | apply bB_ | apply wN_ | apply bE_) | exact HB.out)) hb); have n4_ := aM_ (hbox); have n5_ := aM_ ((by rw [hg]; exact (by first | exact HK.out.1 | exact (show Kept w _ (fun k_ => P0_1_ k_ ∨ P1_1_ k_) from by repeat (first | (with_reducible first | exact HK.out | apply Kept.alloc | apply Kept.drewN | apply Kept.drew) | exact HK.out)).1) : w.heap.size ≤ gb200)); have n6_ := aM_ ((by rw [hg]; exact (below_size (by repeat (first | (with_reducible first | exact HB.out | apply bB_ | apply wN_ | apply bE_) | exact HB.out))) : w0.heap.size ≤ gb200)); clear HO0_1; clear HO1_1; clear HK; clear HB; have HO0_1 := n0_; have HO1_1 := n1_; have HK := n2_; have HB := n3_; have BK200 := n4_; have GW200 := n5_; have GE200 := n6_; clear n0_ n1_ n2_ n3_ n4_ n5_ n6_; clear hb hbox hg; obtain ⟨Ao18, co18, eo18⟩ := Kd.R_slice HO1_1.out; subst eo18) | ((with_reducible refine gate_dst (N := 3) rfl ?_); refine box_event ?hg (N := 3) ?hd (cs := #[.bool a1_0, .slice Ao18 l1_1.length co18, .int .i64 a1_2]) (t := 26) ?hr ?_; (case hd => rfl); (case hg => rfl); (case hr => first | (go_simp; done) | (go_simp; rfl)); intro gb201 hg w19 hbox hb; have n0_ := aM_ (Kd.R_below (by (with_reducible repeat (first | apply kA_ | apply kN_ | apply kD_)); exact HO0_1.out) hb); have n1_ := aM_ (Kd.R_below (by (with_reducible repeat (first | apply kA_ | apply kN_ | apply kD_)); exact HO1_1.out) hb); have n2_ := aM_ (blk_below (g := gb200) (o := .cells #[.bool a0_0, .slice Ao16 l0_1.length co16, .int .i64 a0_2] 26 (0, 0)) (by (with_reducible repeat (first | refine bN_ ?_ _ | refine bD_ ?_ | refine bA_ ?_ _)); exact BK200.out) hb); have n3_ := aM_ (Kept.below (S := (fun k_ => P0_1_ k_ ∨ P1_1_ k_)) (by repeat (first | (with_reducible first | exact HK.out | apply Kept.alloc | apply Kept.drewN | apply Kept.drew | refine Kept.setCell ?_ (.inr GW200.out) _) | exact HK.out)) hb); have n4_ := aM_ (below_step (by repeat (first | (with_reducible first | exact HB.out | apply bB_ | apply wN_ | apply bE_ | refine bS_ ?_ GE200.out) | exact HB.out)) hb); have n5_ := aM_ (hbox); have n6_ := aM_ ((by rw [hg]; exact (by first | exact HK.out.1 | exact (show Kept w _ (fun k_ => P0_1_ k_ ∨ P1_1_ k_) from by repeat (first | (with_reducible first | exact HK.out | apply Kept.alloc | apply Kept.drewN | apply Kept.drew | refine Kept.setCell ?_ (.inr GW200.out) _) | exact HK.out)).1) : w.heap.size ≤ gb201)); have n7_ := aM_ ((by rw [hg]; exact (below_size (by repeat (first | (with_reducible first | exact HB.out | apply bB_ | apply wN_ | apply bE_ | refine bS_ ?_ GE200.out) | exact HB.out))) : w0.heap.size ≤ gb201)); have n8_ := aM_ ((by rw [hg]; exact Nat.ne_of_lt (blk_lt (g := gb200) (o := .cells #[.bool a0_0, .slice Ao16 l0_1.length co16, .int .i64 a0_2] 26 (0, 0)) (by (with_reducible repeat (first | refine bN_ ?_ _ | refine bD_ ?_ | refine bA_ ?_ _)); exact BK200.out)) : gb200 ≠ gb201)); have n9_ := aM_ ((by rw [hg]; exact Nat.ne_of_gt (blk_lt (g := gb200) (o := .cells #[.bool a0_0, .slice Ao16 l0_1.length co16, .int .i64 a0_2] 26 (0, 0)) (by (with_reducible repeat (first | refine bN_ ?_ _ | refine bD_ ?_ | refine bA_ ?_ _)); exact BK200.out)) : gb201 ≠ gb200)); clear HO0_1; clear HO1_1; clear BK200; clear HK; clear HB; have HO0_1 := n0_; have HO1_1 := n1_; have BK200 := n2_; have HK := n3_; have HB := n4_; have BK201 := n5_; have GW201 := n6_; have GE201 := n7_; have NB200_201 := n8_; have NB201_200 := n9_; clear n0_ n1_ n2_ n3_ n4_ n5_ n6_ n7_ n8_ n9_; clear hb hbox hg) | ((with_reducible refine gate_dst (N := 4) rfl ?_); refine box_event ?hg (N := 4) ?hd (cs := #[.bool false, .slice none 0 0, .int .i64 0]) (t := 26) ?hr ?_; (case hd => rfl); (case hg => rfl); (case hr => first | (go_simp; done) | (go_simp; rfl)); intro gb202 hg w20 hbox hb; have n0_ := aM_ (Kd.R_below (by (with_reducible repeat (first | apply kA_ | apply kN_ | apply kD_)); exact HO0_1.out) hb); have n1_ := aM_ (Kd.R_below (by (with_reducible repeat (first | apply kA_ | apply kN_ | apply kD_)); exact HO1_1.out) hb); have n2_ := aM_ (blk_below (g := gb200) (o := .cells #[.bool a0_0, .slice Ao16 l0_1.length co16, .int .i64 a0_2] 26 (0, 0)) (by (with_reducible repeat (first | refine bN_ ?_ _ | refine bD_ ?_ | refine bA_ ?_ _)); exact BK200.out) hb); have n3_ := aM_ (blk_below (g := gb201) (o := .cells #[.bool a1_0, .slice Ao18 l1_1.length co18, .int .i64 a1_2] 26 (0, 0)) (by (with_reducible repeat (first | refine bN_ ?_ _ | refine bD_ ?_ | refine bA_ ?_ _)); exact BK201.out) hb); have n4_ := aM_ (Kept.below (S := (fun k_ => P0_1_ k_ ∨ P1_1_ k_)) (by repeat (first | (with_reducible first | exact HK.out | apply Kept.alloc | apply Kept.drewN | apply Kept.drew | refine Kept.setCell ?_ (.inr GW200.out) _ | refine Kept.setCell ?_ (.inr GW201.out) _) | exact HK.out)) hb); have n5_ := aM_ (below_step (by repeat (first | (with_reducible first | exact HB.out | apply bB_ | apply wN_ | apply bE_ | refine bS_ ?_ GE200.out | refine bS_ ?_ GE201.out) | exact HB.out)) hb); have n6_ := aM_ (hbox); have n7_ := aM_ ((by rw [hg]; exact (by first | exact HK.out.1 | exact (show Kept w _ (fun k_ => P0_1_ k_ ∨ P1_1_ k_) from by repeat (first | (with_reducible first | exact HK.out | apply Kept.alloc | apply Kept.drewN | apply Kept.drew | refine Kept.setCell ?_ (.inr GW200.out) _ | refine Kept.setCell ?_ (.inr GW201.out) _) | exact HK.out)).1) : w.heap.size ≤ gb202)); have n8_ := aM_ ((by rw [hg]; exact (below_size (by repeat (first | (with_reducible first | exact HB.out | apply bB_ | apply wN_ | apply bE_ | refine bS_ ?_ GE200.out | refine bS_ ?_ GE201.out) | exact HB.out))) : w0.heap.size ≤ gb202)); have n9_ := aM_ ((by rw [hg]; exact Nat.ne_of_lt (blk_lt (g := gb200) (o := .cells #[.bool a0_0, .slice Ao16 l0_1.length co16, .int .i64 a0_2] 26 (0, 0)) (by (with_reducible repeat (first | refine bN_ ?_ _ | refine bD_ ?_ | refine bA_ ?_ _)); exact BK200.out)) : gb200 ≠ gb202)); have n10_ := aM_ ((by rw [hg]; exact Nat.ne_of_gt (blk_lt (g := gb200) (o := .cells #[.bool a0_0, .slice Ao16 l0_1.length co16, .int .i64 a0_2] 26 (0, 0)) (by (with_reducible repeat (first | refine bN_ ?_ _ | refine bD_ ?_ | refine bA_ ?_ _)); exact BK200.out)) : gb202 ≠ gb200)); have n11_ := aM_ ((by rw [hg]; exact Nat.ne_of_lt (blk_lt (g := gb201) (o := .cells #[.bool a1_0, .slice Ao18 l1_1.length co18, .int .i64 a1_2] 26 (0, 0)) (by (with_reducible repeat (first | refine bN_ ?_ _ | refine bD_ ?_ | refine bA_ ?_ _)); exact BK201.out)) : gb201 ≠ gb202)); have n12_ := aM_ ((by rw [hg]; exact Nat.ne_of_gt (blk_lt (g := gb201) (o := .cells #[.bool a1_0, .slice Ao18 l1_1.length co18, .int .i64 a1_2] 26 (0, 0)) (by (with_reducible repeat (first | refine bN_ ?_ _ | refine bD_ ?_ | refine bA_ ?_ _)); exact BK201.out)) : gb202 ≠ gb201)); clear HO0_1; clear HO1_1; clear BK200; clear BK201; clear HK; clear HB; have HO0_1 := n0_; have HO1_1 := n1_; have BK200 := n2_; have BK201 := n3_; have HK := n4_; have HB := n5_; have BK202 := n6_; have GW202 := n7_; have GE202 := n8_; have NB200_202 := n9_; have NB202_200 := n10_; have NB201_202 := n11_; have NB202_201 := n12_; clear n0_ n1_ n2_ n3_ n4_ n5_ n6_ n7_ n8_ n9_ n10_ n11_ n12_; clear hb hbox hg; have hnb21 := NB200_201.out; have hnc21 := NB201_200.out; have hnb22 := NB200_202.out; have hnc22 := NB202_200.out; have hcz23_0 : w20.cell? ⟨gb200, 0, none⟩ = some (.bool a0_0) := (bC_ BK200.out 0).trans rfl; have hcz23_1 : w20.cell? ⟨gb200, 1, none⟩ = some (.slice Ao16 l0_1.length co16) := (bC_ BK200.out 1).trans rfl; have hcz23_2 : w20.cell? ⟨gb200, 2, none⟩ = some (.int .i64 a0_2) := (bC_ BK200.out 2).trans rfl; have hfz23_0 := bF_ BK200.out 0; have hfz23_1 := bF_ BK200.out 1; have hfz23_2 := bF_ BK200.out 2; have hnb24 := NB201_202.out; have hnc24 := NB202_201.out; have hcz25_0 : w20.cell? ⟨gb201, 0, none⟩ = some (.bool a1_0) := (bC_ BK201.out 0).trans rfl; have hcz25_1 : w20.cell? ⟨gb201, 1, none⟩ = some (.slice Ao18 l1_1.length co18) := (bC_ BK201.out 1).trans rfl; have hcz25_2 : w20.cell? ⟨gb201, 2, none⟩ = some (.int .i64 a1_2) := (bC_ BK201.out 2).trans rfl; have hfz25_0 := bF_ BK201.out 0; have hfz25_1 := bF_ BK201.out 1; have hfz25_2 := bF_ BK201.out 2; have hcz26_0 : w20.cell? ⟨gb202, 0, none⟩ = some (.bool false) := (bC_ BK202.out 0).trans rfl; have hcz26_1 : w20.cell? ⟨gb202, 1, none⟩ = some (.slice none 0 0) := (bC_ BK202.out 1).trans rfl; have hcz26_2 : w20.cell? ⟨gb202, 2, none⟩ = some (.int .i64 0) := (bC_ BK202.out 2).trans rfl; have hfz26_0 := bF_ BK202.out 0; have hfz26_1 := bF_ BK202.out 1; have hfz26_2 := bF_ BK202.out 2))
   refine bodyPost_ret (results_ct rfl _ _ gb202 26 #[.bool a0_0, .slice Ao16 l0_1.length co16, .int .i64 a0_2] (0, 0) _ rfl (by (with_reducible repeat (first | refine bN_ ?_ _ | refine bD_ ?_ | refine bA_ ?_ _)); refine blk_put (cs := #[.bool a0_0, .slice Ao16 l0_1.length co16, .int .i64 0]) ?_ 2 _ rfl; (with_reducible repeat (first | refine bN_ ?_ _ | refine bD_ ?_ | refine bA_ ?_ _)); refine blk_put (cs := #[.bool a0_0, .slice none 0 0, .int .i64 0]) ?_ 1 _ rfl; (with_reducible repeat (first | refine bN_ ?_ _ | refine bD_ ?_ | refine bA_ ?_ _)); refine blk_put (cs := #[.bool false, .slice none 0 0, .int .i64 0]) ?_ 0 _ rfl; (with_reducible repeat (first | refine bN_ ?_ _ | refine bD_ ?_ | refine bA_ ?_ _)); exact BK202.out) Try.underlying26 rfl (by kernel_rfl)) rfl ?_
   exact ⟨_, by first | rfl | (simp [errW_none, errW_some] <;> rfl) | (simp [*, errW_none, errW_some] <;> rfl), by (with_reducible repeat (first | apply kA_ | apply kN_ | apply kD_)); exact Kd.R_mono (Kd.R_far (p := ⟨gb202, 2, none⟩) (Kd.R_far (p := ⟨gb202, 1, none⟩) (Kd.R_far (p := ⟨gb202, 0, none⟩) (Kd.R_types HO0_1.out BK202.out (by decide)) (fun _ hk => hk.2) (.bool a0_0)) (fun _ hk => hk.2) (.slice Ao16 l0_1.length co16)) (fun _ hk => hk.2) (.int .i64 a0_2)) (fun _ hk => hk.1.1), by repeat (first | (with_reducible first | exact HB.out | apply bB_ | apply wN_ | apply bE_ | refine bS_ ?_ GE200.out | refine bS_ ?_ GE201.out | refine bS_ ?_ GE202.out) | exact HB.out), by repeat (first | (with_reducible first | exact HK.out | apply Kept.alloc | apply Kept.drewN | apply Kept.drew | refine Kept.setCell ?_ (.inr GW200.out) _ | refine Kept.setCell ?_ (.inr GW201.out) _ | refine Kept.setCell ?_ (.inr GW202.out) _) | exact HK.out)⟩
  ·
   rw [if_neg c15] at H
   have c15b0 : ((l1_1.length : Int) == 0) = false := beq_eq_false_iff_ne.mpr c15
   have c15b1 : ((l1_1.length : Int) != 0) = true := bne_iff_ne.mpr c15
   have c15b2 : ¬ (l1_1 = []) := fun h_ => c15 (by rw [h_]; rfl)
   obtain ⟨ji27, hji27⟩ : ∃ j_ : Int, (mn a0_2 a1_2) = j_ := ⟨_, rfl⟩
   replace H : (if (wrap64 (a0_2 - (ji27))) > 2000 then (spec_DecimalAdd.j0 k ji27 true a0_0 l0_1 a0_2 a1_0 l1_1 a1_2) else (spec_DecimalAdd.j0 k ji27 (decide ((wrap64 (a1_2 - (ji27))) > 2000)) a0_0 l0_1 a0_2 a1_0 l1_1 a1_2)) = some (r1, r2, r3, r4) := by first | (rw [hji27] at H; exact H) | (simp only [hji27] at H ⊢; exact H)
   have hji27_ : (if a1_2 < a0_2 then a1_2 else a0_2) = ji27 := hji27
   have HC28 := aM_ H
   clear H
   obtain ⟨Ao29, co29, eo29⟩ := Kd.R_slice HO0_1.out
   subst eo29
   go_enter Try.func8, Try.ntmps8
   go_upto_region 6 with (first | ((with_reducible refine gate_dst (N := 2) rfl ?_); refine box_event ?hg (N := 2) ?hd (cs := #[.bool a0_0, .slice Ao29 l0_1.length co29, .int .i64 a0_2]) (t := 26) ?hr ?_; (case hd => rfl); (case hg => rfl); (case hr => first | (go_simp; done) | (go_simp; rfl)); intro gb200 hg w30 hbox hb; have n0_ := aM_ (Kd.R_below (by (with_reducible repeat (first | apply kA_ | apply kN_ | apply kD_)); exact HO0_1.out) hb); have n1_ := aM_ (Kd.R_below (by (with_reducible repeat (first | apply kA_ | apply kN_ | apply kD_)); exact HO1_1.out) hb); have n2_ := aM_ (Kept.below (S := (fun k_ => P0_1_ k_ ∨ P1_1_ k_)) (by repeat (first | (with_reducible first | exact HK.out | apply Kept.alloc | apply Kept.drewN | apply Kept.drew) | exact HK.out)) hb); have n3_ := aM_ (below_step (by repeat (first | (with_reducible first | exact HB.out | apply bB_ | apply wN_ | apply bE_) | exact HB.out)) hb); have n4_ := aM_ (hbox); have n5_ := aM_ ((by rw [hg]; exact (by first | exact HK.out.1 | exact (show Kept w _ (fun k_ => P0_1_ k_ ∨ P1_1_ k_) from by repeat (first | (with_reducible first | exact HK.out | apply Kept.alloc | apply Kept.drewN | apply Kept.drew) | exact HK.out)).1) : w.heap.size ≤ gb200)); have n6_ := aM_ ((by rw [hg]; exact (below_size (by repeat (first | (with_reducible first | exact HB.out | apply bB_ | apply wN_ | apply bE_) | exact HB.out))) : w0.heap.size ≤ gb200)); clear HO0_1; clear HO1_1; clear HK; clear HB; have HO0_1 := n0_; have HO1_1 := n1_; have HK := n2_; have HB := n3_; have BK200 := n4_; have GW200 := n5_; have GE200 := n6_; clear n0_ n1_ n2_ n3_ n4_ n5_ n6_; clear hb hbox hg; obtain ⟨Ao31, co31, eo31⟩ := Kd.R_slice HO1_1.out; subst eo31) | ((with_reducible refine gate_dst (N := 3) rfl ?_); refine box_event ?hg (N := 3) ?hd (cs := #[.bool a1_0, .slice Ao31 l1_1.length co31, .int .i64 a1_2]) (t := 26) ?hr ?_; (case hd => rfl); (case hg => rfl); (case hr => first | (go_simp; done) | (go_simp; rfl)); intro gb201 hg w32 hbox hb; have n0_ := aM_ (Kd.R_below (by (with_reducible repeat (first | apply kA_ | apply kN_ | apply kD_)); exact HO0_1.out) hb); have n1_ := aM_ (Kd.R_below (by (with_reducible repeat (first | apply kA_ | apply kN_ | apply kD_)); exact HO1_1.out) hb); have n2_ := aM_ (blk_below (g := gb200) (o := .cells #[.bool a0_0, .slice Ao29 l0_1.length co29, .int .i64 a0_2] 26 (0, 0)) (by (with_reducible repeat (first | refine bN_ ?_ _ | refine bD_ ?_ | refine bA_ ?_ _)); exact BK200.out) hb); have n3_ := aM_ (Kept.below (S := (fun k_ => P0_1_ k_ ∨ P1_1_ k_)) (by repeat (first | (with_reducible first | exact HK.out | apply Kept.alloc | apply Kept.drewN | apply Kept.drew | refine Kept.setCell ?_ (.inr GW200.out) _) | exact HK.out)) hb); have n4_ := aM_ (below_step (by repeat (first | (with_reducible first | exact HB.out | apply bB_ | apply wN_ | apply bE_ | refine bS_ ?_ GE200.out) | exact HB.out)) hb); have n5_ := aM_ (hbox); have n6_ := aM_ ((by rw [hg]; exact (by first | exact HK.out.1 | exact (show Kept w _ (fun k_ => P0_1_ k_ ∨ P1_1_ k_) from by repeat (first | (with_reducible first | exact HK.out | apply Kept.alloc | apply Kept.drewN | apply Kept.drew | refine Kept.setCell ?_ (.inr GW200.out) _) | exact HK.out)).1) : w.heap.size ≤ gb201)); have n7_ := aM_ ((by rw [hg]; exact (below_size (by repeat (first | (with_reducible first | exact HB.out | apply bB_ | apply wN_ | apply bE_ | refine bS_ ?_ GE200.out) | exact HB.out))) : w0.heap.size ≤ gb201)); have n8_ := aM_ ((by rw [hg]; exact Nat.ne_of_lt (blk_lt (g := gb200) (o := .cells #[.bool a0_0, .slice Ao29 l0_1.length co29, .int .i64 a0_2] 26 (0, 0)) (by (with_reducible repeat (first | refine bN_ ?_ _ | refine bD_ ?_ | refine bA_ ?_ _)); exact BK200.out)) : gb200 ≠ gb201)); have n9_ := aM_ ((by rw [hg]; exact Nat.ne_of_gt (blk_lt (g := gb200) (o := .cells #[.bool a0_0, .slice Ao29 l0_1.length co29, .int .i64 a0_2] 26 (0, 0)) (by (with_reducible repeat (first | refine bN_ ?_ _ | refine bD_ ?_ | refine bA_ ?_ _)); exact BK200.out)) : gb201 ≠ gb200)); clear HO0_1; clear HO1_1; clear BK200; clear HK; clear HB; have HO0_1 := n0_; have HO1_1 := n1_; have BK200 := n2_; have HK := n3_; have HB := n4_; have BK201 := n5_; have GW201 := n6_; have GE201 := n7_; have NB200_201 := n8_; have NB201_200 := n9_; clear n0_ n1_ n2_ n3_ n4_ n5_ n6_ n7_ n8_ n9_; clear hb hbox hg) | ((with_reducible refine gate_dst (N := 4) rfl ?_); refine box_event ?hg (N := 4) ?hd (cs := #[.bool false, .slice none 0 0, .int .i64 0]) (t := 26) ?hr ?_; (case hd => rfl); (case hg => rfl); (case hr => first | (go_simp; done) | (go_simp; rfl)); intro gb202 hg w33 hbox hb; have n0_ := aM_ (Kd.R_below (by (with_reducible repeat (first | apply kA_ | apply kN_ | apply kD_)); exact HO0_1.out) hb); have n1_ := aM_ (Kd.R_below (by (with_reducible repeat (first | apply kA_ | apply kN_ | apply kD_)); exact HO1_1.out) hb); have n2_ := aM_ (blk_below (g := gb200) (o := .cells #[.bool a0_0, .slice Ao29 l0_1.length co29, .int .i64 a0_2] 26 (0, 0)) (by (with_reducible repeat (first | refine bN_ ?_ _ | refine bD_ ?_ | refine bA_ ?_ _)); exact BK200.out) hb); have n3_ := aM_ (blk_below (g := gb201) (o := .cells #[.bool a1_0, .slice Ao31 l1_1.length co31, .int .i64 a1_2] 26 (0, 0)) (by (with_reducible repeat (first | refine bN_ ?_ _ | refine bD_ ?_ | refine bA_ ?_ _)); exact BK201.out) hb); have n4_ := aM_ (Kept.below (S := (fun k_ => P0_1_ k_ ∨ P1_1_ k_)) (by repeat (first | (with_reducible first | exact HK.out | apply Kept.alloc | apply Kept.drewN | apply Kept.drew | refine Kept.setCell ?_ (.inr GW200.out) _ | refine Kept.setCell ?_ (.inr GW201.out) _) | exact HK.out)) hb); have n5_ := aM_ (below_step (by repeat (first | (with_reducible first | exact HB.out | apply bB_ | apply wN_ | apply bE_ | refine bS_ ?_ GE200.out | refine bS_ ?_ GE201.out) | exact HB.out)) hb); have n6_ := aM_ (hbox); have n7_ := aM_ ((by rw [hg]; exact (by first | exact HK.out.1 | exact (show Kept w _ (fun k_ => P0_1_ k_ ∨ P1_1_ k_) from by repeat (first | (with_reducible first | exact HK.out | apply Kept.alloc | apply Kept.drewN | apply Kept.drew | refine Kept.setCell ?_ (.inr GW200.out) _ | refine Kept.setCell ?_ (.inr GW201.out) _) | exact HK.out)).1) : w.heap.size ≤ gb202)); have n8_ := aM_ ((by rw [hg]; exact (below_size (by repeat (first | (with_reducible first | exact HB.out | apply bB_ | apply wN_ | apply bE_ | refine bS_ ?_ GE200.out | refine bS_ ?_ GE201.out) | exact HB.out))) : w0.heap.size ≤ gb202)); have n9_ := aM_ ((by rw [hg]; exact Nat.ne_of_lt (blk_lt (g := gb200) (o := .cells #[.bool a0_0, .slice Ao29 l0_1.length co29, .int .i64 a0_2] 26 (0, 0)) (by (with_reducible repeat (first | refine bN_ ?_ _ | refine bD_ ?_ | refine bA_ ?_ _)); exact BK200.out)) : gb200 ≠ gb202)); have n10_ := aM_ ((by rw [hg]; exact Nat.ne_of_gt (blk_lt (g := gb200) (o := .cells #[.bool a0_0, .slice Ao29 l0_1.length co29, .int .i64 a0_2] 26 (0, 0)) (by (with_reducible repeat (first | refine bN_ ?_ _ | refine bD_ ?_ | refine bA_ ?_ _)); exact BK200.out)) : gb202 ≠ gb200)); have n11_ := aM_ ((by rw [hg]; exact Nat.ne_of_lt (blk_lt (g := gb201) (o := .cells #[.bool a1_0, .slice Ao31 l1_1.length co31, .int .i64 a1_2] 26 (0, 0)) (by (with_reducible repeat (first | refine bN_ ?_ _ | refine bD_ ?_ | refine bA_ ?_ _)); exact BK201.out)) : gb201 ≠ gb202)); have n12_ := aM_ ((by rw [hg]; exact Nat.ne_of_gt (blk_lt (g := gb201) (o := .cells #[.bool a1_0, .slice Ao31 l1_1.length co31, .int .i64 a1_2] 26 (0, 0)) (by (with_reducible repeat (first | refine bN_ ?_ _ | refine bD_ ?_ | refine bA_ ?_ _)); exact BK201.out)) : gb202 ≠ gb201)); clear HO0_1; clear HO1_1; clear BK200; clear BK201; clear HK; clear HB; have HO0_1 := n0_; have HO1_1 := n1_; have BK200 := n2_; have BK201 := n3_; have HK := n4_; have HB := n5_; have BK202 := n6_; have GW202 := n7_; have GE202 := n8_; have NB200_202 := n9_; have NB202_200 := n10_; have NB201_202 := n11_; have NB202_201 := n12_; clear n0_ n1_ n2_ n3_ n4_ n5_ n6_ n7_ n8_ n9_ n10_ n11_ n12_; clear hb hbox hg; have hnb34 := NB200_201.out; have hnc34 := NB201_200.out; have hnb35 := NB200_202.out; have hnc35 := NB202_200.out; have hcz36_0 : w33.cell? ⟨gb200, 0, none⟩ = some (.bool a0_0) := (bC_ BK200.out 0).trans rfl; have hcz36_1 : w33.cell? ⟨gb200, 1, none⟩ = some (.slice Ao29 l0_1.length co29) := (bC_ BK200.out 1).trans rfl; have hcz36_2 : w33.cell? ⟨gb200, 2, none⟩ = some (.int .i64 a0_2) := (bC_ BK200.out 2).trans rfl; have hfz36_0 := bF_ BK200.out 0; have hfz36_1 := bF_ BK200.out 1; have hfz36_2 := bF_ BK200.out 2; have hnb37 := NB201_202.out; have hnc37 := NB202_201.out; have hcz38_0 : w33.cell? ⟨gb201, 0, none⟩ = some (.bool a1_0) := (bC_ BK201.out 0).trans rfl; have hcz38_1 : w33.cell? ⟨gb201, 1, none⟩ = some (.slice Ao31 l1_1.length co31) := (bC_ BK201.out 1).trans rfl; have hcz38_2 : w33.cell? ⟨gb201, 2, none⟩ = some (.int .i64 a1_2) := (bC_ BK201.out 2).trans rfl; have hfz38_0 := bF_ BK201.out 0; have hfz38_1 := bF_ BK201.out 1; have hfz38_2 := bF_ BK201.out 2))
   (try simp only [Act.put, List.setIfInBounds_toArray, List.set_cons_zero, List.set_cons_succ])
   go_cut [33] (fun v33 wc => ∃ (kq : Nat) (x33_27 : Bool), v33 = .bool x33_27 ∧ Aside0 (spec_DecimalAdd.j0 kq ji27 x33_27 a0_0 l0_1 a0_2 a1_0 l1_1 a1_2 = some (r1, r2, r3, r4)) ∧ Aside0 (kq ≤ k) ∧ Aside0 (Kd.R (Kd.int .i64) 3 wc w0.heap.size (fun k_ => ((P0_1_ k_ ∨ P1_1_ k_) ∨ w.heap.size ≤ k_) ∧ some k_ ≠ ((.slice Ao31 l1_1.length co31) : Value).ownBlock) (.slice Ao29 l0_1.length co29) l0_1) ∧ Aside0 (Kd.R (Kd.int .i64) 3 wc w0.heap.size (fun k_ => ((P0_1_ k_ ∨ P1_1_ k_) ∨ w.heap.size ≤ k_) ∧ some k_ ≠ ((.slice Ao29 l0_1.length co29) : Value).ownBlock) (.slice Ao31 l1_1.length co31) l1_1) ∧ Aside0 (wc.heap[gb200]? = some (.cells #[.bool a0_0, (.slice Ao29 l0_1.length co29), .int .i64 a0_2] 26 (0, 0))) ∧ Aside0 (wc.heap[gb201]? = some (.cells #[.bool a1_0, (.slice Ao31 l1_1.length co31), .int .i64 a1_2] 26 (0, 0))) ∧ Aside0 (wc.heap[gb202]? = some (.cells #[.bool false, (.slice none 0 0), .int .i64 0] 26 (0, 0))) ∧ Aside0 (Kept w wc (fun k_ => P0_1_ k_ ∨ P1_1_ k_)) ∧ Aside0 (Below w0.heap.size w0 wc))
   case first =>
    have H := HC28.out
    clear HC28
    by_cases c39 : (wrap64 (a0_2 - (ji27))) > 2000
    ·
     rw [if_pos c39] at H
     have c39b0 : decide (2000 < (wrap64 (a0_2 - (ji27)))) = true := decide_eq_true c39
     clear c39
     (first | rw [c39b0] | (simp only [i64_w, i32_w]; rw [c39b0]) | skip)
     have H' := aM_ H
     clear H
     have hnb40 := NB200_201.out
     have hnc40 := NB201_200.out
     have hnb41 := NB200_202.out
     have hnc41 := NB202_200.out
     have hcz42_0 : w33.cell? ⟨gb200, 0, none⟩ = some (.bool a0_0) := (bC_ BK200.out 0).trans rfl
     have hcz42_1 : w33.cell? ⟨gb200, 1, none⟩ = some (.slice Ao29 l0_1.length co29) := (bC_ BK200.out 1).trans rfl
     have hcz42_2 : w33.cell? ⟨gb200, 2, none⟩ = some (.int .i64 a0_2) := (bC_ BK200.out 2).trans rfl
     have hfz42_0 := bF_ BK200.out 0
     have hfz42_1 := bF_ BK200.out 1
     have hfz42_2 := bF_ BK200.out 2
     go_wp2
     go_meet
     case rel => exact ⟨_, (true), (by first | rfl | (simp; done) | (simp [*]; done)), H', ⟨by first | omega | exact Nat.le_refl _⟩, ⟨by (with_reducible repeat (first | apply kA_ | apply kN_ | apply kD_)); exact HO0_1.out⟩, ⟨by (with_reducible repeat (first | apply kA_ | apply kN_ | apply kD_)); exact HO1_1.out⟩, ⟨by (with_reducible repeat (first | refine bN_ ?_ _ | refine bD_ ?_ | refine bA_ ?_ _)); exact BK200.out⟩, ⟨by (with_reducible repeat (first | refine bN_ ?_ _ | refine bD_ ?_ | refine bA_ ?_ _)); exact BK201.out⟩, ⟨by (with_reducible repeat (first | refine bN_ ?_ _ | refine bD_ ?_ | refine bA_ ?_ _)); exact BK202.out⟩, ⟨by repeat (first | (with_reducible first | exact HK.out | apply Kept.alloc | apply Kept.drewN | apply Kept.drew | refine Kept.setCell ?_ (.inr GW200.out) _ | refine Kept.setCell ?_ (.inr GW201.out) _ | refine Kept.setCell ?_ (.inr GW202.out) _) | exact HK.out)⟩, ⟨by repeat (first | (with_reducible first | exact HB.out | apply bB_ | apply wN_ | apply bE_ | refine bS_ ?_ GE200.out | refine bS_ ?_ GE201.out | refine bS_ ?_ GE202.out) | exact HB.out)⟩⟩
    ·
     rw [if_neg c39] at H
     have c39b0 : decide (2000 < (wrap64 (a0_2 - (ji27)))) = false := decide_eq_false c39
     clear c39
     (first | rw [c39b0] | (simp only [i64_w, i32_w]; rw [c39b0]) | skip)
     have H' := aM_ H
     clear H
     have hnb43 := NB200_201.out
     have hnc43 := NB201_200.out
     have hnb44 := NB200_202.out
     have hnc44 := NB202_200.out
     have hcz45_0 : w33.cell? ⟨gb200, 0, none⟩ = some (.bool a0_0) := (bC_ BK200.out 0).trans rfl
     have hcz45_1 : w33.cell? ⟨gb200, 1, none⟩ = some (.slice Ao29 l0_1.length co29) := (bC_ BK200.out 1).trans rfl
     have hcz45_2 : w33.cell? ⟨gb200, 2, none⟩ = some (.int .i64 a0_2) := (bC_ BK200.out 2).trans rfl
     have hfz45_0 := bF_ BK200.out 0
     have hfz45_1 := bF_ BK200.out 1
     have hfz45_2 := bF_ BK200.out 2
     have hnb46 := NB201_202.out
     have hnc46 := NB202_201.out
     have hcz47_0 : w33.cell? ⟨gb201, 0, none⟩ = some (.bool a1_0) := (bC_ BK201.out 0).trans rfl
     have hcz47_1 : w33.cell? ⟨gb201, 1, none⟩ = some (.slice Ao31 l1_1.length co31) := (bC_ BK201.out 1).trans rfl
     have hcz47_2 : w33.cell? ⟨gb201, 2, none⟩ = some (.int .i64 a1_2) := (bC_ BK201.out 2).trans rfl
     have hfz47_0 := bF_ BK201.out 0
     have hfz47_1 := bF_ BK201.out 1
     have hfz47_2 := bF_ BK201.out 2
     go_wp2
     go_meet
     case rel => exact ⟨_, (decide ((wrap64 (a1_2 - (ji27))) > 2000)), (by first | rfl | (simp; done) | (simp only [← hji27] <;> (first | rfl | simp)) | (simp [*]; done)), H', ⟨by first | omega | exact Nat.le_refl _⟩, ⟨by (with_reducible repeat (first | apply kA_ | apply kN_ | apply kD_)); exact HO0_1.out⟩, ⟨by (with_reducible repeat (first | apply kA_ | apply kN_ | apply kD_)); exact HO1_1.out⟩, ⟨by (with_reducible repeat (first | refine bN_ ?_ _ | refine bD_ ?_ | refine bA_ ?_ _)); exact BK200.out⟩, ⟨by (with_reducible repeat (first | refine bN_ ?_ _ | refine bD_ ?_ | refine bA_ ?_ _)); exact BK201.out⟩, ⟨by (with_reducible repeat (first | refine bN_ ?_ _ | refine bD_ ?_ | refine bA_ ?_ _)); exact BK202.out⟩, ⟨by repeat (first | (with_reducible first | exact HK.out | apply Kept.alloc | apply Kept.drewN | apply Kept.drew | refine Kept.setCell ?_ (.inr GW200.out) _ | refine Kept.setCell ?_ (.inr GW201.out) _ | refine Kept.setCell ?_ (.inr GW202.out) _) | exact HK.out)⟩, ⟨by repeat (first | (with_reducible first | exact HB.out | apply bB_ | apply wN_ | apply bE_ | refine bS_ ?_ GE200.out | refine bS_ ?_ GE201.out | refine bS_ ?_ GE202.out) | exact HB.out)⟩⟩
   case rest =>
    clear HC28
    try clear c1
    try clear p1
    try clear c2
    try clear p2
    try clear c3
    try clear c3b0
    try clear c3b1
    try clear c3b2
    try clear c4
    try clear p6
    try clear c8
    try clear c9
    try clear c10
    try clear c12
    try clear c15
    try clear c15b0
    try clear c15b1
    try clear c15b2
    try clear c21
    try clear c22
    try clear c24
    try clear c34
    try clear c35
    try clear c37
    try clear c39
    try clear c39b0
    try clear c40
    try clear c41
    try clear c43
    try clear c44
    try clear c46
    try clear hcz11_0
    try clear hcz11_1
    try clear hcz11_2
    try clear hcz13_0
    try clear hcz13_1
    try clear hcz13_2
    try clear hcz14_0
    try clear hcz14_1
    try clear hcz14_2
    try clear hcz23_0
    try clear hcz23_1
    try clear hcz23_2
    try clear hcz25_0
    try clear hcz25_1
    try clear hcz25_2
    try clear hcz26_0
    try clear hcz26_1
    try clear hcz26_2
    try clear hcz36_0
    try clear hcz36_1
    try clear hcz36_2
    try clear hcz38_0
    try clear hcz38_1
    try clear hcz38_2
    try clear hcz42_0
    try clear hcz42_1
    try clear hcz42_2
    try clear hcz45_0
    try clear hcz45_1
    try clear hcz45_2
    try clear hcz47_0
    try clear hcz47_1
    try clear hcz47_2
    try clear hfz11_0
    try clear hfz11_1
    try clear hfz11_2
    try clear hfz13_0
    try clear hfz13_1
    try clear hfz13_2
    try clear hfz14_0
    try clear hfz14_1
    try clear hfz14_2
    try clear hfz23_0
    try clear hfz23_1
    try clear hfz23_2
    try clear hfz25_0
    try clear hfz25_1
    try clear hfz25_2
    try clear hfz26_0
    try clear hfz26_1
    try clear hfz26_2
    try clear hfz36_0
    try clear hfz36_1
    try clear hfz36_2
    try clear hfz38_0
    try clear hfz38_1
    try clear hfz38_2
    try clear hfz42_0
    try clear hfz42_1
    try clear hfz42_2
    try clear hfz45_0
    try clear hfz45_1
    try clear hfz45_2
    try clear hfz47_0
    try clear hfz47_1
    try clear hfz47_2
    obtain ⟨kq, x33_27, rfl, HA, HJ27, HO_201001, HO_202001, BK200, BK201, BK202, HK, HB⟩ := hcut
    cases kq with
    | zero => exact absurd HA.out (by simp [spec_DecimalAdd.j0])
    | succ kj27 =>
     have H := HA.out
     clear HA
     simp only [spec_DecimalAdd.j0] at H
     by_cases c48 : x33_27 = true
     ·
      subst c48
      have H1 : (some (false, ([] : List Int), 0, false)) = some (r1, r2, r3, r4) := by rw [if_pos rfl] at H; exact H
      clear H
      have H := H1
      clear H1
      simp only [Option.some.injEq, Prod.mk.injEq] at H
      obtain ⟨rfl, rfl, rfl, rfl⟩ := H
      have hnb49 := NB202_200.out
      have hnc49 := NB200_202.out
      have hnb50 := NB202_201.out
      have hnc50 := NB201_202.out
      have hcz51_0 : wc.cell? ⟨gb202, 0, none⟩ = some (.bool false) := (bC_ BK202.out 0).trans rfl
      have hcz51_1 : wc.cell? ⟨gb202, 1, none⟩ = some (.slice none 0 0) := (bC_ BK202.out 1).trans rfl
      have hcz51_2 : wc.cell? ⟨gb202, 2, none⟩ = some (.int .i64 0) := (bC_ BK202.out 2).trans rfl
      have hfz51_0 := bF_ BK202.out 0
      have hfz51_1 := bF_ BK202.out 1
      have hfz51_2 := bF_ BK202.out 2
      go_wp2
      refine bodyPost_ret (results_ct rfl _ _ gb202 26 #[.bool false, .slice none 0 0, .int .i64 0] (0, 0) _ rfl (by (with_reducible repeat (first | refine bN_ ?_ _ | refine bD_ ?_ | refine bA_ ?_ _)); refine blk_put (cs := #[.bool false, .slice none 0 0, .int .i64 0]) ?_ 2 _ rfl; (with_reducible repeat (first | refine bN_ ?_ _ | refine bD_ ?_ | refine bA_ ?_ _)); refine blk_put (cs := #[.bool false, .slice none 0 0, .int .i64 0]) ?_ 1 _ rfl; (with_reducible repeat (first | refine bN_ ?_ _ | refine bD_ ?_ | refine bA_ ?_ _)); refine blk_put (cs := #[.bool false, .slice none 0 0, .int .i64 0]) ?_ 0 _ rfl; (with_reducible repeat (first | refine bN_ ?_ _ | refine bD_ ?_ | refine bA_ ?_ _)); exact BK202.out) Try.underlying26 rfl (by kernel_rfl)) rfl ?_
      exact ⟨_, by first | rfl | (simp [errW_none, errW_some] <;> rfl) | (simp only [← hji27]; first | rfl | (simp [errW_none, errW_some] <;> rfl)) | (simp [*, errW_none, errW_some] <;> rfl), by first | exact Kd.R_nil _ _ _ _ _ | exact Kd.N_nil _ _ _ _ _ | exact Kd.V_nil _ _ _ _ _ | exact Kd.Q_nil _ _ _ _ _ | exact Kd.S_nil _ _ _ _ _, by repeat (first | (with_reducible first | exact HB.out | apply bB_ | apply wN_ | apply bE_ | refine bS_ ?_ GE200.out | refine bS_ ?_ GE201.out | refine bS_ ?_ GE202.out) | exact HB.out), by repeat (first | (with_reducible first | exact HK.out | apply Kept.alloc | apply Kept.drewN | apply Kept.drew | refine Kept.setCell ?_ (.inr GW200.out) _ | refine Kept.setCell ?_ (.inr GW201.out) _ | refine Kept.setCell ?_ (.inr GW202.out) _) | exact HK.out)⟩
     ·
      replace c48 := Bool.eq_false_iff.mpr c48
      subst c48
      have H1 : (if (a0_0 != a1_0) = true then ((spec_larger.f kj27 a0_0 l0_1 a0_2 a1_0 l1_1 a1_2).bind fun t203 => (spec_DecimalAdd.j1 kj27 ji27 (decide (t203 < 0)) a0_0 l0_1 a0_2 a1_0 l1_1 a1_2)) else (spec_DecimalAdd.j1 kj27 ji27 false a0_0 l0_1 a0_2 a1_0 l1_1 a1_2)) = some (r1, r2, r3, r4) := by rw [if_neg (show ¬ (false = true) by decide)] at H; exact H
      clear H
      have H := H1
      clear H1
      have HC52 := aM_ H
      clear H
      go_upto_region 8 with (fail)
      go_cut [45] (fun v45 wc => ∃ (kq : Nat) (x45_51 : Bool), v45 = .bool x45_51 ∧ Aside0 (spec_DecimalAdd.j1 kq ji27 x45_51 a0_0 l0_1 a0_2 a1_0 l1_1 a1_2 = some (r1, r2, r3, r4)) ∧ Aside0 (kq ≤ kj27) ∧ Aside0 (Kd.R (Kd.int .i64) 3 wc w0.heap.size (fun k_ => ((P0_1_ k_ ∨ P1_1_ k_) ∨ w.heap.size ≤ k_) ∧ some k_ ≠ ((.slice Ao31 l1_1.length co31) : Value).ownBlock) (.slice Ao29 l0_1.length co29) l0_1) ∧ Aside0 (Kd.R (Kd.int .i64) 3 wc w0.heap.size (fun k_ => ((P0_1_ k_ ∨ P1_1_ k_) ∨ w.heap.size ≤ k_) ∧ some k_ ≠ ((.slice Ao29 l0_1.length co29) : Value).ownBlock) (.slice Ao31 l1_1.length co31) l1_1) ∧ Aside0 (wc.heap[gb200]? = some (.cells #[.bool a0_0, (.slice Ao29 l0_1.length co29), .int .i64 a0_2] 26 (0, 0))) ∧ Aside0 (wc.heap[gb201]? = some (.cells #[.bool a1_0, (.slice Ao31 l1_1.length co31), .int .i64 a1_2] 26 (0, 0))) ∧ Aside0 (wc.heap[gb202]? = some (.cells #[.bool false, (.slice none 0 0), .int .i64 0] 26 (0, 0))) ∧ Aside0 (Kept w wc (fun k_ => P0_1_ k_ ∨ P1_1_ k_)) ∧ Aside0 (Below w0.heap.size w0 wc))
      case first =>
       have H := HC52.out
       clear HC52
       by_cases c53 : (a0_0 != a1_0) = true
       ·
        rw [if_pos c53] at H
        have c53b0 : (a0_0 != a1_0) = true := c53
        (try (have c53b1 : decide (a0_0 = a1_0) = false := by simpa using c53))
        (try (have c53b2 : (a0_0 == a1_0) = false := by simpa using c53))
        (try (have c53b3 : ¬ (a0_0 = a1_0) := by simpa using c53))
        clear c53
        (first | rw [c53b0] | (simp only [i64_w, i32_w]; rw [c53b0]) | skip)
        replace H := Option.bind_eq_some_iff.mp H
        obtain ⟨t203, A540, H⟩ := H
        replace H : (spec_DecimalAdd.j1 kj27 ji27 (decide (t203 < 0)) a0_0 l0_1 a0_2 a1_0 l1_1 a1_2) = some (r1, r2, r3, r4) := H
        have A54 := aM_ A540
        clear A540
        have H' := aM_ H
        clear H
        have hnb55 := NB200_201.out
        have hnc55 := NB201_200.out
        have hnb56 := NB200_202.out
        have hnc56 := NB202_200.out
        have hcz57_0 : wc.cell? ⟨gb200, 0, none⟩ = some (.bool a0_0) := (bC_ BK200.out 0).trans rfl
        have hcz57_1 : wc.cell? ⟨gb200, 1, none⟩ = some (.slice Ao29 l0_1.length co29) := (bC_ BK200.out 1).trans rfl
        have hcz57_2 : wc.cell? ⟨gb200, 2, none⟩ = some (.int .i64 a0_2) := (bC_ BK200.out 2).trans rfl
        have hfz57_0 := bF_ BK200.out 0
        have hfz57_1 := bF_ BK200.out 1
        have hfz57_2 := bF_ BK200.out 2
        have hnb58 := NB201_202.out
        have hnc58 := NB202_201.out
        have hcz59_0 : wc.cell? ⟨gb201, 0, none⟩ = some (.bool a1_0) := (bC_ BK201.out 0).trans rfl
        have hcz59_1 : wc.cell? ⟨gb201, 1, none⟩ = some (.slice Ao31 l1_1.length co31) := (bC_ BK201.out 1).trans rfl
        have hcz59_2 : wc.cell? ⟨gb201, 2, none⟩ = some (.int .i64 a1_2) := (bC_ BK201.out 2).trans rfl
        have hfz59_0 := bF_ BK201.out 0
        have hfz59_1 := bF_ BK201.out 1
        have hfz59_2 := bF_ BK201.out 2
        go_wp2_with (first | (go_at_call 21; (with_reducible refine (spec_larger.calls kj27 a0_0 _ _ l0_1 a0_2 a1_0 _ _ l1_1 a1_2 t203 _ ?side1 ?side2 ?side3 ?side4 A54.out).mono ?_); (case side1 => repeat (first | exact (Kd.R_reads' HO_201001.out).2.2 | (with_reducible refine Kd.C_alloc ?_ _) | (with_reducible refine Kd.C_drewN ?_ _) | (with_reducible refine Kd.C_drew ?_))); (case side2 => exact (Kd.R_reads' HO_201001.out).2.1); (case side3 => repeat (first | exact (Kd.R_reads' HO_202001.out).2.2 | (with_reducible refine Kd.C_alloc ?_ _) | (with_reducible refine Kd.C_drewN ?_ _) | (with_reducible refine Kd.C_drew ?_))); (case side4 => exact (Kd.R_reads' HO_202001.out).2.1); rintro e w60 ⟨rfl, hb⟩; have n0_ := aM_ (Kd.R_below (by (with_reducible repeat (first | apply kA_ | apply kN_ | apply kD_)); exact HO_201001.out) hb); have n1_ := aM_ (Kd.R_below (by (with_reducible repeat (first | apply kA_ | apply kN_ | apply kD_)); exact HO_202001.out) hb); have n2_ := aM_ (blk_below (g := gb200) (o := .cells #[.bool a0_0, .slice Ao29 l0_1.length co29, .int .i64 a0_2] 26 (0, 0)) (by (with_reducible repeat (first | refine bN_ ?_ _ | refine bD_ ?_ | refine bA_ ?_ _)); exact BK200.out) hb); have n3_ := aM_ (blk_below (g := gb201) (o := .cells #[.bool a1_0, .slice Ao31 l1_1.length co31, .int .i64 a1_2] 26 (0, 0)) (by (with_reducible repeat (first | refine bN_ ?_ _ | refine bD_ ?_ | refine bA_ ?_ _)); exact BK201.out) hb); have n4_ := aM_ (blk_below (g := gb202) (o := .cells #[.bool false, .slice none 0 0, .int .i64 0] 26 (0, 0)) (by (with_reducible repeat (first | refine bN_ ?_ _ | refine bD_ ?_ | refine bA_ ?_ _)); exact BK202.out) hb); have n5_ := aM_ (Kept.below (S := (fun k_ => P0_1_ k_ ∨ P1_1_ k_)) (by repeat (first | (with_reducible first | exact HK.out | apply Kept.alloc | apply Kept.drewN | apply Kept.drew | refine Kept.setCell ?_ (.inr GW200.out) _ | refine Kept.setCell ?_ (.inr GW201.out) _ | refine Kept.setCell ?_ (.inr GW202.out) _) | exact HK.out)) hb); have n6_ := aM_ (below_step (by repeat (first | (with_reducible first | exact HB.out | apply bB_ | apply wN_ | apply bE_ | refine bS_ ?_ GE200.out | refine bS_ ?_ GE201.out | refine bS_ ?_ GE202.out) | exact HB.out)) hb); clear HO_201001; clear HO_202001; clear BK200; clear BK201; clear BK202; clear HK; clear HB; have HO_201001 := n0_; have HO_202001 := n1_; have BK200 := n2_; have BK201 := n3_; have BK202 := n4_; have HK := n5_; have HB := n6_; clear n0_ n1_ n2_ n3_ n4_ n5_ n6_; (try clear hb); (try clear hb2); (try clear hk); (try clear hi)))
        go_meet
        case rel => exact ⟨_, (decide (t203 < 0)), (by first | rfl | (simp; done) | (simp [*]; done)), H', ⟨by have := HJ27.out; first | omega | exact Nat.le_refl _⟩, ⟨by (with_reducible repeat (first | apply kA_ | apply kN_ | apply kD_)); exact HO_201001.out⟩, ⟨by (with_reducible repeat (first | apply kA_ | apply kN_ | apply kD_)); exact HO_202001.out⟩, ⟨by (with_reducible repeat (first | refine bN_ ?_ _ | refine bD_ ?_ | refine bA_ ?_ _)); exact BK200.out⟩, ⟨by (with_reducible repeat (first | refine bN_ ?_ _ | refine bD_ ?_ | refine bA_ ?_ _)); exact BK201.out⟩, ⟨by (with_reducible repeat (first | refine bN_ ?_ _ | refine bD_ ?_ | refine bA_ ?_ _)); exact BK202.out⟩, ⟨by repeat (first | (with_reducible first | exact HK.out | apply Kept.alloc | apply Kept.drewN | apply Kept.drew | refine Kept.setCell ?_ (.inr GW200.out) _ | refine Kept.setCell ?_ (.inr GW201.out) _ | refine Kept.setCell ?_ (.inr GW202.out) _) | exact HK.out)⟩, ⟨by repeat (first | (with_reducible first | exact HB.out | apply bB_ | apply wN_ | apply bE_ | refine bS_ ?_ GE200.out | refine bS_ ?_ GE201.out | refine bS_ ?_ GE202.out) | exact HB.out)⟩⟩
       ·
        rw [if_neg c53] at H
        have c53b0 : (a0_0 != a1_0) = false := by simpa using c53
        (try (have c53b1 : decide (a0_0 = a1_0) = true := by simpa using c53))
        (try (have c53b2 : (a0_0 == a1_0) = true := by simpa using c53))
        clear c53
        (first | rw [c53b0] | (simp only [i64_w, i32_w]; rw [c53b0]) | skip)
        have H' := aM_ H
        clear H
        have hnb61 := NB200_201.out
        have hnc61 := NB201_200.out
        have hnb62 := NB200_202.out
        have hnc62 := NB202_200.out
        have hcz63_0 : wc.cell? ⟨gb200, 0, none⟩ = some (.bool a0_0) := (bC_ BK200.out 0).trans rfl
        have hcz63_1 : wc.cell? ⟨gb200, 1, none⟩ = some (.slice Ao29 l0_1.length co29) := (bC_ BK200.out 1).trans rfl
        have hcz63_2 : wc.cell? ⟨gb200, 2, none⟩ = some (.int .i64 a0_2) := (bC_ BK200.out 2).trans rfl
        have hfz63_0 := bF_ BK200.out 0
        have hfz63_1 := bF_ BK200.out 1
        have hfz63_2 := bF_ BK200.out 2
        have hnb64 := NB201_202.out
        have hnc64 := NB202_201.out
        have hcz65_0 : wc.cell? ⟨gb201, 0, none⟩ = some (.bool a1_0) := (bC_ BK201.out 0).trans rfl
        have hcz65_1 : wc.cell? ⟨gb201, 1, none⟩ = some (.slice Ao31 l1_1.length co31) := (bC_ BK201.out 1).trans rfl
        have hcz65_2 : wc.cell? ⟨gb201, 2, none⟩ = some (.int .i64 a1_2) := (bC_ BK201.out 2).trans rfl
        have hfz65_0 := bF_ BK201.out 0
        have hfz65_1 := bF_ BK201.out 1
        have hfz65_2 := bF_ BK201.out 2
        go_wp2
        go_meet
        case rel => exact ⟨_, (false), (by first | rfl | (simp; done) | (simp [*]; done)), H', ⟨by have := HJ27.out; first | omega | exact Nat.le_refl _⟩, ⟨by (with_reducible repeat (first | apply kA_ | apply kN_ | apply kD_)); exact HO_201001.out⟩, ⟨by (with_reducible repeat (first | apply kA_ | apply kN_ | apply kD_)); exact HO_202001.out⟩, ⟨by (with_reducible repeat (first | refine bN_ ?_ _ | refine bD_ ?_ | refine bA_ ?_ _)); exact BK200.out⟩, ⟨by (with_reducible repeat (first | refine bN_ ?_ _ | refine bD_ ?_ | refine bA_ ?_ _)); exact BK201.out⟩, ⟨by (with_reducible repeat (first | refine bN_ ?_ _ | refine bD_ ?_ | refine bA_ ?_ _)); exact BK202.out⟩, ⟨by repeat (first | (with_reducible first | exact HK.out | apply Kept.alloc | apply Kept.drewN | apply Kept.drew | refine Kept.setCell ?_ (.inr GW200.out) _ | refine Kept.setCell ?_ (.inr GW201.out) _ | refine Kept.setCell ?_ (.inr GW202.out) _) | exact HK.out)⟩, ⟨by repeat (first | (with_reducible first | exact HB.out | apply bB_ | apply wN_ | apply bE_ | refine bS_ ?_ GE200.out | refine bS_ ?_ GE201.out | refine bS_ ?_ GE202.out) | exact HB.out)⟩⟩
      case rest =>
       clear HC52
       try clear c1
       try clear p1
       try clear c2
       try clear p2
       try clear c3
       try clear c3b0
       try clear c3b1
       try clear c3b2
       try clear c4
       try clear c5
       try clear c6
       try clear p6
       try clear c8
       try clear c9
       try clear c10
       try clear c12
       try clear c15
       try clear c15b0
       try clear c15b1
       try clear c15b2
       try clear c21
       try clear c22
       try clear c24
       try clear c34
       try clear c35
       try clear c37
       try clear c39
       try clear c39b0
       try clear c40
       try clear c41
       try clear c43
       try clear c44
       try clear c46
       try clear c48
       try clear c49
       try clear c50
       try clear c53
       try clear c53b0
       try clear c53b1
       try clear c53b2
       try clear c55
       try clear c56
       try clear c58
       try clear c61
       try clear c62
       try clear c64
       try clear p64
       try clear hcz11_0
       try clear hcz11_1
       try clear hcz11_2
       try clear hcz13_0
       try clear hcz13_1
       try clear hcz13_2
       try clear hcz14_0
       try clear hcz14_1
       try clear hcz14_2
       try clear hcz23_0
       try clear hcz23_1
       try clear hcz23_2
       try clear hcz25_0
       try clear hcz25_1
       try clear hcz25_2
       try clear hcz26_0
       try clear hcz26_1
       try clear hcz26_2
       try clear hcz36_0
       try clear hcz36_1
       try clear hcz36_2
       try clear hcz38_0
       try clear hcz38_1
       try clear hcz38_2
       try clear hcz42_0
       try clear hcz42_1
       try clear hcz42_2
       try clear hcz45_0
       try clear hcz45_1
       try clear hcz45_2
       try clear hcz47_0
       try clear hcz47_1
       try clear hcz47_2
       try clear hcz51_0
       try clear hcz51_1
       try clear hcz51_2
       try clear hcz57_0
       try clear hcz57_1
       try clear hcz57_2
       try clear hcz59_0
       try clear hcz59_1
       try clear hcz59_2
       try clear hcz63_0
       try clear hcz63_1
       try clear hcz63_2
       try clear hcz65_0
       try clear hcz65_1
       try clear hcz65_2
       try clear hfz11_0
       try clear hfz11_1
       try clear hfz11_2
       try clear hfz13_0
       try clear hfz13_1
       try clear hfz13_2
       try clear hfz14_0
       try clear hfz14_1
       try clear hfz14_2
       try clear hfz23_0
       try clear hfz23_1
       try clear hfz23_2
       try clear hfz25_0
       try clear hfz25_1
       try clear hfz25_2
       try clear hfz26_0
       try clear hfz26_1
       try clear hfz26_2
       try clear hfz36_0
       try clear hfz36_1
       try clear hfz36_2
       try clear hfz38_0
       try clear hfz38_1
       try clear hfz38_2
       try clear hfz42_0
       try clear hfz42_1
       try clear hfz42_2
       try clear hfz45_0
       try clear hfz45_1
       try clear hfz45_2
       try clear hfz47_0
       try clear hfz47_1
       try clear hfz47_2
       try clear hfz51_0
       try clear hfz51_1
       try clear hfz51_2
       try clear hfz57_0
       try clear hfz57_1
       try clear hfz57_2
       try clear hfz59_0
       try clear hfz59_1
       try clear hfz59_2
       try clear hfz63_0
       try clear hfz63_1
       try clear hfz63_2
       try clear hfz65_0
       try clear hfz65_1
       try clear hfz65_2
       try clear p1
       try clear p2
       try clear p6
       obtain ⟨kq, x45_51, rfl, HA, HJ51, HO_201001, HO_202001, BK200, BK201, BK202, HK, HB⟩ := hcut
       cases kq with
       | zero => exact absurd HA.out (by simp [spec_DecimalAdd.j1])
       | succ kj51 =>
        have H := HA.out
        clear HA
        simp only [spec_DecimalAdd.j1] at H
        by_cases c66 : x45_51 = true
        ·
         subst c66
         have H1 : ((spec_wide.f kj51 a1_0 l1_1 a1_2 ji27).bind fun t204 => ((spec_wide.f kj51 a0_0 l0_1 a0_2 ji27).bind fun t207 => ((spec_sum.f kj51 a1_0 t204 t207 (a1_0 != a0_0) ji27).bind fun bt210 => (some (bt210.1, bt210.2.1, bt210.2.2, true))))) = some (r1, r2, r3, r4) := by rw [if_pos rfl] at H; exact H
         clear H
         have H := H1
         clear H1
         replace H := Option.bind_eq_some_iff.mp H
         obtain ⟨t204, A670, H⟩ := H
         replace H : ((spec_wide.f kj51 a0_0 l0_1 a0_2 ji27).bind fun t207 => ((spec_sum.f kj51 a1_0 t204 t207 (a1_0 != a0_0) ji27).bind fun bt210 => (some (bt210.1, bt210.2.1, bt210.2.2, true)))) = some (r1, r2, r3, r4) := H
         have A67 := aM_ A670
         clear A670
         replace H := Option.bind_eq_some_iff.mp H
         obtain ⟨t207, A680, H⟩ := H
         replace H : ((spec_sum.f kj51 a1_0 t204 t207 (a1_0 != a0_0) ji27).bind fun bt210 => (some (bt210.1, bt210.2.1, bt210.2.2, true))) = some (r1, r2, r3, r4) := H
         have A68 := aM_ A680
         clear A680
         replace H := Option.bind_eq_some_iff.mp H
         obtain ⟨⟨t210, t211, t214⟩, A690, H⟩ := H
         replace H : (some (t210, t211, t214, true)) = some (r1, r2, r3, r4) := H
         have A69 := aM_ A690
         clear A690
         simp only [Option.some.injEq, Prod.mk.injEq] at H
         obtain ⟨rfl, rfl, rfl, rfl⟩ := H
         have hnb70 := NB201_200.out
         have hnc70 := NB200_201.out
         have hnb71 := NB201_202.out
         have hnc71 := NB202_201.out
         have hcz72_0 : wc.cell? ⟨gb201, 0, none⟩ = some (.bool a1_0) := (bC_ BK201.out 0).trans rfl
         have hcz72_1 : wc.cell? ⟨gb201, 1, none⟩ = some (.slice Ao31 l1_1.length co31) := (bC_ BK201.out 1).trans rfl
         have hcz72_2 : wc.cell? ⟨gb201, 2, none⟩ = some (.int .i64 a1_2) := (bC_ BK201.out 2).trans rfl
         have hfz72_0 := bF_ BK201.out 0
         have hfz72_1 := bF_ BK201.out 1
         have hfz72_2 := bF_ BK201.out 2
         have hnb73 := NB200_202.out
         have hnc73 := NB202_200.out
         have hcz74_0 : wc.cell? ⟨gb200, 0, none⟩ = some (.bool a0_0) := (bC_ BK200.out 0).trans rfl
         have hcz74_1 : wc.cell? ⟨gb200, 1, none⟩ = some (.slice Ao29 l0_1.length co29) := (bC_ BK200.out 1).trans rfl
         have hcz74_2 : wc.cell? ⟨gb200, 2, none⟩ = some (.int .i64 a0_2) := (bC_ BK200.out 2).trans rfl
         have hfz74_0 := bF_ BK200.out 0
         have hfz74_1 := bF_ BK200.out 1
         have hfz74_2 := bF_ BK200.out 2
         try go_wp2
         have n0_ : Aside0 (Kd.R (Kd.int .i64) 3 ((((((wc.setCell ⟨gb200, 0, none⟩ (.bool a1_0)).setCell ⟨gb200, 1, none⟩ (.slice Ao31 l1_1.length co31)).setCell ⟨gb200, 2, none⟩ (.int .i64 a1_2)).setCell ⟨gb201, 0, none⟩ (.bool a0_0)).setCell ⟨gb201, 1, none⟩ (.slice Ao29 l0_1.length co29)).setCell ⟨gb201, 2, none⟩ (.int .i64 a0_2)) w0.heap.size (fun k_ => ((P0_1_ k_ ∨ P1_1_ k_) ∨ w.heap.size ≤ k_) ∧ some k_ ≠ (.slice Ao31 l1_1.length co31 : Value).ownBlock) (.slice Ao29 l0_1.length co29) l0_1) := ⟨by (with_reducible repeat (first | apply kA_ | apply kN_ | apply kD_)); exact Kd.R_mono (Kd.R_far (p := ⟨gb201, 2, none⟩) (Kd.R_far (p := ⟨gb201, 1, none⟩) (Kd.R_far (p := ⟨gb201, 0, none⟩) (Kd.R_far (p := ⟨gb200, 2, none⟩) (Kd.R_far (p := ⟨gb200, 1, none⟩) (Kd.R_far (p := ⟨gb200, 0, none⟩) (Kd.R_types (Kd.R_types HO_201001.out BK200.out (by decide)) BK201.out (by decide)) (fun _ hk => hk.1.2) (.bool a1_0)) (fun _ hk => hk.1.2) (.slice Ao31 l1_1.length co31)) (fun _ hk => hk.1.2) (.int .i64 a1_2)) (fun _ hk => hk.2) (.bool a0_0)) (fun _ hk => hk.2) (.slice Ao29 l0_1.length co29)) (fun _ hk => hk.2) (.int .i64 a0_2)) (fun _ hk => ⟨hk.1.1.1, hk.1.1.2⟩)⟩
         have n1_ : Aside0 (Kd.R (Kd.int .i64) 3 ((((((wc.setCell ⟨gb200, 0, none⟩ (.bool a1_0)).setCell ⟨gb200, 1, none⟩ (.slice Ao31 l1_1.length co31)).setCell ⟨gb200, 2, none⟩ (.int .i64 a1_2)).setCell ⟨gb201, 0, none⟩ (.bool a0_0)).setCell ⟨gb201, 1, none⟩ (.slice Ao29 l0_1.length co29)).setCell ⟨gb201, 2, none⟩ (.int .i64 a0_2)) w0.heap.size (fun k_ => ((P0_1_ k_ ∨ P1_1_ k_) ∨ w.heap.size ≤ k_) ∧ some k_ ≠ (.slice Ao29 l0_1.length co29 : Value).ownBlock) (.slice Ao31 l1_1.length co31) l1_1) := ⟨by (with_reducible repeat (first | apply kA_ | apply kN_ | apply kD_)); exact Kd.R_mono (Kd.R_far (p := ⟨gb201, 2, none⟩) (Kd.R_far (p := ⟨gb201, 1, none⟩) (Kd.R_far (p := ⟨gb201, 0, none⟩) (Kd.R_far (p := ⟨gb200, 2, none⟩) (Kd.R_far (p := ⟨gb200, 1, none⟩) (Kd.R_far (p := ⟨gb200, 0, none⟩) (Kd.R_types (Kd.R_types HO_202001.out BK200.out (by decide)) BK201.out (by decide)) (fun _ hk => hk.1.2) (.bool a1_0)) (fun _ hk => hk.1.2) (.slice Ao31 l1_1.length co31)) (fun _ hk => hk.1.2) (.int .i64 a1_2)) (fun _ hk => hk.2) (.bool a0_0)) (fun _ hk => hk.2) (.slice Ao29 l0_1.length co29)) (fun _ hk => hk.2) (.int .i64 a0_2)) (fun _ hk => ⟨hk.1.1.1, hk.1.1.2⟩)⟩
         have n2_ : Aside0 (((((((wc.setCell ⟨gb200, 0, none⟩ (.bool a1_0)).setCell ⟨gb200, 1, none⟩ (.slice Ao31 l1_1.length co31)).setCell ⟨gb200, 2, none⟩ (.int .i64 a1_2)).setCell ⟨gb201, 0, none⟩ (.bool a0_0)).setCell ⟨gb201, 1, none⟩ (.slice Ao29 l0_1.length co29)).setCell ⟨gb201, 2, none⟩ (.int .i64 a0_2)).heap[gb200]? = some (.cells #[.bool a1_0, .slice Ao31 l1_1.length co31, .int .i64 a1_2] 26 (0, 0))) := ⟨by (with_reducible repeat (first | refine bN_ ?_ _ | refine bD_ ?_ | refine bA_ ?_ _)); refine blk_far ?_ NB200_201.out _; (with_reducible repeat (first | refine bN_ ?_ _ | refine bD_ ?_ | refine bA_ ?_ _)); refine blk_far ?_ NB200_201.out _; (with_reducible repeat (first | refine bN_ ?_ _ | refine bD_ ?_ | refine bA_ ?_ _)); refine blk_far ?_ NB200_201.out _; (with_reducible repeat (first | refine bN_ ?_ _ | refine bD_ ?_ | refine bA_ ?_ _)); refine blk_put (cs := #[.bool a1_0, .slice Ao31 l1_1.length co31, .int .i64 a0_2]) ?_ 2 _ rfl; (with_reducible repeat (first | refine bN_ ?_ _ | refine bD_ ?_ | refine bA_ ?_ _)); refine blk_put (cs := #[.bool a1_0, .slice Ao29 l0_1.length co29, .int .i64 a0_2]) ?_ 1 _ rfl; (with_reducible repeat (first | refine bN_ ?_ _ | refine bD_ ?_ | refine bA_ ?_ _)); refine blk_put (cs := #[.bool a0_0, .slice Ao29 l0_1.length co29, .int .i64 a0_2]) ?_ 0 _ rfl; (with_reducible repeat (first | refine bN_ ?_ _ | refine bD_ ?_ | refine bA_ ?_ _)); exact BK200.out⟩
         have n3_ : Aside0 (((((((wc.setCell ⟨gb200, 0, none⟩ (.bool a1_0)).setCell ⟨gb200, 1, none⟩ (.slice Ao31 l1_1.length co31)).setCell ⟨gb200, 2, none⟩ (.int .i64 a1_2)).setCell ⟨gb201, 0, none⟩ (.bool a0_0)).setCell ⟨gb201, 1, none⟩ (.slice Ao29 l0_1.length co29)).setCell ⟨gb201, 2, none⟩ (.int .i64 a0_2)).heap[gb201]? = some (.cells #[.bool a0_0, .slice Ao29 l0_1.length co29, .int .i64 a0_2] 26 (0, 0))) := ⟨by (with_reducible repeat (first | refine bN_ ?_ _ | refine bD_ ?_ | refine bA_ ?_ _)); refine blk_put (cs := #[.bool a0_0, .slice Ao29 l0_1.length co29, .int .i64 a1_2]) ?_ 2 _ rfl; (with_reducible repeat (first | refine bN_ ?_ _ | refine bD_ ?_ | refine bA_ ?_ _)); refine blk_put (cs := #[.bool a0_0, .slice Ao31 l1_1.length co31, .int .i64 a1_2]) ?_ 1 _ rfl; (with_reducible repeat (first | refine bN_ ?_ _ | refine bD_ ?_ | refine bA_ ?_ _)); refine blk_put (cs := #[.bool a1_0, .slice Ao31 l1_1.length co31, .int .i64 a1_2]) ?_ 0 _ rfl; (with_reducible repeat (first | refine bN_ ?_ _ | refine bD_ ?_ | refine bA_ ?_ _)); refine blk_far ?_ NB201_200.out _; (with_reducible repeat (first | refine bN_ ?_ _ | refine bD_ ?_ | refine bA_ ?_ _)); refine blk_far ?_ NB201_200.out _; (with_reducible repeat (first | refine bN_ ?_ _ | refine bD_ ?_ | refine bA_ ?_ _)); refine blk_far ?_ NB201_200.out _; (with_reducible repeat (first | refine bN_ ?_ _ | refine bD_ ?_ | refine bA_ ?_ _)); exact BK201.out⟩
         have n4_ : Aside0 (((((((wc.setCell ⟨gb200, 0, none⟩ (.bool a1_0)).setCell ⟨gb200, 1, none⟩ (.slice Ao31 l1_1.length co31)).setCell ⟨gb200, 2, none⟩ (.int .i64 a1_2)).setCell ⟨gb201, 0, none⟩ (.bool a0_0)).setCell ⟨gb201, 1, none⟩ (.slice Ao29 l0_1.length co29)).setCell ⟨gb201, 2, none⟩ (.int .i64 a0_2)).heap[gb202]? = some (.cells #[.bool false, .slice none 0 0, .int .i64 0] 26 (0, 0))) := ⟨by (with_reducible repeat (first | refine bN_ ?_ _ | refine bD_ ?_ | refine bA_ ?_ _)); refine blk_far ?_ NB202_201.out _; (with_reducible repeat (first | refine bN_ ?_ _ | refine bD_ ?_ | refine bA_ ?_ _)); refine blk_far ?_ NB202_201.out _; (with_reducible repeat (first | refine bN_ ?_ _ | refine bD_ ?_ | refine bA_ ?_ _)); refine blk_far ?_ NB202_201.out _; (with_reducible repeat (first | refine bN_ ?_ _ | refine bD_ ?_ | refine bA_ ?_ _)); refine blk_far ?_ NB202_200.out _; (with_reducible repeat (first | refine bN_ ?_ _ | refine bD_ ?_ | refine bA_ ?_ _)); refine blk_far ?_ NB202_200.out _; (with_reducible repeat (first | refine bN_ ?_ _ | refine bD_ ?_ | refine bA_ ?_ _)); refine blk_far ?_ NB202_200.out _; (with_reducible repeat (first | refine bN_ ?_ _ | refine bD_ ?_ | refine bA_ ?_ _)); exact BK202.out⟩
         have n5_ : Aside0 (Kept w ((((((wc.setCell ⟨gb200, 0, none⟩ (.bool a1_0)).setCell ⟨gb200, 1, none⟩ (.slice Ao31 l1_1.length co31)).setCell ⟨gb200, 2, none⟩ (.int .i64 a1_2)).setCell ⟨gb201, 0, none⟩ (.bool a0_0)).setCell ⟨gb201, 1, none⟩ (.slice Ao29 l0_1.length co29)).setCell ⟨gb201, 2, none⟩ (.int .i64 a0_2)) (fun k_ => P0_1_ k_ ∨ P1_1_ k_)) := ⟨by repeat (first | (with_reducible first | exact HK.out | apply Kept.alloc | apply Kept.drewN | apply Kept.drew | refine Kept.setCell ?_ (.inr GW200.out) _ | refine Kept.setCell ?_ (.inr GW201.out) _ | refine Kept.setCell ?_ (.inr GW202.out) _) | exact HK.out)⟩
         have n6_ : Aside0 (Below w0.heap.size w0 ((((((wc.setCell ⟨gb200, 0, none⟩ (.bool a1_0)).setCell ⟨gb200, 1, none⟩ (.slice Ao31 l1_1.length co31)).setCell ⟨gb200, 2, none⟩ (.int .i64 a1_2)).setCell ⟨gb201, 0, none⟩ (.bool a0_0)).setCell ⟨gb201, 1, none⟩ (.slice Ao29 l0_1.length co29)).setCell ⟨gb201, 2, none⟩ (.int .i64 a0_2))) := ⟨by repeat (first | (with_reducible first | exact HB.out | apply bB_ | apply wN_ | apply bE_ | refine bS_ ?_ GE200.out | refine bS_ ?_ GE201.out | refine bS_ ?_ GE202.out) | exact HB.out)⟩
         (try clear HO_201001)
         (try clear HO_202001)
         (try clear BK200)
         (try clear BK201)
         (try clear BK202)
         (try clear HK)
         (try clear HB)
         generalize ((((((wc.setCell ⟨gb200, 0, none⟩ (.bool a1_0)).setCell ⟨gb200, 1, none⟩ (.slice Ao31 l1_1.length co31)).setCell ⟨gb200, 2, none⟩ (.int .i64 a1_2)).setCell ⟨gb201, 0, none⟩ (.bool a0_0)).setCell ⟨gb201, 1, none⟩ (.slice Ao29 l0_1.length co29)).setCell ⟨gb201, 2, none⟩ (.int .i64 a0_2)) = w75 at n0_ n1_ n2_ n3_ n4_ n5_ n6_ ⊢
         have HO_201001 := n0_
         have HO_202001 := n1_
         have BK200 := n2_
         have BK201 := n3_
         have BK202 := n4_
         have HK := n5_
         have HB := n6_
         clear n0_ n1_ n2_ n3_ n4_ n5_ n6_
         have n0_ := aM_ (kD_ HO_201001.out)
         have n1_ := aM_ (kD_ HO_202001.out)
         have n2_ := aM_ (bD_ BK200.out)
         have n3_ := aM_ (bD_ BK201.out)
         have n4_ := aM_ (bD_ BK202.out)
         have n5_ := aM_ (Kept.drew HK.out)
         have n6_ := aM_ (bE_ HB.out)
         clear HO_201001
         clear HO_202001
         clear BK200
         clear BK201
         clear BK202
         clear HK
         clear HB
         have HO_201001 := n0_
         have HO_202001 := n1_
         have BK200 := n2_
         have BK201 := n3_
         have BK202 := n4_
         have HK := n5_
         have HB := n6_
         clear n0_ n1_ n2_ n3_ n4_ n5_ n6_
         refine start_ (n := 17) (S := fun w' => w'.cell? ⟨gb200, 0, none⟩ = some (.bool a1_0) ∧ w'.cell? ⟨gb200, 1, none⟩ = some (.slice Ao31 l1_1.length co31) ∧ w'.cell? ⟨gb200, 2, none⟩ = some (.int .i64 a1_2) ∧ w'.cell? ⟨gb201, 0, none⟩ = some (.bool a0_0) ∧ w'.cell? ⟨gb201, 1, none⟩ = some (.slice Ao29 l0_1.length co29) ∧ w'.cell? ⟨gb201, 2, none⟩ = some (.int .i64 a0_2)) (ds := []) #[false, false, false, false, false, false, false, false, false, false, false, false, false, false, false, false, false] (by kernel_rfl) rfl rfl ⟨(bC_ BK200.out 0).trans rfl, (bC_ BK200.out 1).trans rfl, (bC_ BK200.out 2).trans rfl, (bC_ BK201.out 0).trans rfl, (bC_ BK201.out 1).trans rfl, (bC_ BK201.out 2).trans rfl⟩ (fun hHeld => ?_); refine with_tabW spec_DecimalAdd.tab10 spec_DecimalAdd.bits10 (fun HT_ HW_ => ?_)
         generalize w75.drew = w76 at HO_201001 HO_202001 BK200 BK201 BK202 HK HB hHeld ⊢
         refine pure_ (i := 0) (N := some 48) (v := ?_) (a' := ?_) #[true, false, false, false, false, false, false, false, false, false, false, false, false, false, false, false, false] rfl rfl (any_of HT_.out (by kernel_rfl)) (fun _ _ _ h => h) (Or.inl ⟨by rfl, ?_⟩) ?_ ?_
         rotate_left
         ·
          intro w'
          go_simp
          with_reducible rfl
         rotate_left
         ·
          simp only [Act.put, List.setIfInBounds_toArray, List.set_cons_zero, List.set_cons_succ, i64_w, i32_w]
          rfl
         refine pure_ (i := 3) (N := some 51) (v := ?_) (a' := ?_) #[true, false, false, true, false, false, false, false, false, false, false, false, false, false, false, false, false] rfl rfl (any_of HT_.out (by kernel_rfl)) (fun _ _ _ h => h) (Or.inl ⟨by rfl, ?_⟩) ?_ ?_
         rotate_left
         ·
          intro w'
          go_simp
          with_reducible rfl
         rotate_left
         ·
          simp only [Act.put, List.setIfInBounds_toArray, List.set_cons_zero, List.set_cons_succ, i64_w, i32_w]
          rfl
         refine pure_ (i := 6) (N := some 54) (v := ?_) (a' := ?_) #[true, false, false, true, false, false, true, false, false, false, false, false, false, false, false, false, false] rfl rfl (any_of HT_.out (by kernel_rfl)) (fun _ _ _ h => h) (Or.inl ⟨by rfl, ?_⟩) ?_ ?_
         rotate_left
         ·
          intro w'
          go_simp
          with_reducible rfl
         rotate_left
         ·
          simp only [Act.put, List.setIfInBounds_toArray, List.set_cons_zero, List.set_cons_succ, i64_w, i32_w]
          rfl
         refine pure_ (i := 8) (N := some 56) (v := ?_) (a' := ?_) #[true, false, false, true, false, false, true, false, true, false, false, false, false, false, false, false, false] rfl rfl (any_of HT_.out (by kernel_rfl)) (fun _ _ _ h => h) (Or.inl ⟨by rfl, ?_⟩) ?_ ?_
         rotate_left
         ·
          intro w'
          go_simp
          with_reducible rfl
         rotate_left
         ·
          simp only [Act.put, List.setIfInBounds_toArray, List.set_cons_zero, List.set_cons_succ, i64_w, i32_w]
          rfl
         refine pure_ (i := 10) (N := some 58) (v := ?_) (a' := ?_) #[true, false, false, true, false, false, true, false, true, false, true, false, false, false, false, false, false] rfl rfl (any_of HT_.out (by kernel_rfl)) (fun _ _ _ h => h) (Or.inl ⟨by rfl, ?_⟩) ?_ ?_
         rotate_left
         ·
          intro w'
          go_simp
          with_reducible rfl
         rotate_left
         ·
          simp only [Act.put, List.setIfInBounds_toArray, List.set_cons_zero, List.set_cons_succ, i64_w, i32_w]
          rfl
         refine pure_ (i := 13) (N := some 61) (v := ?_) (a' := ?_) #[true, false, false, true, false, false, true, false, true, false, true, false, false, true, false, false, false] rfl rfl (any_of HT_.out (by kernel_rfl)) (fun _ _ _ h => h) (Or.inl ⟨by rfl, ?_⟩) ?_ ?_
         rotate_left
         ·
          intro w'
          go_simp
          with_reducible rfl
         rotate_left
         ·
          simp only [Act.put, List.setIfInBounds_toArray, List.set_cons_zero, List.set_cons_succ, i64_w, i32_w]
          rfl
         refine take_ (i := 1) (N := some 49) (v := ?_) (a' := ?_) #[true, true, false, true, false, false, true, false, true, false, true, false, false, true, false, false, false] rfl rfl (take_ofW HT_.out HW_.out (by kernel_rfl)) (fun _ _ _ h => h) (Or.inl ⟨by rfl, ?_⟩) hHeld ?_ ?_
         rotate_left
         ·
          rintro w' ⟨s0, s1, s2, s3, s4, s5⟩
          go_simp
          with_reducible rfl
         rotate_left
         ·
          simp only [Act.put, List.setIfInBounds_toArray, List.set_cons_zero, List.set_cons_succ, i64_w, i32_w]
          rfl
         refine take_ (i := 2) (N := some 50) (v := ?_) (a' := ?_) #[true, true, true, true, false, false, true, false, true, false, true, false, false, true, false, false, false] rfl rfl (take_ofW HT_.out HW_.out (by kernel_rfl)) (fun _ _ _ h => h) (Or.inl ⟨by rfl, ?_⟩) hHeld ?_ ?_
         rotate_left
         ·
          rintro w' ⟨s0, s1, s2, s3, s4, s5⟩
          go_simp
          with_reducible rfl
         rotate_left
         ·
          simp only [Act.put, List.setIfInBounds_toArray, List.set_cons_zero, List.set_cons_succ, i64_w, i32_w]
          rfl
         refine take_ (i := 5) (N := some 53) (v := ?_) (a' := ?_) #[true, true, true, true, false, true, true, false, true, false, true, false, false, true, false, false, false] rfl rfl (take_ofW HT_.out HW_.out (by kernel_rfl)) (fun _ _ _ h => h) (Or.inl ⟨by rfl, ?_⟩) hHeld ?_ ?_
         rotate_left
         ·
          rintro w' ⟨s0, s1, s2, s3, s4, s5⟩
          go_simp
          with_reducible rfl
         rotate_left
         ·
          simp only [Act.put, List.setIfInBounds_toArray, List.set_cons_zero, List.set_cons_succ, i64_w, i32_w]
          rfl
         refine take_ (i := 9) (N := some 57) (v := ?_) (a' := ?_) #[true, true, true, true, false, true, true, false, true, true, true, false, false, true, false, false, false] rfl rfl (take_ofW HT_.out HW_.out (by kernel_rfl)) (fun _ _ _ h => h) (Or.inl ⟨by rfl, ?_⟩) hHeld ?_ ?_
         rotate_left
         ·
          rintro w' ⟨s0, s1, s2, s3, s4, s5⟩
          go_simp
          with_reducible rfl
         rotate_left
         ·
          simp only [Act.put, List.setIfInBounds_toArray, List.set_cons_zero, List.set_cons_succ, i64_w, i32_w]
          rfl
         refine take_ (i := 11) (N := some 59) (v := ?_) (a' := ?_) #[true, true, true, true, false, true, true, false, true, true, true, true, false, true, false, false, false] rfl rfl (take_ofW HT_.out HW_.out (by kernel_rfl)) (fun _ _ _ h => h) (Or.inl ⟨by rfl, ?_⟩) hHeld ?_ ?_
         rotate_left
         ·
          rintro w' ⟨s0, s1, s2, s3, s4, s5⟩
          go_simp
          with_reducible rfl
         rotate_left
         ·
          simp only [Act.put, List.setIfInBounds_toArray, List.set_cons_zero, List.set_cons_succ, i64_w, i32_w]
          rfl
         refine pure_ (i := 12) (N := some 60) (v := ?_) (a' := ?_) #[true, true, true, true, false, true, true, false, true, true, true, true, true, true, false, false, false] rfl rfl (any_of HT_.out (by kernel_rfl)) (fun _ _ _ h => h) (Or.inl ⟨by rfl, ?_⟩) ?_ ?_
         rotate_left
         ·
          intro w'
          go_simp
          with_reducible rfl
         rotate_left
         ·
          simp only [Act.put, List.setIfInBounds_toArray, List.set_cons_zero, List.set_cons_succ, i64_w, i32_w]
          rfl
         refine one_ (i := 4) (N := some 52) #[true, true, true, true, true, true, true, false, true, true, true, true, true, true, false, false, false] rfl rfl (one_of HT_.out (by kernel_rfl)) (by decide) (fun K hK => ?_)
         refine goes_ Try.func23 (by kernel_rfl) rfl #[.agg #[.bool a1_0, .slice Ao31 l1_1.length co31, .int .i64 a1_2], .int .i64 ji27] (by rfl) rfl rfl (by (try simp only [List.map_toArray, List.map_cons, List.map_nil]); first | done | (simp only [hji27]; rfl) | rfl | (simp only [List.length_drop, List.length_take]; rfl)) ?_
         with_reducible refine (spec_wide.calls kj51 a1_0 _ _ l1_1 a1_2 ji27 t204 _ ?side1 ?side2 A67.out).mono ?_
         (case side1 => repeat (first | exact (Kd.R_reads' HO_202001.out).2.2 | (with_reducible refine Kd.C_alloc ?_ _) | (with_reducible refine Kd.C_drewN ?_ _) | (with_reducible refine Kd.C_drew ?_)))
         (case side2 => exact (Kd.R_reads' HO_202001.out).2.1)
         rintro e w77 ⟨v205, rfl, ho0, hb⟩
         refine ⟨_, rfl, ?_⟩
         have n0_ := aM_ (Kd.R_elder' (by (with_reducible repeat (first | apply kA_ | apply kN_ | apply kD_)); exact HO_201001.out) (Kd.R_base ho0) hb)
         have n1_ := aM_ (Kd.R_elder' (by (with_reducible repeat (first | apply kA_ | apply kN_ | apply kD_)); exact HO_202001.out) (Kd.R_base ho0) hb)
         have n2_ := aM_ (Kd.R_lower (Kd.R_new' (Kd.R_new' (Kd.R_newM (M := fun k_ => ((P0_1_ k_ ∨ P1_1_ k_) ∨ w.heap.size ≤ k_)) ho0 (by first | exact HK.out.1 | exact (show Kept w _ (fun k_ => P0_1_ k_ ∨ P1_1_ k_) from by repeat (first | (with_reducible first | exact HK.out | apply Kept.alloc | apply Kept.drewN | apply Kept.drew | refine Kept.setCell ?_ (.inr GW200.out) _ | refine Kept.setCell ?_ (.inr GW201.out) _ | refine Kept.setCell ?_ (.inr GW202.out) _) | exact HK.out)).1) (fun k_ h_ => .inr h_)) (Kd.R_lt (by (with_reducible repeat (first | apply kA_ | apply kN_ | apply kD_)); exact HO_201001.out))) (Kd.R_lt (by (with_reducible repeat (first | apply kA_ | apply kN_ | apply kD_)); exact HO_202001.out))) (below_size (by repeat (first | (with_reducible first | exact HB.out | apply bB_ | apply wN_ | apply bE_ | refine bS_ ?_ GE200.out | refine bS_ ?_ GE201.out | refine bS_ ?_ GE202.out) | exact HB.out))))
         have n3_ := aM_ (blk_below (g := gb200) (o := .cells #[.bool a1_0, .slice Ao31 l1_1.length co31, .int .i64 a1_2] 26 (0, 0)) (by (with_reducible repeat (first | refine bN_ ?_ _ | refine bD_ ?_ | refine bA_ ?_ _)); exact BK200.out) hb)
         have n4_ := aM_ (blk_below (g := gb201) (o := .cells #[.bool a0_0, .slice Ao29 l0_1.length co29, .int .i64 a0_2] 26 (0, 0)) (by (with_reducible repeat (first | refine bN_ ?_ _ | refine bD_ ?_ | refine bA_ ?_ _)); exact BK201.out) hb)
         have n5_ := aM_ (blk_below (g := gb202) (o := .cells #[.bool false, .slice none 0 0, .int .i64 0] 26 (0, 0)) (by (with_reducible repeat (first | refine bN_ ?_ _ | refine bD_ ?_ | refine bA_ ?_ _)); exact BK202.out) hb)
         have n6_ := aM_ (Kept.below (S := (fun k_ => P0_1_ k_ ∨ P1_1_ k_)) (by repeat (first | (with_reducible first | exact HK.out | apply Kept.alloc | apply Kept.drewN | apply Kept.drew | refine Kept.setCell ?_ (.inr GW200.out) _ | refine Kept.setCell ?_ (.inr GW201.out) _ | refine Kept.setCell ?_ (.inr GW202.out) _) | exact HK.out)) hb)
         have n7_ := aM_ (below_step (by repeat (first | (with_reducible first | exact HB.out | apply bB_ | apply wN_ | apply bE_ | refine bS_ ?_ GE200.out | refine bS_ ?_ GE201.out | refine bS_ ?_ GE202.out) | exact HB.out)) hb)
         clear HO_201001
         clear HO_202001
         clear BK200
         clear BK201
         clear BK202
         clear HK
         clear HB
         have HO_201001 := n0_
         have HO_202001 := n1_
         have HO206 := n2_
         have BK200 := n3_
         have BK201 := n4_
         have BK202 := n5_
         have HK := n6_
         have HB := n7_
         clear n0_ n1_ n2_ n3_ n4_ n5_ n6_ n7_
         (try clear hb)
         (try clear hb2)
         (try clear hk)
         (try clear hi)
         (try clear ho0)
         refine hK.out _ _ ⟨(bC_ BK200.out 0).trans rfl, (bC_ BK200.out 1).trans rfl, (bC_ BK200.out 2).trans rfl, (bC_ BK201.out 0).trans rfl, (bC_ BK201.out 1).trans rfl, (bC_ BK201.out 2).trans rfl⟩ (fun hHeld => ?_)
         clear hK K
         refine norm_ (a' := ?_) ?_ ?_
         rotate_left
         ·
          show Act.put _ (some 52) _ = _
          simp only [Act.put, List.setIfInBounds_toArray, List.set_cons_zero, List.set_cons_succ, i64_w, i32_w]
          rfl
         refine one_ (i := 7) (N := some 55) #[true, true, true, true, true, true, true, true, true, true, true, true, true, true, false, false, false] rfl rfl (one_of HT_.out (by kernel_rfl)) (by decide) (fun K hK => ?_)
         refine goes_ Try.func23 (by kernel_rfl) rfl #[.agg #[.bool a0_0, .slice Ao29 l0_1.length co29, .int .i64 a0_2], .int .i64 ji27] (by rfl) rfl rfl (by (try simp only [List.map_toArray, List.map_cons, List.map_nil]); first | done | (simp only [hji27]; rfl) | rfl | (simp only [List.length_drop, List.length_take]; rfl)) ?_
         with_reducible refine (spec_wide.calls kj51 a0_0 _ _ l0_1 a0_2 ji27 t207 _ ?side1 ?side2 A68.out).mono ?_
         (case side1 => repeat (first | exact (Kd.R_reads' HO_201001.out).2.2 | (with_reducible refine Kd.C_alloc ?_ _) | (with_reducible refine Kd.C_drewN ?_ _) | (with_reducible refine Kd.C_drew ?_)))
         (case side2 => exact (Kd.R_reads' HO_201001.out).2.1)
         rintro e w78 ⟨v208, rfl, ho0, hb⟩
         refine ⟨_, rfl, ?_⟩
         have n0_ := aM_ (Kd.R_elder' (by (with_reducible repeat (first | apply kA_ | apply kN_ | apply kD_)); exact HO_201001.out) (Kd.R_base ho0) hb)
         have n1_ := aM_ (Kd.R_elder' (by (with_reducible repeat (first | apply kA_ | apply kN_ | apply kD_)); exact HO_202001.out) (Kd.R_base ho0) hb)
         have n2_ := aM_ (Kd.R_elder' (by (with_reducible repeat (first | apply kA_ | apply kN_ | apply kD_)); exact HO206.out) (Kd.R_base ho0) hb)
         have n3_ := aM_ (Kd.R_lower (Kd.R_new' (Kd.R_new' (Kd.R_new' (Kd.R_newM (M := fun k_ => ((P0_1_ k_ ∨ P1_1_ k_) ∨ w.heap.size ≤ k_)) ho0 (by first | exact HK.out.1 | exact (show Kept w _ (fun k_ => P0_1_ k_ ∨ P1_1_ k_) from by repeat (first | (with_reducible first | exact HK.out | apply Kept.alloc | apply Kept.drewN | apply Kept.drew | refine Kept.setCell ?_ (.inr GW200.out) _ | refine Kept.setCell ?_ (.inr GW201.out) _ | refine Kept.setCell ?_ (.inr GW202.out) _) | exact HK.out)).1) (fun k_ h_ => .inr h_)) (Kd.R_lt (by (with_reducible repeat (first | apply kA_ | apply kN_ | apply kD_)); exact HO_201001.out))) (Kd.R_lt (by (with_reducible repeat (first | apply kA_ | apply kN_ | apply kD_)); exact HO_202001.out))) (Kd.R_lt (by (with_reducible repeat (first | apply kA_ | apply kN_ | apply kD_)); exact HO206.out))) (below_size (by repeat (first | (with_reducible first | exact HB.out | apply bB_ | apply wN_ | apply bE_ | refine bS_ ?_ GE200.out | refine bS_ ?_ GE201.out | refine bS_ ?_ GE202.out) | exact HB.out))))
         have n4_ := aM_ (blk_below (g := gb200) (o := .cells #[.bool a1_0, .slice Ao31 l1_1.length co31, .int .i64 a1_2] 26 (0, 0)) (by (with_reducible repeat (first | refine bN_ ?_ _ | refine bD_ ?_ | refine bA_ ?_ _)); exact BK200.out) hb)
         have n5_ := aM_ (blk_below (g := gb201) (o := .cells #[.bool a0_0, .slice Ao29 l0_1.length co29, .int .i64 a0_2] 26 (0, 0)) (by (with_reducible repeat (first | refine bN_ ?_ _ | refine bD_ ?_ | refine bA_ ?_ _)); exact BK201.out) hb)
         have n6_ := aM_ (blk_below (g := gb202) (o := .cells #[.bool false, .slice none 0 0, .int .i64 0] 26 (0, 0)) (by (with_reducible repeat (first | refine bN_ ?_ _ | refine bD_ ?_ | refine bA_ ?_ _)); exact BK202.out) hb)
         have n7_ := aM_ (Kept.below (S := (fun k_ => P0_1_ k_ ∨ P1_1_ k_)) (by repeat (first | (with_reducible first | exact HK.out | apply Kept.alloc | apply Kept.drewN | apply Kept.drew | refine Kept.setCell ?_ (.inr GW200.out) _ | refine Kept.setCell ?_ (.inr GW201.out) _ | refine Kept.setCell ?_ (.inr GW202.out) _) | exact HK.out)) hb)
         have n8_ := aM_ (below_step (by repeat (first | (with_reducible first | exact HB.out | apply bB_ | apply wN_ | apply bE_ | refine bS_ ?_ GE200.out | refine bS_ ?_ GE201.out | refine bS_ ?_ GE202.out) | exact HB.out)) hb)
         clear HO_201001
         clear HO_202001
         clear HO206
         clear BK200
         clear BK201
         clear BK202
         clear HK
         clear HB
         have HO_201001 := n0_
         have HO_202001 := n1_
         have HO206 := n2_
         have HO209 := n3_
         have BK200 := n4_
         have BK201 := n5_
         have BK202 := n6_
         have HK := n7_
         have HB := n8_
         clear n0_ n1_ n2_ n3_ n4_ n5_ n6_ n7_ n8_
         (try clear hb)
         (try clear hb2)
         (try clear hk)
         (try clear hi)
         (try clear ho0)
         obtain ⟨Ao79, co79, eo79⟩ := Kd.R_slice HO206.out
         (first | subst eo79 | (injection eo79 with f1_ f2_ f3_; have f4_ := f1_.symm; have f5_ := f3_.symm; clear f1_ f2_ f3_; subst f4_; subst f5_))
         obtain ⟨Ao80, co80, eo80⟩ := Kd.R_slice HO209.out
         (first | subst eo80 | (injection eo80 with f1_ f2_ f3_; have f4_ := f1_.symm; have f5_ := f3_.symm; clear f1_ f2_ f3_; subst f4_; subst f5_))
         refine hK.out _ _ ⟨(bC_ BK200.out 0).trans rfl, (bC_ BK200.out 1).trans rfl, (bC_ BK200.out 2).trans rfl, (bC_ BK201.out 0).trans rfl, (bC_ BK201.out 1).trans rfl, (bC_ BK201.out 2).trans rfl⟩ (fun hHeld => ?_)
         clear hK K
         refine norm_ (a' := ?_) ?_ ?_
         rotate_left
         ·
          show Act.put _ (some 55) _ = _
          simp only [Act.put, List.setIfInBounds_toArray, List.set_cons_zero, List.set_cons_succ, i64_w, i32_w]
          rfl
         refine one_ (i := 14) (N := some 62) #[true, true, true, true, true, true, true, true, true, true, true, true, true, true, true, false, false] rfl rfl (one_of HT_.out (by kernel_rfl)) (by decide) (fun K hK => ?_)
         refine goes_ Try.func22 (by kernel_rfl) rfl #[.bool a1_0, .slice Ao79 t204.length co79, .slice Ao80 t207.length co80, .bool (a1_0 != a0_0), .int .i64 ji27] (by rfl) rfl rfl (by (try simp only [List.map_toArray, List.map_cons, List.map_nil]); first | done | (simp only [hji27]; rfl) | rfl | (simp only [List.length_drop, List.length_take]; rfl)) ?_
         with_reducible refine (spec_sum.calls kj51 a1_0 _ _ t204 _ _ t207 (a1_0 != a0_0) ji27 t210 t211 t214 _ ?side1 ?side2 ?side3 ?side4 A69.out).mono ?_
         (case side1 => repeat (first | exact (Kd.R_reads' HO206.out).2.2 | (with_reducible refine Kd.C_alloc ?_ _) | (with_reducible refine Kd.C_drewN ?_ _) | (with_reducible refine Kd.C_drew ?_)))
         (case side2 => exact (Kd.R_reads' HO206.out).2.1)
         (case side3 => repeat (first | exact (Kd.R_reads' HO209.out).2.2 | (with_reducible refine Kd.C_alloc ?_ _) | (with_reducible refine Kd.C_drewN ?_ _) | (with_reducible refine Kd.C_drew ?_)))
         (case side4 => exact (Kd.R_reads' HO209.out).2.1)
         rintro e w81 ⟨v212, rfl, ho0, hb⟩
         refine ⟨_, rfl, ?_⟩
         have n0_ := aM_ (Kd.R_elder' (by (with_reducible repeat (first | apply kA_ | apply kN_ | apply kD_)); exact HO_201001.out) (Kd.R_base ho0) hb)
         have n1_ := aM_ (Kd.R_elder' (by (with_reducible repeat (first | apply kA_ | apply kN_ | apply kD_)); exact HO_202001.out) (Kd.R_base ho0) hb)
         have n2_ := aM_ (Kd.R_elder' (by (with_reducible repeat (first | apply kA_ | apply kN_ | apply kD_)); exact HO206.out) (Kd.R_base ho0) hb)
         have n3_ := aM_ (Kd.R_elder' (by (with_reducible repeat (first | apply kA_ | apply kN_ | apply kD_)); exact HO209.out) (Kd.R_base ho0) hb)
         have n4_ := aM_ (Kd.R_lower (Kd.R_new' (Kd.R_new' (Kd.R_new' (Kd.R_new' (Kd.R_newM (M := fun k_ => ((P0_1_ k_ ∨ P1_1_ k_) ∨ w.heap.size ≤ k_)) ho0 (by first | exact HK.out.1 | exact (show Kept w _ (fun k_ => P0_1_ k_ ∨ P1_1_ k_) from by repeat (first | (with_reducible first | exact HK.out | apply Kept.alloc | apply Kept.drewN | apply Kept.drew | refine Kept.setCell ?_ (.inr GW200.out) _ | refine Kept.setCell ?_ (.inr GW201.out) _ | refine Kept.setCell ?_ (.inr GW202.out) _) | exact HK.out)).1) (fun k_ h_ => .inr h_)) (Kd.R_lt (by (with_reducible repeat (first | apply kA_ | apply kN_ | apply kD_)); exact HO_201001.out))) (Kd.R_lt (by (with_reducible repeat (first | apply kA_ | apply kN_ | apply kD_)); exact HO_202001.out))) (Kd.R_lt (by (with_reducible repeat (first | apply kA_ | apply kN_ | apply kD_)); exact HO206.out))) (Kd.R_lt (by (with_reducible repeat (first | apply kA_ | apply kN_ | apply kD_)); exact HO209.out))) (below_size (by repeat (first | (with_reducible first | exact HB.out | apply bB_ | apply wN_ | apply bE_ | refine bS_ ?_ GE200.out | refine bS_ ?_ GE201.out | refine bS_ ?_ GE202.out) | exact HB.out))))
         have n5_ := aM_ (blk_below (g := gb200) (o := .cells #[.bool a1_0, .slice Ao31 l1_1.length co31, .int .i64 a1_2] 26 (0, 0)) (by (with_reducible repeat (first | refine bN_ ?_ _ | refine bD_ ?_ | refine bA_ ?_ _)); exact BK200.out) hb)
         have n6_ := aM_ (blk_below (g := gb201) (o := .cells #[.bool a0_0, .slice Ao29 l0_1.length co29, .int .i64 a0_2] 26 (0, 0)) (by (with_reducible repeat (first | refine bN_ ?_ _ | refine bD_ ?_ | refine bA_ ?_ _)); exact BK201.out) hb)
         have n7_ := aM_ (blk_below (g := gb202) (o := .cells #[.bool false, .slice none 0 0, .int .i64 0] 26 (0, 0)) (by (with_reducible repeat (first | refine bN_ ?_ _ | refine bD_ ?_ | refine bA_ ?_ _)); exact BK202.out) hb)
         have n8_ := aM_ (Kept.below (S := (fun k_ => P0_1_ k_ ∨ P1_1_ k_)) (by repeat (first | (with_reducible first | exact HK.out | apply Kept.alloc | apply Kept.drewN | apply Kept.drew | refine Kept.setCell ?_ (.inr GW200.out) _ | refine Kept.setCell ?_ (.inr GW201.out) _ | refine Kept.setCell ?_ (.inr GW202.out) _) | exact HK.out)) hb)
         have n9_ := aM_ (below_step (by repeat (first | (with_reducible first | exact HB.out | apply bB_ | apply wN_ | apply bE_ | refine bS_ ?_ GE200.out | refine bS_ ?_ GE201.out | refine bS_ ?_ GE202.out) | exact HB.out)) hb)
         clear HO_201001
         clear HO_202001
         clear HO206
         clear HO209
         clear BK200
         clear BK201
         clear BK202
         clear HK
         clear HB
         have HO_201001 := n0_
         have HO_202001 := n1_
         have HO206 := n2_
         have HO209 := n3_
         have HO213 := n4_
         have BK200 := n5_
         have BK201 := n6_
         have BK202 := n7_
         have HK := n8_
         have HB := n9_
         clear n0_ n1_ n2_ n3_ n4_ n5_ n6_ n7_ n8_ n9_
         (try clear hb)
         (try clear hb2)
         (try clear hk)
         (try clear hi)
         (try clear ho0)
         obtain ⟨Ao83, co83, eo83⟩ := Kd.R_slice HO213.out
         (first | subst eo83 | (injection eo83 with f1_ f2_ f3_; have f4_ := f1_.symm; have f5_ := f3_.symm; clear f1_ f2_ f3_; subst f4_; subst f5_))
         refine hK.out _ _ ⟨(bC_ BK200.out 0).trans rfl, (bC_ BK200.out 1).trans rfl, (bC_ BK200.out 2).trans rfl, (bC_ BK201.out 0).trans rfl, (bC_ BK201.out 1).trans rfl, (bC_ BK201.out 2).trans rfl⟩ (fun hHeld => ?_)
         clear hK K
         refine norm_ (a' := ?_) ?_ ?_
         rotate_left
         ·
          show Act.put _ (some 62) _ = _
          simp only [Act.put, List.setIfInBounds_toArray, List.set_cons_zero, List.set_cons_succ, i64_w, i32_w]
          rfl
         refine one_ (i := 15) (N := none) #[true, true, true, true, true, true, true, true, true, true, true, true, true, true, true, true, false] rfl rfl (one_of HT_.out (by kernel_rfl)) (by decide) (fun K hK => ?_)
         have hs82 : w81.cell? ⟨gb202, 0, none⟩ = some (.bool false) := (bC_ BK202.out 0).trans rfl
         have hfs82 := bF_ BK202.out 0
         have hns82_0 := NB200_202.out
         have hns82_1 := NB201_202.out
         have hms82_0 := NB202_200.out
         have hms82_1 := NB202_201.out
         have hs84 : w81.cell? ⟨gb202, 1, none⟩ = some (.slice none 0 0) := (bC_ BK202.out 1).trans rfl
         have hfs84 := bF_ BK202.out 1
         have hns84_0 := NB200_202.out
         have hns84_1 := NB201_202.out
         have hms84_0 := NB202_200.out
         have hms84_1 := NB202_201.out
         have hs85 : w81.cell? ⟨gb202, 2, none⟩ = some (.int .i64 0) := (bC_ BK202.out 2).trans rfl
         have hfs85 := bF_ BK202.out 2
         have hns85_0 := NB200_202.out
         have hns85_1 := NB201_202.out
         have hms85_0 := NB202_200.out
         have hms85_1 := NB202_201.out
         refine skip_ (w1 := ?_) (by rfl) rfl ?_ ?_
         rotate_left
         ·
          go_simp
          rfl
         refine hK.out _ _ ⟨((cell_far (p := ⟨gb202, _, none⟩) NB200_202.out _).trans (((cell_far (p := ⟨gb202, _, none⟩) NB200_202.out _).trans (((cell_far (p := ⟨gb202, _, none⟩) NB200_202.out _).trans (hHeld.1)))))), ((cell_far (p := ⟨gb202, _, none⟩) NB200_202.out _).trans (((cell_far (p := ⟨gb202, _, none⟩) NB200_202.out _).trans (((cell_far (p := ⟨gb202, _, none⟩) NB200_202.out _).trans (hHeld.2.1)))))), ((cell_far (p := ⟨gb202, _, none⟩) NB200_202.out _).trans (((cell_far (p := ⟨gb202, _, none⟩) NB200_202.out _).trans (((cell_far (p := ⟨gb202, _, none⟩) NB200_202.out _).trans (hHeld.2.2.1)))))), ((cell_far (p := ⟨gb202, _, none⟩) NB201_202.out _).trans (((cell_far (p := ⟨gb202, _, none⟩) NB201_202.out _).trans (((cell_far (p := ⟨gb202, _, none⟩) NB201_202.out _).trans (hHeld.2.2.2.1)))))), ((cell_far (p := ⟨gb202, _, none⟩) NB201_202.out _).trans (((cell_far (p := ⟨gb202, _, none⟩) NB201_202.out _).trans (((cell_far (p := ⟨gb202, _, none⟩) NB201_202.out _).trans (hHeld.2.2.2.2.1)))))), ((cell_far (p := ⟨gb202, _, none⟩) NB201_202.out _).trans (((cell_far (p := ⟨gb202, _, none⟩) NB201_202.out _).trans (((cell_far (p := ⟨gb202, _, none⟩) NB201_202.out _).trans (hHeld.2.2.2.2.2))))))⟩ (fun hHeld => ?_)
         clear hK K
         refine pure_ (i := 16) (N := some 5) (v := ?_) (a' := ?_) #[true, true, true, true, true, true, true, true, true, true, true, true, true, true, true, true, true] rfl rfl (any_of HT_.out (by kernel_rfl)) (fun _ _ _ h => h) (Or.inl ⟨by rfl, ?_⟩) ?_ ?_
         rotate_left
         ·
          intro w'
          go_simp
          with_reducible rfl
         rotate_left
         ·
          simp only [Act.put, List.setIfInBounds_toArray, List.set_cons_zero, List.set_cons_succ, i64_w, i32_w]
          rfl
         refine done_ (done_of HT_.out (by kernel_rfl)) ?_
         try go_wp2
         refine bodyPost_ret (results_ct rfl _ _ gb202 26 #[.bool t210, .slice Ao83 t211.length co83, .int .i64 t214] (0, 0) _ rfl (by (with_reducible repeat (first | refine bN_ ?_ _ | refine bD_ ?_ | refine bA_ ?_ _)); refine blk_put (cs := #[.bool t210, .slice Ao83 t211.length co83, .int .i64 0]) ?_ 2 _ rfl; (with_reducible repeat (first | refine bN_ ?_ _ | refine bD_ ?_ | refine bA_ ?_ _)); refine blk_put (cs := #[.bool t210, .slice none 0 0, .int .i64 0]) ?_ 1 _ rfl; (with_reducible repeat (first | refine bN_ ?_ _ | refine bD_ ?_ | refine bA_ ?_ _)); refine blk_put (cs := #[.bool false, .slice none 0 0, .int .i64 0]) ?_ 0 _ rfl; (with_reducible repeat (first | refine bN_ ?_ _ | refine bD_ ?_ | refine bA_ ?_ _)); exact BK202.out) Try.underlying26 rfl (by kernel_rfl)) rfl ?_
         exact ⟨_, by first | rfl | (simp [errW_none, errW_some] <;> rfl) | (simp only [← hji27]; first | rfl | (simp [errW_none, errW_some] <;> rfl)) | (simp [*, errW_none, errW_some] <;> rfl), by (with_reducible repeat (first | apply kA_ | apply kN_ | apply kD_)); exact Kd.R_mono (Kd.R_far (p := ⟨gb202, 2, none⟩) (Kd.R_far (p := ⟨gb202, 1, none⟩) (Kd.R_far (p := ⟨gb202, 0, none⟩) (Kd.R_types HO213.out BK202.out (by decide)) (fun _ hk => hk.2) (.bool t210)) (fun _ hk => hk.2) (.slice Ao83 t211.length co83)) (fun _ hk => hk.2) (.int .i64 t214)) (fun _ hk => hk.1.1.1.1.1.1), by repeat (first | (with_reducible first | exact HB.out | apply bB_ | apply wN_ | apply bE_ | refine bS_ ?_ GE200.out | refine bS_ ?_ GE201.out | refine bS_ ?_ GE202.out) | exact HB.out), by repeat (first | (with_reducible first | exact HK.out | apply Kept.alloc | apply Kept.drewN | apply Kept.drew | refine Kept.setCell ?_ (.inr GW200.out) _ | refine Kept.setCell ?_ (.inr GW201.out) _ | refine Kept.setCell ?_ (.inr GW202.out) _) | exact HK.out)⟩
        ·
         replace c66 := Bool.eq_false_iff.mpr c66
         subst c66
         have H1 : ((spec_wide.f kj51 a0_0 l0_1 a0_2 ji27).bind fun t215 => ((spec_wide.f kj51 a1_0 l1_1 a1_2 ji27).bind fun t218 => ((spec_sum.f kj51 a0_0 t215 t218 (a0_0 != a1_0) ji27).bind fun bt221 => (some (bt221.1, bt221.2.1, bt221.2.2, true))))) = some (r1, r2, r3, r4) := by rw [if_neg (show ¬ (false = true) by decide)] at H; exact H
         clear H
         have H := H1
         clear H1
         replace H := Option.bind_eq_some_iff.mp H
         obtain ⟨t215, A860, H⟩ := H
         replace H : ((spec_wide.f kj51 a1_0 l1_1 a1_2 ji27).bind fun t218 => ((spec_sum.f kj51 a0_0 t215 t218 (a0_0 != a1_0) ji27).bind fun bt221 => (some (bt221.1, bt221.2.1, bt221.2.2, true)))) = some (r1, r2, r3, r4) := H
         have A86 := aM_ A860
         clear A860
         replace H := Option.bind_eq_some_iff.mp H
         obtain ⟨t218, A870, H⟩ := H
         replace H : ((spec_sum.f kj51 a0_0 t215 t218 (a0_0 != a1_0) ji27).bind fun bt221 => (some (bt221.1, bt221.2.1, bt221.2.2, true))) = some (r1, r2, r3, r4) := H
         have A87 := aM_ A870
         clear A870
         replace H := Option.bind_eq_some_iff.mp H
         obtain ⟨⟨t221, t222, t225⟩, A880, H⟩ := H
         replace H : (some (t221, t222, t225, true)) = some (r1, r2, r3, r4) := H
         have A88 := aM_ A880
         clear A880
         simp only [Option.some.injEq, Prod.mk.injEq] at H
         obtain ⟨rfl, rfl, rfl, rfl⟩ := H
         try go_wp2
         have n0_ := aM_ (kD_ HO_201001.out)
         have n1_ := aM_ (kD_ HO_202001.out)
         have n2_ := aM_ (bD_ BK200.out)
         have n3_ := aM_ (bD_ BK201.out)
         have n4_ := aM_ (bD_ BK202.out)
         have n5_ := aM_ (Kept.drew HK.out)
         have n6_ := aM_ (bE_ HB.out)
         clear HO_201001
         clear HO_202001
         clear BK200
         clear BK201
         clear BK202
         clear HK
         clear HB
         have HO_201001 := n0_
         have HO_202001 := n1_
         have BK200 := n2_
         have BK201 := n3_
         have BK202 := n4_
         have HK := n5_
         have HB := n6_
         clear n0_ n1_ n2_ n3_ n4_ n5_ n6_
         refine start_ (n := 17) (S := fun w' => w'.cell? ⟨gb200, 0, none⟩ = some (.bool a0_0) ∧ w'.cell? ⟨gb200, 1, none⟩ = some (.slice Ao29 l0_1.length co29) ∧ w'.cell? ⟨gb200, 2, none⟩ = some (.int .i64 a0_2) ∧ w'.cell? ⟨gb201, 0, none⟩ = some (.bool a1_0) ∧ w'.cell? ⟨gb201, 1, none⟩ = some (.slice Ao31 l1_1.length co31) ∧ w'.cell? ⟨gb201, 2, none⟩ = some (.int .i64 a1_2)) (ds := []) #[false, false, false, false, false, false, false, false, false, false, false, false, false, false, false, false, false] (by kernel_rfl) rfl rfl ⟨(bC_ BK200.out 0).trans rfl, (bC_ BK200.out 1).trans rfl, (bC_ BK200.out 2).trans rfl, (bC_ BK201.out 0).trans rfl, (bC_ BK201.out 1).trans rfl, (bC_ BK201.out 2).trans rfl⟩ (fun hHeld => ?_); refine with_tabW spec_DecimalAdd.tab10 spec_DecimalAdd.bits10 (fun HT_ HW_ => ?_)
         generalize wc.drew = w89 at HO_201001 HO_202001 BK200 BK201 BK202 HK HB hHeld ⊢
         refine pure_ (i := 0) (N := some 48) (v := ?_) (a' := ?_) #[true, false, false, false, false, false, false, false, false, false, false, false, false, false, false, false, false] rfl rfl (any_of HT_.out (by kernel_rfl)) (fun _ _ _ h => h) (Or.inl ⟨by rfl, ?_⟩) ?_ ?_
         rotate_left
         ·
          intro w'
          go_simp
          with_reducible rfl
         rotate_left
         ·
          simp only [Act.put, List.setIfInBounds_toArray, List.set_cons_zero, List.set_cons_succ, i64_w, i32_w]
          rfl
         refine pure_ (i := 3) (N := some 51) (v := ?_) (a' := ?_) #[true, false, false, true, false, false, false, false, false, false, false, false, false, false, false, false, false] rfl rfl (any_of HT_.out (by kernel_rfl)) (fun _ _ _ h => h) (Or.inl ⟨by rfl, ?_⟩) ?_ ?_
         rotate_left
         ·
          intro w'
          go_simp
          with_reducible rfl
         rotate_left
         ·
          simp only [Act.put, List.setIfInBounds_toArray, List.set_cons_zero, List.set_cons_succ, i64_w, i32_w]
          rfl
         refine pure_ (i := 6) (N := some 54) (v := ?_) (a' := ?_) #[true, false, false, true, false, false, true, false, false, false, false, false, false, false, false, false, false] rfl rfl (any_of HT_.out (by kernel_rfl)) (fun _ _ _ h => h) (Or.inl ⟨by rfl, ?_⟩) ?_ ?_
         rotate_left
         ·
          intro w'
          go_simp
          with_reducible rfl
         rotate_left
         ·
          simp only [Act.put, List.setIfInBounds_toArray, List.set_cons_zero, List.set_cons_succ, i64_w, i32_w]
          rfl
         refine pure_ (i := 8) (N := some 56) (v := ?_) (a' := ?_) #[true, false, false, true, false, false, true, false, true, false, false, false, false, false, false, false, false] rfl rfl (any_of HT_.out (by kernel_rfl)) (fun _ _ _ h => h) (Or.inl ⟨by rfl, ?_⟩) ?_ ?_
         rotate_left
         ·
          intro w'
          go_simp
          with_reducible rfl
         rotate_left
         ·
          simp only [Act.put, List.setIfInBounds_toArray, List.set_cons_zero, List.set_cons_succ, i64_w, i32_w]
          rfl
         refine pure_ (i := 10) (N := some 58) (v := ?_) (a' := ?_) #[true, false, false, true, false, false, true, false, true, false, true, false, false, false, false, false, false] rfl rfl (any_of HT_.out (by kernel_rfl)) (fun _ _ _ h => h) (Or.inl ⟨by rfl, ?_⟩) ?_ ?_
         rotate_left
         ·
          intro w'
          go_simp
          with_reducible rfl
         rotate_left
         ·
          simp only [Act.put, List.setIfInBounds_toArray, List.set_cons_zero, List.set_cons_succ, i64_w, i32_w]
          rfl
         refine pure_ (i := 13) (N := some 61) (v := ?_) (a' := ?_) #[true, false, false, true, false, false, true, false, true, false, true, false, false, true, false, false, false] rfl rfl (any_of HT_.out (by kernel_rfl)) (fun _ _ _ h => h) (Or.inl ⟨by rfl, ?_⟩) ?_ ?_
         rotate_left
         ·
          intro w'
          go_simp
          with_reducible rfl
         rotate_left
         ·
          simp only [Act.put, List.setIfInBounds_toArray, List.set_cons_zero, List.set_cons_succ, i64_w, i32_w]
          rfl
         refine take_ (i := 1) (N := some 49) (v := ?_) (a' := ?_) #[true, true, false, true, false, false, true, false, true, false, true, false, false, true, false, false, false] rfl rfl (take_ofW HT_.out HW_.out (by kernel_rfl)) (fun _ _ _ h => h) (Or.inl ⟨by rfl, ?_⟩) hHeld ?_ ?_
         rotate_left
         ·
          rintro w' ⟨s0, s1, s2, s3, s4, s5⟩
          go_simp
          with_reducible rfl
         rotate_left
         ·
          simp only [Act.put, List.setIfInBounds_toArray, List.set_cons_zero, List.set_cons_succ, i64_w, i32_w]
          rfl
         refine take_ (i := 2) (N := some 50) (v := ?_) (a' := ?_) #[true, true, true, true, false, false, true, false, true, false, true, false, false, true, false, false, false] rfl rfl (take_ofW HT_.out HW_.out (by kernel_rfl)) (fun _ _ _ h => h) (Or.inl ⟨by rfl, ?_⟩) hHeld ?_ ?_
         rotate_left
         ·
          rintro w' ⟨s0, s1, s2, s3, s4, s5⟩
          go_simp
          with_reducible rfl
         rotate_left
         ·
          simp only [Act.put, List.setIfInBounds_toArray, List.set_cons_zero, List.set_cons_succ, i64_w, i32_w]
          rfl
         refine take_ (i := 5) (N := some 53) (v := ?_) (a' := ?_) #[true, true, true, true, false, true, true, false, true, false, true, false, false, true, false, false, false] rfl rfl (take_ofW HT_.out HW_.out (by kernel_rfl)) (fun _ _ _ h => h) (Or.inl ⟨by rfl, ?_⟩) hHeld ?_ ?_
         rotate_left
         ·
          rintro w' ⟨s0, s1, s2, s3, s4, s5⟩
          go_simp
          with_reducible rfl
         rotate_left
         ·
          simp only [Act.put, List.setIfInBounds_toArray, List.set_cons_zero, List.set_cons_succ, i64_w, i32_w]
          rfl
         refine take_ (i := 9) (N := some 57) (v := ?_) (a' := ?_) #[true, true, true, true, false, true, true, false, true, true, true, false, false, true, false, false, false] rfl rfl (take_ofW HT_.out HW_.out (by kernel_rfl)) (fun _ _ _ h => h) (Or.inl ⟨by rfl, ?_⟩) hHeld ?_ ?_
         rotate_left
         ·
          rintro w' ⟨s0, s1, s2, s3, s4, s5⟩
          go_simp
          with_reducible rfl
         rotate_left
         ·
          simp only [Act.put, List.setIfInBounds_toArray, List.set_cons_zero, List.set_cons_succ, i64_w, i32_w]
          rfl
         refine take_ (i := 11) (N := some 59) (v := ?_) (a' := ?_) #[true, true, true, true, false, true, true, false, true, true, true, true, false, true, false, false, false] rfl rfl (take_ofW HT_.out HW_.out (by kernel_rfl)) (fun _ _ _ h => h) (Or.inl ⟨by rfl, ?_⟩) hHeld ?_ ?_
         rotate_left
         ·
          rintro w' ⟨s0, s1, s2, s3, s4, s5⟩
          go_simp
          with_reducible rfl
         rotate_left
         ·
          simp only [Act.put, List.setIfInBounds_toArray, List.set_cons_zero, List.set_cons_succ, i64_w, i32_w]
          rfl
         refine pure_ (i := 12) (N := some 60) (v := ?_) (a' := ?_) #[true, true, true, true, false, true, true, false, true, true, true, true, true, true, false, false, false] rfl rfl (any_of HT_.out (by kernel_rfl)) (fun _ _ _ h => h) (Or.inl ⟨by rfl, ?_⟩) ?_ ?_
         rotate_left
         ·
          intro w'
          go_simp
          with_reducible rfl
         rotate_left
         ·
          simp only [Act.put, List.setIfInBounds_toArray, List.set_cons_zero, List.set_cons_succ, i64_w, i32_w]
          rfl
         refine one_ (i := 4) (N := some 52) #[true, true, true, true, true, true, true, false, true, true, true, true, true, true, false, false, false] rfl rfl (one_of HT_.out (by kernel_rfl)) (by decide) (fun K hK => ?_)
         refine goes_ Try.func23 (by kernel_rfl) rfl #[.agg #[.bool a0_0, .slice Ao29 l0_1.length co29, .int .i64 a0_2], .int .i64 ji27] (by rfl) rfl rfl (by (try simp only [List.map_toArray, List.map_cons, List.map_nil]); first | done | (simp only [hji27]; rfl) | rfl | (simp only [List.length_drop, List.length_take]; rfl)) ?_
         with_reducible refine (spec_wide.calls kj51 a0_0 _ _ l0_1 a0_2 ji27 t215 _ ?side1 ?side2 A86.out).mono ?_
         (case side1 => repeat (first | exact (Kd.R_reads' HO_201001.out).2.2 | (with_reducible refine Kd.C_alloc ?_ _) | (with_reducible refine Kd.C_drewN ?_ _) | (with_reducible refine Kd.C_drew ?_)))
         (case side2 => exact (Kd.R_reads' HO_201001.out).2.1)
         rintro e w90 ⟨v216, rfl, ho0, hb⟩
         refine ⟨_, rfl, ?_⟩
         have n0_ := aM_ (Kd.R_elder' (by (with_reducible repeat (first | apply kA_ | apply kN_ | apply kD_)); exact HO_201001.out) (Kd.R_base ho0) hb)
         have n1_ := aM_ (Kd.R_elder' (by (with_reducible repeat (first | apply kA_ | apply kN_ | apply kD_)); exact HO_202001.out) (Kd.R_base ho0) hb)
         have n2_ := aM_ (Kd.R_lower (Kd.R_new' (Kd.R_new' (Kd.R_newM (M := fun k_ => ((P0_1_ k_ ∨ P1_1_ k_) ∨ w.heap.size ≤ k_)) ho0 (by first | exact HK.out.1 | exact (show Kept w _ (fun k_ => P0_1_ k_ ∨ P1_1_ k_) from by repeat (first | (with_reducible first | exact HK.out | apply Kept.alloc | apply Kept.drewN | apply Kept.drew | refine Kept.setCell ?_ (.inr GW200.out) _ | refine Kept.setCell ?_ (.inr GW201.out) _ | refine Kept.setCell ?_ (.inr GW202.out) _) | exact HK.out)).1) (fun k_ h_ => .inr h_)) (Kd.R_lt (by (with_reducible repeat (first | apply kA_ | apply kN_ | apply kD_)); exact HO_201001.out))) (Kd.R_lt (by (with_reducible repeat (first | apply kA_ | apply kN_ | apply kD_)); exact HO_202001.out))) (below_size (by repeat (first | (with_reducible first | exact HB.out | apply bB_ | apply wN_ | apply bE_ | refine bS_ ?_ GE200.out | refine bS_ ?_ GE201.out | refine bS_ ?_ GE202.out) | exact HB.out))))
         have n3_ := aM_ (blk_below (g := gb200) (o := .cells #[.bool a0_0, .slice Ao29 l0_1.length co29, .int .i64 a0_2] 26 (0, 0)) (by (with_reducible repeat (first | refine bN_ ?_ _ | refine bD_ ?_ | refine bA_ ?_ _)); exact BK200.out) hb)
         have n4_ := aM_ (blk_below (g := gb201) (o := .cells #[.bool a1_0, .slice Ao31 l1_1.length co31, .int .i64 a1_2] 26 (0, 0)) (by (with_reducible repeat (first | refine bN_ ?_ _ | refine bD_ ?_ | refine bA_ ?_ _)); exact BK201.out) hb)
         have n5_ := aM_ (blk_below (g := gb202) (o := .cells #[.bool false, .slice none 0 0, .int .i64 0] 26 (0, 0)) (by (with_reducible repeat (first | refine bN_ ?_ _ | refine bD_ ?_ | refine bA_ ?_ _)); exact BK202.out) hb)
         have n6_ := aM_ (Kept.below (S := (fun k_ => P0_1_ k_ ∨ P1_1_ k_)) (by repeat (first | (with_reducible first | exact HK.out | apply Kept.alloc | apply Kept.drewN | apply Kept.drew | refine Kept.setCell ?_ (.inr GW200.out) _ | refine Kept.setCell ?_ (.inr GW201.out) _ | refine Kept.setCell ?_ (.inr GW202.out) _) | exact HK.out)) hb)
         have n7_ := aM_ (below_step (by repeat (first | (with_reducible first | exact HB.out | apply bB_ | apply wN_ | apply bE_ | refine bS_ ?_ GE200.out | refine bS_ ?_ GE201.out | refine bS_ ?_ GE202.out) | exact HB.out)) hb)
         clear HO_201001
         clear HO_202001
         clear BK200
         clear BK201
         clear BK202
         clear HK
         clear HB
         have HO_201001 := n0_
         have HO_202001 := n1_
         have HO217 := n2_
         have BK200 := n3_
         have BK201 := n4_
         have BK202 := n5_
         have HK := n6_
         have HB := n7_
         clear n0_ n1_ n2_ n3_ n4_ n5_ n6_ n7_
         (try clear hb)
         (try clear hb2)
         (try clear hk)
         (try clear hi)
         (try clear ho0)
         refine hK.out _ _ ⟨(bC_ BK200.out 0).trans rfl, (bC_ BK200.out 1).trans rfl, (bC_ BK200.out 2).trans rfl, (bC_ BK201.out 0).trans rfl, (bC_ BK201.out 1).trans rfl, (bC_ BK201.out 2).trans rfl⟩ (fun hHeld => ?_)
         clear hK K
         refine norm_ (a' := ?_) ?_ ?_
         rotate_left
         ·
          show Act.put _ (some 52) _ = _
          simp only [Act.put, List.setIfInBounds_toArray, List.set_cons_zero, List.set_cons_succ, i64_w, i32_w]
          rfl
         refine one_ (i := 7) (N := some 55) #[true, true, true, true, true, true, true, true, true, true, true, true, true, true, false, false, false] rfl rfl (one_of HT_.out (by kernel_rfl)) (by decide) (fun K hK => ?_)
         refine goes_ Try.func23 (by kernel_rfl) rfl #[.agg #[.bool a1_0, .slice Ao31 l1_1.length co31, .int .i64 a1_2], .int .i64 ji27] (by rfl) rfl rfl (by (try simp only [List.map_toArray, List.map_cons, List.map_nil]); first | done | (simp only [hji27]; rfl) | rfl | (simp only [List.length_drop, List.length_take]; rfl)) ?_
         with_reducible refine (spec_wide.calls kj51 a1_0 _ _ l1_1 a1_2 ji27 t218 _ ?side1 ?side2 A87.out).mono ?_
         (case side1 => repeat (first | exact (Kd.R_reads' HO_202001.out).2.2 | (with_reducible refine Kd.C_alloc ?_ _) | (with_reducible refine Kd.C_drewN ?_ _) | (with_reducible refine Kd.C_drew ?_)))
         (case side2 => exact (Kd.R_reads' HO_202001.out).2.1)
         rintro e w91 ⟨v219, rfl, ho0, hb⟩
         refine ⟨_, rfl, ?_⟩
         have n0_ := aM_ (Kd.R_elder' (by (with_reducible repeat (first | apply kA_ | apply kN_ | apply kD_)); exact HO_201001.out) (Kd.R_base ho0) hb)
         have n1_ := aM_ (Kd.R_elder' (by (with_reducible repeat (first | apply kA_ | apply kN_ | apply kD_)); exact HO_202001.out) (Kd.R_base ho0) hb)
         have n2_ := aM_ (Kd.R_elder' (by (with_reducible repeat (first | apply kA_ | apply kN_ | apply kD_)); exact HO217.out) (Kd.R_base ho0) hb)
         have n3_ := aM_ (Kd.R_lower (Kd.R_new' (Kd.R_new' (Kd.R_new' (Kd.R_newM (M := fun k_ => ((P0_1_ k_ ∨ P1_1_ k_) ∨ w.heap.size ≤ k_)) ho0 (by first | exact HK.out.1 | exact (show Kept w _ (fun k_ => P0_1_ k_ ∨ P1_1_ k_) from by repeat (first | (with_reducible first | exact HK.out | apply Kept.alloc | apply Kept.drewN | apply Kept.drew | refine Kept.setCell ?_ (.inr GW200.out) _ | refine Kept.setCell ?_ (.inr GW201.out) _ | refine Kept.setCell ?_ (.inr GW202.out) _) | exact HK.out)).1) (fun k_ h_ => .inr h_)) (Kd.R_lt (by (with_reducible repeat (first | apply kA_ | apply kN_ | apply kD_)); exact HO_201001.out))) (Kd.R_lt (by (with_reducible repeat (first | apply kA_ | apply kN_ | apply kD_)); exact HO_202001.out))) (Kd.R_lt (by (with_reducible repeat (first | apply kA_ | apply kN_ | apply kD_)); exact HO217.out))) (below_size (by repeat (first | (with_reducible first | exact HB.out | apply bB_ | apply wN_ | apply bE_ | refine bS_ ?_ GE200.out | refine bS_ ?_ GE201.out | refine bS_ ?_ GE202.out) | exact HB.out))))
         have n4_ := aM_ (blk_below (g := gb200) (o := .cells #[.bool a0_0, .slice Ao29 l0_1.length co29, .int .i64 a0_2] 26 (0, 0)) (by (with_reducible repeat (first | refine bN_ ?_ _ | refine bD_ ?_ | refine bA_ ?_ _)); exact BK200.out) hb)
         have n5_ := aM_ (blk_below (g := gb201) (o := .cells #[.bool a1_0, .slice Ao31 l1_1.length co31, .int .i64 a1_2] 26 (0, 0)) (by (with_reducible repeat (first | refine bN_ ?_ _ | refine bD_ ?_ | refine bA_ ?_ _)); exact BK201.out) hb)
         have n6_ := aM_ (blk_below (g := gb202) (o := .cells #[.bool false, .slice none 0 0, .int .i64 0] 26 (0, 0)) (by (with_reducible repeat (first | refine bN_ ?_ _ | refine bD_ ?_ | refine bA_ ?_ _)); exact BK202.out) hb)
         have n7_ := aM_ (Kept.below (S := (fun k_ => P0_1_ k_ ∨ P1_1_ k_)) (by repeat (first | (with_reducible first | exact HK.out | apply Kept.alloc | apply Kept.drewN | apply Kept.drew | refine Kept.setCell ?_ (.inr GW200.out) _ | refine Kept.setCell ?_ (.inr GW201.out) _ | refine Kept.setCell ?_ (.inr GW202.out) _) | exact HK.out)) hb)
         have n8_ := aM_ (below_step (by repeat (first | (with_reducible first | exact HB.out | apply bB_ | apply wN_ | apply bE_ | refine bS_ ?_ GE200.out | refine bS_ ?_ GE201.out | refine bS_ ?_ GE202.out) | exact HB.out)) hb)
         clear HO_201001
         clear HO_202001
         clear HO217
         clear BK200
         clear BK201
         clear BK202
         clear HK
         clear HB
         have HO_201001 := n0_
         have HO_202001 := n1_
         have HO217 := n2_
         have HO220 := n3_
         have BK200 := n4_
         have BK201 := n5_
         have BK202 := n6_
         have HK := n7_
         have HB := n8_
         clear n0_ n1_ n2_ n3_ n4_ n5_ n6_ n7_ n8_
         (try clear hb)
         (try clear hb2)
         (try clear hk)
         (try clear hi)
         (try clear ho0)
         obtain ⟨Ao92, co92, eo92⟩ := Kd.R_slice HO217.out
         (first | subst eo92 | (injection eo92 with f1_ f2_ f3_; have f4_ := f1_.symm; have f5_ := f3_.symm; clear f1_ f2_ f3_; subst f4_; subst f5_))
         obtain ⟨Ao93, co93, eo93⟩ := Kd.R_slice HO220.out
         (first | subst eo93 | (injection eo93 with f1_ f2_ f3_; have f4_ := f1_.symm; have f5_ := f3_.symm; clear f1_ f2_ f3_; subst f4_; subst f5_))
         refine hK.out _ _ ⟨(bC_ BK200.out 0).trans rfl, (bC_ BK200.out 1).trans rfl, (bC_ BK200.out 2).trans rfl, (bC_ BK201.out 0).trans rfl, (bC_ BK201.out 1).trans rfl, (bC_ BK201.out 2).trans rfl⟩ (fun hHeld => ?_)
         clear hK K
         refine norm_ (a' := ?_) ?_ ?_
         rotate_left
         ·
          show Act.put _ (some 55) _ = _
          simp only [Act.put, List.setIfInBounds_toArray, List.set_cons_zero, List.set_cons_succ, i64_w, i32_w]
          rfl
         refine one_ (i := 14) (N := some 62) #[true, true, true, true, true, true, true, true, true, true, true, true, true, true, true, false, false] rfl rfl (one_of HT_.out (by kernel_rfl)) (by decide) (fun K hK => ?_)
         refine goes_ Try.func22 (by kernel_rfl) rfl #[.bool a0_0, .slice Ao92 t215.length co92, .slice Ao93 t218.length co93, .bool (a0_0 != a1_0), .int .i64 ji27] (by rfl) rfl rfl (by (try simp only [List.map_toArray, List.map_cons, List.map_nil]); first | done | (simp only [hji27]; rfl) | rfl | (simp only [List.length_drop, List.length_take]; rfl)) ?_
         with_reducible refine (spec_sum.calls kj51 a0_0 _ _ t215 _ _ t218 (a0_0 != a1_0) ji27 t221 t222 t225 _ ?side1 ?side2 ?side3 ?side4 A88.out).mono ?_
         (case side1 => repeat (first | exact (Kd.R_reads' HO217.out).2.2 | (with_reducible refine Kd.C_alloc ?_ _) | (with_reducible refine Kd.C_drewN ?_ _) | (with_reducible refine Kd.C_drew ?_)))
         (case side2 => exact (Kd.R_reads' HO217.out).2.1)
         (case side3 => repeat (first | exact (Kd.R_reads' HO220.out).2.2 | (with_reducible refine Kd.C_alloc ?_ _) | (with_reducible refine Kd.C_drewN ?_ _) | (with_reducible refine Kd.C_drew ?_)))
         (case side4 => exact (Kd.R_reads' HO220.out).2.1)
         rintro e w94 ⟨v223, rfl, ho0, hb⟩
         refine ⟨_, rfl, ?_⟩
         have n0_ := aM_ (Kd.R_elder' (by (with_reducible repeat (first | apply kA_ | apply kN_ | apply kD_)); exact HO_201001.out) (Kd.R_base ho0) hb)
         have n1_ := aM_ (Kd.R_elder' (by (with_reducible repeat (first | apply kA_ | apply kN_ | apply kD_)); exact HO_202001.out) (Kd.R_base ho0) hb)
         have n2_ := aM_ (Kd.R_elder' (by (with_reducible repeat (first | apply kA_ | apply kN_ | apply kD_)); exact HO217.out) (Kd.R_base ho0) hb)
         have n3_ := aM_ (Kd.R_elder' (by (with_reducible repeat (first | apply kA_ | apply kN_ | apply kD_)); exact HO220.out) (Kd.R_base ho0) hb)
         have n4_ := aM_ (Kd.R_lower (Kd.R_new' (Kd.R_new' (Kd.R_new' (Kd.R_new' (Kd.R_newM (M := fun k_ => ((P0_1_ k_ ∨ P1_1_ k_) ∨ w.heap.size ≤ k_)) ho0 (by first | exact HK.out.1 | exact (show Kept w _ (fun k_ => P0_1_ k_ ∨ P1_1_ k_) from by repeat (first | (with_reducible first | exact HK.out | apply Kept.alloc | apply Kept.drewN | apply Kept.drew | refine Kept.setCell ?_ (.inr GW200.out) _ | refine Kept.setCell ?_ (.inr GW201.out) _ | refine Kept.setCell ?_ (.inr GW202.out) _) | exact HK.out)).1) (fun k_ h_ => .inr h_)) (Kd.R_lt (by (with_reducible repeat (first | apply kA_ | apply kN_ | apply kD_)); exact HO_201001.out))) (Kd.R_lt (by (with_reducible repeat (first | apply kA_ | apply kN_ | apply kD_)); exact HO_202001.out))) (Kd.R_lt (by (with_reducible repeat (first | apply kA_ | apply kN_ | apply kD_)); exact HO217.out))) (Kd.R_lt (by (with_reducible repeat (first | apply kA_ | apply kN_ | apply kD_)); exact HO220.out))) (below_size (by repeat (first | (with_reducible first | exact HB.out | apply bB_ | apply wN_ | apply bE_ | refine bS_ ?_ GE200.out | refine bS_ ?_ GE201.out | refine bS_ ?_ GE202.out) | exact HB.out))))
         have n5_ := aM_ (blk_below (g := gb200) (o := .cells #[.bool a0_0, .slice Ao29 l0_1.length co29, .int .i64 a0_2] 26 (0, 0)) (by (with_reducible repeat (first | refine bN_ ?_ _ | refine bD_ ?_ | refine bA_ ?_ _)); exact BK200.out) hb)
         have n6_ := aM_ (blk_below (g := gb201) (o := .cells #[.bool a1_0, .slice Ao31 l1_1.length co31, .int .i64 a1_2] 26 (0, 0)) (by (with_reducible repeat (first | refine bN_ ?_ _ | refine bD_ ?_ | refine bA_ ?_ _)); exact BK201.out) hb)
         have n7_ := aM_ (blk_below (g := gb202) (o := .cells #[.bool false, .slice none 0 0, .int .i64 0] 26 (0, 0)) (by (with_reducible repeat (first | refine bN_ ?_ _ | refine bD_ ?_ | refine bA_ ?_ _)); exact BK202.out) hb)
         have n8_ := aM_ (Kept.below (S := (fun k_ => P0_1_ k_ ∨ P1_1_ k_)) (by repeat (first | (with_reducible first | exact HK.out | apply Kept.alloc | apply Kept.drewN | apply Kept.drew | refine Kept.setCell ?_ (.inr GW200.out) _ | refine Kept.setCell ?_ (.inr GW201.out) _ | refine Kept.setCell ?_ (.inr GW202.out) _) | exact HK.out)) hb)
         have n9_ := aM_ (below_step (by repeat (first | (with_reducible first | exact HB.out | apply bB_ | apply wN_ | apply bE_ | refine bS_ ?_ GE200.out | refine bS_ ?_ GE201.out | refine bS_ ?_ GE202.out) | exact HB.out)) hb)
         clear HO_201001
         clear HO_202001
         clear HO217
         clear HO220
         clear BK200
         clear BK201
         clear BK202
         clear HK
         clear HB
         have HO_201001 := n0_
         have HO_202001 := n1_
         have HO217 := n2_
         have HO220 := n3_
         have HO224 := n4_
         have BK200 := n5_
         have BK201 := n6_
         have BK202 := n7_
         have HK := n8_
         have HB := n9_
         clear n0_ n1_ n2_ n3_ n4_ n5_ n6_ n7_ n8_ n9_
         (try clear hb)
         (try clear hb2)
         (try clear hk)
         (try clear hi)
         (try clear ho0)
         obtain ⟨Ao96, co96, eo96⟩ := Kd.R_slice HO224.out
         (first | subst eo96 | (injection eo96 with f1_ f2_ f3_; have f4_ := f1_.symm; have f5_ := f3_.symm; clear f1_ f2_ f3_; subst f4_; subst f5_))
         refine hK.out _ _ ⟨(bC_ BK200.out 0).trans rfl, (bC_ BK200.out 1).trans rfl, (bC_ BK200.out 2).trans rfl, (bC_ BK201.out 0).trans rfl, (bC_ BK201.out 1).trans rfl, (bC_ BK201.out 2).trans rfl⟩ (fun hHeld => ?_)
         clear hK K
         refine norm_ (a' := ?_) ?_ ?_
         rotate_left
         ·
          show Act.put _ (some 62) _ = _
          simp only [Act.put, List.setIfInBounds_toArray, List.set_cons_zero, List.set_cons_succ, i64_w, i32_w]
          rfl
         refine one_ (i := 15) (N := none) #[true, true, true, true, true, true, true, true, true, true, true, true, true, true, true, true, false] rfl rfl (one_of HT_.out (by kernel_rfl)) (by decide) (fun K hK => ?_)
         have hs95 : w94.cell? ⟨gb202, 0, none⟩ = some (.bool false) := (bC_ BK202.out 0).trans rfl
         have hfs95 := bF_ BK202.out 0
         have hns95_0 := NB200_202.out
         have hns95_1 := NB201_202.out
         have hms95_0 := NB202_200.out
         have hms95_1 := NB202_201.out
         have hs97 : w94.cell? ⟨gb202, 1, none⟩ = some (.slice none 0 0) := (bC_ BK202.out 1).trans rfl
         have hfs97 := bF_ BK202.out 1
         have hns97_0 := NB200_202.out
         have hns97_1 := NB201_202.out
         have hms97_0 := NB202_200.out
         have hms97_1 := NB202_201.out
         have hs98 : w94.cell? ⟨gb202, 2, none⟩ = some (.int .i64 0) := (bC_ BK202.out 2).trans rfl
         have hfs98 := bF_ BK202.out 2
         have hns98_0 := NB200_202.out
         have hns98_1 := NB201_202.out
         have hms98_0 := NB202_200.out
         have hms98_1 := NB202_201.out
         refine skip_ (w1 := ?_) (by rfl) rfl ?_ ?_
         rotate_left
         ·
          go_simp
          rfl
         refine hK.out _ _ ⟨((cell_far (p := ⟨gb202, _, none⟩) NB200_202.out _).trans (((cell_far (p := ⟨gb202, _, none⟩) NB200_202.out _).trans (((cell_far (p := ⟨gb202, _, none⟩) NB200_202.out _).trans (hHeld.1)))))), ((cell_far (p := ⟨gb202, _, none⟩) NB200_202.out _).trans (((cell_far (p := ⟨gb202, _, none⟩) NB200_202.out _).trans (((cell_far (p := ⟨gb202, _, none⟩) NB200_202.out _).trans (hHeld.2.1)))))), ((cell_far (p := ⟨gb202, _, none⟩) NB200_202.out _).trans (((cell_far (p := ⟨gb202, _, none⟩) NB200_202.out _).trans (((cell_far (p := ⟨gb202, _, none⟩) NB200_202.out _).trans (hHeld.2.2.1)))))), ((cell_far (p := ⟨gb202, _, none⟩) NB201_202.out _).trans (((cell_far (p := ⟨gb202, _, none⟩) NB201_202.out _).trans (((cell_far (p := ⟨gb202, _, none⟩) NB201_202.out _).trans (hHeld.2.2.2.1)))))), ((cell_far (p := ⟨gb202, _, none⟩) NB201_202.out _).trans (((cell_far (p := ⟨gb202, _, none⟩) NB201_202.out _).trans (((cell_far (p := ⟨gb202, _, none⟩) NB201_202.out _).trans (hHeld.2.2.2.2.1)))))), ((cell_far (p := ⟨gb202, _, none⟩) NB201_202.out _).trans (((cell_far (p := ⟨gb202, _, none⟩) NB201_202.out _).trans (((cell_far (p := ⟨gb202, _, none⟩) NB201_202.out _).trans (hHeld.2.2.2.2.2))))))⟩ (fun hHeld => ?_)
         clear hK K
         refine pure_ (i := 16) (N := some 5) (v := ?_) (a' := ?_) #[true, true, true, true, true, true, true, true, true, true, true, true, true, true, true, true, true] rfl rfl (any_of HT_.out (by kernel_rfl)) (fun _ _ _ h => h) (Or.inl ⟨by rfl, ?_⟩) ?_ ?_
         rotate_left
         ·
          intro w'
          go_simp
          with_reducible rfl
         rotate_left
         ·
          simp only [Act.put, List.setIfInBounds_toArray, List.set_cons_zero, List.set_cons_succ, i64_w, i32_w]
          rfl
         refine done_ (done_of HT_.out (by kernel_rfl)) ?_
         try go_wp2
         refine bodyPost_ret (results_ct rfl _ _ gb202 26 #[.bool t221, .slice Ao96 t222.length co96, .int .i64 t225] (0, 0) _ rfl (by (with_reducible repeat (first | refine bN_ ?_ _ | refine bD_ ?_ | refine bA_ ?_ _)); refine blk_put (cs := #[.bool t221, .slice Ao96 t222.length co96, .int .i64 0]) ?_ 2 _ rfl; (with_reducible repeat (first | refine bN_ ?_ _ | refine bD_ ?_ | refine bA_ ?_ _)); refine blk_put (cs := #[.bool t221, .slice none 0 0, .int .i64 0]) ?_ 1 _ rfl; (with_reducible repeat (first | refine bN_ ?_ _ | refine bD_ ?_ | refine bA_ ?_ _)); refine blk_put (cs := #[.bool false, .slice none 0 0, .int .i64 0]) ?_ 0 _ rfl; (with_reducible repeat (first | refine bN_ ?_ _ | refine bD_ ?_ | refine bA_ ?_ _)); exact BK202.out) Try.underlying26 rfl (by kernel_rfl)) rfl ?_
         exact ⟨_, by first | rfl | (simp [errW_none, errW_some] <;> rfl) | (simp only [← hji27]; first | rfl | (simp [errW_none, errW_some] <;> rfl)) | (simp [*, errW_none, errW_some] <;> rfl), by (with_reducible repeat (first | apply kA_ | apply kN_ | apply kD_)); exact Kd.R_mono (Kd.R_far (p := ⟨gb202, 2, none⟩) (Kd.R_far (p := ⟨gb202, 1, none⟩) (Kd.R_far (p := ⟨gb202, 0, none⟩) (Kd.R_types HO224.out BK202.out (by decide)) (fun _ hk => hk.2) (.bool t221)) (fun _ hk => hk.2) (.slice Ao96 t222.length co96)) (fun _ hk => hk.2) (.int .i64 t225)) (fun _ hk => hk.1.1.1.1.1.1), by repeat (first | (with_reducible first | exact HB.out | apply bB_ | apply wN_ | apply bE_ | refine bS_ ?_ GE200.out | refine bS_ ?_ GE201.out | refine bS_ ?_ GE202.out) | exact HB.out), by repeat (first | (with_reducible first | exact HK.out | apply Kept.alloc | apply Kept.drewN | apply Kept.drew | refine Kept.setCell ?_ (.inr GW200.out) _ | refine Kept.setCell ?_ (.inr GW201.out) _ | refine Kept.setCell ?_ (.inr GW202.out) _) | exact HK.out)⟩

end Go.Proofs.Ytdhooibmibkbeaa.PFnAmountAdd
