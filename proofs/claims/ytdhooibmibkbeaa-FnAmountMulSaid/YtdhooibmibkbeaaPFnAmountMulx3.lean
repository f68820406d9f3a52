/- Functions of the program as plain Lean functions, and that the machine's calls do what these say: written for this claim by wip/myprint.py over the kit's print.py. -/
import Derived.Test.YtdhooibmibkbeaaPFnAmountMulx0
namespace Go.Proofs.Ytdhooibmibkbeaa.PFnAmountMul
open Go.RowKit Go.Proofs.YtdhooibmibkbeaaW.PrintWords Go.Proofs.YtdhooibmibkbeaaW.PrintLast Go.Proofs.YtdhooibmibkbeaaW.PrintMore
attribute [local go_sem] max2_int min2_int max_two min_two max_three min_three max_four min_four   -- for this text's walks alone
set_option linter.unusedVariables false
set_option linter.unusedSimpArgs false

/-! ### spec_larger: function 21 -/
mutual
def spec_larger.l0 : Nat → Int → Bool → List Int → Int → Bool → List Int → Int → Option (Int)
 | 0, _, _, _, _, _, _, _ => none
 | k + 1, x7, x146000, x146001, x146002, x147000, x147001, x147002 => if x7 < (x146001.length : Int) then (spec_larger.j1 k x7 true x146000 x146001 x146002 x147000 x147001 x147002) else (spec_larger.j1 k x7 (decide (x7 < (x147001.length : Int))) x146000 x146001 x146002 x147000 x147001 x147002)
def spec_larger.j1 : Nat → Int → Bool → Bool → List Int → Int → Bool → List Int → Int → Option (Int)
 | 0, _, _, _, _, _, _, _, _ => none
 | k + 1, x7, x39, x146000, x146001, x146002, x147000, x147001, x147002 => if x39 = true then (if x7 < (x146001.length : Int) then (if 0 ≤ x7 then (spec_larger.j2 k x7 (rd x146001 x7) 0 x146000 x146001 x146002 x147000 x147001 x147002) else (none)) else (spec_larger.j2 k x7 0 0 x146000 x146001 x146002 x147000 x147001 x147002)) else (some 0)
def spec_larger.j2 : Nat → Int → Int → Int → Bool → List Int → Int → Bool → List Int → Int → Option (Int)
 | 0, _, _, _, _, _, _, _, _, _ => none
 | k + 1, x7, x8, x9, x146000, x146001, x146002, x147000, x147001, x147002 => if x7 < (x147001.length : Int) then (if 0 ≤ x7 then (spec_larger.j3 k x7 x8 (rd x147001 x7) x146000 x146001 x146002 x147000 x147001 x147002) else (none)) else (spec_larger.j3 k x7 x8 x9 x146000 x146001 x146002 x147000 x147001 x147002)
def spec_larger.j3 : Nat → Int → Int → Int → Bool → List Int → Int → Bool → List Int → Int → Option (Int)
 | 0, _, _, _, _, _, _, _, _, _ => none
 | k + 1, x7, x8, x9, x146000, x146001, x146002, x147000, x147001, x147002 => if x8 = x9 then (spec_larger.l0 k (wrap64 (x7 + 1)) x146000 x146001 x146002 x147000 x147001 x147002) else (if x8 < x9 then (some (-1)) else (some 1))
end
def spec_larger.f (k : Nat) (a0_0 : Bool) (l0_1 : List Int) (a0_2 : Int) (a1_0 : Bool) (l1_1 : List Int) (a1_2 : Int) : Option (Int) := if (wrap64 ((l0_1.length : Int) + a0_2)) = (wrap64 ((l1_1.length : Int) + a1_2)) then (spec_larger.l0 k 0 a0_0 l0_1 a0_2 a1_0 l1_1 a1_2) else (if (wrap64 ((l0_1.length : Int) + a0_2)) < (wrap64 ((l1_1.length : Int) + a1_2)) then (some (-1)) else (some 1))
theorem spec_larger.mono_l : ∀ k, (∀ y0 y1 y2 y3 y4 y5 y6, LeO (spec_larger.l0 k y0 y1 y2 y3 y4 y5 y6) (spec_larger.l0 (k + 1) y0 y1 y2 y3 y4 y5 y6)) ∧ (∀ y0 y1 y2 y3 y4 y5 y6 y7, LeO (spec_larger.j1 k y0 y1 y2 y3 y4 y5 y6 y7) (spec_larger.j1 (k + 1) y0 y1 y2 y3 y4 y5 y6 y7)) ∧ (∀ y0 y1 y2 y3 y4 y5 y6 y7 y8, LeO (spec_larger.j2 k y0 y1 y2 y3 y4 y5 y6 y7 y8) (spec_larger.j2 (k + 1) y0 y1 y2 y3 y4 y5 y6 y7 y8)) ∧ (∀ y0 y1 y2 y3 y4 y5 y6 y7 y8, LeO (spec_larger.j3 k y0 y1 y2 y3 y4 y5 y6 y7 y8) (spec_larger.j3 (k + 1) y0 y1 y2 y3 y4 y5 y6 y7 y8))
 | 0 => ⟨fun _ _ _ _ _ _ _ r h => by simp [spec_larger.l0] at h, fun _ _ _ _ _ _ _ _ r h => by simp [spec_larger.j1] at h, fun _ _ _ _ _ _ _ _ _ r h => by simp [spec_larger.j2] at h, fun _ _ _ _ _ _ _ _ _ r h => by simp [spec_larger.j3] at h⟩
 | k + 1 => by
  obtain ⟨ih0, ih1, ih2, ih3⟩ := spec_larger.mono_l k
  refine ⟨?_, ?_, ?_, ?_⟩
  ·
   intro y0 y1 y2 y3 y4 y5 y6
   unfold spec_larger.l0
   repeat' first
   | (with_reducible exact ih0 _ _ _ _ _ _ _)
   | (with_reducible exact ih1 _ _ _ _ _ _ _ _)
   | (with_reducible exact ih2 _ _ _ _ _ _ _ _ _)
   | (with_reducible exact ih3 _ _ _ _ _ _ _ _ _)
   | (with_reducible exact LeO.refl _)
   | (with_reducible exact LeO.none _)
   | (with_reducible refine LeO.ite ?_ ?_)
   | (with_reducible refine LeO.bind ?_ (fun _ => ?_))
   | exact ih0 _ _ _ _ _ _ _
   | exact ih1 _ _ _ _ _ _ _ _
   | exact ih2 _ _ _ _ _ _ _ _ _
   | exact ih3 _ _ _ _ _ _ _ _ _
   | exact LeO.none _
   | refine LeO.ite ?_ ?_
   | refine LeO.bind ?_ (fun _ => ?_)
  ·
   intro y0 y1 y2 y3 y4 y5 y6 y7
   unfold spec_larger.j1
   repeat' first
   | (with_reducible exact ih0 _ _ _ _ _ _ _)
   | (with_reducible exact ih1 _ _ _ _ _ _ _ _)
   | (with_reducible exact ih2 _ _ _ _ _ _ _ _ _)
   | (with_reducible exact ih3 _ _ _ _ _ _ _ _ _)
   | (with_reducible exact LeO.refl _)
   | (with_reducible exact LeO.none _)
   | (with_reducible refine LeO.ite ?_ ?_)
   | (with_reducible refine LeO.bind ?_ (fun _ => ?_))
   | exact ih0 _ _ _ _ _ _ _
   | exact ih1 _ _ _ _ _ _ _ _
   | exact ih2 _ _ _ _ _ _ _ _ _
   | exact ih3 _ _ _ _ _ _ _ _ _
   | exact LeO.none _
   | refine LeO.ite ?_ ?_
   | refine LeO.bind ?_ (fun _ => ?_)
  ·
   intro y0 y1 y2 y3 y4 y5 y6 y7 y8
   unfold spec_larger.j2
   repeat' first
   | (with_reducible exact ih0 _ _ _ _ _ _ _)
   | (with_reducible exact ih1 _ _ _ _ _ _ _ _)
   | (with_reducible exact ih2 _ _ _ _ _ _ _ _ _)
   | (with_reducible exact ih3 _ _ _ _ _ _ _ _ _)
   | (with_reducible exact LeO.refl _)
   | (with_reducible exact LeO.none _)
   | (with_reducible refine LeO.ite ?_ ?_)
   | (with_reducible refine LeO.bind ?_ (fun _ => ?_))
   | exact ih0 _ _ _ _ _ _ _
   | exact ih1 _ _ _ _ _ _ _ _
   | exact ih2 _ _ _ _ _ _ _ _ _
   | exact ih3 _ _ _ _ _ _ _ _ _
   | exact LeO.none _
   | refine LeO.ite ?_ ?_
   | refine LeO.bind ?_ (fun _ => ?_)
  ·
   intro y0 y1 y2 y3 y4 y5 y6 y7 y8
   unfold spec_larger.j3
   repeat' first
   | (with_reducible exact ih0 _ _ _ _ _ _ _)
   | (with_reducible exact ih1 _ _ _ _ _ _ _ _)
   | (with_reducible exact ih2 _ _ _ _ _ _ _ _ _)
   | (with_reducible exact ih3 _ _ _ _ _ _ _ _ _)
   | (with_reducible exact LeO.refl _)
   | (with_reducible exact LeO.none _)
   | (with_reducible refine LeO.ite ?_ ?_)
   | (with_reducible refine LeO.bind ?_ (fun _ => ?_))
   | exact ih0 _ _ _ _ _ _ _
   | exact ih1 _ _ _ _ _ _ _ _
   | exact ih2 _ _ _ _ _ _ _ _ _
   | exact ih3 _ _ _ _ _ _ _ _ _
   | exact LeO.none _
   | refine LeO.ite ?_ ?_
   | refine LeO.bind ?_ (fun _ => ?_)
theorem spec_larger.mono : ∀ a0 a1 a2 a3 a4 a5 k, LeO (spec_larger.f k a0 a1 a2 a3 a4 a5) (spec_larger.f (k + 1) a0 a1 a2 a3 a4 a5) := by
 intro a0 a1 a2 a3 a4 a5 k
 obtain ⟨ih0, ih1, ih2, ih3⟩ := spec_larger.mono_l k
 unfold spec_larger.f
 repeat' first
   | (with_reducible exact ih0 _ _ _ _ _ _ _)
   | (with_reducible exact ih1 _ _ _ _ _ _ _ _)
   | (with_reducible exact ih2 _ _ _ _ _ _ _ _ _)
   | (with_reducible exact ih3 _ _ _ _ _ _ _ _ _)
   | (with_reducible exact LeO.refl _)
   | (with_reducible exact LeO.none _)
   | (with_reducible refine LeO.ite ?_ ?_)
   | (with_reducible refine LeO.bind ?_ (fun _ => ?_))
   | exact ih0 _ _ _ _ _ _ _
   | exact ih1 _ _ _ _ _ _ _ _
   | exact ih2 _ _ _ _ _ _ _ _ _
   | exact ih3 _ _ _ _ _ _ _ _ _
   | exact LeO.none _
   | refine LeO.ite ?_ ?_
   | refine LeO.bind ?_ (fun _ => ?_)
set_option maxHeartbeats 8000000 in
set_option maxRecDepth 100000 in
theorem spec_larger.calls (k : Nat) (a0_0 : Bool) (A0_1 : Option Addr) (c0_1 : Nat) (l0_1 : List Int) (a0_2 : Int) (a1_0 : Bool) (A1_1 : Option Addr) (c1_1 : Nat) (l1_1 : List Int) (a1_2 : Int) (r : Int) (w : World) (hr0_1 : Kd.C (Kd.int .i64) w A0_1 l0_1.length l0_1) (hc0_1 : l0_1.length ≤ c0_1) (hr1_1 : Kd.C (Kd.int .i64) w A1_1 l1_1.length l1_1) (hc1_1 : l1_1.length ≤ c1_1) (h : spec_larger.f k a0_0 l0_1 a0_2 a1_0 l1_1 a1_2 = some r) :
  Calls Try.prog 21 #[.agg #[.bool a0_0, .slice A0_1 l0_1.length c0_1, .int .i64 a0_2], .agg #[.bool a1_0, .slice A1_1 l1_1.length c1_1, .int .i64 a1_2]] w fun e w' => e = .returned (.int .i64 r) ∧ Below w.heap.size w w' := by
 have hu26 := Try.underlying26
 have HR0_1 := aM_ hr0_1
 have HC0_1 := aM_ hc0_1
 clear hr0_1 hc0_1
 have HR1_1 := aM_ hr1_1
 have HC1_1 := aM_ hc1_1
 clear hr1_1 hc1_1
 have HB := aM_ (Below.refl w.heap.size w)
 have H : (if (wrap64 ((l0_1.length : Int) + a0_2)) = (wrap64 ((l1_1.length : Int) + a1_2)) then (spec_larger.l0 k 0 a0_0 l0_1 a0_2 a1_0 l1_1 a1_2) else (if (wrap64 ((l0_1.length : Int) + a0_2)) < (wrap64 ((l1_1.length : Int) + a1_2)) then (some (-1)) else (some 1))) = some r := h
 clear h
 by_cases c3 : (wrap64 ((l0_1.length : Int) + a0_2)) = (wrap64 ((l1_1.length : Int) + a1_2))
 ·
  rw [if_pos c3] at H
  have c3b0 : ((wrap64 ((l0_1.length : Int) + a0_2)) == (wrap64 ((l1_1.length : Int) + a1_2))) = true := beq_iff_eq.mpr c3
  have c3b1 : ((wrap64 ((l0_1.length : Int) + a0_2)) != (wrap64 ((l1_1.length : Int) + a1_2))) = false := bne_eq_false_iff_eq.mpr c3
  clear c3
  have H' := aM_ H
  clear H
  go_enter Try.func21, Try.ntmps21
  go_wp2_with (first | ((with_reducible refine gate_dst (N := 2) rfl ?_); (try (refine gate_guard (by rfl) ?_; dsimp only)); refine box_event ?hg (N := 2) ?hd (cs := #[.bool a0_0, .slice A0_1 l0_1.length c0_1, .int .i64 a0_2]) (t := 26) ?hr ?_; (case hd => rfl); (case hg => rfl); (case hr => first | (go_simp; done) | (go_simp; rfl)); intro gb145 hg w4 hbox hb; have n0_ := aM_ (below_step (by repeat (first | (with_reducible first | exact HB.out | apply bB_ | apply wN_ | apply bE_) | exact HB.out)) hb); have n1_ := aM_ (hbox); have n2_ := aM_ ((by rw [hg]; exact (below_size (by repeat (first | (with_reducible first | exact HB.out | apply bB_ | apply wN_ | apply bE_) | exact HB.out))) : w.heap.size ≤ gb145)); have n3_ := aM_ ((by rw [hg]; exact (below_size (by repeat (first | (with_reducible first | exact HB.out | apply bB_ | apply wN_ | apply bE_) | exact HB.out))) : w.heap.size ≤ gb145)); clear HB; have HB := n0_; have BK145 := n1_; have GW145 := n2_; have GE145 := n3_; clear n0_ n1_ n2_ n3_; clear hb hbox hg) | ((with_reducible refine gate_dst (N := 3) rfl ?_); (try (refine gate_guard (by rfl) ?_; dsimp only)); refine box_event ?hg (N := 3) ?hd (cs := #[.bool a1_0, .slice A1_1 l1_1.length c1_1, .int .i64 a1_2]) (t := 26) ?hr ?_; (case hd => rfl); (case hg => rfl); (case hr => first | (go_simp; done) | (go_simp; rfl)); intro gb146 hg w5 hbox hb; have n0_ := aM_ (blk_below (g := gb145) (o := .cells #[.bool a0_0, .slice A0_1 l0_1.length c0_1, .int .i64 a0_2] 26 (0, 0)) (by (with_reducible repeat (first | refine bN_ ?_ _ | refine bD_ ?_ | refine bA_ ?_ _)); exact BK145.out) hb); have n1_ := aM_ (below_step (by repeat (first | (with_reducible first | exact HB.out | apply bB_ | apply wN_ | apply bE_ | refine bS_ ?_ GE145.out) | exact HB.out)) hb); have n2_ := aM_ (hbox); have n3_ := aM_ ((by rw [hg]; exact (below_size (by repeat (first | (with_reducible first | exact HB.out | apply bB_ | apply wN_ | apply bE_ | refine bS_ ?_ GE145.out) | exact HB.out))) : w.heap.size ≤ gb146)); have n4_ := aM_ ((by rw [hg]; exact (below_size (by repeat (first | (with_reducible first | exact HB.out | apply bB_ | apply wN_ | apply bE_ | refine bS_ ?_ GE145.out) | exact HB.out))) : w.heap.size ≤ gb146)); have n5_ := aM_ ((by rw [hg]; exact Nat.ne_of_lt (blk_lt (g := gb145) (o := .cells #[.bool a0_0, .slice A0_1 l0_1.length c0_1, .int .i64 a0_2] 26 (0, 0)) (by (with_reducible repeat (first | refine bN_ ?_ _ | refine bD_ ?_ | refine bA_ ?_ _)); exact BK145.out)) : gb145 ≠ gb146)); have n6_ := aM_ ((by rw [hg]; exact Nat.ne_of_gt (blk_lt (g := gb145) (o := .cells #[.bool a0_0, .slice A0_1 l0_1.length c0_1, .int .i64 a0_2] 26 (0, 0)) (by (with_reducible repeat (first | refine bN_ ?_ _ | refine bD_ ?_ | refine bA_ ?_ _)); exact BK145.out)) : gb146 ≠ gb145)); clear BK145; clear HB; have BK145 := n0_; have HB := n1_; have BK146 := n2_; have GW146 := n3_; have GE146 := n4_; have NB145_146 := n5_; have NB146_145 := n6_; clear n0_ n1_ n2_ n3_ n4_ n5_ n6_; clear hb hbox hg; have hnb6 := NB145_146.out; have hnc6 := NB146_145.out; have hcz7_0 : w5.cell? ⟨gb145, 0, none⟩ = some (.bool a0_0) := (bC_ BK145.out 0).trans rfl; have hcz7_1 : w5.cell? ⟨gb145, 1, none⟩ = some (.slice A0_1 l0_1.length c0_1) := (bC_ BK145.out 1).trans rfl; have hcz7_2 : w5.cell? ⟨gb145, 2, none⟩ = some (.int .i64 a0_2) := (bC_ BK145.out 2).trans rfl; have hfz7_0 := bF_ BK145.out 0; have hfz7_1 := bF_ BK145.out 1; have hfz7_2 := bF_ BK145.out 2; have hcz8_0 : w5.cell? ⟨gb146, 0, none⟩ = some (.bool a1_0) := (bC_ BK146.out 0).trans rfl; have hcz8_1 : w5.cell? ⟨gb146, 1, none⟩ = some (.slice A1_1 l1_1.length c1_1) := (bC_ BK146.out 1).trans rfl; have hcz8_2 : w5.cell? ⟨gb146, 2, none⟩ = some (.int .i64 a1_2) := (bC_ BK146.out 2).trans rfl; have hfz8_0 := bF_ BK146.out 0; have hfz8_1 := bF_ BK146.out 1; have hfz8_2 := bF_ BK146.out 2))
  repeat (go_quiet (first | ((with_reducible refine gate_dst (N := 2) rfl ?_); (try (refine gate_guard (by rfl) ?_; dsimp only)); refine box_event ?hg (N := 2) ?hd (cs := #[.bool a0_0, .slice A0_1 l0_1.length c0_1, .int .i64 a0_2]) (t := 26) ?hr ?_; (case hd => rfl); (case hg => rfl); (case hr => first | (go_simp; done) | (go_simp; rfl)); intro gb145 hg w4 hbox hb; have n0_ := aM_ (below_step (by repeat (first | (with_reducible first | exact HB.out | apply bB_ | apply wN_ | apply bE_) | exact HB.out)) hb); have n1_ := aM_ (hbox); have n2_ := aM_ ((by rw [hg]; exact (below_size (by repeat (first | (with_reducible first | exact HB.out | apply bB_ | apply wN_ | apply bE_) | exact HB.out))) : w.heap.size ≤ gb145)); have n3_ := aM_ ((by rw [hg]; exact (below_size (by repeat (first | (with_reducible first | exact HB.out | apply bB_ | apply wN_ | apply bE_) | exact HB.out))) : w.heap.size ≤ gb145)); clear HB; have HB := n0_; have BK145 := n1_; have GW145 := n2_; have GE145 := n3_; clear n0_ n1_ n2_ n3_; clear hb hbox hg) | ((with_reducible refine gate_dst (N := 3) rfl ?_); (try (refine gate_guard (by rfl) ?_; dsimp only)); refine box_event ?hg (N := 3) ?hd (cs := #[.bool a1_0, .slice A1_1 l1_1.length c1_1, .int .i64 a1_2]) (t := 26) ?hr ?_; (case hd => rfl); (case hg => rfl); (case hr => first | (go_simp; done) | (go_simp; rfl)); intro gb146 hg w5 hbox hb; have n0_ := aM_ (blk_below (g := gb145) (o := .cells #[.bool a0_0, .slice A0_1 l0_1.length c0_1, .int .i64 a0_2] 26 (0, 0)) (by (with_reducible repeat (first | refine bN_ ?_ _ | refine bD_ ?_ | refine bA_ ?_ _)); exact BK145.out) hb); have n1_ := aM_ (below_step (by repeat (first | (with_reducible first | exact HB.out | apply bB_ | apply wN_ | apply bE_ | refine bS_ ?_ GE145.out) | exact HB.out)) hb); have n2_ := aM_ (hbox); have n3_ := aM_ ((by rw [hg]; exact (below_size (by repeat (first | (with_reducible first | exact HB.out | apply bB_ | apply wN_ | apply bE_ | refine bS_ ?_ GE145.out) | exact HB.out))) : w.heap.size ≤ gb146)); have n4_ := aM_ ((by rw [hg]; exact (below_size (by repeat (first | (with_reducible first | exact HB.out | apply bB_ | apply wN_ | apply bE_ | refine bS_ ?_ GE145.out) | exact HB.out))) : w.heap.size ≤ gb146)); have n5_ := aM_ ((by rw [hg]; exact Nat.ne_of_lt (blk_lt (g := gb145) (o := .cells #[.bool a0_0, .slice A0_1 l0_1.length c0_1, .int .i64 a0_2] 26 (0, 0)) (by (with_reducible repeat (first | refine bN_ ?_ _ | refine bD_ ?_ | refine bA_ ?_ _)); exact BK145.out)) : gb145 ≠ gb146)); have n6_ := aM_ ((by rw [hg]; exact Nat.ne_of_gt (blk_lt (g := gb145) (o := .cells #[.bool a0_0, .slice A0_1 l0_1.length c0_1, .int .i64 a0_2] 26 (0, 0)) (by (with_reducible repeat (first | refine bN_ ?_ _ | refine bD_ ?_ | refine bA_ ?_ _)); exact BK145.out)) : gb146 ≠ gb145)); clear BK145; clear HB; have BK145 := n0_; have HB := n1_; have BK146 := n2_; have GW146 := n3_; have GE146 := n4_; have NB145_146 := n5_; have NB146_145 := n6_; clear n0_ n1_ n2_ n3_ n4_ n5_ n6_; clear hb hbox hg; have hnb6 := NB145_146.out; have hnc6 := NB146_145.out; have hcz7_0 : w5.cell? ⟨gb145, 0, none⟩ = some (.bool a0_0) := (bC_ BK145.out 0).trans rfl; have hcz7_1 : w5.cell? ⟨gb145, 1, none⟩ = some (.slice A0_1 l0_1.length c0_1) := (bC_ BK145.out 1).trans rfl; have hcz7_2 : w5.cell? ⟨gb145, 2, none⟩ = some (.int .i64 a0_2) := (bC_ BK145.out 2).trans rfl; have hfz7_0 := bF_ BK145.out 0; have hfz7_1 := bF_ BK145.out 1; have hfz7_2 := bF_ BK145.out 2; have hcz8_0 : w5.cell? ⟨gb146, 0, none⟩ = some (.bool a1_0) := (bC_ BK146.out 0).trans rfl; have hcz8_1 : w5.cell? ⟨gb146, 1, none⟩ = some (.slice A1_1 l1_1.length c1_1) := (bC_ BK146.out 1).trans rfl; have hcz8_2 : w5.cell? ⟨gb146, 2, none⟩ = some (.int .i64 a1_2) := (bC_ BK146.out 2).trans rfl; have hfz8_0 := bF_ BK146.out 0; have hfz8_1 := bF_ BK146.out 1; have hfz8_2 := bF_ BK146.out 2)); try go_wp2_with (first | ((with_reducible refine gate_dst (N := 2) rfl ?_); (try (refine gate_guard (by rfl) ?_; dsimp only)); refine box_event ?hg (N := 2) ?hd (cs := #[.bool a0_0, .slice A0_1 l0_1.length c0_1, .int .i64 a0_2]) (t := 26) ?hr ?_; (case hd => rfl); (case hg => rfl); (case hr => first | (go_simp; done) | (go_simp; rfl)); intro gb145 hg w4 hbox hb; have n0_ := aM_ (below_step (by repeat (first | (with_reducible first | exact HB.out | apply bB_ | apply wN_ | apply bE_) | exact HB.out)) hb); have n1_ := aM_ (hbox); have n2_ := aM_ ((by rw [hg]; exact (below_size (by repeat (first | (with_reducible first | exact HB.out | apply bB_ | apply wN_ | apply bE_) | exact HB.out))) : w.heap.size ≤ gb145)); have n3_ := aM_ ((by rw [hg]; exact (below_size (by repeat (first | (with_reducible first | exact HB.out | apply bB_ | apply wN_ | apply bE_) | exact HB.out))) : w.heap.size ≤ gb145)); clear HB; have HB := n0_; have BK145 := n1_; have GW145 := n2_; have GE145 := n3_; clear n0_ n1_ n2_ n3_; clear hb hbox hg) | ((with_reducible refine gate_dst (N := 3) rfl ?_); (try (refine gate_guard (by rfl) ?_; dsimp only)); refine box_event ?hg (N := 3) ?hd (cs := #[.bool a1_0, .slice A1_1 l1_1.length c1_1, .int .i64 a1_2]) (t := 26) ?hr ?_; (case hd => rfl); (case hg => rfl); (case hr => first | (go_simp; done) | (go_simp; rfl)); intro gb146 hg w5 hbox hb; have n0_ := aM_ (blk_below (g := gb145) (o := .cells #[.bool a0_0, .slice A0_1 l0_1.length c0_1, .int .i64 a0_2] 26 (0, 0)) (by (with_reducible repeat (first | refine bN_ ?_ _ | refine bD_ ?_ | refine bA_ ?_ _)); exact BK145.out) hb); have n1_ := aM_ (below_step (by repeat (first | (with_reducible first | exact HB.out | apply bB_ | apply wN_ | apply bE_ | refine bS_ ?_ GE145.out) | exact HB.out)) hb); have n2_ := aM_ (hbox); have n3_ := aM_ ((by rw [hg]; exact (below_size (by repeat (first | (with_reducible first | exact HB.out | apply bB_ | apply wN_ | apply bE_ | refine bS_ ?_ GE145.out) | exact HB.out))) : w.heap.size ≤ gb146)); have n4_ := aM_ ((by rw [hg]; exact (below_size (by repeat (first | (with_reducible first | exact HB.out | apply bB_ | apply wN_ | apply bE_ | refine bS_ ?_ GE145.out) | exact HB.out))) : w.heap.size ≤ gb146)); have n5_ := aM_ ((by rw [hg]; exact Nat.ne_of_lt (blk_lt (g := gb145) (o := .cells #[.bool a0_0, .slice A0_1 l0_1.length c0_1, .int .i64 a0_2] 26 (0, 0)) (by (with_reducible repeat (first | refine bN_ ?_ _ | refine bD_ ?_ | refine bA_ ?_ _)); exact BK145.out)) : gb145 ≠ gb146)); have n6_ := aM_ ((by rw [hg]; exact Nat.ne_of_gt (blk_lt (g := gb145) (o := .cells #[.bool a0_0, .slice A0_1 l0_1.length c0_1, .int .i64 a0_2] 26 (0, 0)) (by (with_reducible repeat (first | refine bN_ ?_ _ | refine bD_ ?_ | refine bA_ ?_ _)); exact BK145.out)) : gb146 ≠ gb145)); clear BK145; clear HB; have BK145 := n0_; have HB := n1_; have BK146 := n2_; have GW146 := n3_; have GE146 := n4_; have NB145_146 := n5_; have NB146_145 := n6_; clear n0_ n1_ n2_ n3_ n4_ n5_ n6_; clear hb hbox hg; have hnb6 := NB145_146.out; have hnc6 := NB146_145.out; have hcz7_0 : w5.cell? ⟨gb145, 0, none⟩ = some (.bool a0_0) := (bC_ BK145.out 0).trans rfl; have hcz7_1 : w5.cell? ⟨gb145, 1, none⟩ = some (.slice A0_1 l0_1.length c0_1) := (bC_ BK145.out 1).trans rfl; have hcz7_2 : w5.cell? ⟨gb145, 2, none⟩ = some (.int .i64 a0_2) := (bC_ BK145.out 2).trans rfl; have hfz7_0 := bF_ BK145.out 0; have hfz7_1 := bF_ BK145.out 1; have hfz7_2 := bF_ BK145.out 2; have hcz8_0 : w5.cell? ⟨gb146, 0, none⟩ = some (.bool a1_0) := (bC_ BK146.out 0).trans rfl; have hcz8_1 : w5.cell? ⟨gb146, 1, none⟩ = some (.slice A1_1 l1_1.length c1_1) := (bC_ BK146.out 1).trans rfl; have hcz8_2 : w5.cell? ⟨gb146, 2, none⟩ = some (.int .i64 a1_2) := (bC_ BK146.out 2).trans rfl; have hfz8_0 := bF_ BK146.out 0; have hfz8_1 := bF_ BK146.out 1; have hfz8_2 := bF_ BK146.out 2)))
  go_loopg [7] k (fun kq v7 w' => ∃ (x7_1 : Int), v7 = .int .i64 x7_1 ∧ Aside0 (spec_larger.l0 kq x7_1 a0_0 l0_1 a0_2 a1_0 l1_1 a1_2 = some r) ∧ Aside0 (kq ≤ k) ∧ Aside0 (w'.heap[gb145]? = some (.cells #[.bool a0_0, (.slice A0_1 l0_1.length c0_1), .int .i64 a0_2] 26 (0, 0))) ∧ Aside0 (w'.heap[gb146]? = some (.cells #[.bool a1_0, (.slice A1_1 l1_1.length c1_1), .int .i64 a1_2] 26 (0, 0))) ∧ Aside0 (Below w.heap.size w w'))
  case atStart => exact ⟨(0), (by first | rfl | (simp; done) | (simp [*]; done)), H', ⟨Nat.le_refl _⟩, ⟨by (with_reducible repeat (first | refine bN_ ?_ _ | refine bD_ ?_ | refine bA_ ?_ _)); exact BK145.out⟩, ⟨by (with_reducible repeat (first | refine bN_ ?_ _ | refine bD_ ?_ | refine bA_ ?_ _)); exact BK146.out⟩, ⟨by repeat (first | (with_reducible first | exact HB.out | apply bB_ | apply wN_ | apply bE_ | refine bS_ ?_ GE145.out | refine bS_ ?_ GE146.out) | exact HB.out)⟩⟩
  case round =>
   clear H'
   try clear c1
   try clear c2
   try clear p2
   try clear c3
   try clear c3b0
   try clear c3b1
   try clear c6
   try clear p6
   try clear hcz7_0
   try clear hcz7_1
   try clear hcz7_2
   try clear hcz8_0
   try clear hcz8_1
   try clear hcz8_2
   try clear hfz7_0
   try clear hfz7_1
   try clear hfz7_2
   try clear hfz8_0
   try clear hfz8_1
   try clear hfz8_2
   obtain ⟨x7_1, rfl, HA, HK1, BK145, BK146, HB⟩ := hrel
   cases gk with
   | zero => exact absurd HA.out (by simp [spec_larger.l0])
   | succ k1 =>
    have H := HA.out
    clear HA
    simp only [spec_larger.l0] at H
    have HC9 := aM_ H
    clear H
    go_upto_region 7 with (fail)
    repeat (go_quiet (fail); go_upto_region 7 with (fail))
    go_cut [39] (fun v39 wc => ∃ (kq : Nat) (x39_8 : Bool), v39 = .bool x39_8 ∧ Aside0 (spec_larger.j1 kq x7_1 x39_8 a0_0 l0_1 a0_2 a1_0 l1_1 a1_2 = some r) ∧ Aside0 (kq ≤ k1) ∧ Aside0 (wc.heap[gb145]? = some (.cells #[.bool a0_0, (.slice A0_1 l0_1.length c0_1), .int .i64 a0_2] 26 (0, 0))) ∧ Aside0 (wc.heap[gb146]? = some (.cells #[.bool a1_0, (.slice A1_1 l1_1.length c1_1), .int .i64 a1_2] 26 (0, 0))) ∧ Aside0 (Below w.heap.size w wc))
    case first =>
     have H := HC9.out
     clear HC9
     by_cases c10 : x7_1 < (l0_1.length : Int)
     ·
      rw [if_pos c10] at H
      have c10b0 : decide (x7_1 < (l0_1.length : Int)) = true := decide_eq_true c10
      clear c10
      (first | rw [c10b0] | (simp only [i64_w, i32_w]; rw [c10b0]) | skip)
      have H' := aM_ H
      clear H
      have hnb11 := NB145_146.out
      have hnc11 := NB146_145.out
      have hcz12_0 : wr.cell? ⟨gb145, 0, none⟩ = some (.bool a0_0) := (bC_ BK145.out 0).trans rfl
      have hcz12_1 : wr.cell? ⟨gb145, 1, none⟩ = some (.slice A0_1 l0_1.length c0_1) := (bC_ BK145.out 1).trans rfl
      have hcz12_2 : wr.cell? ⟨gb145, 2, none⟩ = some (.int .i64 a0_2) := (bC_ BK145.out 2).trans rfl
      have hfz12_0 := bF_ BK145.out 0
      have hfz12_1 := bF_ BK145.out 1
      have hfz12_2 := bF_ BK145.out 2
      go_wp2
      repeat (go_quiet (fail); try go_wp2)
      go_meet
      case rel => exact ⟨_, (true), (by first | rfl | (simp; done) | (simp [*]; done)), H', ⟨by have := HK1.out; first | omega | exact Nat.le_refl _⟩, ⟨by (with_reducible repeat (first | refine bN_ ?_ _ | refine bD_ ?_ | refine bA_ ?_ _)); exact BK145.out⟩, ⟨by (with_reducible repeat (first | refine bN_ ?_ _ | refine bD_ ?_ | refine bA_ ?_ _)); exact BK146.out⟩, ⟨by repeat (first | (with_reducible first | exact HB.out | apply bB_ | apply wN_ | apply bE_ | refine bS_ ?_ GE145.out | refine bS_ ?_ GE146.out) | exact HB.out)⟩⟩
     ·
      rw [if_neg c10] at H
      have c10b0 : decide (x7_1 < (l0_1.length : Int)) = false := decide_eq_false c10
      clear c10
      (first | rw [c10b0] | (simp only [i64_w, i32_w]; rw [c10b0]) | skip)
      have H' := aM_ H
      clear H
      have hnb13 := NB145_146.out
      have hnc13 := NB146_145.out
      have hcz14_0 : wr.cell? ⟨gb145, 0, none⟩ = some (.bool a0_0) := (bC_ BK145.out 0).trans rfl
      have hcz14_1 : wr.cell? ⟨gb145, 1, none⟩ = some (.slice A0_1 l0_1.length c0_1) := (bC_ BK145.out 1).trans rfl
      have hcz14_2 : wr.cell? ⟨gb145, 2, none⟩ = some (.int .i64 a0_2) := (bC_ BK145.out 2).trans rfl
      have hfz14_0 := bF_ BK145.out 0
      have hfz14_1 := bF_ BK145.out 1
      have hfz14_2 := bF_ BK145.out 2
      have hcz15_0 : wr.cell? ⟨gb146, 0, none⟩ = some (.bool a1_0) := (bC_ BK146.out 0).trans rfl
      have hcz15_1 : wr.cell? ⟨gb146, 1, none⟩ = some (.slice A1_1 l1_1.length c1_1) := (bC_ BK146.out 1).trans rfl
      have hcz15_2 : wr.cell? ⟨gb146, 2, none⟩ = some (.int .i64 a1_2) := (bC_ BK146.out 2).trans rfl
      have hfz15_0 := bF_ BK146.out 0
      have hfz15_1 := bF_ BK146.out 1
      have hfz15_2 := bF_ BK146.out 2
      go_wp2
      repeat (go_quiet (fail); try go_wp2)
      go_meet
      case rel => exact ⟨_, (decide (x7_1 < (l1_1.length : Int))), (by first | rfl | (simp; done) | (simp [*]; done)), H', ⟨by have := HK1.out; first | omega | exact Nat.le_refl _⟩, ⟨by (with_reducible repeat (first | refine bN_ ?_ _ | refine bD_ ?_ | refine bA_ ?_ _)); exact BK145.out⟩, ⟨by (with_reducible repeat (first | refine bN_ ?_ _ | refine bD_ ?_ | refine bA_ ?_ _)); exact BK146.out⟩, ⟨by repeat (first | (with_reducible first | exact HB.out | apply bB_ | apply wN_ | apply bE_ | refine bS_ ?_ GE145.out | refine bS_ ?_ GE146.out) | exact HB.out)⟩⟩
    case rest =>
     clear HC9
     try clear c1
     try clear c2
     try clear p2
     try clear c3
     try clear c3b0
     try clear c3b1
     try clear c6
     try clear p6
     try clear c10
     try clear c10b0
     try clear c11
     try clear c13
     try clear hcz12_0
     try clear hcz12_1
     try clear hcz12_2
     try clear hcz14_0
     try clear hcz14_1
     try clear hcz14_2
     try clear hcz15_0
     try clear hcz15_1
     try clear hcz15_2
     try clear hcz7_0
     try clear hcz7_1
     try clear hcz7_2
     try clear hcz8_0
     try clear hcz8_1
     try clear hcz8_2
     try clear hfz12_0
     try clear hfz12_1
     try clear hfz12_2
     try clear hfz14_0
     try clear hfz14_1
     try clear hfz14_2
     try clear hfz15_0
     try clear hfz15_1
     try clear hfz15_2
     try clear hfz7_0
     try clear hfz7_1
     try clear hfz7_2
     try clear hfz8_0
     try clear hfz8_1
     try clear hfz8_2
     try clear p2
     try clear p6
     obtain ⟨kq, x39_8, rfl, HA, HJ8, BK145, BK146, HB⟩ := hcut
     cases kq with
     | zero => exact absurd HA.out (by simp [spec_larger.j1])
     | succ kj8 =>
      have H := HA.out
      clear HA
      simp only [spec_larger.j1] at H
      by_cases c16 : x39_8 = true
      ·
       subst c16
       have H1 : (if x7_1 < (l0_1.length : Int) then (if 0 ≤ x7_1 then (spec_larger.j2 kj8 x7_1 (rd l0_1 x7_1) 0 a0_0 l0_1 a0_2 a1_0 l1_1 a1_2) else (none)) else (spec_larger.j2 kj8 x7_1 0 0 a0_0 l0_1 a0_2 a1_0 l1_1 a1_2)) = some r := by rw [if_pos rfl] at H; exact H
       clear H
       have H := H1
       clear H1
       have HC17 := aM_ H
       clear H
       have hnb18 := NB145_146.out
       have hnc18 := NB146_145.out
       have hcz19_0 : wc.cell? ⟨gb145, 0, none⟩ = some (.bool a0_0) := (bC_ BK145.out 0).trans rfl
       have hcz19_1 : wc.cell? ⟨gb145, 1, none⟩ = some (.slice A0_1 l0_1.length c0_1) := (bC_ BK145.out 1).trans rfl
       have hcz19_2 : wc.cell? ⟨gb145, 2, none⟩ = some (.int .i64 a0_2) := (bC_ BK145.out 2).trans rfl
       have hfz19_0 := bF_ BK145.out 0
       have hfz19_1 := bF_ BK145.out 1
       have hfz19_2 := bF_ BK145.out 2
       go_upto_if 46 with (fail)
       repeat (go_quiet (fail); go_upto_if 46 with (fail))
       go_cut [8] (fun v8 wc => ∃ (kq : Nat) (x8_16 : Int), v8 = .int .i64 x8_16 ∧ Aside0 (spec_larger.j2 kq x7_1 x8_16 0 a0_0 l0_1 a0_2 a1_0 l1_1 a1_2 = some r) ∧ Aside0 (kq ≤ kj8) ∧ Aside0 (wc.heap[gb145]? = some (.cells #[.bool a0_0, (.slice A0_1 l0_1.length c0_1), .int .i64 a0_2] 26 (0, 0))) ∧ Aside0 (wc.heap[gb146]? = some (.cells #[.bool a1_0, (.slice A1_1 l1_1.length c1_1), .int .i64 a1_2] 26 (0, 0))) ∧ Aside0 (Below w.heap.size w wc))
       case first =>
        have H := HC17.out
        clear HC17
        by_cases c20 : x7_1 < (l0_1.length : Int)
        ·
         rw [if_pos c20] at H
         have c20b0 : decide (x7_1 < (l0_1.length : Int)) = true := decide_eq_true c20
         clear c20
         (first | rw [c20b0] | (simp only [i64_w, i32_w]; rw [c20b0]) | skip)
         by_cases c21 : 0 ≤ x7_1
         ·
          rw [if_pos c21] at H
          have c21b0 : decide (0 ≤ x7_1) = true := decide_eq_true c21
          clear c21
          have H' := aM_ H
          clear H
          have hnb22 := NB145_146.out
          have hnc22 := NB146_145.out
          have hcz23_0 : wc.cell? ⟨gb145, 0, none⟩ = some (.bool a0_0) := (bC_ BK145.out 0).trans rfl
          have hcz23_1 : wc.cell? ⟨gb145, 1, none⟩ = some (.slice A0_1 l0_1.length c0_1) := (bC_ BK145.out 1).trans rfl
          have hcz23_2 : wc.cell? ⟨gb145, 2, none⟩ = some (.int .i64 a0_2) := (bC_ BK145.out 2).trans rfl
          have hfz23_0 := bF_ BK145.out 0
          have hfz23_1 := bF_ BK145.out 1
          have hfz23_2 := bF_ BK145.out 2
          have p147 : 0 ≤ (x7_1 : Int) := of_decide_eq_true (by first | (with_reducible assumption) | assumption)
          have q147 : x7_1 < (l0_1.length : Int) := of_decide_eq_true (by first | (with_reducible assumption) | assumption)
          obtain ⟨ad147, e147, hx147_0⟩ := Kd.at_int HR0_1.out x7_1 p147 q147
          cases e147
          replace hx147_0 := (HB.out.cell (World.block_lt_of_cell? w _ hx147_0)).trans hx147_0
          replace p147 := eq_true p147
          replace q147 := eq_true q147
          go_wp2
          repeat (go_quiet (fail); try go_wp2)
          go_meet
          case rel => exact ⟨_, (rd l0_1 x7_1), (by first | rfl | (simp; done) | (simp [*]; done)), H', ⟨by have := HK1.out; have := HJ8.out; first | omega | exact Nat.le_refl _⟩, ⟨by (with_reducible repeat (first | refine bN_ ?_ _ | refine bD_ ?_ | refine bA_ ?_ _)); exact BK145.out⟩, ⟨by (with_reducible repeat (first | refine bN_ ?_ _ | refine bD_ ?_ | refine bA_ ?_ _)); exact BK146.out⟩, ⟨by repeat (first | (with_reducible first | exact HB.out | apply bB_ | apply wN_ | apply bE_ | refine bS_ ?_ GE145.out | refine bS_ ?_ GE146.out) | exact HB.out)⟩⟩
         ·
          rw [if_neg c21] at H
          exact absurd H (by simp)
        ·
         rw [if_neg c20] at H
         have c20b0 : decide (x7_1 < (l0_1.length : Int)) = false := decide_eq_false c20
         clear c20
         (first | rw [c20b0] | (simp only [i64_w, i32_w]; rw [c20b0]) | skip)
         have H' := aM_ H
         clear H
         go_wp2
         repeat (go_quiet (fail); try go_wp2)
         go_meet
         case rel => exact ⟨_, (0), (by first | rfl | (simp; done) | (simp [*]; done)), H', ⟨by have := HK1.out; have := HJ8.out; first | omega | exact Nat.le_refl _⟩, ⟨by (with_reducible repeat (first | refine bN_ ?_ _ | refine bD_ ?_ | refine bA_ ?_ _)); exact BK145.out⟩, ⟨by (with_reducible repeat (first | refine bN_ ?_ _ | refine bD_ ?_ | refine bA_ ?_ _)); exact BK146.out⟩, ⟨by repeat (first | (with_reducible first | exact HB.out | apply bB_ | apply wN_ | apply bE_ | refine bS_ ?_ GE145.out | refine bS_ ?_ GE146.out) | exact HB.out)⟩⟩
       case rest =>
        clear HC17
        try clear c1
        try clear p1
        try clear q1
        try clear hx1
        try clear c2
        try clear p2
        try clear c3
        try clear c3b0
        try clear c3b1
        try clear c6
        try clear p6
        try clear c10
        try clear c10b0
        try clear c11
        try clear c13
        try clear p14
        try clear q14
        try clear hx14
        try clear c16
        try clear c18
        try clear c20
        try clear c20b0
        try clear c21
        try clear c21b0
        try clear c22
        try clear hcz12_0
        try clear hcz12_1
        try clear hcz12_2
        try clear hcz14_0
        try clear hcz14_1
        try clear hcz14_2
        try clear hcz15_0
        try clear hcz15_1
        try clear hcz15_2
        try clear hcz19_0
        try clear hcz19_1
        try clear hcz19_2
        try clear hcz23_0
        try clear hcz23_1
        try clear hcz23_2
        try clear hcz7_0
        try clear hcz7_1
        try clear hcz7_2
        try clear hcz8_0
        try clear hcz8_1
        try clear hcz8_2
        try clear hfz12_0
        try clear hfz12_1
        try clear hfz12_2
        try clear hfz14_0
        try clear hfz14_1
        try clear hfz14_2
        try clear hfz15_0
        try clear hfz15_1
        try clear hfz15_2
        try clear hfz19_0
        try clear hfz19_1
        try clear hfz19_2
        try clear hfz23_0
        try clear hfz23_1
        try clear hfz23_2
        try clear hfz7_0
        try clear hfz7_1
        try clear hfz7_2
        try clear hfz8_0
        try clear hfz8_1
        try clear hfz8_2
        try clear hx147_0
        try clear p147
        try clear p2
        try clear p6
        try clear q147
        obtain ⟨kq, x8_16, rfl, HA, HJ16, BK145, BK146, HB⟩ := hcut
        cases kq with
        | zero => exact absurd HA.out (by simp [spec_larger.j2])
        | succ kj16 =>
         have H := HA.out
         clear HA
         simp only [spec_larger.j2] at H
         have HC24 := aM_ H
         clear H
         have hnb25 := NB146_145.out
         have hnc25 := NB145_146.out
         have hcz26_0 : wc.cell? ⟨gb146, 0, none⟩ = some (.bool a1_0) := (bC_ BK146.out 0).trans rfl
         have hcz26_1 : wc.cell? ⟨gb146, 1, none⟩ = some (.slice A1_1 l1_1.length c1_1) := (bC_ BK146.out 1).trans rfl
         have hcz26_2 : wc.cell? ⟨gb146, 2, none⟩ = some (.int .i64 a1_2) := (bC_ BK146.out 2).trans rfl
         have hfz26_0 := bF_ BK146.out 0
         have hfz26_1 := bF_ BK146.out 1
         have hfz26_2 := bF_ BK146.out 2
         go_upto_if 56 with (fail)
         repeat (go_quiet (fail); go_upto_if 56 with (fail))
         go_cut [9] (fun v9 wc => ∃ (kq : Nat) (x9_23 : Int), v9 = .int .i64 x9_23 ∧ Aside0 (spec_larger.j3 kq x7_1 x8_16 x9_23 a0_0 l0_1 a0_2 a1_0 l1_1 a1_2 = some r) ∧ Aside0 (kq ≤ kj16) ∧ Aside0 (wc.heap[gb145]? = some (.cells #[.bool a0_0, (.slice A0_1 l0_1.length c0_1), .int .i64 a0_2] 26 (0, 0))) ∧ Aside0 (wc.heap[gb146]? = some (.cells #[.bool a1_0, (.slice A1_1 l1_1.length c1_1), .int .i64 a1_2] 26 (0, 0))) ∧ Aside0 (Below w.heap.size w wc))
         case first =>
          have H := HC24.out
          clear HC24
          by_cases c27 : x7_1 < (l1_1.length : Int)
          ·
           rw [if_pos c27] at H
           have c27b0 : decide (x7_1 < (l1_1.length : Int)) = true := decide_eq_true c27
           clear c27
           (first | rw [c27b0] | (simp only [i64_w, i32_w]; rw [c27b0]) | skip)
           by_cases c28 : 0 ≤ x7_1
           ·
            rw [if_pos c28] at H
            have c28b0 : decide (0 ≤ x7_1) = true := decide_eq_true c28
            clear c28
            have H' := aM_ H
            clear H
            have hnb29 := NB146_145.out
            have hnc29 := NB145_146.out
            have hcz30_0 : wc.cell? ⟨gb146, 0, none⟩ = some (.bool a1_0) := (bC_ BK146.out 0).trans rfl
            have hcz30_1 : wc.cell? ⟨gb146, 1, none⟩ = some (.slice A1_1 l1_1.length c1_1) := (bC_ BK146.out 1).trans rfl
            have hcz30_2 : wc.cell? ⟨gb146, 2, none⟩ = some (.int .i64 a1_2) := (bC_ BK146.out 2).trans rfl
            have hfz30_0 := bF_ BK146.out 0
            have hfz30_1 := bF_ BK146.out 1
            have hfz30_2 := bF_ BK146.out 2
            have p148 : 0 ≤ (x7_1 : Int) := of_decide_eq_true (by first | (with_reducible assumption) | assumption)
            have q148 : x7_1 < (l1_1.length : Int) := of_decide_eq_true (by first | (with_reducible assumption) | assumption)
            obtain ⟨ad148, e148, hx148_0⟩ := Kd.at_int HR1_1.out x7_1 p148 q148
            cases e148
            replace hx148_0 := (HB.out.cell (World.block_lt_of_cell? w _ hx148_0)).trans hx148_0
            replace p148 := eq_true p148
            replace q148 := eq_true q148
            go_wp2
            repeat (go_quiet (fail); try go_wp2)
            go_meet
            case rel => exact ⟨_, (rd l1_1 x7_1), (by first | rfl | (simp; done) | (simp [*]; done)), H', ⟨by have := HK1.out; have := HJ8.out; have := HJ16.out; first | omega | exact Nat.le_refl _⟩, ⟨by (with_reducible repeat (first | refine bN_ ?_ _ | refine bD_ ?_ | refine bA_ ?_ _)); exact BK145.out⟩, ⟨by (with_reducible repeat (first | refine bN_ ?_ _ | refine bD_ ?_ | refine bA_ ?_ _)); exact BK146.out⟩, ⟨by repeat (first | (with_reducible first | exact HB.out | apply bB_ | apply wN_ | apply bE_ | refine bS_ ?_ GE145.out | refine bS_ ?_ GE146.out) | exact HB.out)⟩⟩
           ·
            rw [if_neg c28] at H
            exact absurd H (by simp)
          ·
           rw [if_neg c27] at H
           have c27b0 : decide (x7_1 < (l1_1.length : Int)) = false := decide_eq_false c27
           clear c27
           (first | rw [c27b0] | (simp only [i64_w, i32_w]; rw [c27b0]) | skip)
           have H' := aM_ H
           clear H
           go_wp2
           repeat (go_quiet (fail); try go_wp2)
           go_meet
           case rel => exact ⟨_, (0), (by first | rfl | (simp; done) | (simp [*]; done)), H', ⟨by have := HK1.out; have := HJ8.out; have := HJ16.out; first | omega | exact Nat.le_refl _⟩, ⟨by (with_reducible repeat (first | refine bN_ ?_ _ | refine bD_ ?_ | refine bA_ ?_ _)); exact BK145.out⟩, ⟨by (with_reducible repeat (first | refine bN_ ?_ _ | refine bD_ ?_ | refine bA_ ?_ _)); exact BK146.out⟩, ⟨by repeat (first | (with_reducible first | exact HB.out | apply bB_ | apply wN_ | apply bE_ | refine bS_ ?_ GE145.out | refine bS_ ?_ GE146.out) | exact HB.out)⟩⟩
         case rest =>
          clear HC24
          try clear c1
          try clear p1
          try clear q1
          try clear hx1
          try clear c2
          try clear p2
          try clear c3
          try clear c3b0
          try clear c3b1
          try clear c6
          try clear p6
          try clear c10
          try clear c10b0
          try clear c11
          try clear c13
          try clear p14
          try clear q14
          try clear hx14
          try clear c16
          try clear c18
          try clear c20
          try clear c20b0
          try clear c21
          try clear c21b0
          try clear c22
          try clear c25
          try clear c27
          try clear c27b0
          try clear c28
          try clear c28b0
          try clear c29
          try clear hcz12_0
          try clear hcz12_1
          try clear hcz12_2
          try clear hcz14_0
          try clear hcz14_1
          try clear hcz14_2
          try clear hcz15_0
          try clear hcz15_1
          try clear hcz15_2
          try clear hcz19_0
          try clear hcz19_1
          try clear hcz19_2
          try clear hcz23_0
          try clear hcz23_1
          try clear hcz23_2
          try clear hcz26_0
          try clear hcz26_1
          try clear hcz26_2
          try clear hcz30_0
          try clear hcz30_1
          try clear hcz30_2
          try clear hcz7_0
          try clear hcz7_1
          try clear hcz7_2
          try clear hcz8_0
          try clear hcz8_1
          try clear hcz8_2
          try clear hfz12_0
          try clear hfz12_1
          try clear hfz12_2
          try clear hfz14_0
          try clear hfz14_1
          try clear hfz14_2
          try clear hfz15_0
          try clear hfz15_1
          try clear hfz15_2
          try clear hfz19_0
          try clear hfz19_1
          try clear hfz19_2
          try clear hfz23_0
          try clear hfz23_1
          try clear hfz23_2
          try clear hfz26_0
          try clear hfz26_1
          try clear hfz26_2
          try clear hfz30_0
          try clear hfz30_1
          try clear hfz30_2
          try clear hfz7_0
          try clear hfz7_1
          try clear hfz7_2
          try clear hfz8_0
          try clear hfz8_1
          try clear hfz8_2
          try clear hx147_0
          try clear hx148_0
          try clear p1
          try clear p14
          try clear p147
          try clear p148
          try clear p2
          try clear p6
          try clear q1
          try clear q14
          try clear q147
          try clear q148
          obtain ⟨kq, x9_23, rfl, HA, HJ23, BK145, BK146, HB⟩ := hcut
          cases kq with
          | zero => exact absurd HA.out (by simp [spec_larger.j3])
          | succ kj23 =>
           have H := HA.out
           clear HA
           simp only [spec_larger.j3] at H
           by_cases c31 : x8_16 = x9_23
           ·
            rw [if_pos c31] at H
            have c31b0 : (x8_16 == x9_23) = true := beq_iff_eq.mpr c31
            have c31b1 : (x8_16 != x9_23) = false := bne_eq_false_iff_eq.mpr c31
            clear c31
            have H' := aM_ H
            clear H
            go_wp2
            repeat (go_quiet (fail); try go_wp2)
            go_roundg kj23
            case measure => have := HK1.out; have := HJ8.out; have := HJ16.out; have := HJ23.out; omega
            case rel => exact ⟨(wrap64 (x7_1 + 1)), (by first | rfl | (simp; done) | (simp [*]; done)), H', ⟨by have := HK1.out; have := HJ8.out; have := HJ16.out; have := HJ23.out; omega⟩, ⟨by (with_reducible repeat (first | refine bN_ ?_ _ | refine bD_ ?_ | refine bA_ ?_ _)); exact BK145.out⟩, ⟨by (with_reducible repeat (first | refine bN_ ?_ _ | refine bD_ ?_ | refine bA_ ?_ _)); exact BK146.out⟩, ⟨by repeat (first | (with_reducible first | exact HB.out | apply bB_ | apply wN_ | apply bE_ | refine bS_ ?_ GE145.out | refine bS_ ?_ GE146.out) | exact HB.out)⟩⟩
           ·
            rw [if_neg c31] at H
            have c31b0 : (x8_16 == x9_23) = false := beq_eq_false_iff_ne.mpr c31
            have c31b1 : (x8_16 != x9_23) = true := bne_iff_ne.mpr c31
            by_cases c32 : x8_16 < x9_23
            ·
             rw [if_pos c32] at H
             have c32b0 : decide (x8_16 < x9_23) = true := decide_eq_true c32
             clear c32
             obtain rfl := Option.some.inj H
             go_wp2
             repeat (go_quiet (fail); try go_wp2)
             go_ret
             exact ⟨by first | rfl | (simp [errW_none, errW_some] <;> rfl) | (simp [*, errW_none, errW_some] <;> rfl) | (exfalso; contradiction), by repeat (first | (with_reducible first | exact HB.out | apply bB_ | apply wN_ | apply bE_ | refine bS_ ?_ GE145.out | refine bS_ ?_ GE146.out) | exact HB.out)⟩
            ·
             rw [if_neg c32] at H
             have c32b0 : decide (x8_16 < x9_23) = false := decide_eq_false c32
             clear c32
             obtain rfl := Option.some.inj H
             go_wp2
             repeat (go_quiet (fail); try go_wp2)
             go_ret
             exact ⟨by first | rfl | (simp [errW_none, errW_some] <;> rfl) | (simp [*, errW_none, errW_some] <;> rfl) | (exfalso; contradiction), by repeat (first | (with_reducible first | exact HB.out | apply bB_ | apply wN_ | apply bE_ | refine bS_ ?_ GE145.out | refine bS_ ?_ GE146.out) | exact HB.out)⟩
      ·
       replace c16 := Bool.eq_false_iff.mpr c16
       subst c16
       have H1 : (some 0) = some r := by rw [if_neg (show ¬ (false = true) by decide)] at H; exact H
       clear H
       have H := H1
       clear H1
       obtain rfl := Option.some.inj H
       go_wp2
       repeat (go_quiet (fail); try go_wp2)
       go_ret
       exact ⟨by first | rfl | (simp [errW_none, errW_some] <;> rfl) | (simp [*, errW_none, errW_some] <;> rfl) | (exfalso; contradiction), by repeat (first | (with_reducible first | exact HB.out | apply bB_ | apply wN_ | apply bE_ | refine bS_ ?_ GE145.out | refine bS_ ?_ GE146.out) | exact HB.out)⟩
 ·
  rw [if_neg c3] at H
  have c3b0 : ((wrap64 ((l0_1.length : Int) + a0_2)) == (wrap64 ((l1_1.length : Int) + a1_2))) = false := beq_eq_false_iff_ne.mpr c3
  have c3b1 : ((wrap64 ((l0_1.length : Int) + a0_2)) != (wrap64 ((l1_1.length : Int) + a1_2))) = true := bne_iff_ne.mpr c3
  by_cases c33 : (wrap64 ((l0_1.length : Int) + a0_2)) < (wrap64 ((l1_1.length : Int) + a1_2))
  ·
   rw [if_pos c33] at H
   have c33b0 : decide ((wrap64 ((l0_1.length : Int) + a0_2)) < (wrap64 ((l1_1.length : Int) + a1_2))) = true := decide_eq_true c33
   clear c33
   obtain rfl := Option.some.inj H
   go_enter Try.func21, Try.ntmps21
   go_wp2_with (first | ((with_reducible refine gate_dst (N := 2) rfl ?_); (try (refine gate_guard (by rfl) ?_; dsimp only)); refine box_event ?hg (N := 2) ?hd (cs := #[.bool a0_0, .slice A0_1 l0_1.length c0_1, .int .i64 a0_2]) (t := 26) ?hr ?_; (case hd => rfl); (case hg => rfl); (case hr => first | (go_simp; done) | (go_simp; rfl)); intro gb145 hg w34 hbox hb; have n0_ := aM_ (below_step (by repeat (first | (with_reducible first | exact HB.out | apply bB_ | apply wN_ | apply bE_) | exact HB.out)) hb); have n1_ := aM_ (hbox); have n2_ := aM_ ((by rw [hg]; exact (below_size (by repeat (first | (with_reducible first | exact HB.out | apply bB_ | apply wN_ | apply bE_) | exact HB.out))) : w.heap.size ≤ gb145)); have n3_ := aM_ ((by rw [hg]; exact (below_size (by repeat (first | (with_reducible first | exact HB.out | apply bB_ | apply wN_ | apply bE_) | exact HB.out))) : w.heap.size ≤ gb145)); clear HB; have HB := n0_; have BK145 := n1_; have GW145 := n2_; have GE145 := n3_; clear n0_ n1_ n2_ n3_; clear hb hbox hg) | ((with_reducible refine gate_dst (N := 3) rfl ?_); (try (refine gate_guard (by rfl) ?_; dsimp only)); refine box_event ?hg (N := 3) ?hd (cs := #[.bool a1_0, .slice A1_1 l1_1.length c1_1, .int .i64 a1_2]) (t := 26) ?hr ?_; (case hd => rfl); (case hg => rfl); (case hr => first | (go_simp; done) | (go_simp; rfl)); intro gb146 hg w35 hbox hb; have n0_ := aM_ (blk_below (g := gb145) (o := .cells #[.bool a0_0, .slice A0_1 l0_1.length c0_1, .int .i64 a0_2] 26 (0, 0)) (by (with_reducible repeat (first | refine bN_ ?_ _ | refine bD_ ?_ | refine bA_ ?_ _)); exact BK145.out) hb); have n1_ := aM_ (below_step (by repeat (first | (with_reducible first | exact HB.out | apply bB_ | apply wN_ | apply bE_ | refine bS_ ?_ GE145.out) | exact HB.out)) hb); have n2_ := aM_ (hbox); have n3_ := aM_ ((by rw [hg]; exact (below_size (by repeat (first | (with_reducible first | exact HB.out | apply bB_ | apply wN_ | apply bE_ | refine bS_ ?_ GE145.out) | exact HB.out))) : w.heap.size ≤ gb146)); have n4_ := aM_ ((by rw [hg]; exact (below_size (by repeat (first | (with_reducible first | exact HB.out | apply bB_ | apply wN_ | apply bE_ | refine bS_ ?_ GE145.out) | exact HB.out))) : w.heap.size ≤ gb146)); have n5_ := aM_ ((by rw [hg]; exact Nat.ne_of_lt (blk_lt (g := gb145) (o := .cells #[.bool a0_0, .slice A0_1 l0_1.length c0_1, .int .i64 a0_2] 26 (0, 0)) (by (with_reducible repeat (first | refine bN_ ?_ _ | refine bD_ ?_ | refine bA_ ?_ _)); exact BK145.out)) : gb145 ≠ gb146)); have n6_ := aM_ ((by rw [hg]; exact Nat.ne_of_gt (blk_lt (g := gb145) (o := .cells #[.bool a0_0, .slice A0_1 l0_1.length c0_1, .int .i64 a0_2] 26 (0, 0)) (by (with_reducible repeat (first | refine bN_ ?_ _ | refine bD_ ?_ | refine bA_ ?_ _)); exact BK145.out)) : gb146 ≠ gb145)); clear BK145; clear HB; have BK145 := n0_; have HB := n1_; have BK146 := n2_; have GW146 := n3_; have GE146 := n4_; have NB145_146 := n5_; have NB146_145 := n6_; clear n0_ n1_ n2_ n3_ n4_ n5_ n6_; clear hb hbox hg; have hnb36 := NB145_146.out; have hnc36 := NB146_145.out; have hcz37_0 : w35.cell? ⟨gb145, 0, none⟩ = some (.bool a0_0) := (bC_ BK145.out 0).trans rfl; have hcz37_1 : w35.cell? ⟨gb145, 1, none⟩ = some (.slice A0_1 l0_1.length c0_1) := (bC_ BK145.out 1).trans rfl; have hcz37_2 : w35.cell? ⟨gb145, 2, none⟩ = some (.int .i64 a0_2) := (bC_ BK145.out 2).trans rfl; have hfz37_0 := bF_ BK145.out 0; have hfz37_1 := bF_ BK145.out 1; have hfz37_2 := bF_ BK145.out 2; have hcz38_0 : w35.cell? ⟨gb146, 0, none⟩ = some (.bool a1_0) := (bC_ BK146.out 0).trans rfl; have hcz38_1 : w35.cell? ⟨gb146, 1, none⟩ = some (.slice A1_1 l1_1.length c1_1) := (bC_ BK146.out 1).trans rfl; have hcz38_2 : w35.cell? ⟨gb146, 2, none⟩ = some (.int .i64 a1_2) := (bC_ BK146.out 2).trans rfl; have hfz38_0 := bF_ BK146.out 0; have hfz38_1 := bF_ BK146.out 1; have hfz38_2 := bF_ BK146.out 2))
   repeat (go_quiet (first | ((with_reducible refine gate_dst (N := 2) rfl ?_); (try (refine gate_guard (by rfl) ?_; dsimp only)); refine box_event ?hg (N := 2) ?hd (cs := #[.bool a0_0, .slice A0_1 l0_1.length c0_1, .int .i64 a0_2]) (t := 26) ?hr ?_; (case hd => rfl); (case hg => rfl); (case hr => first | (go_simp; done) | (go_simp; rfl)); intro gb145 hg w34 hbox hb; have n0_ := aM_ (below_step (by repeat (first | (with_reducible first | exact HB.out | apply bB_ | apply wN_ | apply bE_) | exact HB.out)) hb); have n1_ := aM_ (hbox); have n2_ := aM_ ((by rw [hg]; exact (below_size (by repeat (first | (with_reducible first | exact HB.out | apply bB_ | apply wN_ | apply bE_) | exact HB.out))) : w.heap.size ≤ gb145)); have n3_ := aM_ ((by rw [hg]; exact (below_size (by repeat (first | (with_reducible first | exact HB.out | apply bB_ | apply wN_ | apply bE_) | exact HB.out))) : w.heap.size ≤ gb145)); clear HB; have HB := n0_; have BK145 := n1_; have GW145 := n2_; have GE145 := n3_; clear n0_ n1_ n2_ n3_; clear hb hbox hg) | ((with_reducible refine gate_dst (N := 3) rfl ?_); (try (refine gate_guard (by rfl) ?_; dsimp only)); refine box_event ?hg (N := 3) ?hd (cs := #[.bool a1_0, .slice A1_1 l1_1.length c1_1, .int .i64 a1_2]) (t := 26) ?hr ?_; (case hd => rfl); (case hg => rfl); (case hr => first | (go_simp; done) | (go_simp; rfl)); intro gb146 hg w35 hbox hb; have n0_ := aM_ (blk_below (g := gb145) (o := .cells #[.bool a0_0, .slice A0_1 l0_1.length c0_1, .int .i64 a0_2] 26 (0, 0)) (by (with_reducible repeat (first | refine bN_ ?_ _ | refine bD_ ?_ | refine bA_ ?_ _)); exact BK145.out) hb); have n1_ := aM_ (below_step (by repeat (first | (with_reducible first | exact HB.out | apply bB_ | apply wN_ | apply bE_ | refine bS_ ?_ GE145.out) | exact HB.out)) hb); have n2_ := aM_ (hbox); have n3_ := aM_ ((by rw [hg]; exact (below_size (by repeat (first | (with_reducible first | exact HB.out | apply bB_ | apply wN_ | apply bE_ | refine bS_ ?_ GE145.out) | exact HB.out))) : w.heap.size ≤ gb146)); have n4_ := aM_ ((by rw [hg]; exact (below_size (by repeat (first | (with_reducible first | exact HB.out | apply bB_ | apply wN_ | apply bE_ | refine bS_ ?_ GE145.out) | exact HB.out))) : w.heap.size ≤ gb146)); have n5_ := aM_ ((by rw [hg]; exact Nat.ne_of_lt (blk_lt (g := gb145) (o := .cells #[.bool a0_0, .slice A0_1 l0_1.length c0_1, .int .i64 a0_2] 26 (0, 0)) (by (with_reducible repeat (first | refine bN_ ?_ _ | refine bD_ ?_ | refine bA_ ?_ _)); exact BK145.out)) : gb145 ≠ gb146)); have n6_ := aM_ ((by rw [hg]; exact Nat.ne_of_gt (blk_lt (g := gb145) (o := .cells #[.bool a0_0, .slice A0_1 l0_1.length c0_1, .int .i64 a0_2] 26 (0, 0)) (by (with_reducible repeat (first | refine bN_ ?_ _ | refine bD_ ?_ | refine bA_ ?_ _)); exact BK145.out)) : gb146 ≠ gb145)); clear BK145; clear HB; have BK145 := n0_; have HB := n1_; have BK146 := n2_; have GW146 := n3_; have GE146 := n4_; have NB145_146 := n5_; have NB146_145 := n6_; clear n0_ n1_ n2_ n3_ n4_ n5_ n6_; clear hb hbox hg; have hnb36 := NB145_146.out; have hnc36 := NB146_145.out; have hcz37_0 : w35.cell? ⟨gb145, 0, none⟩ = some (.bool a0_0) := (bC_ BK145.out 0).trans rfl; have hcz37_1 : w35.cell? ⟨gb145, 1, none⟩ = some (.slice A0_1 l0_1.length c0_1) := (bC_ BK145.out 1).trans rfl; have hcz37_2 : w35.cell? ⟨gb145, 2, none⟩ = some (.int .i64 a0_2) := (bC_ BK145.out 2).trans rfl; have hfz37_0 := bF_ BK145.out 0; have hfz37_1 := bF_ BK145.out 1; have hfz37_2 := bF_ BK145.out 2; have hcz38_0 : w35.cell? ⟨gb146, 0, none⟩ = some (.bool a1_0) := (bC_ BK146.out 0).trans rfl; have hcz38_1 : w35.cell? ⟨gb146, 1, none⟩ = some (.slice A1_1 l1_1.length c1_1) := (bC_ BK146.out 1).trans rfl; have hcz38_2 : w35.cell? ⟨gb146, 2, none⟩ = some (.int .i64 a1_2) := (bC_ BK146.out 2).trans rfl; have hfz38_0 := bF_ BK146.out 0; have hfz38_1 := bF_ BK146.out 1; have hfz38_2 := bF_ BK146.out 2)); try go_wp2_with (first | ((with_reducible refine gate_dst (N := 2) rfl ?_); (try (refine gate_guard (by rfl) ?_; dsimp only)); refine box_event ?hg (N := 2) ?hd (cs := #[.bool a0_0, .slice A0_1 l0_1.length c0_1, .int .i64 a0_2]) (t := 26) ?hr ?_; (case hd => rfl); (case hg => rfl); (case hr => first | (go_simp; done) | (go_simp; rfl)); intro gb145 hg w34 hbox hb; have n0_ := aM_ (below_step (by repeat (first | (with_reducible first | exact HB.out | apply bB_ | apply wN_ | apply bE_) | exact HB.out)) hb); have n1_ := aM_ (hbox); have n2_ := aM_ ((by rw [hg]; exact (below_size (by repeat (first | (with_reducible first | exact HB.out | apply bB_ | apply wN_ | apply bE_) | exact HB.out))) : w.heap.size ≤ gb145)); have n3_ := aM_ ((by rw [hg]; exact (below_size (by repeat (first | (with_reducible first | exact HB.out | apply bB_ | apply wN_ | apply bE_) | exact HB.out))) : w.heap.size ≤ gb145)); clear HB; have HB := n0_; have BK145 := n1_; have GW145 := n2_; have GE145 := n3_; clear n0_ n1_ n2_ n3_; clear hb hbox hg) | ((with_reducible refine gate_dst (N := 3) rfl ?_); (try (refine gate_guard (by rfl) ?_; dsimp only)); refine box_event ?hg (N := 3) ?hd (cs := #[.bool a1_0, .slice A1_1 l1_1.length c1_1, .int .i64 a1_2]) (t := 26) ?hr ?_; (case hd => rfl); (case hg => rfl); (case hr => first | (go_simp; done) | (go_simp; rfl)); intro gb146 hg w35 hbox hb; have n0_ := aM_ (blk_below (g := gb145) (o := .cells #[.bool a0_0, .slice A0_1 l0_1.length c0_1, .int .i64 a0_2] 26 (0, 0)) (by (with_reducible repeat (first | refine bN_ ?_ _ | refine bD_ ?_ | refine bA_ ?_ _)); exact BK145.out) hb); have n1_ := aM_ (below_step (by repeat (first | (with_reducible first | exact HB.out | apply bB_ | apply wN_ | apply bE_ | refine bS_ ?_ GE145.out) | exact HB.out)) hb); have n2_ := aM_ (hbox); have n3_ := aM_ ((by rw [hg]; exact (below_size (by repeat (first | (with_reducible first | exact HB.out | apply bB_ | apply wN_ | apply bE_ | refine bS_ ?_ GE145.out) | exact HB.out))) : w.heap.size ≤ gb146)); have n4_ := aM_ ((by rw [hg]; exact (below_size (by repeat (first | (with_reducible first | exact HB.out | apply bB_ | apply wN_ | apply bE_ | refine bS_ ?_ GE145.out) | exact HB.out))) : w.heap.size ≤ gb146)); have n5_ := aM_ ((by rw [hg]; exact Nat.ne_of_lt (blk_lt (g := gb145) (o := .cells #[.bool a0_0, .slice A0_1 l0_1.length c0_1, .int .i64 a0_2] 26 (0, 0)) (by (with_reducible repeat (first | refine bN_ ?_ _ | refine bD_ ?_ | refine bA_ ?_ _)); exact BK145.out)) : gb145 ≠ gb146)); have n6_ := aM_ ((by rw [hg]; exact Nat.ne_of_gt (blk_lt (g := gb145) (o := .cells #[.bool a0_0, .slice A0_1 l0_1.length c0_1, .int .i64 a0_2] 26 (0, 0)) (by (with_reducible repeat (first | refine bN_ ?_ _ | refine bD_ ?_ | refine bA_ ?_ _)); exact BK145.out)) : gb146 ≠ gb145)); clear BK145; clear HB; have BK145 := n0_; have HB := n1_; have BK146 := n2_; have GW146 := n3_; have GE146 := n4_; have NB145_146 := n5_; have NB146_145 := n6_; clear n0_ n1_ n2_ n3_ n4_ n5_ n6_; clear hb hbox hg; have hnb36 := NB145_146.out; have hnc36 := NB146_145.out; have hcz37_0 : w35.cell? ⟨gb145, 0, none⟩ = some (.bool a0_0) := (bC_ BK145.out 0).trans rfl; have hcz37_1 : w35.cell? ⟨gb145, 1, none⟩ = some (.slice A0_1 l0_1.length c0_1) := (bC_ BK145.out 1).trans rfl; have hcz37_2 : w35.cell? ⟨gb145, 2, none⟩ = some (.int .i64 a0_2) := (bC_ BK145.out 2).trans rfl; have hfz37_0 := bF_ BK145.out 0; have hfz37_1 := bF_ BK145.out 1; have hfz37_2 := bF_ BK145.out 2; have hcz38_0 : w35.cell? ⟨gb146, 0, none⟩ = some (.bool a1_0) := (bC_ BK146.out 0).trans rfl; have hcz38_1 : w35.cell? ⟨gb146, 1, none⟩ = some (.slice A1_1 l1_1.length c1_1) := (bC_ BK146.out 1).trans rfl; have hcz38_2 : w35.cell? ⟨gb146, 2, none⟩ = some (.int .i64 a1_2) := (bC_ BK146.out 2).trans rfl; have hfz38_0 := bF_ BK146.out 0; have hfz38_1 := bF_ BK146.out 1; have hfz38_2 := bF_ BK146.out 2)))
   go_ret
   exact ⟨by first | rfl | (simp [errW_none, errW_some] <;> rfl) | (simp [*, errW_none, errW_some] <;> rfl) | (exfalso; contradiction), by repeat (first | (with_reducible first | exact HB.out | apply bB_ | apply wN_ | apply bE_ | refine bS_ ?_ GE145.out | refine bS_ ?_ GE146.out) | exact HB.out)⟩
  ·
   rw [if_neg c33] at H
   have c33b0 : decide ((wrap64 ((l0_1.length : Int) + a0_2)) < (wrap64 ((l1_1.length : Int) + a1_2))) = false := decide_eq_false c33
   clear c33
   obtain rfl := Option.some.inj H
   go_enter Try.func21, Try.ntmps21
   go_wp2_with (first | ((with_reducible refine gate_dst (N := 2) rfl ?_); (try (refine gate_guard (by rfl) ?_; dsimp only)); refine box_event ?hg (N := 2) ?hd (cs := #[.bool a0_0, .slice A0_1 l0_1.length c0_1, .int .i64 a0_2]) (t := 26) ?hr ?_; (case hd => rfl); (case hg => rfl); (case hr => first | (go_simp; done) | (go_simp; rfl)); intro gb145 hg w39 hbox hb; have n0_ := aM_ (below_step (by repeat (first | (with_reducible first | exact HB.out | apply bB_ | apply wN_ | apply bE_) | exact HB.out)) hb); have n1_ := aM_ (hbox); have n2_ := aM_ ((by rw [hg]; exact (below_size (by repeat (first | (with_reducible first | exact HB.out | apply bB_ | apply wN_ | apply bE_) | exact HB.out))) : w.heap.size ≤ gb145)); have n3_ := aM_ ((by rw [hg]; exact (below_size (by repeat (first | (with_reducible first | exact HB.out | apply bB_ | apply wN_ | apply bE_) | exact HB.out))) : w.heap.size ≤ gb145)); clear HB; have HB := n0_; have BK145 := n1_; have GW145 := n2_; have GE145 := n3_; clear n0_ n1_ n2_ n3_; clear hb hbox hg) | ((with_reducible refine gate_dst (N := 3) rfl ?_); (try (refine gate_guard (by rfl) ?_; dsimp only)); refine box_event ?hg (N := 3) ?hd (cs := #[.bool a1_0, .slice A1_1 l1_1.length c1_1, .int .i64 a1_2]) (t := 26) ?hr ?_; (case hd => rfl); (case hg => rfl); (case hr => first | (go_simp; done) | (go_simp; rfl)); intro gb146 hg w40 hbox hb; have n0_ := aM_ (blk_below (g := gb145) (o := .cells #[.bool a0_0, .slice A0_1 l0_1.length c0_1, .int .i64 a0_2] 26 (0, 0)) (by (with_reducible repeat (first | refine bN_ ?_ _ | refine bD_ ?_ | refine bA_ ?_ _)); exact BK145.out) hb); have n1_ := aM_ (below_step (by repeat (first | (with_reducible first | exact HB.out | apply bB_ | apply wN_ | apply bE_ | refine bS_ ?_ GE145.out) | exact HB.out)) hb); have n2_ := aM_ (hbox); have n3_ := aM_ ((by rw [hg]; exact (below_size (by repeat (first | (with_reducible first | exact HB.out | apply bB_ | apply wN_ | apply bE_ | refine bS_ ?_ GE145.out) | exact HB.out))) : w.heap.size ≤ gb146)); have n4_ := aM_ ((by rw [hg]; exact (below_size (by repeat (first | (with_reducible first | exact HB.out | apply bB_ | apply wN_ | apply bE_ | refine bS_ ?_ GE145.out) | exact HB.out))) : w.heap.size ≤ gb146)); have n5_ := aM_ ((by rw [hg]; exact Nat.ne_of_lt (blk_lt (g := gb145) (o := .cells #[.bool a0_0, .slice A0_1 l0_1.length c0_1, .int .i64 a0_2] 26 (0, 0)) (by (with_reducible repeat (first | refine bN_ ?_ _ | refine bD_ ?_ | refine bA_ ?_ _)); exact BK145.out)) : gb145 ≠ gb146)); have n6_ := aM_ ((by rw [hg]; exact Nat.ne_of_gt (blk_lt (g := gb145) (o := .cells #[.bool a0_0, .slice A0_1 l0_1.length c0_1, .int .i64 a0_2] 26 (0, 0)) (by (with_reducible repeat (first | refine bN_ ?_ _ | refine bD_ ?_ | refine bA_ ?_ _)); exact BK145.out)) : gb146 ≠ gb145)); clear BK145; clear HB; have BK145 := n0_; have HB := n1_; have BK146 := n2_; have GW146 := n3_; have GE146 := n4_; have NB145_146 := n5_; have NB146_145 := n6_; clear n0_ n1_ n2_ n3_ n4_ n5_ n6_; clear hb hbox hg; have hnb41 := NB145_146.out; have hnc41 := NB146_145.out; have hcz42_0 : w40.cell? ⟨gb145, 0, none⟩ = some (.bool a0_0) := (bC_ BK145.out 0).trans rfl; have hcz42_1 : w40.cell? ⟨gb145, 1, none⟩ = some (.slice A0_1 l0_1.length c0_1) := (bC_ BK145.out 1).trans rfl; have hcz42_2 : w40.cell? ⟨gb145, 2, none⟩ = some (.int .i64 a0_2) := (bC_ BK145.out 2).trans rfl; have hfz42_0 := bF_ BK145.out 0; have hfz42_1 := bF_ BK145.out 1; have hfz42_2 := bF_ BK145.out 2; have hcz43_0 : w40.cell? ⟨gb146, 0, none⟩ = some (.bool a1_0) := (bC_ BK146.out 0).trans rfl; have hcz43_1 : w40.cell? ⟨gb146, 1, none⟩ = some (.slice A1_1 l1_1.length c1_1) := (bC_ BK146.out 1).trans rfl; have hcz43_2 : w40.cell? ⟨gb146, 2, none⟩ = some (.int .i64 a1_2) := (bC_ BK146.out 2).trans rfl; have hfz43_0 := bF_ BK146.out 0; have hfz43_1 := bF_ BK146.out 1; have hfz43_2 := bF_ BK146.out 2))
   repeat (go_quiet (first | ((with_reducible refine gate_dst (N := 2) rfl ?_); (try (refine gate_guard (by rfl) ?_; dsimp only)); refine box_event ?hg (N := 2) ?hd (cs := #[.bool a0_0, .slice A0_1 l0_1.length c0_1, .int .i64 a0_2]) (t := 26) ?hr ?_; (case hd => rfl); (case hg => rfl); (case hr => first | (go_simp; done) | (go_simp; rfl)); intro gb145 hg w39 hbox hb; have n0_ := aM_ (below_step (by repeat (first | (with_reducible first | exact HB.out | apply bB_ | apply wN_ | apply bE_) | exact HB.out)) hb); have n1_ := aM_ (hbox); have n2_ := aM_ ((by rw [hg]; exact (below_size (by repeat (first | (with_reducible first | exact HB.out | apply bB_ | apply wN_ | apply bE_) | exact HB.out))) : w.heap.size ≤ gb145)); have n3_ := aM_ ((by rw [hg]; exact (below_size (by repeat (first | (with_reducible first | exact HB.out | apply bB_ | apply wN_ | apply bE_) | exact HB.out))) : w.heap.size ≤ gb145)); clear HB; have HB := n0_; have BK145 := n1_; have GW145 := n2_; have GE145 := n3_; clear n0_ n1_ n2_ n3_; clear hb hbox hg) | ((with_reducible refine gate_dst (N := 3) rfl ?_); (try (refine gate_guard (by rfl) ?_; dsimp only)); refine box_event ?hg (N := 3) ?hd (cs := #[.bool a1_0, .slice A1_1 l1_1.length c1_1, .int .i64 a1_2]) (t := 26) ?hr ?_; (case hd => rfl); (case hg => rfl); (case hr => first | (go_simp; done) | (go_simp; rfl)); intro gb146 hg w40 hbox hb; have n0_ := aM_ (blk_below (g := gb145) (o := .cells #[.bool a0_0, .slice A0_1 l0_1.length c0_1, .int .i64 a0_2] 26 (0, 0)) (by (with_reducible repeat (first | refine bN_ ?_ _ | refine bD_ ?_ | refine bA_ ?_ _)); exact BK145.out) hb); have n1_ := aM_ (below_step (by repeat (first | (with_reducible first | exact HB.out | apply bB_ | apply wN_ | apply bE_ | refine bS_ ?_ GE145.out) | exact HB.out)) hb); have n2_ := aM_ (hbox); have n3_ := aM_ ((by rw [hg]; exact (below_size (by repeat (first | (with_reducible first | exact HB.out | apply bB_ | apply wN_ | apply bE_ | refine bS_ ?_ GE145.out) | exact HB.out))) : w.heap.size ≤ gb146)); have n4_ := aM_ ((by rw [hg]; exact (below_size (by repeat (first | (with_reducible first | exact HB.out | apply bB_ | apply wN_ | apply bE_ | refine bS_ ?_ GE145.out) | exact HB.out))) : w.heap.size ≤ gb146)); have n5_ := aM_ ((by rw [hg]; exact Nat.ne_of_lt (blk_lt (g := gb145) (o := .cells #[.bool a0_0, .slice A0_1 l0_1.length c0_1, .int .i64 a0_2] 26 (0, 0)) (by (with_reducible repeat (first | refine bN_ ?_ _ | refine bD_ ?_ | refine bA_ ?_ _)); exact BK145.out)) : gb145 ≠ gb146)); have n6_ := aM_ ((by rw [hg]; exact Nat.ne_of_gt (blk_lt (g := gb145) (o := .cells #[.bool a0_0, .slice A0_1 l0_1.length c0_1, .int .i64 a0_2] 26 (0, 0)) (by (with_reducible repeat (first | refine bN_ ?_ _ | refine bD_ ?_ | refine bA_ ?_ _)); exact BK145.out)) : gb146 ≠ gb145)); clear BK145; clear HB; have BK145 := n0_; have HB := n1_; have BK146 := n2_; have GW146 := n3_; have GE146 := n4_; have NB145_146 := n5_; have NB146_145 := n6_; clear n0_ n1_ n2_ n3_ n4_ n5_ n6_; clear hb hbox hg; have hnb41 := NB145_146.out; have hnc41 := NB146_145.out; have hcz42_0 : w40.cell? ⟨gb145, 0, none⟩ = some (.bool a0_0) := (bC_ BK145.out 0).trans rfl; have hcz42_1 : w40.cell? ⟨gb145, 1, none⟩ = some (.slice A0_1 l0_1.length c0_1) := (bC_ BK145.out 1).trans rfl; have hcz42_2 : w40.cell? ⟨gb145, 2, none⟩ = some (.int .i64 a0_2) := (bC_ BK145.out 2).trans rfl; have hfz42_0 := bF_ BK145.out 0; have hfz42_1 := bF_ BK145.out 1; have hfz42_2 := bF_ BK145.out 2; have hcz43_0 : w40.cell? ⟨gb146, 0, none⟩ = some (.bool a1_0) := (bC_ BK146.out 0).trans rfl; have hcz43_1 : w40.cell? ⟨gb146, 1, none⟩ = some (.slice A1_1 l1_1.length c1_1) := (bC_ BK146.out 1).trans rfl; have hcz43_2 : w40.cell? ⟨gb146, 2, none⟩ = some (.int .i64 a1_2) := (bC_ BK146.out 2).trans rfl; have hfz43_0 := bF_ BK146.out 0; have hfz43_1 := bF_ BK146.out 1; have hfz43_2 := bF_ BK146.out 2)); try go_wp2_with (first | ((with_reducible refine gate_dst (N := 2) rfl ?_); (try (refine gate_guard (by rfl) ?_; dsimp only)); refine box_event ?hg (N := 2) ?hd (cs := #[.bool a0_0, .slice A0_1 l0_1.length c0_1, .int .i64 a0_2]) (t := 26) ?hr ?_; (case hd => rfl); (case hg => rfl); (case hr => first | (go_simp; done) | (go_simp; rfl)); intro gb145 hg w39 hbox hb; have n0_ := aM_ (below_step (by repeat (first | (with_reducible first | exact HB.out | apply bB_ | apply wN_ | apply bE_) | exact HB.out)) hb); have n1_ := aM_ (hbox); have n2_ := aM_ ((by rw [hg]; exact (below_size (by repeat (first | (with_reducible first | exact HB.out | apply bB_ | apply wN_ | apply bE_) | exact HB.out))) : w.heap.size ≤ gb145)); have n3_ := aM_ ((by rw [hg]; exact (below_size (by repeat (first | (with_reducible first | exact HB.out | apply bB_ | apply wN_ | apply bE_) | exact HB.out))) : w.heap.size ≤ gb145)); clear HB; have HB := n0_; have BK145 := n1_; have GW145 := n2_; have GE145 := n3_; clear n0_ n1_ n2_ n3_; clear hb hbox hg) | ((with_reducible refine gate_dst (N := 3) rfl ?_); (try (refine gate_guard (by rfl) ?_; dsimp only)); refine box_event ?hg (N := 3) ?hd (cs := #[.bool a1_0, .slice A1_1 l1_1.length c1_1, .int .i64 a1_2]) (t := 26) ?hr ?_; (case hd => rfl); (case hg => rfl); (case hr => first | (go_simp; done) | (go_simp; rfl)); intro gb146 hg w40 hbox hb; have n0_ := aM_ (blk_below (g := gb145) (o := .cells #[.bool a0_0, .slice A0_1 l0_1.length c0_1, .int .i64 a0_2] 26 (0, 0)) (by (with_reducible repeat (first | refine bN_ ?_ _ | refine bD_ ?_ | refine bA_ ?_ _)); exact BK145.out) hb); have n1_ := aM_ (below_step (by repeat (first | (with_reducible first | exact HB.out | apply bB_ | apply wN_ | apply bE_ | refine bS_ ?_ GE145.out) | exact HB.out)) hb); have n2_ := aM_ (hbox); have n3_ := aM_ ((by rw [hg]; exact (below_size (by repeat (first | (with_reducible first | exact HB.out | apply bB_ | apply wN_ | apply bE_ | refine bS_ ?_ GE145.out) | exact HB.out))) : w.heap.size ≤ gb146)); have n4_ := aM_ ((by rw [hg]; exact (below_size (by repeat (first | (with_reducible first | exact HB.out | apply bB_ | apply wN_ | apply bE_ | refine bS_ ?_ GE145.out) | exact HB.out))) : w.heap.size ≤ gb146)); have n5_ := aM_ ((by rw [hg]; exact Nat.ne_of_lt (blk_lt (g := gb145) (o := .cells #[.bool a0_0, .slice A0_1 l0_1.length c0_1, .int .i64 a0_2] 26 (0, 0)) (by (with_reducible repeat (first | refine bN_ ?_ _ | refine bD_ ?_ | refine bA_ ?_ _)); exact BK145.out)) : gb145 ≠ gb146)); have n6_ := aM_ ((by rw [hg]; exact Nat.ne_of_gt (blk_lt (g := gb145) (o := .cells #[.bool a0_0, .slice A0_1 l0_1.length c0_1, .int .i64 a0_2] 26 (0, 0)) (by (with_reducible repeat (first | refine bN_ ?_ _ | refine bD_ ?_ | refine bA_ ?_ _)); exact BK145.out)) : gb146 ≠ gb145)); clear BK145; clear HB; have BK145 := n0_; have HB := n1_; have BK146 := n2_; have GW146 := n3_; have GE146 := n4_; have NB145_146 := n5_; have NB146_145 := n6_; clear n0_ n1_ n2_ n3_ n4_ n5_ n6_; clear hb hbox hg; have hnb41 := NB145_146.out; have hnc41 := NB146_145.out; have hcz42_0 : w40.cell? ⟨gb145, 0, none⟩ = some (.bool a0_0) := (bC_ BK145.out 0).trans rfl; have hcz42_1 : w40.cell? ⟨gb145, 1, none⟩ = some (.slice A0_1 l0_1.length c0_1) := (bC_ BK145.out 1).trans rfl; have hcz42_2 : w40.cell? ⟨gb145, 2, none⟩ = some (.int .i64 a0_2) := (bC_ BK145.out 2).trans rfl; have hfz42_0 := bF_ BK145.out 0; have hfz42_1 := bF_ BK145.out 1; have hfz42_2 := bF_ BK145.out 2; have hcz43_0 : w40.cell? ⟨gb146, 0, none⟩ = some (.bool a1_0) := (bC_ BK146.out 0).trans rfl; have hcz43_1 : w40.cell? ⟨gb146, 1, none⟩ = some (.slice A1_1 l1_1.length c1_1) := (bC_ BK146.out 1).trans rfl; have hcz43_2 : w40.cell? ⟨gb146, 2, none⟩ = some (.int .i64 a1_2) := (bC_ BK146.out 2).trans rfl; have hfz43_0 := bF_ BK146.out 0; have hfz43_1 := bF_ BK146.out 1; have hfz43_2 := bF_ BK146.out 2)))
   go_ret
   exact ⟨by first | rfl | (simp [errW_none, errW_some] <;> rfl) | (simp [*, errW_none, errW_some] <;> rfl) | (exfalso; contradiction), by repeat (first | (with_reducible first | exact HB.out | apply bB_ | apply wN_ | apply bE_ | refine bS_ ?_ GE145.out | refine bS_ ?_ GE146.out) | exact HB.out)⟩

/-! ### spec_DecimalSign: function 26 -/
def spec_DecimalSign.f (a0_0 : Bool) (l0_1 : List Int) (a0_2 : Int) : Option (Int) := if (l0_1.length : Int) = 0 then (some 0) else (if a0_0 = true then (some (-1)) else (some 1))
set_option maxHeartbeats 8000000 in
set_option maxRecDepth 100000 in
theorem spec_DecimalSign.calls (a0_0 : Bool) (A0_1 : Option Addr) (c0_1 : Nat) (l0_1 : List Int) (a0_2 : Int) (r : Int) (w : World) (hr0_1 : Kd.C (Kd.int .i64) w A0_1 l0_1.length l0_1) (hc0_1 : l0_1.length ≤ c0_1) (h : spec_DecimalSign.f a0_0 l0_1 a0_2 = some r) :
  Calls Try.prog 26 #[.agg #[.bool a0_0, .slice A0_1 l0_1.length c0_1, .int .i64 a0_2]] w fun e w' => e = .returned (.int .i64 r) ∧ Below w.heap.size w w' := by
 have hu26 := Try.underlying26
 have HR0_1 := aM_ hr0_1
 have HC0_1 := aM_ hc0_1
 clear hr0_1 hc0_1
 have HB := aM_ (Below.refl w.heap.size w)
 have H : (if (l0_1.length : Int) = 0 then (some 0) else (if a0_0 = true then (some (-1)) else (some 1))) = some r := h
 clear h
 by_cases c2 : (l0_1.length : Int) = 0
 ·
  rw [if_pos c2] at H
  have c2b0 : ((l0_1.length : Int) == 0) = true := beq_iff_eq.mpr c2
  have c2b1 : ((l0_1.length : Int) != 0) = false := bne_eq_false_iff_eq.mpr c2
  clear c2
  obtain rfl := Option.some.inj H
  go_enter Try.func26, Try.ntmps26
  go_wp2_with (first | ((with_reducible refine gate_dst (N := 1) rfl ?_); refine box_event ?hg (N := 1) ?hd (cs := #[.bool a0_0, .slice A0_1 l0_1.length c0_1, .int .i64 a0_2]) (t := 26) ?hr ?_; (case hd => rfl); (case hg => rfl); (case hr => first | (go_simp; done) | (go_simp; rfl)); intro gb149 hg w3 hbox hb; have n0_ := aM_ (below_step (by repeat (first | (with_reducible first | exact HB.out | apply bB_ | apply wN_ | apply bE_) | exact HB.out)) hb); have n1_ := aM_ (hbox); have n2_ := aM_ ((by rw [hg]; exact (below_size (by repeat (first | (with_reducible first | exact HB.out | apply bB_ | apply wN_ | apply bE_) | exact HB.out))) : w.heap.size ≤ gb149)); have n3_ := aM_ ((by rw [hg]; exact (below_size (by repeat (first | (with_reducible first | exact HB.out | apply bB_ | apply wN_ | apply bE_) | exact HB.out))) : w.heap.size ≤ gb149)); clear HB; have HB := n0_; have BK149 := n1_; have GW149 := n2_; have GE149 := n3_; clear n0_ n1_ n2_ n3_; clear hb hbox hg; have hcz4_0 : w3.cell? ⟨gb149, 0, none⟩ = some (.bool a0_0) := (bC_ BK149.out 0).trans rfl; have hcz4_1 : w3.cell? ⟨gb149, 1, none⟩ = some (.slice A0_1 l0_1.length c0_1) := (bC_ BK149.out 1).trans rfl; have hcz4_2 : w3.cell? ⟨gb149, 2, none⟩ = some (.int .i64 a0_2) := (bC_ BK149.out 2).trans rfl; have hfz4_0 := bF_ BK149.out 0; have hfz4_1 := bF_ BK149.out 1; have hfz4_2 := bF_ BK149.out 2))
  go_ret
  exact ⟨by first | rfl | (simp [errW_none, errW_some] <;> rfl) | (simp [*, errW_none, errW_some] <;> rfl) | (exfalso; contradiction), by repeat (first | (with_reducible first | exact HB.out | apply bB_ | apply wN_ | apply bE_ | refine bS_ ?_ GE149.out) | exact HB.out)⟩
 ·
  rw [if_neg c2] at H
  have c2b0 : ((l0_1.length : Int) == 0) = false := beq_eq_false_iff_ne.mpr c2
  have c2b1 : ((l0_1.length : Int) != 0) = true := bne_iff_ne.mpr c2
  have c2b2 : ¬ (l0_1 = []) := fun h_ => c2 (by rw [h_]; rfl)
  by_cases c5 : a0_0 = true
  ·
   subst c5
   have H1 : (some (-1)) = some r := by rw [if_pos rfl] at H; exact H
   clear H
   have H := H1
   clear H1
   obtain rfl := Option.some.inj H
   go_enter Try.func26, Try.ntmps26
   go_wp2_with (first | ((with_reducible refine gate_dst (N := 1) rfl ?_); refine box_event ?hg (N := 1) ?hd (cs := #[.bool true, .slice A0_1 l0_1.length c0_1, .int .i64 a0_2]) (t := 26) ?hr ?_; (case hd => rfl); (case hg => rfl); (case hr => first | (go_simp; done) | (go_simp; rfl)); intro gb149 hg w6 hbox hb; have n0_ := aM_ (below_step (by repeat (first | (with_reducible first | exact HB.out | apply bB_ | apply wN_ | apply bE_) | exact HB.out)) hb); have n1_ := aM_ (hbox); have n2_ := aM_ ((by rw [hg]; exact (below_size (by repeat (first | (with_reducible first | exact HB.out | apply bB_ | apply wN_ | apply bE_) | exact HB.out))) : w.heap.size ≤ gb149)); have n3_ := aM_ ((by rw [hg]; exact (below_size (by repeat (first | (with_reducible first | exact HB.out | apply bB_ | apply wN_ | apply bE_) | exact HB.out))) : w.heap.size ≤ gb149)); clear HB; have HB := n0_; have BK149 := n1_; have GW149 := n2_; have GE149 := n3_; clear n0_ n1_ n2_ n3_; clear hb hbox hg; have hcz7_0 : w6.cell? ⟨gb149, 0, none⟩ = some (.bool true) := (bC_ BK149.out 0).trans rfl; have hcz7_1 : w6.cell? ⟨gb149, 1, none⟩ = some (.slice A0_1 l0_1.length c0_1) := (bC_ BK149.out 1).trans rfl; have hcz7_2 : w6.cell? ⟨gb149, 2, none⟩ = some (.int .i64 a0_2) := (bC_ BK149.out 2).trans rfl; have hfz7_0 := bF_ BK149.out 0; have hfz7_1 := bF_ BK149.out 1; have hfz7_2 := bF_ BK149.out 2))
   go_ret
   exact ⟨by first | rfl | (simp [errW_none, errW_some] <;> rfl) | (simp [*, errW_none, errW_some] <;> rfl) | (exfalso; contradiction), by repeat (first | (with_reducible first | exact HB.out | apply bB_ | apply wN_ | apply bE_ | refine bS_ ?_ GE149.out) | exact HB.out)⟩
  ·
   replace c5 := Bool.eq_false_iff.mpr c5
   subst c5
   have H1 : (some 1) = some r := by rw [if_neg (show ¬ (false = true) by decide)] at H; exact H
   clear H
   have H := H1
   clear H1
   obtain rfl := Option.some.inj H
   go_enter Try.func26, Try.ntmps26
   go_wp2_with (first | ((with_reducible refine gate_dst (N := 1) rfl ?_); refine box_event ?hg (N := 1) ?hd (cs := #[.bool false, .slice A0_1 l0_1.length c0_1, .int .i64 a0_2]) (t := 26) ?hr ?_; (case hd => rfl); (case hg => rfl); (case hr => first | (go_simp; done) | (go_simp; rfl)); intro gb149 hg w8 hbox hb; have n0_ := aM_ (below_step (by repeat (first | (with_reducible first | exact HB.out | apply bB_ | apply wN_ | apply bE_) | exact HB.out)) hb); have n1_ := aM_ (hbox); have n2_ := aM_ ((by rw [hg]; exact (below_size (by repeat (first | (with_reducible first | exact HB.out | apply bB_ | apply wN_ | apply bE_) | exact HB.out))) : w.heap.size ≤ gb149)); have n3_ := aM_ ((by rw [hg]; exact (below_size (by repeat (first | (with_reducible first | exact HB.out | apply bB_ | apply wN_ | apply bE_) | exact HB.out))) : w.heap.size ≤ gb149)); clear HB; have HB := n0_; have BK149 := n1_; have GW149 := n2_; have GE149 := n3_; clear n0_ n1_ n2_ n3_; clear hb hbox hg; have hcz9_0 : w8.cell? ⟨gb149, 0, none⟩ = some (.bool false) := (bC_ BK149.out 0).trans rfl; have hcz9_1 : w8.cell? ⟨gb149, 1, none⟩ = some (.slice A0_1 l0_1.length c0_1) := (bC_ BK149.out 1).trans rfl; have hcz9_2 : w8.cell? ⟨gb149, 2, none⟩ = some (.int .i64 a0_2) := (bC_ BK149.out 2).trans rfl; have hfz9_0 := bF_ BK149.out 0; have hfz9_1 := bF_ BK149.out 1; have hfz9_2 := bF_ BK149.out 2))
   go_ret
   exact ⟨by first | rfl | (simp [errW_none, errW_some] <;> rfl) | (simp [*, errW_none, errW_some] <;> rfl) | (exfalso; contradiction), by repeat (first | (with_reducible first | exact HB.out | apply bB_ | apply wN_ | apply bE_ | refine bS_ ?_ GE149.out) | exact HB.out)⟩

end Go.Proofs.Ytdhooibmibkbeaa.PFnAmountMul
