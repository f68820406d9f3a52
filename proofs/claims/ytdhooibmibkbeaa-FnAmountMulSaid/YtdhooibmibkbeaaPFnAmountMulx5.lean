/- Functions of the program as plain Lean functions, and that the machine's calls do what these say: written for this claim by wip/myprint.py over the kit's print.py. -/
import Derived.Test.YtdhooibmibkbeaaPFnAmountMulx0
import Derived.Test.YtdhooibmibkbeaaPFnAmountMulx1
namespace Go.Proofs.Ytdhooibmibkbeaa.PFnAmountMul
open Go.RowKit Go.Proofs.YtdhooibmibkbeaaW.PrintWords Go.Proofs.YtdhooibmibkbeaaW.PrintLast Go.Proofs.YtdhooibmibkbeaaW.PrintMore
attribute [local go_sem] max2_int min2_int max_two min_two max_three min_three max_four min_four   -- for this text's walks alone
set_option linter.unusedVariables false
set_option linter.unusedSimpArgs false

/-! ### spec_DecimalTimes: function 11 -/
mutual
def spec_DecimalTimes.l0 : Nat → List Int → Int → Int → Bool → List Int → Int → Bool → List Int → Int → Option (Bool × List Int × Int)
 | 0, _, _, _, _, _, _, _, _, _ => none
 | k + 1, x5, x20, x21, x182000, x182001, x182002, x183000, x183001, x183002 => if x21 < x20 then (spec_DecimalTimes.l1 k x5 x21 x20 x21 (x183001.length : Int) 0 x182000 x182001 x182002 x183000 x183001 x183002) else (spec_DecimalTimes.l2 k x5 (wrap64 ((x5.length : Int) - 1)) x182000 x182001 x182002 x183000 x183001 x183002)
def spec_DecimalTimes.l1 : Nat → List Int → Int → Int → Int → Int → Int → Bool → List Int → Int → Bool → List Int → Int → Option (Bool × List Int × Int)
 | 0, _, _, _, _, _, _, _, _, _, _, _, _ => none
 | k + 1, x5, x6, x20, x21, x26, x27, x182000, x182001, x182002, x183000, x183001, x183002 => if x27 < x26 then (if 0 ≤ (wrap64 ((wrap64 (x6 + x27)) + 2)) then (if (wrap64 ((wrap64 (x6 + x27)) + 2)) < (x5.length : Int) then (if 0 ≤ x6 then (if x6 < (x182001.length : Int) then (if 0 ≤ x27 then (if x27 < (x183001.length : Int) then (spec_DecimalTimes.l1 k (x5.set ((wrap64 ((wrap64 (x6 + x27)) + 2)) : Int).toNat (wrap64 ((rd x5 (wrap64 ((wrap64 (x6 + x27)) + 2))) + (wrap64 ((rd x182001 x6) * (rd x183001 x27)))))) x6 x20 x21 x26 (wrap64 (x27 + 1)) x182000 x182001 x182002 x183000 x183001 x183002) else (none)) else (none)) else (none)) else (none)) else (none)) else (none)) else (spec_DecimalTimes.l0 k x5 x20 (wrap64 (x21 + 1)) x182000 x182001 x182002 x183000 x183001 x183002)
def spec_DecimalTimes.l2 : Nat → List Int → Int → Bool → List Int → Int → Bool → List Int → Int → Option (Bool × List Int × Int)
 | 0, _, _, _, _, _, _, _, _ => none
 | k + 1, x5, x8, x182000, x182001, x182002, x183000, x183001, x183002 => if x8 > 0 then (if 0 ≤ (wrap64 (x8 - 1)) then (if (wrap64 (x8 - 1)) < (x5.length : Int) then (if 0 ≤ x8 then (if x8 < (x5.length : Int) then ((some (x5.set ((wrap64 (x8 - 1)) : Int).toNat (wrap64 ((rd x5 (wrap64 (x8 - 1))) + (wrap64 (Int.tdiv (rd x5 x8) 10)))) : List Int)).bind fun y193 => (spec_DecimalTimes.l2 k (y193.set (x8 : Int).toNat (Int.tmod (rd y193 x8) 10)) (wrap64 (x8 - 1)) x182000 x182001 x182002 x183000 x183001 x183002)) else (none)) else (none)) else (none)) else (none)) else ((spec_decimal.f k (x182000 != x183000) x5 (wrap64 (x182002 + x183002))).bind fun bt196 => (some (bt196.1, bt196.2.1, bt196.2.2)))
end
def spec_DecimalTimes.f (k : Nat) (a0_0 : Bool) (l0_1 : List Int) (a0_2 : Int) (a1_0 : Bool) (l1_1 : List Int) (a1_2 : Int) : Option (Bool × List Int × Int) := if 0 ≤ (wrap64 ((wrap64 ((l0_1.length : Int) + (l1_1.length : Int))) + 1)) then (if (wrap64 ((wrap64 ((l0_1.length : Int) + (l1_1.length : Int))) + 1) : Int).toNat ≤ 35184372088832 then (spec_DecimalTimes.l0 k (List.replicate (wrap64 ((wrap64 ((l0_1.length : Int) + (l1_1.length : Int))) + 1) : Int).toNat 0) (l0_1.length : Int) 0 a0_0 l0_1 a0_2 a1_0 l1_1 a1_2) else (none)) else (none)
theorem spec_DecimalTimes.mono_l : ∀ k, (∀ y0 y1 y2 y3 y4 y5 y6 y7 y8, LeO (spec_DecimalTimes.l0 k y0 y1 y2 y3 y4 y5 y6 y7 y8) (spec_DecimalTimes.l0 (k + 1) y0 y1 y2 y3 y4 y5 y6 y7 y8)) ∧ (∀ y0 y1 y2 y3 y4 y5 y6 y7 y8 y9 y10 y11, LeO (spec_DecimalTimes.l1 k y0 y1 y2 y3 y4 y5 y6 y7 y8 y9 y10 y11) (spec_DecimalTimes.l1 (k + 1) y0 y1 y2 y3 y4 y5 y6 y7 y8 y9 y10 y11)) ∧ (∀ y0 y1 y2 y3 y4 y5 y6 y7, LeO (spec_DecimalTimes.l2 k y0 y1 y2 y3 y4 y5 y6 y7) (spec_DecimalTimes.l2 (k + 1) y0 y1 y2 y3 y4 y5 y6 y7))
 | 0 => ⟨fun _ _ _ _ _ _ _ _ _ r h => by simp [spec_DecimalTimes.l0] at h, fun _ _ _ _ _ _ _ _ _ _ _ _ r h => by simp [spec_DecimalTimes.l1] at h, fun _ _ _ _ _ _ _ _ r h => by simp [spec_DecimalTimes.l2] at h⟩
 | k + 1 => by
  obtain ⟨ih0, ih1, ih2⟩ := spec_DecimalTimes.mono_l k
  refine ⟨?_, ?_, ?_⟩
  ·
   intro y0 y1 y2 y3 y4 y5 y6 y7 y8
   unfold spec_DecimalTimes.l0
   repeat' first
   | (with_reducible exact ih0 _ _ _ _ _ _ _ _ _)
   | (with_reducible exact ih1 _ _ _ _ _ _ _ _ _ _ _ _)
   | (with_reducible exact ih2 _ _ _ _ _ _ _ _)
   | (with_reducible exact spec_decimal.mono _ _ _ _)
   | (with_reducible exact LeO.refl _)
   | (with_reducible exact LeO.none _)
   | (with_reducible refine LeO.ite ?_ ?_)
   | (with_reducible refine LeO.bind ?_ (fun _ => ?_))
   | exact ih0 _ _ _ _ _ _ _ _ _
   | exact ih1 _ _ _ _ _ _ _ _ _ _ _ _
   | exact ih2 _ _ _ _ _ _ _ _
   | exact spec_decimal.mono _ _ _ _
   | exact LeO.none _
   | refine LeO.ite ?_ ?_
   | refine LeO.bind ?_ (fun _ => ?_)
  ·
   intro y0 y1 y2 y3 y4 y5 y6 y7 y8 y9 y10 y11
   unfold spec_DecimalTimes.l1
   repeat' first
   | (with_reducible exact ih0 _ _ _ _ _ _ _ _ _)
   | (with_reducible exact ih1 _ _ _ _ _ _ _ _ _ _ _ _)
   | (with_reducible exact ih2 _ _ _ _ _ _ _ _)
   | (with_reducible exact spec_decimal.mono _ _ _ _)
   | (with_reducible exact LeO.refl _)
   | (with_reducible exact LeO.none _)
   | (with_reducible refine LeO.ite ?_ ?_)
   | (with_reducible refine LeO.bind ?_ (fun _ => ?_))
   | exact ih0 _ _ _ _ _ _ _ _ _
   | exact ih1 _ _ _ _ _ _ _ _ _ _ _ _
   | exact ih2 _ _ _ _ _ _ _ _
   | exact spec_decimal.mono _ _ _ _
   | exact LeO.none _
   | refine LeO.ite ?_ ?_
   | refine LeO.bind ?_ (fun _ => ?_)
  ·
   intro y0 y1 y2 y3 y4 y5 y6 y7
   unfold spec_DecimalTimes.l2
   repeat' first
   | (with_reducible exact ih0 _ _ _ _ _ _ _ _ _)
   | (with_reducible exact ih1 _ _ _ _ _ _ _ _ _ _ _ _)
   | (with_reducible exact ih2 _ _ _ _ _ _ _ _)
   | (with_reducible exact spec_decimal.mono _ _ _ _)
   | (with_reducible exact LeO.refl _)
   | (with_reducible exact LeO.none _)
   | (with_reducible refine LeO.ite ?_ ?_)
   | (with_reducible refine LeO.bind ?_ (fun _ => ?_))
   | exact ih0 _ _ _ _ _ _ _ _ _
   | exact ih1 _ _ _ _ _ _ _ _ _ _ _ _
   | exact ih2 _ _ _ _ _ _ _ _
   | exact spec_decimal.mono _ _ _ _
   | exact LeO.none _
   | refine LeO.ite ?_ ?_
   | refine LeO.bind ?_ (fun _ => ?_)
theorem spec_DecimalTimes.mono : ∀ a0 a1 a2 a3 a4 a5 k, LeO (spec_DecimalTimes.f k a0 a1 a2 a3 a4 a5) (spec_DecimalTimes.f (k + 1) a0 a1 a2 a3 a4 a5) := by
 intro a0 a1 a2 a3 a4 a5 k
 obtain ⟨ih0, ih1, ih2⟩ := spec_DecimalTimes.mono_l k
 unfold spec_DecimalTimes.f
 repeat' first
   | (with_reducible exact ih0 _ _ _ _ _ _ _ _ _)
   | (with_reducible exact ih1 _ _ _ _ _ _ _ _ _ _ _ _)
   | (with_reducible exact ih2 _ _ _ _ _ _ _ _)
   | (with_reducible exact spec_decimal.mono _ _ _ _)
   | (with_reducible exact LeO.refl _)
   | (with_reducible exact LeO.none _)
   | (with_reducible refine LeO.ite ?_ ?_)
   | (with_reducible refine LeO.bind ?_ (fun _ => ?_))
   | exact ih0 _ _ _ _ _ _ _ _ _
   | exact ih1 _ _ _ _ _ _ _ _ _ _ _ _
   | exact ih2 _ _ _ _ _ _ _ _
   | exact spec_decimal.mono _ _ _ _
   | exact LeO.none _
   | refine LeO.ite ?_ ?_
   | refine LeO.bind ?_ (fun _ => ?_)
def spec_DecimalTimes.T8 : Bool × List (List Nat × List Nat) := (true, [([], []), ([], []), ([], []), ([1, 2], [1, 2]), ([3], [3]), ([0, 4], [0, 4]), ([5], [5]), ([], []), ([7], [7]), ([], []), ([8, 9], [8, 9]), ([10], [10]), ([], []), ([12], [12]), ([], []), ([13, 14], [13, 14]), ([15], [15]), ([11, 16], [11, 16]), ([6, 17], [6, 17]), ([0, 4, 0, 1, 2, 3, 4, 5, 6, 7, 8, 9, 10, 11, 12, 13, 14, 15, 16, 17, 18], [0, 4]), ([19, 18, 0, 1, 2, 3, 4, 5, 6, 7, 8, 9, 10, 11, 12, 13, 14, 15, 16, 17, 18], [18, 19])])
def spec_DecimalTimes.B8 : List Nat := [0, 0, 0, 6, 14, 31, 63, 0, 128, 0, 896, 1920, 0, 4096, 0, 28672, 61440, 130944, 262143, 524287, 1048575]
theorem spec_DecimalTimes.tab8 : rtab .any (opsOf Try.f11 8) = spec_DecimalTimes.T8 := by kernel_rfl
theorem spec_DecimalTimes.bits8 : waitsOk spec_DecimalTimes.T8.2 spec_DecimalTimes.B8 = true := by kernel_rfl
def spec_DecimalTimes.T14 : Bool × List (List Nat × List Nat) := (true, [([], []), ([], []), ([1], [1]), ([0, 2], [0, 2]), ([3], [3]), ([], []), ([], []), ([5, 6], [5, 6]), ([7], [7]), ([8], [8]), ([4, 9], [4, 9]), ([0, 2, 0, 1, 2, 3, 4, 5, 6, 7, 8, 9, 10], [0, 2]), ([11, 10, 0, 1, 2, 3, 4, 5, 6, 7, 8, 9, 10], [10, 11])])
def spec_DecimalTimes.B14 : List Nat := [0, 0, 2, 7, 15, 0, 0, 96, 224, 480, 1023, 2047, 4095]
theorem spec_DecimalTimes.tab14 : rtab .any (opsOf Try.f11 14) = spec_DecimalTimes.T14 := by kernel_rfl
theorem spec_DecimalTimes.bits14 : waitsOk spec_DecimalTimes.T14.2 spec_DecimalTimes.B14 = true := by kernel_rfl
set_option maxHeartbeats 8000000 in
set_option maxRecDepth 100000 in
theorem spec_DecimalTimes.calls (k : Nat) (a0_0 : Bool) (A0_1 : Option Addr) (c0_1 : Nat) (l0_1 : List Int) (a0_2 : Int) (a1_0 : Bool) (A1_1 : Option Addr) (c1_1 : Nat) (l1_1 : List Int) (a1_2 : Int) (r1 : Bool) (r2 : List Int) (r3 : Int) (w : World) (hr0_1 : Kd.C (Kd.int .i64) w A0_1 l0_1.length l0_1) (hc0_1 : l0_1.length ≤ c0_1) (hr1_1 : Kd.C (Kd.int .i64) w A1_1 l1_1.length l1_1) (hc1_1 : l1_1.length ≤ c1_1) (h : spec_DecimalTimes.f k a0_0 l0_1 a0_2 a1_0 l1_1 a1_2 = some (r1, r2, r3)) :
  Calls Try.prog 11 #[.agg #[.bool a0_0, .slice A0_1 l0_1.length c0_1, .int .i64 a0_2], .agg #[.bool a1_0, .slice A1_1 l1_1.length c1_1, .int .i64 a1_2]] w fun e w' => ∃ v1_ : Value, e = .returned (.agg #[.bool r1, v1_, .int .i64 r3]) ∧ Kd.R (Kd.int .i64) 3 w' w.heap.size (fun _ => True) v1_ r2 ∧ Below w.heap.size w w' := by
 have hu26 := Try.underlying26
 have HR0_1 := aM_ hr0_1
 have HC0_1 := aM_ hc0_1
 clear hr0_1 hc0_1
 have HR1_1 := aM_ hr1_1
 have HC1_1 := aM_ hc1_1
 clear hr1_1 hc1_1
 have HB := aM_ (Below.refl w.heap.size w)
 have H : (if 0 ≤ (wrap64 ((wrap64 ((l0_1.length : Int) + (l1_1.length : Int))) + 1)) then (if (wrap64 ((wrap64 ((l0_1.length : Int) + (l1_1.length : Int))) + 1) : Int).toNat ≤ 35184372088832 then (spec_DecimalTimes.l0 k (List.replicate (wrap64 ((wrap64 ((l0_1.length : Int) + (l1_1.length : Int))) + 1) : Int).toNat 0) (l0_1.length : Int) 0 a0_0 l0_1 a0_2 a1_0 l1_1 a1_2) else (none)) else (none)) = some (r1, r2, r3) := h
 clear h
 obtain ⟨ji3, hji3⟩ : ∃ j_ : Int, (wrap64 ((wrap64 ((l0_1.length : Int) + (l1_1.length : Int))) + 1)) = j_ := ⟨_, rfl⟩
 replace H : (if 0 ≤ (ji3) then (if (ji3 : Int).toNat ≤ 35184372088832 then (spec_DecimalTimes.l0 k (List.replicate (ji3 : Int).toNat 0) (l0_1.length : Int) 0 a0_0 l0_1 a0_2 a1_0 l1_1 a1_2) else (none)) else (none)) = some (r1, r2, r3) := by first | (rw [hji3] at H; exact H) | (simp only [hji3] at H ⊢; exact H)
 have hji3w : (IntKind.i64.wrap ((wrap64 ((l0_1.length : Int) + (l1_1.length : Int))) + 1)) = ji3 := (i64_w _).trans hji3
 by_cases c4 : 0 ≤ (ji3)
 ·
  rw [if_pos c4] at H
  have c4b0 := eq_true c4
  have c4b1 : decide (0 ≤ (ji3)) = true := decide_eq_true c4
  clear c4
  by_cases c5 : (ji3 : Int).toNat ≤ 35184372088832
  ·
   rw [if_pos c5] at H
   have c5b0 := eq_true c5
   have c5b1 : decide ((ji3 : Int).toNat ≤ 35184372088832) = true := decide_eq_true c5
   clear c5
   obtain ⟨y184, hy184⟩ : ∃ y_ : List Int, y_ = (List.replicate (ji3 : Int).toNat 0) := ⟨_, rfl⟩
   replace H : (spec_DecimalTimes.l0 k y184 (l0_1.length : Int) 0 a0_0 l0_1 a0_2 a1_0 l1_1 a1_2) = some (r1, r2, r3) := by first | (rw [hy184]; with_reducible exact H) | (have H2_ := (Option.bind_some _ _).symm.trans H; rw [hy184]; with_reducible exact H2_) | (have H2_ := (Option.bind_some _ _).symm.trans H; with_reducible exact H2_) | with_reducible exact H | (rw [hy184]; exact H) | exact H
   have Ny184 := aM_ hy184
   clear hy184
   have H' := aM_ H
   clear H
   go_enter Try.func11, Try.ntmps11
   go_wp2_with (first | ((with_reducible refine gate_dst (N := 2) rfl ?_); refine box_event ?hg (N := 2) ?hd (cs := #[.bool a0_0, .slice A0_1 l0_1.length c0_1, .int .i64 a0_2]) (t := 26) ?hr ?_; (case hd => rfl); (case hg => rfl); (case hr => first | (go_simp; done) | (go_simp; rfl)); intro gb181 hg w6 hbox hb; have n0_ := aM_ (below_step (by repeat (first | (with_reducible first | exact HB.out | apply bB_ | apply wN_ | apply bE_) | exact HB.out)) hb); have n1_ := aM_ (hbox); have n2_ := aM_ ((by rw [hg]; exact (below_size (by repeat (first | (with_reducible first | exact HB.out | apply bB_ | apply wN_ | apply bE_) | exact HB.out))) : w.heap.size ≤ gb181)); have n3_ := aM_ ((by rw [hg]; exact (below_size (by repeat (first | (with_reducible first | exact HB.out | apply bB_ | apply wN_ | apply bE_) | exact HB.out))) : w.heap.size ≤ gb181)); clear HB; have HB := n0_; have BK181 := n1_; have GW181 := n2_; have GE181 := n3_; clear n0_ n1_ n2_ n3_; clear hb hbox hg) | ((with_reducible refine gate_dst (N := 3) rfl ?_); refine box_event ?hg (N := 3) ?hd (cs := #[.bool a1_0, .slice A1_1 l1_1.length c1_1, .int .i64 a1_2]) (t := 26) ?hr ?_; (case hd => rfl); (case hg => rfl); (case hr => first | (go_simp; done) | (go_simp; rfl)); intro gb182 hg w7 hbox hb; have n0_ := aM_ (blk_below (g := gb181) (o := .cells #[.bool a0_0, .slice A0_1 l0_1.length c0_1, .int .i64 a0_2] 26 (0, 0)) (by (with_reducible repeat (first | refine bN_ ?_ _ | refine bD_ ?_ | refine bA_ ?_ _)); exact BK181.out) hb); have n1_ := aM_ (below_step (by repeat (first | (with_reducible first | exact HB.out | apply bB_ | apply wN_ | apply bE_ | refine bS_ ?_ GE181.out) | exact HB.out)) hb); have n2_ := aM_ (hbox); have n3_ := aM_ ((by rw [hg]; exact (below_size (by repeat (first | (with_reducible first | exact HB.out | apply bB_ | apply wN_ | apply bE_ | refine bS_ ?_ GE181.out) | exact HB.out))) : w.heap.size ≤ gb182)); have n4_ := aM_ ((by rw [hg]; exact (below_size (by repeat (first | (with_reducible first | exact HB.out | apply bB_ | apply wN_ | apply bE_ | refine bS_ ?_ GE181.out) | exact HB.out))) : w.heap.size ≤ gb182)); have n5_ := aM_ ((by rw [hg]; exact Nat.ne_of_lt (blk_lt (g := gb181) (o := .cells #[.bool a0_0, .slice A0_1 l0_1.length c0_1, .int .i64 a0_2] 26 (0, 0)) (by (with_reducible repeat (first | refine bN_ ?_ _ | refine bD_ ?_ | refine bA_ ?_ _)); exact BK181.out)) : gb181 ≠ gb182)); have n6_ := aM_ ((by rw [hg]; exact Nat.ne_of_gt (blk_lt (g := gb181) (o := .cells #[.bool a0_0, .slice A0_1 l0_1.length c0_1, .int .i64 a0_2] 26 (0, 0)) (by (with_reducible repeat (first | refine bN_ ?_ _ | refine bD_ ?_ | refine bA_ ?_ _)); exact BK181.out)) : gb182 ≠ gb181)); clear BK181; clear HB; have BK181 := n0_; have HB := n1_; have BK182 := n2_; have GW182 := n3_; have GE182 := n4_; have NB181_182 := n5_; have NB182_181 := n6_; clear n0_ n1_ n2_ n3_ n4_ n5_ n6_; clear hb hbox hg) | ((with_reducible refine gate_dst (N := 4) rfl ?_); refine box_event ?hg (N := 4) ?hd (cs := #[.bool false, .slice none 0 0, .int .i64 0]) (t := 26) ?hr ?_; (case hd => rfl); (case hg => rfl); (case hr => first | (go_simp; done) | (go_simp; rfl)); intro gb183 hg w8 hbox hb; have n0_ := aM_ (blk_below (g := gb181) (o := .cells #[.bool a0_0, .slice A0_1 l0_1.length c0_1, .int .i64 a0_2] 26 (0, 0)) (by (with_reducible repeat (first | refine bN_ ?_ _ | refine bD_ ?_ | refine bA_ ?_ _)); exact BK181.out) hb); have n1_ := aM_ (blk_below (g := gb182) (o := .cells #[.bool a1_0, .slice A1_1 l1_1.length c1_1, .int .i64 a1_2] 26 (0, 0)) (by (with_reducible repeat (first | refine bN_ ?_ _ | refine bD_ ?_ | refine bA_ ?_ _)); exact BK182.out) hb); have n2_ := aM_ (below_step (by repeat (first | (with_reducible first | exact HB.out | apply bB_ | apply wN_ | apply bE_ | refine bS_ ?_ GE181.out | refine bS_ ?_ GE182.out) | exact HB.out)) hb); have n3_ := aM_ (hbox); have n4_ := aM_ ((by rw [hg]; exact (below_size (by repeat (first | (with_reducible first | exact HB.out | apply bB_ | apply wN_ | apply bE_ | refine bS_ ?_ GE181.out | refine bS_ ?_ GE182.out) | exact HB.out))) : w.heap.size ≤ gb183)); have n5_ := aM_ ((by rw [hg]; exact (below_size (by repeat (first | (with_reducible first | exact HB.out | apply bB_ | apply wN_ | apply bE_ | refine bS_ ?_ GE181.out | refine bS_ ?_ GE182.out) | exact HB.out))) : w.heap.size ≤ gb183)); have n6_ := aM_ ((by rw [hg]; exact Nat.ne_of_lt (blk_lt (g := gb181) (o := .cells #[.bool a0_0, .slice A0_1 l0_1.length c0_1, .int .i64 a0_2] 26 (0, 0)) (by (with_reducible repeat (first | refine bN_ ?_ _ | refine bD_ ?_ | refine bA_ ?_ _)); exact BK181.out)) : gb181 ≠ gb183)); have n7_ := aM_ ((by rw [hg]; exact Nat.ne_of_gt (blk_lt (g := gb181) (o := .cells #[.bool a0_0, .slice A0_1 l0_1.length c0_1, .int .i64 a0_2] 26 (0, 0)) (by (with_reducible repeat (first | refine bN_ ?_ _ | refine bD_ ?_ | refine bA_ ?_ _)); exact BK181.out)) : gb183 ≠ gb181)); have n8_ := aM_ ((by rw [hg]; exact Nat.ne_of_lt (blk_lt (g := gb182) (o := .cells #[.bool a1_0, .slice A1_1 l1_1.length c1_1, .int .i64 a1_2] 26 (0, 0)) (by (with_reducible repeat (first | refine bN_ ?_ _ | refine bD_ ?_ | refine bA_ ?_ _)); exact BK182.out)) : gb182 ≠ gb183)); have n9_ := aM_ ((by rw [hg]; exact Nat.ne_of_gt (blk_lt (g := gb182) (o := .cells #[.bool a1_0, .slice A1_1 l1_1.length c1_1, .int .i64 a1_2] 26 (0, 0)) (by (with_reducible repeat (first | refine bN_ ?_ _ | refine bD_ ?_ | refine bA_ ?_ _)); exact BK182.out)) : gb183 ≠ gb182)); clear BK181; clear BK182; clear HB; have BK181 := n0_; have BK182 := n1_; have HB := n2_; have BK183 := n3_; have GW183 := n4_; have GE183 := n5_; have NB181_183 := n6_; have NB183_181 := n7_; have NB182_183 := n8_; have NB183_182 := n9_; clear n0_ n1_ n2_ n3_ n4_ n5_ n6_ n7_ n8_ n9_; clear hb hbox hg; have hnb9 := NB181_182.out; have hnc9 := NB182_181.out; have hnb10 := NB181_183.out; have hnc10 := NB183_181.out; have hcz11_0 : w8.cell? ⟨gb181, 0, none⟩ = some (.bool a0_0) := (bC_ BK181.out 0).trans rfl; have hcz11_1 : w8.cell? ⟨gb181, 1, none⟩ = some (.slice A0_1 l0_1.length c0_1) := (bC_ BK181.out 1).trans rfl; have hcz11_2 : w8.cell? ⟨gb181, 2, none⟩ = some (.int .i64 a0_2) := (bC_ BK181.out 2).trans rfl; have hfz11_0 := bF_ BK181.out 0; have hfz11_1 := bF_ BK181.out 1; have hfz11_2 := bF_ BK181.out 2; have hnb12 := NB182_183.out; have hnc12 := NB183_182.out; have hcz13_0 : w8.cell? ⟨gb182, 0, none⟩ = some (.bool a1_0) := (bC_ BK182.out 0).trans rfl; have hcz13_1 : w8.cell? ⟨gb182, 1, none⟩ = some (.slice A1_1 l1_1.length c1_1) := (bC_ BK182.out 1).trans rfl; have hcz13_2 : w8.cell? ⟨gb182, 2, none⟩ = some (.int .i64 a1_2) := (bC_ BK182.out 2).trans rfl; have hfz13_0 := bF_ BK182.out 0; have hfz13_1 := bF_ BK182.out 1; have hfz13_2 := bF_ BK182.out 2) | ((with_reducible refine gate_dst (N := 17) rfl ?_); refine Kd.R_make (Kd.int .i64) _ 3 rfl (N := 17) rfl 24 _ _ rfl ji3 rfl rfl Try.underlying24 (.int .i64 0) 8 info3 rfl (by decide) (by omega) 0 (ok := fun _ => True) (okp := fun _ => True) rfl (fun _ hk => hk) trivial (of_decide_eq_true (by first | (with_reducible assumption) | assumption)) (Nat.le_trans (Nat.mul_le_mul_right _ (of_decide_eq_true (by first | (with_reducible assumption) | assumption) : ji3.toNat ≤ 35184372088832)) (by omega)) (Below.refl _ _) (Nat.le_refl _) ?_; intro v185 w14 ho15 hb hg_ hnew_; clear hg_ hnew_; (first | rw [← Ny184.out] at ho15 | (simp only [Int.reduceToNat] at ho15; rw [← Ny184.out] at ho15)); have n0_ := aM_ (Kd.R_lower ho15 (below_size (by repeat (first | (with_reducible first | exact HB.out | apply bB_ | apply wN_ | apply bE_ | refine bS_ ?_ GE181.out | refine bS_ ?_ GE182.out | refine bS_ ?_ GE183.out) | exact HB.out)))); have n1_ := aM_ (blk_below (g := gb181) (o := .cells #[.bool a0_0, .slice A0_1 l0_1.length c0_1, .int .i64 a0_2] 26 (0, 0)) (by (with_reducible repeat (first | refine bN_ ?_ _ | refine bD_ ?_ | refine bA_ ?_ _)); exact BK181.out) hb); have n2_ := aM_ (blk_below (g := gb182) (o := .cells #[.bool a1_0, .slice A1_1 l1_1.length c1_1, .int .i64 a1_2] 26 (0, 0)) (by (with_reducible repeat (first | refine bN_ ?_ _ | refine bD_ ?_ | refine bA_ ?_ _)); exact BK182.out) hb); have n3_ := aM_ (blk_below (g := gb183) (o := .cells #[.bool false, .slice none 0 0, .int .i64 0] 26 (0, 0)) (by (with_reducible repeat (first | refine bN_ ?_ _ | refine bD_ ?_ | refine bA_ ?_ _)); exact BK183.out) hb); have n4_ := aM_ (below_step (by repeat (first | (with_reducible first | exact HB.out | apply bB_ | apply wN_ | apply bE_ | refine bS_ ?_ GE181.out | refine bS_ ?_ GE182.out | refine bS_ ?_ GE183.out) | exact HB.out)) hb); clear BK181; clear BK182; clear BK183; clear HB; have HO186 := n0_; have BK181 := n1_; have BK182 := n2_; have BK183 := n3_; have HB := n4_; clear n0_ n1_ n2_ n3_ n4_; clear hb ho15; have hcz16_0 : w14.cell? ⟨gb181, 0, none⟩ = some (.bool a0_0) := (bC_ BK181.out 0).trans rfl; have hcz16_1 : w14.cell? ⟨gb181, 1, none⟩ = some (.slice A0_1 l0_1.length c0_1) := (bC_ BK181.out 1).trans rfl; have hcz16_2 : w14.cell? ⟨gb181, 2, none⟩ = some (.int .i64 a0_2) := (bC_ BK181.out 2).trans rfl; have hfz16_0 := bF_ BK181.out 0; have hfz16_1 := bF_ BK181.out 1; have hfz16_2 := bF_ BK181.out 2))
   go_loopg [21] k (fun kq v21 w' => ∃ (x5_1 : List Int) (x21_1 : Int), v21 = .int .i64 x21_1 ∧ Aside0 (spec_DecimalTimes.l0 kq x5_1 (l0_1.length : Int) x21_1 a0_0 l0_1 a0_2 a1_0 l1_1 a1_2 = some (r1, r2, r3)) ∧ Aside0 (kq ≤ k) ∧ Aside0 (Kd.R (Kd.int .i64) 3 w' w.heap.size (fun _ => True) v185 x5_1) ∧ Aside0 (w'.heap[gb181]? = some (.cells #[.bool a0_0, (.slice A0_1 l0_1.length c0_1), .int .i64 a0_2] 26 (0, 0))) ∧ Aside0 (w'.heap[gb182]? = some (.cells #[.bool a1_0, (.slice A1_1 l1_1.length c1_1), .int .i64 a1_2] 26 (0, 0))) ∧ Aside0 (w'.heap[gb183]? = some (.cells #[.bool false, (.slice none 0 0), .int .i64 0] 26 (0, 0))) ∧ Aside0 (Below w.heap.size w w'))
   case atStart => exact ⟨(y184), (0), (by first | rfl | (simp; done) | (simp [*]; done)), H', ⟨Nat.le_refl _⟩, ⟨by (with_reducible repeat (first | apply kA_ | apply kN_ | apply kD_)); exact HO186.out⟩, ⟨by (with_reducible repeat (first | refine bN_ ?_ _ | refine bD_ ?_ | refine bA_ ?_ _)); exact BK181.out⟩, ⟨by (with_reducible repeat (first | refine bN_ ?_ _ | refine bD_ ?_ | refine bA_ ?_ _)); exact BK182.out⟩, ⟨by (with_reducible repeat (first | refine bN_ ?_ _ | refine bD_ ?_ | refine bA_ ?_ _)); exact BK183.out⟩, ⟨by repeat (first | (with_reducible first | exact HB.out | apply bB_ | apply wN_ | apply bE_ | refine bS_ ?_ GE181.out | refine bS_ ?_ GE182.out | refine bS_ ?_ GE183.out) | exact HB.out)⟩⟩
   case round =>
    clear H'
    try clear c1
    try clear p2
    try clear c4
    try clear c4b0
    try clear c4b1
    try clear c5
    try clear c5b0
    try clear c5b1
    try clear p6
    try clear c9
    try clear c10
    try clear c11
    try clear c12
    try clear hcz11_0
    try clear hcz11_1
    try clear hcz11_2
    try clear hcz13_0
    try clear hcz13_1
    try clear hcz13_2
    try clear hcz16_0
    try clear hcz16_1
    try clear hcz16_2
    try clear hfz11_0
    try clear hfz11_1
    try clear hfz11_2
    try clear hfz13_0
    try clear hfz13_1
    try clear hfz13_2
    try clear hfz16_0
    try clear hfz16_1
    try clear hfz16_2
    obtain ⟨x5_1, x21_1, rfl, HA, HK1, HO_5, BK181, BK182, BK183, HB⟩ := hrel
    cases gk with
    | zero => exact absurd HA.out (by simp [spec_DecimalTimes.l0])
    | succ k1 =>
     have H := HA.out
     clear HA
     simp only [spec_DecimalTimes.l0] at H
     by_cases c17 : x21_1 < (l0_1.length : Int)
     ·
      rw [if_pos c17] at H
      have c17b0 : decide (x21_1 < (l0_1.length : Int)) = true := decide_eq_true c17
      clear c17
      have H' := aM_ H
      clear H
      have hnb18 := NB182_181.out
      have hnc18 := NB181_182.out
      have hnb19 := NB182_183.out
      have hnc19 := NB183_182.out
      have hcz20_0 : wr.cell? ⟨gb182, 0, none⟩ = some (.bool a1_0) := (bC_ BK182.out 0).trans rfl
      have hcz20_1 : wr.cell? ⟨gb182, 1, none⟩ = some (.slice A1_1 l1_1.length c1_1) := (bC_ BK182.out 1).trans rfl
      have hcz20_2 : wr.cell? ⟨gb182, 2, none⟩ = some (.int .i64 a1_2) := (bC_ BK182.out 2).trans rfl
      have hfz20_0 := bF_ BK182.out 0
      have hfz20_1 := bF_ BK182.out 1
      have hfz20_2 := bF_ BK182.out 2
      go_wp2
      go_loopg [27] k1 (fun kq v27 w' => ∃ (x5_2 : List Int) (x27_2 : Int), v27 = .int .i64 x27_2 ∧ Aside0 (spec_DecimalTimes.l1 kq x5_2 x21_1 (l0_1.length : Int) x21_1 (l1_1.length : Int) x27_2 a0_0 l0_1 a0_2 a1_0 l1_1 a1_2 = some (r1, r2, r3)) ∧ Aside0 (kq ≤ k1) ∧ Aside0 (Kd.R (Kd.int .i64) 3 w' w.heap.size (fun _ => True) v185 x5_2) ∧ Aside0 (w'.heap[gb181]? = some (.cells #[.bool a0_0, (.slice A0_1 l0_1.length c0_1), .int .i64 a0_2] 26 (0, 0))) ∧ Aside0 (w'.heap[gb182]? = some (.cells #[.bool a1_0, (.slice A1_1 l1_1.length c1_1), .int .i64 a1_2] 26 (0, 0))) ∧ Aside0 (w'.heap[gb183]? = some (.cells #[.bool false, (.slice none 0 0), .int .i64 0] 26 (0, 0))) ∧ Aside0 (Below w.heap.size w w'))
      case atStart => exact ⟨(x5_1), (0), (by first | rfl | (simp; done) | (simp [*]; done)), H', ⟨Nat.le_refl _⟩, ⟨by (with_reducible repeat (first | apply kA_ | apply kN_ | apply kD_)); exact HO_5.out⟩, ⟨by (with_reducible repeat (first | refine bN_ ?_ _ | refine bD_ ?_ | refine bA_ ?_ _)); exact BK181.out⟩, ⟨by (with_reducible repeat (first | refine bN_ ?_ _ | refine bD_ ?_ | refine bA_ ?_ _)); exact BK182.out⟩, ⟨by (with_reducible repeat (first | refine bN_ ?_ _ | refine bD_ ?_ | refine bA_ ?_ _)); exact BK183.out⟩, ⟨by repeat (first | (with_reducible first | exact HB.out | apply bB_ | apply wN_ | apply bE_ | refine bS_ ?_ GE181.out | refine bS_ ?_ GE182.out | refine bS_ ?_ GE183.out) | exact HB.out)⟩⟩
      case round =>
       clear H'
       try clear c1
       try clear p2
       try clear c4
       try clear c4b0
       try clear c4b1
       try clear c5
       try clear c5b0
       try clear c5b1
       try clear p6
       try clear c9
       try clear c10
       try clear c11
       try clear c12
       try clear c17
       try clear c17b0
       try clear c18
       try clear c19
       try clear hcz11_0
       try clear hcz11_1
       try clear hcz11_2
       try clear hcz13_0
       try clear hcz13_1
       try clear hcz13_2
       try clear hcz16_0
       try clear hcz16_1
       try clear hcz16_2
       try clear hcz20_0
       try clear hcz20_1
       try clear hcz20_2
       try clear hfz11_0
       try clear hfz11_1
       try clear hfz11_2
       try clear hfz13_0
       try clear hfz13_1
       try clear hfz13_2
       try clear hfz16_0
       try clear hfz16_1
       try clear hfz16_2
       try clear hfz20_0
       try clear hfz20_1
       try clear hfz20_2
       try clear p2
       try clear p6
       obtain ⟨x5_2, x27_2, rfl, HA, HK2, HO_5, BK181, BK182, BK183, HB⟩ := hrel
       cases gk with
       | zero => exact absurd HA.out (by simp [spec_DecimalTimes.l1])
       | succ k2 =>
        have H := HA.out
        clear HA
        simp only [spec_DecimalTimes.l1] at H
        by_cases c21 : x27_2 < (l1_1.length : Int)
        ·
         rw [if_pos c21] at H
         have c21b0 : decide (x27_2 < (l1_1.length : Int)) = true := decide_eq_true c21
         clear c21
         obtain ⟨ji22, hji22⟩ : ∃ j_ : Int, (wrap64 ((wrap64 (x21_1 + x27_2)) + 2)) = j_ := ⟨_, rfl⟩
         replace H : (if 0 ≤ (ji22) then (if (ji22) < (x5_2.length : Int) then (if 0 ≤ x21_1 then (if x21_1 < (l0_1.length : Int) then (if 0 ≤ x27_2 then (if x27_2 < (l1_1.length : Int) then (spec_DecimalTimes.l1 k2 (x5_2.set ((ji22) : Int).toNat (wrap64 ((rd x5_2 (ji22)) + (wrap64 ((rd l0_1 x21_1) * (rd l1_1 x27_2)))))) x21_1 (l0_1.length : Int) x21_1 (l1_1.length : Int) (wrap64 (x27_2 + 1)) a0_0 l0_1 a0_2 a1_0 l1_1 a1_2) else (none)) else (none)) else (none)) else (none)) else (none)) else (none)) = some (r1, r2, r3) := by first | (rw [hji22] at H; exact H) | (simp only [hji22] at H ⊢; exact H)
         have hji22w : (IntKind.i64.wrap ((wrap64 (x21_1 + x27_2)) + 2)) = ji22 := (i64_w _).trans hji22
         by_cases c23 : 0 ≤ (ji22)
         ·
          rw [if_pos c23] at H
          have c23b0 : decide (0 ≤ (ji22)) = true := decide_eq_true c23
          clear c23
          by_cases c24 : (ji22) < (x5_2.length : Int)
          ·
           rw [if_pos c24] at H
           have c24b0 : decide ((ji22) < (x5_2.length : Int)) = true := decide_eq_true c24
           clear c24
           by_cases c25 : 0 ≤ x21_1
           ·
            rw [if_pos c25] at H
            have c25b0 : decide (0 ≤ x21_1) = true := decide_eq_true c25
            clear c25
            by_cases c26 : x21_1 < (l0_1.length : Int)
            ·
             rw [if_pos c26] at H
             have c26b0 : decide (x21_1 < (l0_1.length : Int)) = true := decide_eq_true c26
             clear c26
             by_cases c27 : 0 ≤ x27_2
             ·
              rw [if_pos c27] at H
              have c27b0 : decide (0 ≤ x27_2) = true := decide_eq_true c27
              clear c27
              by_cases c28 : x27_2 < (l1_1.length : Int)
              ·
               rw [if_pos c28] at H
               have c28b0 : decide (x27_2 < (l1_1.length : Int)) = true := decide_eq_true c28
               clear c28
               obtain ⟨y190, hy190⟩ : ∃ y_ : List Int, y_ = (x5_2.set ((ji22) : Int).toNat (wrap64 ((rd x5_2 (ji22)) + (wrap64 ((rd l0_1 x21_1) * (rd l1_1 x27_2)))))) := ⟨_, rfl⟩
               replace H : (spec_DecimalTimes.l1 k2 y190 x21_1 (l0_1.length : Int) x21_1 (l1_1.length : Int) (wrap64 (x27_2 + 1)) a0_0 l0_1 a0_2 a1_0 l1_1 a1_2) = some (r1, r2, r3) := by first | (rw [hy190]; with_reducible exact H) | (have H2_ := (Option.bind_some _ _).symm.trans H; rw [hy190]; with_reducible exact H2_) | (have H2_ := (Option.bind_some _ _).symm.trans H; with_reducible exact H2_) | with_reducible exact H | (rw [hy190]; exact H) | exact H
               have Ny190 := aM_ hy190
               clear hy190
               have H' := aM_ H
               clear H
               try go_wp2
               have n0_ := aM_ (kD_ HO_5.out)
               have n1_ := aM_ (bD_ BK181.out)
               have n2_ := aM_ (bD_ BK182.out)
               have n3_ := aM_ (bD_ BK183.out)
               have n4_ := aM_ (bE_ HB.out)
               clear HO_5
               clear BK181
               clear BK182
               clear BK183
               clear HB
               have HO_5 := n0_
               have BK181 := n1_
               have BK182 := n2_
               have BK183 := n3_
               have HB := n4_
               clear n0_ n1_ n2_ n3_ n4_
               obtain ⟨Ao31, co31, eo31⟩ := Kd.R_slice HO_5.out
               (first | subst eo31 | (injection eo31 with f1_ f2_ f3_; have f4_ := f1_.symm; have f5_ := f3_.symm; clear f1_ f2_ f3_; subst f4_; subst f5_))
               have p187 : 0 ≤ ((ji22) : Int) := of_decide_eq_true (by first | (with_reducible assumption) | assumption)
               have q187 : (ji22) < (x5_2.length : Int) := of_decide_eq_true (by first | (with_reducible assumption) | assumption)
               obtain ⟨ad187, e187, hx187_0⟩ := Kd.at_int (Kd.R_reads' HO_5.out).2.2 (ji22) p187 q187
               cases e187
               replace p187 := eq_true p187
               replace q187 := eq_true q187
               have p188 : 0 ≤ (x21_1 : Int) := of_decide_eq_true (by first | (with_reducible assumption) | assumption)
               have q188 : x21_1 < (l0_1.length : Int) := of_decide_eq_true (by first | (with_reducible assumption) | assumption)
               obtain ⟨ad188, e188, hx188_0⟩ := Kd.at_int HR0_1.out x21_1 p188 q188
               have hw188_0 := hx188_0
               cases e188
               replace hx188_0 := (HB.out.cell (World.block_lt_of_cell? w _ hx188_0)).trans hx188_0
               replace p188 := eq_true p188
               replace q188 := eq_true q188
               have p189 : 0 ≤ (x27_2 : Int) := of_decide_eq_true (by first | (with_reducible assumption) | assumption)
               have q189 : x27_2 < (l1_1.length : Int) := of_decide_eq_true (by first | (with_reducible assumption) | assumption)
               obtain ⟨ad189, e189, hx189_0⟩ := Kd.at_int HR1_1.out x27_2 p189 q189
               have hw189_0 := hx189_0
               cases e189
               replace hx189_0 := (HB.out.cell (World.block_lt_of_cell? w _ hx189_0)).trans hx189_0
               replace p189 := eq_true p189
               replace q189 := eq_true q189
               have p29 : 0 ≤ ((ji22) : Int) := of_decide_eq_true (by first | (with_reducible assumption) | assumption)
               have q29 : ((ji22) : Int) < ((x5_2.length : Int) : Int) := of_decide_eq_true (by first | (with_reducible assumption) | assumption)
               obtain ⟨go29, co29, eo29, gb29, gl29, cl29, HG29⟩ := Kd.R_form HO_5.out (by omega)
               (first | cases eo29 | (injection eo29 with ea_ en_ ec_; (first | subst ea_ | (injection ea_ with ea_; subst ea_)); subst ec_; clear en_))
               have GB29 := aM_ gb29
               have GG29 := aM_ HG29
               clear gb29 gl29 HG29
               (first | simp only [add_plain] at hx187_0 | skip)
               obtain ⟨hx29_0, hf29_0⟩ := Kd.R_celln 0 HO_5.out ((ji22) : Int) p29 q29
               replace p29 := eq_true p29
               replace q29 := eq_true q29
               have HP32 := Kd.R_putn HO_5.out ((ji22) : Int) (wrap64 ((rd x5_2 (ji22)) + (wrap64 ((rd l0_1 x21_1) * (rd l1_1 x27_2)))))
               rw [← Ny190.out] at HP32
               have HQ32 := aM_ HP32
               clear HP32
               refine start_ (n := 21) (S := fun w' => w'.cell? ⟨gb181, 0, none⟩ = some (.bool a0_0) ∧ w'.cell? ⟨gb181, 1, none⟩ = some (.slice (some ad188) l0_1.length c0_1) ∧ w'.cell? ⟨gb181, 2, none⟩ = some (.int .i64 a0_2) ∧ w'.cell? ⟨gb182, 0, none⟩ = some (.bool a1_0) ∧ w'.cell? ⟨gb182, 1, none⟩ = some (.slice (some ad189) l1_1.length c1_1) ∧ w'.cell? ⟨gb182, 2, none⟩ = some (.int .i64 a1_2) ∧ w'.cell? ⟨go29, ((ji22)).toNat, none⟩ = some (.int .i64 (rd x5_2 (ji22))) ∧ w'.cell? (ad188.add (x21_1).toNat) = some (.int .i64 (rd l0_1 x21_1)) ∧ w'.cell? (ad189.add (x27_2).toNat) = some (.int .i64 (rd l1_1 x27_2))) (ds := [20]) #[false, false, false, false, false, false, false, false, false, false, false, false, false, false, false, false, false, false, false, false, false] (by kernel_rfl) rfl rfl ⟨(bC_ BK181.out 0).trans rfl, (bC_ BK181.out 1).trans rfl, (bC_ BK181.out 2).trans rfl, (bC_ BK182.out 0).trans rfl, (bC_ BK182.out 1).trans rfl, (bC_ BK182.out 2).trans rfl, hx187_0, ((HB.out.cell (World.block_lt_of_cell? w _ hw188_0)).trans hw188_0), ((HB.out.cell (World.block_lt_of_cell? w _ hw189_0)).trans hw189_0)⟩ (fun hHeld => ?_); refine with_tabW spec_DecimalTimes.tab8 spec_DecimalTimes.bits8 (fun HT_ HW_ => ?_)
               generalize wr.drew = w30 at HO_5 BK181 BK182 BK183 HB GG29 HQ32 hf29_0 hx187_0 hx188_0 hx189_0 hx29_0 hHeld ⊢
               refine pure_ (i := 0) (N := some 30) (v := ?_) (a' := ?_) #[true, false, false, false, false, false, false, false, false, false, false, false, false, false, false, false, false, false, false, false, false] rfl rfl (any_of HT_.out (by kernel_rfl)) (fun _ _ _ h => h) (Or.inl ⟨by rfl, ?_⟩) ?_ ?_
               rotate_left
               ·
                intro w'
                go_simp
                with_reducible rfl
               rotate_left
               ·
                simp only [Act.put, List.setIfInBounds_toArray, List.set_cons_zero, List.set_cons_succ, i64_w, i32_w]
                rfl
               refine pure_ (i := 1) (N := some 31) (v := ?_) (a' := ?_) #[true, true, false, false, false, false, false, false, false, false, false, false, false, false, false, false, false, false, false, false, false] rfl rfl (any_of HT_.out (by kernel_rfl)) (fun _ _ _ h => h) (Or.inl ⟨by rfl, ?_⟩) ?_ ?_
               rotate_left
               ·
                intro w'
                go_simp
                with_reducible rfl
               rotate_left
               ·
                simp only [Act.put, List.setIfInBounds_toArray, List.set_cons_zero, List.set_cons_succ, i64_w, i32_w]
                rfl
               refine pure_ (i := 2) (N := some 32) (v := ?_) (a' := ?_) #[true, true, true, false, false, false, false, false, false, false, false, false, false, false, false, false, false, false, false, false, false] rfl rfl (any_of HT_.out (by kernel_rfl)) (fun _ _ _ h => h) (Or.inl ⟨by rfl, ?_⟩) ?_ ?_
               rotate_left
               ·
                intro w'
                go_simp
                with_reducible rfl
               rotate_left
               ·
                simp only [Act.put, List.setIfInBounds_toArray, List.set_cons_zero, List.set_cons_succ, i64_w, i32_w]
                rfl
               refine pure_ (i := 3) (N := some 33) (v := ?_) (a' := ?_) #[true, true, true, true, false, false, false, false, false, false, false, false, false, false, false, false, false, false, false, false, false] rfl rfl (any_of HT_.out (by kernel_rfl)) (fun _ _ _ h => h) (Or.inl ⟨by rfl, ?_⟩) ?_ ?_
               rotate_left
               ·
                intro w'
                go_simp
                with_reducible rfl
               rotate_left
               ·
                simp only [Act.put, List.setIfInBounds_toArray, List.set_cons_zero, List.set_cons_succ, i64_w, i32_w]
                rfl
               refine pure_ (i := 4) (N := some 34) (v := ?_) (a' := ?_) #[true, true, true, true, true, false, false, false, false, false, false, false, false, false, false, false, false, false, false, false, false] rfl rfl (any_of HT_.out (by kernel_rfl)) (fun _ _ _ h => h) (Or.inl ⟨by rfl, ?_⟩) ?_ ?_
               rotate_left
               ·
                intro w'
                go_simp
                with_reducible rfl
               rotate_left
               ·
                simp only [Act.put, List.setIfInBounds_toArray, List.set_cons_zero, List.set_cons_succ, i64_w, i32_w]
                rfl
               refine pure_ (i := 5) (N := some 35) (v := ?_) (a' := ?_) #[true, true, true, true, true, true, false, false, false, false, false, false, false, false, false, false, false, false, false, false, false] rfl rfl (any_of HT_.out (by kernel_rfl)) (fun _ _ _ h => h) (Or.inl ⟨by rfl, ?_⟩) ?_ ?_
               rotate_left
               ·
                intro w'
                go_simp
                with_reducible rfl
               rotate_left
               ·
                simp only [Act.put, List.setIfInBounds_toArray, List.set_cons_zero, List.set_cons_succ, i64_w, i32_w]
                rfl
               refine pure_ (i := 7) (N := some 37) (v := ?_) (a' := ?_) #[true, true, true, true, true, true, false, true, false, false, false, false, false, false, false, false, false, false, false, false, false] rfl rfl (any_of HT_.out (by kernel_rfl)) (fun _ _ _ h => h) (Or.inl ⟨by rfl, ?_⟩) ?_ ?_
               rotate_left
               ·
                intro w'
                go_simp
                with_reducible rfl
               rotate_left
               ·
                simp only [Act.put, List.setIfInBounds_toArray, List.set_cons_zero, List.set_cons_succ, i64_w, i32_w]
                rfl
               refine pure_ (i := 9) (N := some 39) (v := ?_) (a' := ?_) #[true, true, true, true, true, true, false, true, false, true, false, false, false, false, false, false, false, false, false, false, false] rfl rfl (any_of HT_.out (by kernel_rfl)) (fun _ _ _ h => h) (Or.inl ⟨by rfl, ?_⟩) ?_ ?_
               rotate_left
               ·
                intro w'
                go_simp
                with_reducible rfl
               rotate_left
               ·
                simp only [Act.put, List.setIfInBounds_toArray, List.set_cons_zero, List.set_cons_succ, i64_w, i32_w]
                rfl
               refine pure_ (i := 12) (N := some 42) (v := ?_) (a' := ?_) #[true, true, true, true, true, true, false, true, false, true, false, false, true, false, false, false, false, false, false, false, false] rfl rfl (any_of HT_.out (by kernel_rfl)) (fun _ _ _ h => h) (Or.inl ⟨by rfl, ?_⟩) ?_ ?_
               rotate_left
               ·
                intro w'
                go_simp
                with_reducible rfl
               rotate_left
               ·
                simp only [Act.put, List.setIfInBounds_toArray, List.set_cons_zero, List.set_cons_succ, i64_w, i32_w]
                rfl
               refine pure_ (i := 14) (N := some 44) (v := ?_) (a' := ?_) #[true, true, true, true, true, true, false, true, false, true, false, false, true, false, true, false, false, false, false, false, false] rfl rfl (any_of HT_.out (by kernel_rfl)) (fun _ _ _ h => h) (Or.inl ⟨by rfl, ?_⟩) ?_ ?_
               rotate_left
               ·
                intro w'
                go_simp
                with_reducible rfl
               rotate_left
               ·
                simp only [Act.put, List.setIfInBounds_toArray, List.set_cons_zero, List.set_cons_succ, i64_w, i32_w]
                rfl
               refine take_ (i := 6) (N := some 36) (v := ?_) (a' := ?_) #[true, true, true, true, true, true, true, true, false, true, false, false, true, false, true, false, false, false, false, false, false] rfl rfl (take_ofW HT_.out HW_.out (by kernel_rfl)) (fun _ _ _ h => h) (Or.inl ⟨by rfl, ?_⟩) hHeld ?_ ?_
               rotate_left
               ·
                rintro w' ⟨s0, s1, s2, s3, s4, s5, s6, s7, s8⟩
                go_simp
                with_reducible rfl
               rotate_left
               ·
                simp only [Act.put, List.setIfInBounds_toArray, List.set_cons_zero, List.set_cons_succ, i64_w, i32_w]
                rfl
               refine take_ (i := 8) (N := some 38) (v := ?_) (a' := ?_) #[true, true, true, true, true, true, true, true, true, true, false, false, true, false, true, false, false, false, false, false, false] rfl rfl (take_ofW HT_.out HW_.out (by kernel_rfl)) (fun _ _ _ h => h) (Or.inl ⟨by rfl, ?_⟩) hHeld ?_ ?_
               rotate_left
               ·
                rintro w' ⟨s0, s1, s2, s3, s4, s5, s6, s7, s8⟩
                go_simp
                with_reducible rfl
               rotate_left
               ·
                simp only [Act.put, List.setIfInBounds_toArray, List.set_cons_zero, List.set_cons_succ, i64_w, i32_w]
                rfl
               refine pure_ (i := 10) (N := some 40) (v := ?_) (a' := ?_) #[true, true, true, true, true, true, true, true, true, true, true, false, true, false, true, false, false, false, false, false, false] rfl rfl (any_of HT_.out (by kernel_rfl)) (fun _ _ _ h => h) (Or.inl ⟨by rfl, ?_⟩) ?_ ?_
               rotate_left
               ·
                intro w'
                go_simp
                with_reducible rfl
               rotate_left
               ·
                simp only [Act.put, List.setIfInBounds_toArray, List.set_cons_zero, List.set_cons_succ, i64_w, i32_w]
                rfl
               refine take_ (i := 11) (N := some 41) (v := ?_) (a' := ?_) #[true, true, true, true, true, true, true, true, true, true, true, true, true, false, true, false, false, false, false, false, false] rfl rfl (take_ofW HT_.out HW_.out (by kernel_rfl)) (fun _ _ _ h => h) (Or.inl ⟨by rfl, ?_⟩) hHeld ?_ ?_
               rotate_left
               ·
                rintro w' ⟨s0, s1, s2, s3, s4, s5, s6, s7, s8⟩
                go_simp
                with_reducible rfl
               rotate_left
               ·
                simp only [Act.put, List.setIfInBounds_toArray, List.set_cons_zero, List.set_cons_succ, i64_w, i32_w]
                rfl
               refine take_ (i := 13) (N := some 43) (v := ?_) (a' := ?_) #[true, true, true, true, true, true, true, true, true, true, true, true, true, true, true, false, false, false, false, false, false] rfl rfl (take_ofW HT_.out HW_.out (by kernel_rfl)) (fun _ _ _ h => h) (Or.inl ⟨by rfl, ?_⟩) hHeld ?_ ?_
               rotate_left
               ·
                rintro w' ⟨s0, s1, s2, s3, s4, s5, s6, s7, s8⟩
                go_simp
                with_reducible rfl
               rotate_left
               ·
                simp only [Act.put, List.setIfInBounds_toArray, List.set_cons_zero, List.set_cons_succ, i64_w, i32_w]
                rfl
               refine pure_ (i := 15) (N := some 45) (v := ?_) (a' := ?_) #[true, true, true, true, true, true, true, true, true, true, true, true, true, true, true, true, false, false, false, false, false] rfl rfl (any_of HT_.out (by kernel_rfl)) (fun _ _ _ h => h) (Or.inl ⟨by rfl, ?_⟩) ?_ ?_
               rotate_left
               ·
                intro w'
                go_simp
                with_reducible rfl
               rotate_left
               ·
                simp only [Act.put, List.setIfInBounds_toArray, List.set_cons_zero, List.set_cons_succ, i64_w, i32_w]
                rfl
               refine take_ (i := 16) (N := some 46) (v := ?_) (a' := ?_) #[true, true, true, true, true, true, true, true, true, true, true, true, true, true, true, true, true, false, false, false, false] rfl rfl (take_ofW HT_.out HW_.out (by kernel_rfl)) (fun _ _ _ h => h) (Or.inl ⟨by rfl, ?_⟩) hHeld ?_ ?_
               rotate_left
               ·
                rintro w' ⟨s0, s1, s2, s3, s4, s5, s6, s7, s8⟩
                go_simp
                with_reducible rfl
               rotate_left
               ·
                simp only [Act.put, List.setIfInBounds_toArray, List.set_cons_zero, List.set_cons_succ, i64_w, i32_w]
                rfl
               refine pure_ (i := 17) (N := some 47) (v := ?_) (a' := ?_) #[true, true, true, true, true, true, true, true, true, true, true, true, true, true, true, true, true, true, false, false, false] rfl rfl (any_of HT_.out (by kernel_rfl)) (fun _ _ _ h => h) (Or.inl ⟨by rfl, ?_⟩) ?_ ?_
               rotate_left
               ·
                intro w'
                go_simp
                with_reducible rfl
               rotate_left
               ·
                simp only [Act.put, List.setIfInBounds_toArray, List.set_cons_zero, List.set_cons_succ, i64_w, i32_w]
                rfl
               refine pure_ (i := 18) (N := some 48) (v := ?_) (a' := ?_) #[true, true, true, true, true, true, true, true, true, true, true, true, true, true, true, true, true, true, true, false, false] rfl rfl (any_of HT_.out (by kernel_rfl)) (fun _ _ _ h => h) (Or.inl ⟨by rfl, ?_⟩) ?_ ?_
               rotate_left
               ·
                intro w'
                go_simp
                with_reducible rfl
               rotate_left
               ·
                simp only [Act.put, List.setIfInBounds_toArray, List.set_cons_zero, List.set_cons_succ, i64_w, i32_w]
                rfl
               refine pure_ (i := 19) (N := some 49) (v := ?_) (a' := ?_) #[true, true, true, true, true, true, true, true, true, true, true, true, true, true, true, true, true, true, true, true, false] rfl rfl (any_of HT_.out (by kernel_rfl)) (fun _ _ _ h => h) (Or.inl ⟨by rfl, ?_⟩) ?_ ?_
               rotate_left
               ·
                intro w'
                go_simp
                with_reducible rfl
               rotate_left
               ·
                simp only [Act.put, List.setIfInBounds_toArray, List.set_cons_zero, List.set_cons_succ, i64_w, i32_w]
                rfl
               refine last_ (i := 20) (N := none) #[true, true, true, true, true, true, true, true, true, true, true, true, true, true, true, true, true, true, true, true, true] rfl rfl (one_of HT_.out (by kernel_rfl)) (by decide) (fun K hK => ?_)
               refine skip_ (w1 := ?_) (by rfl) rfl ?_ ?_
               rotate_left
               ·
                go_simp
                rfl
               refine hK.out _ _ ?_
               clear hK K
               refine done_ (done_of HT_.out (by kernel_rfl)) ?_
               try go_wp2
               go_roundg k2
               case measure => have := HK1.out; have := HK2.out; omega
               case rel => exact ⟨(y190), (wrap64 (x27_2 + 1)), (by first | rfl | (simp; done) | (simp [*]; done)), H', ⟨by have := HK1.out; have := HK2.out; omega⟩, ⟨by (with_reducible repeat (first | apply kA_ | apply kN_ | apply kD_)); exact HQ32.out⟩, ⟨by (with_reducible repeat (first | refine bN_ ?_ _ | refine bD_ ?_ | refine bA_ ?_ _)); refine blk_far ?_ (by have h_ := Kd.R_ne HO_5.out BK181.out (by decide); intro e_; exact h_ (by rw [e_]; rfl)) _; (with_reducible repeat (first | refine bN_ ?_ _ | refine bD_ ?_ | refine bA_ ?_ _)); exact BK181.out⟩, ⟨by (with_reducible repeat (first | refine bN_ ?_ _ | refine bD_ ?_ | refine bA_ ?_ _)); refine blk_far ?_ (by have h_ := Kd.R_ne HO_5.out BK182.out (by decide); intro e_; exact h_ (by rw [e_]; rfl)) _; (with_reducible repeat (first | refine bN_ ?_ _ | refine bD_ ?_ | refine bA_ ?_ _)); exact BK182.out⟩, ⟨by (with_reducible repeat (first | refine bN_ ?_ _ | refine bD_ ?_ | refine bA_ ?_ _)); refine blk_far ?_ (by have h_ := Kd.R_ne HO_5.out BK183.out (by decide); intro e_; exact h_ (by rw [e_]; rfl)) _; (with_reducible repeat (first | refine bN_ ?_ _ | refine bD_ ?_ | refine bA_ ?_ _)); exact BK183.out⟩, ⟨by repeat (first | (with_reducible first | exact HB.out | apply bB_ | apply wN_ | apply bE_ | refine bS_ ?_ GB29.out | refine bS_ ?_ GE181.out | refine bS_ ?_ GE182.out | refine bS_ ?_ GE183.out) | exact HB.out)⟩⟩
              ·
               rw [if_neg c28] at H
               exact absurd H (by simp)
             ·
              rw [if_neg c27] at H
              exact absurd H (by simp)
            ·
             rw [if_neg c26] at H
             exact absurd H (by simp)
           ·
            rw [if_neg c25] at H
            exact absurd H (by simp)
          ·
           rw [if_neg c24] at H
           exact absurd H (by simp)
         ·
          rw [if_neg c23] at H
          exact absurd H (by simp)
        ·
         rw [if_neg c21] at H
         have c21b0 : decide (x27_2 < (l1_1.length : Int)) = false := decide_eq_false c21
         clear c21
         have H' := aM_ H
         clear H
         go_wp2
         go_roundg k2
         case measure => have := HK1.out; have := HK2.out; omega
         case rel => exact ⟨(x5_2), (wrap64 (x21_1 + 1)), (by first | rfl | (simp; done) | (simp [*]; done)), H', ⟨by have := HK1.out; have := HK2.out; omega⟩, ⟨by (with_reducible repeat (first | apply kA_ | apply kN_ | apply kD_)); exact HO_5.out⟩, ⟨by (with_reducible repeat (first | refine bN_ ?_ _ | refine bD_ ?_ | refine bA_ ?_ _)); exact BK181.out⟩, ⟨by (with_reducible repeat (first | refine bN_ ?_ _ | refine bD_ ?_ | refine bA_ ?_ _)); exact BK182.out⟩, ⟨by (with_reducible repeat (first | refine bN_ ?_ _ | refine bD_ ?_ | refine bA_ ?_ _)); exact BK183.out⟩, ⟨by repeat (first | (with_reducible first | exact HB.out | apply bB_ | apply wN_ | apply bE_ | refine bS_ ?_ GE181.out | refine bS_ ?_ GE182.out | refine bS_ ?_ GE183.out) | exact HB.out)⟩⟩
     ·
      rw [if_neg c17] at H
      have c17b0 : decide (x21_1 < (l0_1.length : Int)) = false := decide_eq_false c17
      clear c17
      have H' := aM_ H
      clear H
      obtain ⟨Ao33, co33, eo33⟩ := Kd.R_slice HO_5.out
      subst eo33
      go_wp2
      go_loopg [8] k1 (fun kq v8 w' => ∃ (x5_2 : List Int) (x8_2 : Int), v8 = .int .i64 x8_2 ∧ Aside0 (spec_DecimalTimes.l2 kq x5_2 x8_2 a0_0 l0_1 a0_2 a1_0 l1_1 a1_2 = some (r1, r2, r3)) ∧ Aside0 (kq ≤ k1) ∧ Aside0 (Kd.R (Kd.int .i64) 3 w' w.heap.size (fun _ => True) (.slice Ao33 x5_1.length co33) x5_2) ∧ Aside0 (w'.heap[gb181]? = some (.cells #[.bool a0_0, (.slice A0_1 l0_1.length c0_1), .int .i64 a0_2] 26 (0, 0))) ∧ Aside0 (w'.heap[gb182]? = some (.cells #[.bool a1_0, (.slice A1_1 l1_1.length c1_1), .int .i64 a1_2] 26 (0, 0))) ∧ Aside0 (w'.heap[gb183]? = some (.cells #[.bool false, (.slice none 0 0), .int .i64 0] 26 (0, 0))) ∧ Aside0 (Below w.heap.size w w'))
      case atStart => exact ⟨(x5_1), (wrap64 ((x5_1.length : Int) - 1)), (by first | rfl | (simp; done) | (simp [*]; done)), H', ⟨Nat.le_refl _⟩, ⟨by (with_reducible repeat (first | apply kA_ | apply kN_ | apply kD_)); exact HO_5.out⟩, ⟨by (with_reducible repeat (first | refine bN_ ?_ _ | refine bD_ ?_ | refine bA_ ?_ _)); exact BK181.out⟩, ⟨by (with_reducible repeat (first | refine bN_ ?_ _ | refine bD_ ?_ | refine bA_ ?_ _)); exact BK182.out⟩, ⟨by (with_reducible repeat (first | refine bN_ ?_ _ | refine bD_ ?_ | refine bA_ ?_ _)); exact BK183.out⟩, ⟨by repeat (first | (with_reducible first | exact HB.out | apply bB_ | apply wN_ | apply bE_ | refine bS_ ?_ GE181.out | refine bS_ ?_ GE182.out | refine bS_ ?_ GE183.out) | exact HB.out)⟩⟩
      case round =>
       clear H'
       try clear c1
       try clear p1
       try clear q1
       try clear hx1
       try clear c2
       try clear p2
       try clear q2
       try clear hx2
       try clear hf2
       try clear c4
       try clear c4b0
       try clear c4b1
       try clear c5
       try clear c5b0
       try clear c5b1
       try clear p6
       try clear c9
       try clear c10
       try clear c11
       try clear c12
       try clear c17
       try clear c17b0
       try clear c18
       try clear p18
       try clear q18
       try clear hx18
       try clear c19
       try clear c21
       try clear c21b0
       try clear c23
       try clear c23b0
       try clear c24
       try clear c24b0
       try clear c25
       try clear c25b0
       try clear c26
       try clear c26b0
       try clear c27
       try clear c27b0
       try clear c28
       try clear c28b0
       try clear p29
       try clear q29
       try clear hx29
       try clear hf29
       try clear hcz11_0
       try clear hcz11_1
       try clear hcz11_2
       try clear hcz13_0
       try clear hcz13_1
       try clear hcz13_2
       try clear hcz16_0
       try clear hcz16_1
       try clear hcz16_2
       try clear hcz20_0
       try clear hcz20_1
       try clear hcz20_2
       try clear hfz11_0
       try clear hfz11_1
       try clear hfz11_2
       try clear hfz13_0
       try clear hfz13_1
       try clear hfz13_2
       try clear hfz16_0
       try clear hfz16_1
       try clear hfz16_2
       try clear hfz20_0
       try clear hfz20_1
       try clear hfz20_2
       try clear hx187_0
       try clear hx188_0
       try clear hx189_0
       try clear hx29_0
       try clear p187
       try clear p188
       try clear p189
       try clear p2
       try clear p29
       try clear p6
       try clear q187
       try clear q188
       try clear q189
       try clear q29
       obtain ⟨x5_2, x8_2, rfl, HA, HK2, HO_5, BK181, BK182, BK183, HB⟩ := hrel
       have hl5_2 := (Kd.R_reads' HO_5.out).1
       rw [hl5_2] at HO_5
       (try simp only [hl5_2])
       (try simp only [hl5_2] at BK181)
       (try simp only [hl5_2] at BK182)
       (try simp only [hl5_2] at BK183)
       cases gk with
       | zero => exact absurd HA.out (by simp [spec_DecimalTimes.l2])
       | succ k2 =>
        have H := HA.out
        clear HA
        simp only [spec_DecimalTimes.l2] at H
        by_cases c34 : x8_2 > 0
        ·
         rw [if_pos c34] at H
         have c34b0 : decide (0 < x8_2) = true := decide_eq_true c34
         clear c34
         obtain ⟨ji35, hji35⟩ : ∃ j_ : Int, (wrap64 (x8_2 - 1)) = j_ := ⟨_, rfl⟩
         replace H : (if 0 ≤ (ji35) then (if (ji35) < (x5_2.length : Int) then (if 0 ≤ x8_2 then (if x8_2 < (x5_2.length : Int) then ((some (x5_2.set ((ji35) : Int).toNat (wrap64 ((rd x5_2 (ji35)) + (wrap64 (Int.tdiv (rd x5_2 x8_2) 10)))) : List Int)).bind fun y193 => (spec_DecimalTimes.l2 k2 (y193.set (x8_2 : Int).toNat (Int.tmod (rd y193 x8_2) 10)) ji35 a0_0 l0_1 a0_2 a1_0 l1_1 a1_2)) else (none)) else (none)) else (none)) else (none)) = some (r1, r2, r3) := by first | (rw [hji35] at H; exact H) | (simp only [hji35] at H ⊢; exact H)
         have hji35w : (IntKind.i64.wrap (x8_2 - 1)) = ji35 := (i64_w _).trans hji35
         by_cases c36 : 0 ≤ (ji35)
         ·
          rw [if_pos c36] at H
          have c36b0 : decide (0 ≤ (ji35)) = true := decide_eq_true c36
          clear c36
          by_cases c37 : (ji35) < (x5_2.length : Int)
          ·
           rw [if_pos c37] at H
           have c37b0 : decide ((ji35) < (x5_2.length : Int)) = true := decide_eq_true c37
           clear c37
           by_cases c38 : 0 ≤ x8_2
           ·
            rw [if_pos c38] at H
            have c38b0 : decide (0 ≤ x8_2) = true := decide_eq_true c38
            clear c38
            by_cases c39 : x8_2 < (x5_2.length : Int)
            ·
             rw [if_pos c39] at H
             have c39b0 : decide (x8_2 < (x5_2.length : Int)) = true := decide_eq_true c39
             clear c39
             obtain ⟨y193, hy193⟩ : ∃ y_ : List Int, y_ = (x5_2.set ((ji35) : Int).toNat (wrap64 ((rd x5_2 (ji35)) + (wrap64 (Int.tdiv (rd x5_2 x8_2) 10))))) := ⟨_, rfl⟩
             replace H : (spec_DecimalTimes.l2 k2 (y193.set (x8_2 : Int).toNat (Int.tmod (rd y193 x8_2) 10)) ji35 a0_0 l0_1 a0_2 a1_0 l1_1 a1_2) = some (r1, r2, r3) := by first | (rw [hy193]; with_reducible exact H) | (have H2_ := (Option.bind_some _ _).symm.trans H; rw [hy193]; with_reducible exact H2_) | (have H2_ := (Option.bind_some _ _).symm.trans H; with_reducible exact H2_) | with_reducible exact H | (rw [hy193]; exact H) | exact H
             have Ny193 := aM_ hy193
             clear hy193
             obtain ⟨y195, hy195⟩ : ∃ y_ : List Int, y_ = (y193.set (x8_2 : Int).toNat (Int.tmod (rd y193 x8_2) 10)) := ⟨_, rfl⟩
             replace H : (spec_DecimalTimes.l2 k2 y195 ji35 a0_0 l0_1 a0_2 a1_0 l1_1 a1_2) = some (r1, r2, r3) := by first | (rw [hy195]; with_reducible exact H) | (have H2_ := (Option.bind_some _ _).symm.trans H; rw [hy195]; with_reducible exact H2_) | (have H2_ := (Option.bind_some _ _).symm.trans H; with_reducible exact H2_) | with_reducible exact H | (rw [hy195]; exact H) | exact H
             have Ny195 := aM_ hy195
             clear hy195
             have H' := aM_ H
             clear H
             try go_wp2
             have n0_ := aM_ (kD_ HO_5.out)
             have n1_ := aM_ (bD_ BK181.out)
             have n2_ := aM_ (bD_ BK182.out)
             have n3_ := aM_ (bD_ BK183.out)
             have n4_ := aM_ (bE_ HB.out)
             clear HO_5
             clear BK181
             clear BK182
             clear BK183
             clear HB
             have HO_5 := n0_
             have BK181 := n1_
             have BK182 := n2_
             have BK183 := n3_
             have HB := n4_
             clear n0_ n1_ n2_ n3_ n4_
             have p191 : 0 ≤ ((ji35) : Int) := of_decide_eq_true (by first | (with_reducible assumption) | assumption)
             have q191 : (ji35) < (x5_2.length : Int) := of_decide_eq_true (by first | (with_reducible assumption) | assumption)
             obtain ⟨ad191, e191, hx191_0⟩ := Kd.at_int (Kd.R_reads' HO_5.out).2.2 (ji35) p191 q191
             cases e191
             replace p191 := eq_true p191
             replace q191 := eq_true q191
             have p192 : 0 ≤ (x8_2 : Int) := of_decide_eq_true (by first | (with_reducible assumption) | assumption)
             have q192 : x8_2 < (x5_2.length : Int) := of_decide_eq_true (by first | (with_reducible assumption) | assumption)
             obtain ⟨ad192, e192, hx192_0⟩ := Kd.at_int (Kd.R_reads' HO_5.out).2.2 x8_2 p192 q192
             obtain rfl : ad191 = ad192 := (by injection e192)
             replace p192 := eq_true p192
             replace q192 := eq_true q192
             have p40 : 0 ≤ ((ji35) : Int) := of_decide_eq_true (by first | (with_reducible assumption) | assumption)
             have q40 : ((ji35) : Int) < ((x5_2.length : Int) : Int) := of_decide_eq_true (by first | (with_reducible assumption) | assumption)
             obtain ⟨go40, co40, eo40, gb40, gl40, cl40, HG40⟩ := Kd.R_form HO_5.out (by omega)
             (first | cases eo40 | (injection eo40 with ea_ en_ ec_; (first | subst ea_ | (injection ea_ with ea_; subst ea_)); subst ec_; clear en_))
             have GB40 := aM_ gb40
             have GG40 := aM_ HG40
             clear gb40 gl40 HG40
             (first | simp only [add_plain] at hx191_0 | skip)
             (first | simp only [add_plain] at hx192_0 | skip)
             obtain ⟨hx40_0, hf40_0⟩ := Kd.R_celln 0 HO_5.out ((ji35) : Int) p40 q40
             replace p40 := eq_true p40
             replace q40 := eq_true q40
             have HP43 := Kd.R_putn HO_5.out ((ji35) : Int) (wrap64 ((rd x5_2 (ji35)) + (wrap64 (Int.tdiv (rd x5_2 x8_2) 10))))
             rw [← Ny193.out] at HP43
             have HQ43 := aM_ HP43
             clear HP43
             refine start_ (n := 13) (S := fun w' => w'.cell? ⟨go40, ((ji35)).toNat, none⟩ = some (.int .i64 (rd x5_2 (ji35))) ∧ w'.cell? ⟨go40, (x8_2).toNat, none⟩ = some (.int .i64 (rd x5_2 x8_2))) (ds := [12]) #[false, false, false, false, false, false, false, false, false, false, false, false, false] (by kernel_rfl) rfl rfl ⟨hx191_0, hx192_0⟩ (fun hHeld => ?_); refine with_tabW spec_DecimalTimes.tab14 spec_DecimalTimes.bits14 (fun HT_ HW_ => ?_)
             generalize wr.drew = w42 at HO_5 BK181 BK182 BK183 HB GG40 HQ43 hf40_0 hx191_0 hx192_0 hx40_0 hHeld ⊢
             refine pure_ (i := 0) (N := some 59) (v := ?_) (a' := ?_) #[true, false, false, false, false, false, false, false, false, false, false, false, false] rfl rfl (any_of HT_.out (by kernel_rfl)) (fun _ _ _ h => h) (Or.inl ⟨by rfl, ?_⟩) ?_ ?_
             rotate_left
             ·
              intro w'
              go_simp
              with_reducible rfl
             rotate_left
             ·
              simp only [Act.put, List.setIfInBounds_toArray, List.set_cons_zero, List.set_cons_succ, i64_w, i32_w]
              rfl
             refine pure_ (i := 1) (N := some 60) (v := ?_) (a' := ?_) #[true, true, false, false, false, false, false, false, false, false, false, false, false] rfl rfl (any_of HT_.out (by kernel_rfl)) (fun _ _ _ h => h) (Or.inl ⟨by rfl, ?_⟩) ?_ ?_
             rotate_left
             ·
              intro w'
              go_simp
              with_reducible rfl
             rotate_left
             ·
              simp only [Act.put, List.setIfInBounds_toArray, List.set_cons_zero, List.set_cons_succ, i64_w, i32_w]
              rfl
             refine pure_ (i := 2) (N := some 61) (v := ?_) (a' := ?_) #[true, true, true, false, false, false, false, false, false, false, false, false, false] rfl rfl (any_of HT_.out (by kernel_rfl)) (fun _ _ _ h => h) (Or.inl ⟨by rfl, ?_⟩) ?_ ?_
             rotate_left
             ·
              intro w'
              go_simp
              with_reducible rfl
             rotate_left
             ·
              simp only [Act.put, List.setIfInBounds_toArray, List.set_cons_zero, List.set_cons_succ, i64_w, i32_w]
              rfl
             refine pure_ (i := 3) (N := some 62) (v := ?_) (a' := ?_) #[true, true, true, true, false, false, false, false, false, false, false, false, false] rfl rfl (any_of HT_.out (by kernel_rfl)) (fun _ _ _ h => h) (Or.inl ⟨by rfl, ?_⟩) ?_ ?_
             rotate_left
             ·
              intro w'
              go_simp
              with_reducible rfl
             rotate_left
             ·
              simp only [Act.put, List.setIfInBounds_toArray, List.set_cons_zero, List.set_cons_succ, i64_w, i32_w]
              rfl
             refine pure_ (i := 5) (N := some 64) (v := ?_) (a' := ?_) #[true, true, true, true, false, true, false, false, false, false, false, false, false] rfl rfl (any_of HT_.out (by kernel_rfl)) (fun _ _ _ h => h) (Or.inl ⟨by rfl, ?_⟩) ?_ ?_
             rotate_left
             ·
              intro w'
              go_simp
              with_reducible rfl
             rotate_left
             ·
              simp only [Act.put, List.setIfInBounds_toArray, List.set_cons_zero, List.set_cons_succ, i64_w, i32_w]
              rfl
             refine pure_ (i := 6) (N := some 65) (v := ?_) (a' := ?_) #[true, true, true, true, false, true, true, false, false, false, false, false, false] rfl rfl (any_of HT_.out (by kernel_rfl)) (fun _ _ _ h => h) (Or.inl ⟨by rfl, ?_⟩) ?_ ?_
             rotate_left
             ·
              intro w'
              go_simp
              with_reducible rfl
             rotate_left
             ·
              simp only [Act.put, List.setIfInBounds_toArray, List.set_cons_zero, List.set_cons_succ, i64_w, i32_w]
              rfl
             refine pure_ (i := 7) (N := some 66) (v := ?_) (a' := ?_) #[true, true, true, true, false, true, true, true, false, false, false, false, false] rfl rfl (any_of HT_.out (by kernel_rfl)) (fun _ _ _ h => h) (Or.inl ⟨by rfl, ?_⟩) ?_ ?_
             rotate_left
             ·
              intro w'
              go_simp
              with_reducible rfl
             rotate_left
             ·
              simp only [Act.put, List.setIfInBounds_toArray, List.set_cons_zero, List.set_cons_succ, i64_w, i32_w]
              rfl
             refine take_ (i := 4) (N := some 63) (v := ?_) (a' := ?_) #[true, true, true, true, true, true, true, true, false, false, false, false, false] rfl rfl (take_ofW HT_.out HW_.out (by kernel_rfl)) (fun _ _ _ h => h) (Or.inl ⟨by rfl, ?_⟩) hHeld ?_ ?_
             rotate_left
             ·
              rintro w' ⟨s0, s1⟩
              go_simp
              with_reducible rfl
             rotate_left
             ·
              simp only [Act.put, List.setIfInBounds_toArray, List.set_cons_zero, List.set_cons_succ, i64_w, i32_w]
              rfl
             refine take_ (i := 8) (N := some 67) (v := ?_) (a' := ?_) #[true, true, true, true, true, true, true, true, true, false, false, false, false] rfl rfl (take_ofW HT_.out HW_.out (by kernel_rfl)) (fun _ _ _ h => h) (Or.inl ⟨by rfl, ?_⟩) hHeld ?_ ?_
             rotate_left
             ·
              rintro w' ⟨s0, s1⟩
              go_simp
              with_reducible rfl
             rotate_left
             ·
              simp only [Act.put, List.setIfInBounds_toArray, List.set_cons_zero, List.set_cons_succ, i64_w, i32_w]
              rfl
             refine pure_ (i := 9) (N := some 68) (v := ?_) (a' := ?_) #[true, true, true, true, true, true, true, true, true, true, false, false, false] rfl rfl (any_of HT_.out (by kernel_rfl)) (fun _ _ _ h => h) (Or.inl ⟨by rfl, ?_⟩) ?_ ?_
             rotate_left
             ·
              intro w'
              go_simp
              with_reducible rfl
             rotate_left
             ·
              simp only [Act.put, List.setIfInBounds_toArray, List.set_cons_zero, List.set_cons_succ, i64_w, i32_w]
              rfl
             refine pure_ (i := 10) (N := some 69) (v := ?_) (a' := ?_) #[true, true, true, true, true, true, true, true, true, true, true, false, false] rfl rfl (any_of HT_.out (by kernel_rfl)) (fun _ _ _ h => h) (Or.inl ⟨by rfl, ?_⟩) ?_ ?_
             rotate_left
             ·
              intro w'
              go_simp
              with_reducible rfl
             rotate_left
             ·
              simp only [Act.put, List.setIfInBounds_toArray, List.set_cons_zero, List.set_cons_succ, i64_w, i32_w]
              rfl
             refine pure_ (i := 11) (N := some 70) (v := ?_) (a' := ?_) #[true, true, true, true, true, true, true, true, true, true, true, true, false] rfl rfl (any_of HT_.out (by kernel_rfl)) (fun _ _ _ h => h) (Or.inl ⟨by rfl, ?_⟩) ?_ ?_
             rotate_left
             ·
              intro w'
              go_simp
              with_reducible rfl
             rotate_left
             ·
              simp only [Act.put, List.setIfInBounds_toArray, List.set_cons_zero, List.set_cons_succ, i64_w, i32_w]
              rfl
             refine last_ (i := 12) (N := none) #[true, true, true, true, true, true, true, true, true, true, true, true, true] rfl rfl (one_of HT_.out (by kernel_rfl)) (by decide) (fun K hK => ?_)
             refine skip_ (w1 := ?_) (by rfl) rfl ?_ ?_
             rotate_left
             ·
              go_simp
              rfl
             refine hK.out _ _ ?_
             clear hK K
             refine done_ (done_of HT_.out (by kernel_rfl)) ?_
             have n0_ : Aside0 (Kd.R (Kd.int .i64) 3 (w42.setCell ⟨go40, ((ji35) : Int).toNat, none⟩ (.int .i64 (wrap64 ((rd x5_2 (ji35)) + (wrap64 (Int.tdiv (rd x5_2 x8_2) 10)))))) w.heap.size (fun _ => True) (.slice (some ⟨go40, 0, none⟩) x5_2.length co33) y193) := ⟨by (with_reducible repeat (first | apply kA_ | apply kN_ | apply kD_)); exact HQ43.out⟩
             have n1_ : Aside0 ((w42.setCell ⟨go40, ((ji35) : Int).toNat, none⟩ (.int .i64 (wrap64 ((rd x5_2 (ji35)) + (wrap64 (Int.tdiv (rd x5_2 x8_2) 10)))))).heap[gb181]? = some (.cells #[.bool a0_0, .slice A0_1 l0_1.length c0_1, .int .i64 a0_2] 26 (0, 0))) := ⟨by (with_reducible repeat (first | refine bN_ ?_ _ | refine bD_ ?_ | refine bA_ ?_ _)); refine blk_far ?_ (by have h_ := Kd.R_ne HO_5.out BK181.out (by decide); intro e_; exact h_ (by rw [e_]; rfl)) _; (with_reducible repeat (first | refine bN_ ?_ _ | refine bD_ ?_ | refine bA_ ?_ _)); exact BK181.out⟩
             have n2_ : Aside0 ((w42.setCell ⟨go40, ((ji35) : Int).toNat, none⟩ (.int .i64 (wrap64 ((rd x5_2 (ji35)) + (wrap64 (Int.tdiv (rd x5_2 x8_2) 10)))))).heap[gb182]? = some (.cells #[.bool a1_0, .slice A1_1 l1_1.length c1_1, .int .i64 a1_2] 26 (0, 0))) := ⟨by (with_reducible repeat (first | refine bN_ ?_ _ | refine bD_ ?_ | refine bA_ ?_ _)); refine blk_far ?_ (by have h_ := Kd.R_ne HO_5.out BK182.out (by decide); intro e_; exact h_ (by rw [e_]; rfl)) _; (with_reducible repeat (first | refine bN_ ?_ _ | refine bD_ ?_ | refine bA_ ?_ _)); exact BK182.out⟩
             have n3_ : Aside0 ((w42.setCell ⟨go40, ((ji35) : Int).toNat, none⟩ (.int .i64 (wrap64 ((rd x5_2 (ji35)) + (wrap64 (Int.tdiv (rd x5_2 x8_2) 10)))))).heap[gb183]? = some (.cells #[.bool false, .slice none 0 0, .int .i64 0] 26 (0, 0))) := ⟨by (with_reducible repeat (first | refine bN_ ?_ _ | refine bD_ ?_ | refine bA_ ?_ _)); refine blk_far ?_ (by have h_ := Kd.R_ne HO_5.out BK183.out (by decide); intro e_; exact h_ (by rw [e_]; rfl)) _; (with_reducible repeat (first | refine bN_ ?_ _ | refine bD_ ?_ | refine bA_ ?_ _)); exact BK183.out⟩
             have n4_ : Aside0 (Below w.heap.size w (w42.setCell ⟨go40, ((ji35) : Int).toNat, none⟩ (.int .i64 (wrap64 ((rd x5_2 (ji35)) + (wrap64 (Int.tdiv (rd x5_2 x8_2) 10))))))) := ⟨by repeat (first | (with_reducible first | exact HB.out | apply bB_ | apply wN_ | apply bE_ | refine bS_ ?_ GB40.out | refine bS_ ?_ GE181.out | refine bS_ ?_ GE182.out | refine bS_ ?_ GE183.out) | exact HB.out)⟩
             (try clear HO_5)
             (try clear BK181)
             (try clear BK182)
             (try clear BK183)
             (try clear HB)
             generalize (w42.setCell ⟨go40, ((ji35) : Int).toNat, none⟩ (.int .i64 (wrap64 ((rd x5_2 (ji35)) + (wrap64 (Int.tdiv (rd x5_2 x8_2) 10)))))) = w44 at n0_ n1_ n2_ n3_ n4_ ⊢
             have HO_5 := n0_
             have BK181 := n1_
             have BK182 := n2_
             have BK183 := n3_
             have HB := n4_
             clear n0_ n1_ n2_ n3_ n4_
             have p194 : 0 ≤ (x8_2 : Int) := of_decide_eq_true (by first | (with_reducible assumption) | assumption)
             have q194 : x8_2 < (y193.length : Int) := (by have h_ : (x8_2 : Int) < ((x5_2.length : Int) : Int) := of_decide_eq_true (by first | (with_reducible assumption) | assumption); first | (have e_ := (Kd.R_reads' HO_5.out).1; omega) | simpa only [Ny193.out, List.length_set] using h_)
             have ql194 : ((x8_2 : Int) < ((x5_2.length : Int) : Int)) = True := eq_true (of_decide_eq_true (by first | (with_reducible assumption) | assumption))
             obtain ⟨ad194, e194, hx194_0⟩ := Kd.at_int (Kd.R_reads' HO_5.out).2.2 x8_2 p194 q194
             obtain rfl : (⟨go40, 0, none⟩ : Addr) = ad194 := (by injection e194)
             (first | simp only [add_plain] at hx194_0 | simp only [add_at] at hx194_0 | simp only [Addr.add, Nat.zero_add] at hx194_0 | skip)
             replace p194 := eq_true p194
             replace q194 := eq_true q194
             have p41 : 0 ≤ (x8_2 : Int) := of_decide_eq_true (by first | (with_reducible assumption) | assumption)
             have q41 : (x8_2 : Int) < ((x5_2.length : Int) : Int) := of_decide_eq_true (by first | (with_reducible assumption) | assumption)
             obtain ⟨hx41_0, hf41_0⟩ := Kd.R_celln 0 HO_5.out (x8_2 : Int) p41 q41
             replace p41 := eq_true p41
             replace q41 := eq_true q41
             obtain ⟨hy45_, hz45_⟩ := Kd.R_celln 0 HO_5.out (x8_2 : Int) (of_decide_eq_true (by first | (with_reducible assumption) | assumption)) (of_decide_eq_true (by first | (with_reducible assumption) | assumption))
             have HP45 := Kd.R_putg HO_5.out (x8_2 : Int) (Int.tmod (rd y193 x8_2) 10)
             try go_wp2_with (first | ((with_reducible refine gate_store (t := 3) (p := 76) rfl ?_); refine store_event (t := 3) (p := 76) (v := ?vo_w46) (w1 := (w44.setCell ⟨go40, (x8_2 : Int).toNat, none⟩ (.int .i64 (Int.tmod (rd y193 x8_2) 10)))) ?hg ?ho ?hn ?hr ?_; (case ho => rfl); (case hg => rfl); (case hn => rfl); (case hr => first | (go_simp; done) | (go_simp; rfl)); intro w46 hw; have hg : w44.grownBy w46 (some go40) := (by rw [hw]; exact HP45.2); have hp_ : Kd.R (Kd.int .i64) 3 w46 w.heap.size (fun _ => True) (.slice (some ⟨go40, 0, none⟩) x5_2.length co33) y195 := (by rw [hw, Ny195.out]; exact HP45.1); clear HP45; have n0_ := aM_ (hp_); have n1_ := aM_ (blk_grown (g := gb181) (o := .cells #[.bool a0_0, .slice A0_1 l0_1.length c0_1, .int .i64 a0_2] 26 (0, 0)) (by (with_reducible repeat (first | refine bN_ ?_ _ | refine bD_ ?_ | refine bA_ ?_ _)); exact BK181.out) hg (Kd.R_ne HO_5.out BK181.out (by decide))); have n2_ := aM_ (blk_grown (g := gb182) (o := .cells #[.bool a1_0, .slice A1_1 l1_1.length c1_1, .int .i64 a1_2] 26 (0, 0)) (by (with_reducible repeat (first | refine bN_ ?_ _ | refine bD_ ?_ | refine bA_ ?_ _)); exact BK182.out) hg (Kd.R_ne HO_5.out BK182.out (by decide))); have n3_ := aM_ (blk_grown (g := gb183) (o := .cells #[.bool false, .slice none 0 0, .int .i64 0] 26 (0, 0)) (by (with_reducible repeat (first | refine bN_ ?_ _ | refine bD_ ?_ | refine bA_ ?_ _)); exact BK183.out) hg (Kd.R_ne HO_5.out BK183.out (by decide))); have n4_ := aM_ ((by rw [hw]; exact bS_ (HB.out) GB40.out : Below w.heap.size w w46)); clear HO_5; clear BK181; clear BK182; clear BK183; clear HB; have HO_5 := n0_; have BK181 := n1_; have BK182 := n2_; have BK183 := n3_; have HB := n4_; clear n0_ n1_ n2_ n3_ n4_; clear hg hw hp_))
             (try simp only [← hl5_2])
             go_roundg k2
             case measure => have := HK1.out; have := HK2.out; omega
             case rel => exact ⟨(y195), (ji35), (by first | rfl | (simp; done) | (simp only [← hji35] <;> (first | rfl | simp)) | (simp [*]; done)), H', ⟨by have := HK1.out; have := HK2.out; omega⟩, ⟨by (try simp only [hl5_2]); (with_reducible repeat (first | apply kA_ | apply kN_ | apply kD_)); exact HO_5.out⟩, ⟨by (try simp only [hl5_2]); (with_reducible repeat (first | refine bN_ ?_ _ | refine bD_ ?_ | refine bA_ ?_ _)); exact BK181.out⟩, ⟨by (try simp only [hl5_2]); (with_reducible repeat (first | refine bN_ ?_ _ | refine bD_ ?_ | refine bA_ ?_ _)); exact BK182.out⟩, ⟨by (try simp only [hl5_2]); (with_reducible repeat (first | refine bN_ ?_ _ | refine bD_ ?_ | refine bA_ ?_ _)); exact BK183.out⟩, ⟨by repeat (first | (with_reducible first | exact HB.out | apply bB_ | apply wN_ | apply bE_ | refine bS_ ?_ GE181.out | refine bS_ ?_ GE182.out | refine bS_ ?_ GE183.out) | exact HB.out)⟩⟩
            ·
             rw [if_neg c39] at H
             exact absurd H (by simp)
           ·
            rw [if_neg c38] at H
            exact absurd H (by simp)
          ·
           rw [if_neg c37] at H
           exact absurd H (by simp)
         ·
          rw [if_neg c36] at H
          exact absurd H (by simp)
        ·
         rw [if_neg c34] at H
         have c34b0 : decide (0 < x8_2) = false := decide_eq_false c34
         clear c34
         replace H := Option.bind_eq_some_iff.mp H
         obtain ⟨⟨t196, t197, t200⟩, A470, H⟩ := H
         replace H : (some (t196, t197, t200)) = some (r1, r2, r3) := H
         have A47 := aM_ A470
         clear A470
         simp only [Option.some.injEq, Prod.mk.injEq] at H
         obtain ⟨rfl, rfl, rfl⟩ := H
         have hnb48 := NB181_182.out
         have hnc48 := NB182_181.out
         have hnb49 := NB181_183.out
         have hnc49 := NB183_181.out
         have hcz50_0 : wr.cell? ⟨gb181, 0, none⟩ = some (.bool a0_0) := (bC_ BK181.out 0).trans rfl
         have hcz50_1 : wr.cell? ⟨gb181, 1, none⟩ = some (.slice A0_1 l0_1.length c0_1) := (bC_ BK181.out 1).trans rfl
         have hcz50_2 : wr.cell? ⟨gb181, 2, none⟩ = some (.int .i64 a0_2) := (bC_ BK181.out 2).trans rfl
         have hfz50_0 := bF_ BK181.out 0
         have hfz50_1 := bF_ BK181.out 1
         have hfz50_2 := bF_ BK181.out 2
         have hnb51 := NB182_183.out
         have hnc51 := NB183_182.out
         have hcz52_0 : wr.cell? ⟨gb182, 0, none⟩ = some (.bool a1_0) := (bC_ BK182.out 0).trans rfl
         have hcz52_1 : wr.cell? ⟨gb182, 1, none⟩ = some (.slice A1_1 l1_1.length c1_1) := (bC_ BK182.out 1).trans rfl
         have hcz52_2 : wr.cell? ⟨gb182, 2, none⟩ = some (.int .i64 a1_2) := (bC_ BK182.out 2).trans rfl
         have hfz52_0 := bF_ BK182.out 0
         have hfz52_1 := bF_ BK182.out 1
         have hfz52_2 := bF_ BK182.out 2
         go_wp2_with (first | ((with_reducible refine gate_callee (f := 24) rfl ?_); refine goesL_ (some 88) rfl rfl Try.func24 (by kernel_rfl) rfl #[.bool (a0_0 != a1_0), .slice Ao33 x5_2.length co33, .int .i64 (wrap64 (a0_2 + a1_2))] rfl (by (try simp only [List.map_toArray, List.map_cons, List.map_nil]); first | done | rfl | (simp only [List.length_drop, List.length_take]; rfl)) ?_; (with_reducible refine (spec_decimal.calls k2 (a0_0 != a1_0) (fun k_ => some k_ = (.slice Ao33 x5_2.length co33 : Value).ownBlock) _ _ x5_2 (wrap64 (a0_2 + a1_2)) t196 t197 t200 _ ?side1 A47.out).mono ?_); (case side1 => exact Kd.R_V (Kd.R_tight rfl (Kd.R_types (Kd.R_types (Kd.R_types (HO_5.out) BK181.out (by decide)) BK182.out (by decide)) BK183.out (by decide)))); rintro e w53 ⟨v198, rfl, ho0, hb⟩; refine ⟨_, rfl, ?_⟩; have n0_ := aM_ (Kd.R_elder' (by (with_reducible repeat (first | apply kA_ | apply kN_ | apply kD_)); exact HO_5.out) (Kd.R_base ho0) hb); have n1_ := aM_ (Kd.R_lower (Kd.R_new' (Kd.R_mono (ok' := fun k_ => True) ho0 (fun _ hk_ => trivial)) (Kd.R_lt (by (with_reducible repeat (first | apply kA_ | apply kN_ | apply kD_)); exact HO_5.out))) (below_size (by repeat (first | (with_reducible first | exact HB.out | apply bB_ | apply wN_ | apply bE_ | refine bS_ ?_ GE181.out | refine bS_ ?_ GE182.out | refine bS_ ?_ GE183.out) | exact HB.out)))); have n2_ := aM_ (blk_below (g := gb181) (o := .cells #[.bool a0_0, .slice A0_1 l0_1.length c0_1, .int .i64 a0_2] 26 (0, 0)) (by (with_reducible repeat (first | refine bN_ ?_ _ | refine bD_ ?_ | refine bA_ ?_ _)); exact BK181.out) hb); have n3_ := aM_ (blk_below (g := gb182) (o := .cells #[.bool a1_0, .slice A1_1 l1_1.length c1_1, .int .i64 a1_2] 26 (0, 0)) (by (with_reducible repeat (first | refine bN_ ?_ _ | refine bD_ ?_ | refine bA_ ?_ _)); exact BK182.out) hb); have n4_ := aM_ (blk_below (g := gb183) (o := .cells #[.bool false, .slice none 0 0, .int .i64 0] 26 (0, 0)) (by (with_reducible repeat (first | refine bN_ ?_ _ | refine bD_ ?_ | refine bA_ ?_ _)); exact BK183.out) hb); have n5_ := aM_ (below_step (by repeat (first | (with_reducible first | exact HB.out | apply bB_ | apply wN_ | apply bE_ | refine bS_ ?_ GE181.out | refine bS_ ?_ GE182.out | refine bS_ ?_ GE183.out) | exact HB.out)) hb); clear HO_5; clear BK181; clear BK182; clear BK183; clear HB; have HO_5 := n0_; have HO199 := n1_; have BK181 := n2_; have BK182 := n3_; have BK183 := n4_; have HB := n5_; clear n0_ n1_ n2_ n3_ n4_ n5_; (try clear hb); (try clear hb2); (try clear hk); (try clear hi); (try clear ho0); have hcz54_0 : w53.cell? ⟨gb183, 0, none⟩ = some (.bool false) := (bC_ BK183.out 0).trans rfl; have hcz54_1 : w53.cell? ⟨gb183, 1, none⟩ = some (.slice none 0 0) := (bC_ BK183.out 1).trans rfl; have hcz54_2 : w53.cell? ⟨gb183, 2, none⟩ = some (.int .i64 0) := (bC_ BK183.out 2).trans rfl; have hfz54_0 := bF_ BK183.out 0; have hfz54_1 := bF_ BK183.out 1; have hfz54_2 := bF_ BK183.out 2; obtain ⟨Ao55, co55, eo55⟩ := Kd.R_slice HO199.out; subst eo55))
         refine bodyPost_ret (results_cell_row rfl _ _ gb183 26 #[.bool t196, .slice Ao55 t197.length co55, .int .i64 t200] (0, 0) _ rfl (by (with_reducible repeat (first | refine bN_ ?_ _ | refine bD_ ?_ | refine bA_ ?_ _)); refine blk_put (cs := #[.bool t196, .slice Ao55 t197.length co55, .int .i64 0]) ?_ 2 _ rfl; (with_reducible repeat (first | refine bN_ ?_ _ | refine bD_ ?_ | refine bA_ ?_ _)); refine blk_put (cs := #[.bool t196, .slice none 0 0, .int .i64 0]) ?_ 1 _ rfl; (with_reducible repeat (first | refine bN_ ?_ _ | refine bD_ ?_ | refine bA_ ?_ _)); refine blk_put (cs := #[.bool false, .slice none 0 0, .int .i64 0]) ?_ 0 _ rfl; (with_reducible repeat (first | refine bN_ ?_ _ | refine bD_ ?_ | refine bA_ ?_ _)); exact BK183.out) Try.underlying26 rfl (by kernel_rfl)) rfl ?_
         exact ⟨_, by first | rfl | (simp [errW_none, errW_some] <;> rfl) | (simp only [← hji3]; first | rfl | (simp [errW_none, errW_some] <;> rfl)) | (simp [*, errW_none, errW_some] <;> rfl), by (with_reducible repeat (first | apply kA_ | apply kN_ | apply kD_)); exact Kd.R_mono (Kd.R_far (p := ⟨gb183, 2, none⟩) (Kd.R_far (p := ⟨gb183, 1, none⟩) (Kd.R_far (p := ⟨gb183, 0, none⟩) (Kd.R_types HO199.out BK183.out (by decide)) (fun _ hk => hk.2) (.bool t196)) (fun _ hk => hk.2) (.slice Ao55 t197.length co55)) (fun _ hk => hk.2) (.int .i64 t200)) (fun _ hk => trivial), by repeat (first | (with_reducible first | exact HB.out | apply bB_ | apply wN_ | apply bE_ | refine bS_ ?_ GE181.out | refine bS_ ?_ GE182.out | refine bS_ ?_ GE183.out) | exact HB.out)⟩
  ·
   rw [if_neg c5] at H
   exact absurd H (by simp)
 ·
  rw [if_neg c4] at H
  exact absurd H (by simp)

end Go.Proofs.Ytdhooibmibkbeaa.PFnAmountMul
