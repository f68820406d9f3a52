-- PRINTED BY print.sh 35421559b90ae4d0a3588c463048766b98c2df88dd9212a6774a882060cdf62d: not written by this session
import Derived.Test.YtgidpggooclebaaPFnScaleDownsx0
import Derived.Test.YtgidpggooclebaaPFnScaleDownsx2
namespace Go.Proofs.Ytgidpggooclebaa.PFnScaleDowns
open Go.RowKit Go.Proofs.YtgidpggooclebaaW.PrintWords Go.Proofs.YtgidpggooclebaaW.PrintLast Go.Proofs.YtgidpggooclebaaW.PrintMore
attribute [local go_sem] max2_int min2_int max_two min_two max_three min_three max_four min_four   -- for this text's walks alone
set_option linter.unusedVariables false
set_option linter.unusedSimpArgs false

/-! ### spec_DecimalTimes: function 9 -/
mutual
def spec_DecimalTimes.l0 : Nat → List Int → Int → Int → Bool → List Int → Int → Bool → List Int → Int → Option (Bool × List Int × Int)
  | 0, _, _, _, _, _, _, _, _, _ => none
  | k + 1, x5, x20, x21, x145000, x145001, x145002, x146000, x146001, x146002 => if x21 < x20 then (spec_DecimalTimes.l1 k x5 x21 x20 x21 (x146001.length : Int) 0 x145000 x145001 x145002 x146000 x146001 x146002) else (spec_DecimalTimes.l2 k x5 (wrap64 ((x5.length : Int) - 1)) x145000 x145001 x145002 x146000 x146001 x146002)
def spec_DecimalTimes.l1 : Nat → List Int → Int → Int → Int → Int → Int → Bool → List Int → Int → Bool → List Int → Int → Option (Bool × List Int × Int)
  | 0, _, _, _, _, _, _, _, _, _, _, _, _ => none
  | k + 1, x5, x6, x20, x21, x26, x27, x145000, x145001, x145002, x146000, x146001, x146002 => if x27 < x26 then (if 0 ≤ (wrap64 ((wrap64 (x6 + x27)) + 2)) then (if (wrap64 ((wrap64 (x6 + x27)) + 2)) < (x5.length : Int) then (if 0 ≤ x6 then (if x6 < (x145001.length : Int) then (if 0 ≤ x27 then (if x27 < (x146001.length : Int) then (spec_DecimalTimes.l1 k (x5.set ((wrap64 ((wrap64 (x6 + x27)) + 2)) : Int).toNat (wrap64 ((rd x5 (wrap64 ((wrap64 (x6 + x27)) + 2))) + (wrap64 ((rd x145001 x6) * (rd x146001 x27)))))) x6 x20 x21 x26 (wrap64 (x27 + 1)) x145000 x145001 x145002 x146000 x146001 x146002) else (none)) else (none)) else (none)) else (none)) else (none)) else (none)) else (spec_DecimalTimes.l0 k x5 x20 (wrap64 (x21 + 1)) x145000 x145001 x145002 x146000 x146001 x146002)
def spec_DecimalTimes.l2 : Nat → List Int → Int → Bool → List Int → Int → Bool → List Int → Int → Option (Bool × List Int × Int)
  | 0, _, _, _, _, _, _, _, _ => none
  | k + 1, x5, x8, x145000, x145001, x145002, x146000, x146001, x146002 => if x8 > 0 then (if 0 ≤ (wrap64 (x8 - 1)) then (if (wrap64 (x8 - 1)) < (x5.length : Int) then (if 0 ≤ x8 then (if x8 < (x5.length : Int) then ((some (x5.set ((wrap64 (x8 - 1)) : Int).toNat (wrap64 ((rd x5 (wrap64 (x8 - 1))) + (wrap64 (Int.tdiv (rd x5 x8) 10)))) : List Int)).bind fun y156 => (spec_DecimalTimes.l2 k (y156.set (x8 : Int).toNat (Int.tmod (rd y156 x8) 10)) (wrap64 (x8 - 1)) x145000 x145001 x145002 x146000 x146001 x146002)) else (none)) else (none)) else (none)) else (none)) else ((spec_decimal.f k (x145000 != x146000) x5 (wrap64 (x145002 + x146002))).bind fun bt159 => (some (bt159.1, bt159.2.1, bt159.2.2)))
end
def spec_DecimalTimes.f (k : Nat) (a0_0 : Bool) (l0_1 : List Int) (a0_2 : Int) (a1_0 : Bool) (l1_1 : List Int) (a1_2 : Int) : Option (Bool × List Int × Int) := if 0 ≤ (wrap64 ((wrap64 ((l0_1.length : Int) + (l1_1.length : Int))) + 1)) then (if (wrap64 ((wrap64 ((l0_1.length : Int) + (l1_1.length : Int))) + 1) : Int).toNat ≤ 35184372088832 then (spec_DecimalTimes.l0 k (List.replicate (wrap64 ((wrap64 ((l0_1.length : Int) + (l1_1.length : Int))) + 1) : Int).toNat 0) (l0_1.length : Int) 0 a0_0 l0_1 a0_2 a1_0 l1_1 a1_2) else (none)) else (none)
theorem spec_DecimalTimes.mono_l : ∀ k, (∀ y0 y1 y2 y3 y4 y5 y6 y7 y8, LeO (spec_DecimalTimes.l0 k y0 y1 y2 y3 y4 y5 y6 y7 y8) (spec_DecimalTimes.l0 (k + 1) y0 y1 y2 y3 y4 y5 y6 y7 y8)) ∧ (∀ y0 y1 y2 y3 y4 y5 y6 y7 y8 y9 y10 y11, LeO (spec_DecimalTimes.l1 k y0 y1 y2 y3 y4 y5 y6 y7 y8 y9 y10 y11) (spec_DecimalTimes.l1 (k + 1) y0 y1 y2 y3 y4 y5 y6 y7 y8 y9 y10 y11)) ∧ (∀ y0 y1 y2 y3 y4 y5 y6 y7, LeO (spec_DecimalTimes.l2 k y0 y1 y2 y3 y4 y5 y6 y7) (spec_DecimalTimes.l2 (k + 1) y0 y1 y2 y3 y4 y5 y6 y7))
  | 0 => ⟨fun _ _ _ _ _ _ _ _ _ r h => by simp [spec_DecimalTimes.l0] at h, fun _ _ _ _ _ _ _ _ _ _ _ _ r h => by simp [spec_DecimalTimes.l1] at h, fun _ _ _ _ _ _ _ _ r h => by simp [spec_DecimalTimes.l2] at h⟩
  | k + 1 => by
    obtain ⟨ih0, ih1, ih2⟩ := spec_DecimalTimes.mono_l k
    refine ⟨?_, ?_, ?_⟩
    · intro y0 y1 y2 y3 y4 y5 y6 y7 y8
      unfold spec_DecimalTimes.l0
      repeat' first
      | (with_reducible exact ih0 _ _ _ _ _ _ _ _ _)
      | (with_reducible exact ih1 _ _ _ _ _ _ _ _ _ _ _ _)
      | (with_reducible exact ih2 _ _ _ _ _ _ _ _)
      | (with_reducible exact spec_decimal.mono _ _ _ _)
      | (with_reducible exact LeO.refl _)
      | (with_reducible exact LeO.none _)
      | (with_reducible refine LeO.ite ?_ ?_)
      | (with_reducible refine LeO.bind ?_ (fun _ => ?_))
      | exact ih0 _ _ _ _ _ _ _ _ _
      | exact ih1 _ _ _ _ _ _ _ _ _ _ _ _
      | exact ih2 _ _ _ _ _ _ _ _
      | exact spec_decimal.mono _ _ _ _
      | exact LeO.none _
      | refine LeO.ite ?_ ?_
      | refine LeO.bind ?_ (fun _ => ?_)
    · intro y0 y1 y2 y3 y4 y5 y6 y7 y8 y9 y10 y11
      unfold spec_DecimalTimes.l1
      repeat' first
      | (with_reducible exact ih0 _ _ _ _ _ _ _ _ _)
      | (with_reducible exact ih1 _ _ _ _ _ _ _ _ _ _ _ _)
      | (with_reducible exact ih2 _ _ _ _ _ _ _ _)
      | (with_reducible exact spec_decimal.mono _ _ _ _)
      | (with_reducible exact LeO.refl _)
      | (with_reducible exact LeO.none _)
      | (with_reducible refine LeO.ite ?_ ?_)
      | (with_reducible refine LeO.bind ?_ (fun _ => ?_))
      | exact ih0 _ _ _ _ _ _ _ _ _
      | exact ih1 _ _ _ _ _ _ _ _ _ _ _ _
      | exact ih2 _ _ _ _ _ _ _ _
      | exact spec_decimal.mono _ _ _ _
      | exact LeO.none _
      | refine LeO.ite ?_ ?_
      | refine LeO.bind ?_ (fun _ => ?_)
    · intro y0 y1 y2 y3 y4 y5 y6 y7
      unfold spec_DecimalTimes.l2
      repeat' first
      | (with_reducible exact ih0 _ _ _ _ _ _ _ _ _)
      | (with_reducible exact ih1 _ _ _ _ _ _ _ _ _ _ _ _)
      | (with_reducible exact ih2 _ _ _ _ _ _ _ _)
      | (with_reducible exact spec_decimal.mono _ _ _ _)
      | (with_reducible exact LeO.refl _)
      | (with_reducible exact LeO.none _)
      | (with_reducible refine LeO.ite ?_ ?_)
      | (with_reducible refine LeO.bind ?_ (fun _ => ?_))
      | exact ih0 _ _ _ _ _ _ _ _ _
      | exact ih1 _ _ _ _ _ _ _ _ _ _ _ _
      | exact ih2 _ _ _ _ _ _ _ _
      | exact spec_decimal.mono _ _ _ _
      | exact LeO.none _
      | refine LeO.ite ?_ ?_
      | refine LeO.bind ?_ (fun _ => ?_)
theorem spec_DecimalTimes.mono : ∀ a0 a1 a2 a3 a4 a5 k, LeO (spec_DecimalTimes.f k a0 a1 a2 a3 a4 a5) (spec_DecimalTimes.f (k + 1) a0 a1 a2 a3 a4 a5) := by
  intro a0 a1 a2 a3 a4 a5 k
  obtain ⟨ih0, ih1, ih2⟩ := spec_DecimalTimes.mono_l k
  unfold spec_DecimalTimes.f
  repeat' first
      | (with_reducible exact ih0 _ _ _ _ _ _ _ _ _)
      | (with_reducible exact ih1 _ _ _ _ _ _ _ _ _ _ _ _)
      | (with_reducible exact ih2 _ _ _ _ _ _ _ _)
      | (with_reducible exact spec_decimal.mono _ _ _ _)
      | (with_reducible exact LeO.refl _)
      | (with_reducible exact LeO.none _)
      | (with_reducible refine LeO.ite ?_ ?_)
      | (with_reducible refine LeO.bind ?_ (fun _ => ?_))
      | exact ih0 _ _ _ _ _ _ _ _ _
      | exact ih1 _ _ _ _ _ _ _ _ _ _ _ _
      | exact ih2 _ _ _ _ _ _ _ _
      | exact spec_decimal.mono _ _ _ _
      | exact LeO.none _
      | refine LeO.ite ?_ ?_
      | refine LeO.bind ?_ (fun _ => ?_)
def spec_DecimalTimes.T8 : Bool × List (List Nat × List Nat) := (true, [([], []), ([], []), ([], []), ([1, 2], [1, 2]), ([3], [3]), ([0, 4], [0, 4]), ([5], [5]), ([], []), ([7], [7]), ([], []), ([8, 9], [8, 9]), ([10], [10]), ([], []), ([12], [12]), ([], []), ([13, 14], [13, 14]), ([15], [15]), ([11, 16], [11, 16]), ([6, 17], [6, 17]), ([0, 4, 0, 1, 2, 3, 4, 5, 6, 7, 8, 9, 10, 11, 12, 13, 14, 15, 16, 17, 18], [0, 4]), ([19, 18, 0, 1, 2, 3, 4, 5, 6, 7, 8, 9, 10, 11, 12, 13, 14, 15, 16, 17, 18], [18, 19])])
def spec_DecimalTimes.B8 : List Nat := [0, 0, 0, 6, 14, 31, 63, 0, 128, 0, 896, 1920, 0, 4096, 0, 28672, 61440, 130944, 262143, 524287, 1048575]
theorem spec_DecimalTimes.tab8 : rtab .any (opsOf Try.f9 8) = spec_DecimalTimes.T8 := by kernel_rfl
theorem spec_DecimalTimes.bits8 : waitsOk spec_DecimalTimes.T8.2 spec_DecimalTimes.B8 = true := by kernel_rfl
def spec_DecimalTimes.T14 : Bool × List (List Nat × List Nat) := (true, [([], []), ([], []), ([1], [1]), ([0, 2], [0, 2]), ([3], [3]), ([], []), ([], []), ([5, 6], [5, 6]), ([7], [7]), ([8], [8]), ([4, 9], [4, 9]), ([0, 2, 0, 1, 2, 3, 4, 5, 6, 7, 8, 9, 10], [0, 2]), ([11, 10, 0, 1, 2, 3, 4, 5, 6, 7, 8, 9, 10], [10, 11])])
def spec_DecimalTimes.B14 : List Nat := [0, 0, 2, 7, 15, 0, 0, 96, 224, 480, 1023, 2047, 4095]
theorem spec_DecimalTimes.tab14 : rtab .any (opsOf Try.f9 14) = spec_DecimalTimes.T14 := by kernel_rfl
theorem spec_DecimalTimes.bits14 : waitsOk spec_DecimalTimes.T14.2 spec_DecimalTimes.B14 = true := by kernel_rfl
set_option maxHeartbeats 8000000 in
set_option maxRecDepth 100000 in
theorem spec_DecimalTimes.calls (k : Nat) (a0_0 : Bool) (A0_1 : Option Addr) (c0_1 : Nat) (l0_1 : List Int) (a0_2 : Int) (a1_0 : Bool) (A1_1 : Option Addr) (c1_1 : Nat) (l1_1 : List Int) (a1_2 : Int) (r1 : Bool) (r2 : List Int) (r3 : Int) (w : World) (hr0_1 : Kd.C (Kd.int .i64) w A0_1 l0_1.length l0_1) (hc0_1 : l0_1.length ≤ c0_1) (hr1_1 : Kd.C (Kd.int .i64) w A1_1 l1_1.length l1_1) (hc1_1 : l1_1.length ≤ c1_1) (h : spec_DecimalTimes.f k a0_0 l0_1 a0_2 a1_0 l1_1 a1_2 = some (r1, r2, r3)) :
    Calls Try.prog 9 #[.agg #[.bool a0_0, .slice A0_1 l0_1.length c0_1, .int .i64 a0_2], .agg #[.bool a1_0, .slice A1_1 l1_1.length c1_1, .int .i64 a1_2]] w fun e w' => ∃ v1_ : Value, e = .returned (.agg #[.bool r1, v1_, .int .i64 r3]) ∧ Kd.R (Kd.int .i64) 3 w' w.heap.size (fun _ => True) v1_ r2 ∧ Below w.heap.size w w' := by
  have hu26 := Try.underlying26
  have HR0_1 := Aside0.mk hr0_1
  have HC0_1 := Aside0.mk hc0_1
  clear hr0_1 hc0_1
  have HR1_1 := Aside0.mk hr1_1
  have HC1_1 := Aside0.mk hc1_1
  clear hr1_1 hc1_1
  have HB := Aside0.mk (Below.refl w.heap.size w)
  have H : (if 0 ≤ (wrap64 ((wrap64 ((l0_1.length : Int) + (l1_1.length : Int))) + 1)) then (if (wrap64 ((wrap64 ((l0_1.length : Int) + (l1_1.length : Int))) + 1) : Int).toNat ≤ 35184372088832 then (spec_DecimalTimes.l0 k (List.replicate (wrap64 ((wrap64 ((l0_1.length : Int) + (l1_1.length : Int))) + 1) : Int).toNat 0) (l0_1.length : Int) 0 a0_0 l0_1 a0_2 a1_0 l1_1 a1_2) else (none)) else (none)) = some (r1, r2, r3) := h
  clear h
  obtain ⟨ji3, hji3⟩ : ∃ j_ : Int, (wrap64 ((wrap64 ((l0_1.length : Int) + (l1_1.length : Int))) + 1)) = j_ := ⟨_, rfl⟩
  replace H : (if 0 ≤ (ji3) then (if (ji3 : Int).toNat ≤ 35184372088832 then (spec_DecimalTimes.l0 k (List.replicate (ji3 : Int).toNat 0) (l0_1.length : Int) 0 a0_0 l0_1 a0_2 a1_0 l1_1 a1_2) else (none)) else (none)) = some (r1, r2, r3) := by first | (rw [hji3] at H; exact H) | (simp only [hji3] at H ⊢; exact H)
  have hji3w : (IntKind.i64.wrap ((wrap64 ((l0_1.length : Int) + (l1_1.length : Int))) + 1)) = ji3 := (i64_w _).trans hji3
  by_cases c4 : 0 ≤ (ji3)
  · rw [if_pos c4] at H
    have c4b0 := eq_true c4
    have c4b1 : decide (0 ≤ (ji3)) = true := decide_eq_true c4
    clear c4
    by_cases c5 : (ji3 : Int).toNat ≤ 35184372088832
    · rw [if_pos c5] at H
      have c5b0 := eq_true c5
      have c5b1 : decide ((ji3 : Int).toNat ≤ 35184372088832) = true := decide_eq_true c5
      clear c5
      obtain ⟨y147, hy147⟩ : ∃ y_ : List Int, y_ = (List.replicate (ji3 : Int).toNat 0) := ⟨_, rfl⟩
      replace H : (spec_DecimalTimes.l0 k y147 (l0_1.length : Int) 0 a0_0 l0_1 a0_2 a1_0 l1_1 a1_2) = some (r1, r2, r3) := by first | (rw [hy147]; with_reducible exact H) | (have H2_ := (Option.bind_some _ _).symm.trans H; rw [hy147]; with_reducible exact H2_) | (have H2_ := (Option.bind_some _ _).symm.trans H; with_reducible exact H2_) | with_reducible exact H | (rw [hy147]; exact H) | exact H
      have Ny147 := Aside0.mk hy147
      clear hy147
      have H' := Aside0.mk H
      clear H
      go_enter Try.func9, Try.ntmps9
      go_wp2_with (first | ((with_reducible refine gate_dst (N := 2) rfl ?_); refine box_event ?hg (N := 2) ?hd (cs := #[.bool a0_0, .slice A0_1 l0_1.length c0_1, .int .i64 a0_2]) (t := 26) ?hr ?_; (case hd => rfl); (case hg => rfl); (case hr => first | (go_simp; done) | (go_simp; rfl)); intro gb144 hg w6 hbox hb; have n0_ := Aside0.mk (below_step (by repeat (first | (with_reducible first | exact HB.out | apply below_alloc | apply pw_below_drewN | apply below_drew1) | exact HB.out)) hb); have n1_ := Aside0.mk (hbox); have n2_ := Aside0.mk ((by rw [hg]; exact (below_size (by repeat (first | (with_reducible first | exact HB.out | apply below_alloc | apply pw_below_drewN | apply below_drew1) | exact HB.out))) : w.heap.size ≤ gb144)); have n3_ := Aside0.mk ((by rw [hg]; exact (below_size (by repeat (first | (with_reducible first | exact HB.out | apply below_alloc | apply pw_below_drewN | apply below_drew1) | exact HB.out))) : w.heap.size ≤ gb144)); clear HB; have HB := n0_; have BK144 := n1_; have GW144 := n2_; have GE144 := n3_; clear n0_ n1_ n2_ n3_; clear hb hbox hg) | ((with_reducible refine gate_dst (N := 3) rfl ?_); refine box_event ?hg (N := 3) ?hd (cs := #[.bool a1_0, .slice A1_1 l1_1.length c1_1, .int .i64 a1_2]) (t := 26) ?hr ?_; (case hd => rfl); (case hg => rfl); (case hr => first | (go_simp; done) | (go_simp; rfl)); intro gb145 hg w7 hbox hb; have n0_ := Aside0.mk (blk_below (g := gb144) (o := .cells #[.bool a0_0, .slice A0_1 l0_1.length c0_1, .int .i64 a0_2] 26 (0, 0)) (by (with_reducible repeat (first | refine blk_drewN ?_ _ | refine blk_drew ?_ | refine blk_alloc ?_ _)); exact BK144.out) hb); have n1_ := Aside0.mk (below_step (by repeat (first | (with_reducible first | exact HB.out | apply below_alloc | apply pw_below_drewN | apply below_drew1 | refine below_set ?_ GE144.out) | exact HB.out)) hb); have n2_ := Aside0.mk (hbox); have n3_ := Aside0.mk ((by rw [hg]; exact (below_size (by repeat (first | (with_reducible first | exact HB.out | apply below_alloc | apply pw_below_drewN | apply below_drew1 | refine below_set ?_ GE144.out) | exact HB.out))) : w.heap.size ≤ gb145)); have n4_ := Aside0.mk ((by rw [hg]; exact (below_size (by repeat (first | (with_reducible first | exact HB.out | apply below_alloc | apply pw_below_drewN | apply below_drew1 | refine below_set ?_ GE144.out) | exact HB.out))) : w.heap.size ≤ gb145)); have n5_ := Aside0.mk ((by rw [hg]; exact Nat.ne_of_lt (blk_lt (g := gb144) (o := .cells #[.bool a0_0, .slice A0_1 l0_1.length c0_1, .int .i64 a0_2] 26 (0, 0)) (by (with_reducible repeat (first | refine blk_drewN ?_ _ | refine blk_drew ?_ | refine blk_alloc ?_ _)); exact BK144.out)) : gb144 ≠ gb145)); have n6_ := Aside0.mk ((by rw [hg]; exact Nat.ne_of_gt (blk_lt (g := gb144) (o := .cells #[.bool a0_0, .slice A0_1 l0_1.length c0_1, .int .i64 a0_2] 26 (0, 0)) (by (with_reducible repeat (first | refine blk_drewN ?_ _ | refine blk_drew ?_ | refine blk_alloc ?_ _)); exact BK144.out)) : gb145 ≠ gb144)); clear BK144; clear HB; have BK144 := n0_; have HB := n1_; have BK145 := n2_; have GW145 := n3_; have GE145 := n4_; have NB144_145 := n5_; have NB145_144 := n6_; clear n0_ n1_ n2_ n3_ n4_ n5_ n6_; clear hb hbox hg) | ((with_reducible refine gate_dst (N := 4) rfl ?_); refine box_event ?hg (N := 4) ?hd (cs := #[.bool false, .slice none 0 0, .int .i64 0]) (t := 26) ?hr ?_; (case hd => rfl); (case hg => rfl); (case hr => first | (go_simp; done) | (go_simp; rfl)); intro gb146 hg w8 hbox hb; have n0_ := Aside0.mk (blk_below (g := gb144) (o := .cells #[.bool a0_0, .slice A0_1 l0_1.length c0_1, .int .i64 a0_2] 26 (0, 0)) (by (with_reducible repeat (first | refine blk_drewN ?_ _ | refine blk_drew ?_ | refine blk_alloc ?_ _)); exact BK144.out) hb); have n1_ := Aside0.mk (blk_below (g := gb145) (o := .cells #[.bool a1_0, .slice A1_1 l1_1.length c1_1, .int .i64 a1_2] 26 (0, 0)) (by (with_reducible repeat (first | refine blk_drewN ?_ _ | refine blk_drew ?_ | refine blk_alloc ?_ _)); exact BK145.out) hb); have n2_ := Aside0.mk (below_step (by repeat (first | (with_reducible first | exact HB.out | apply below_alloc | apply pw_below_drewN | apply below_drew1 | refine below_set ?_ GE144.out | refine below_set ?_ GE145.out) | exact HB.out)) hb); have n3_ := Aside0.mk (hbox); have n4_ := Aside0.mk ((by rw [hg]; exact (below_size (by repeat (first | (with_reducible first | exact HB.out | apply below_alloc | apply pw_below_drewN | apply below_drew1 | refine below_set ?_ GE144.out | refine below_set ?_ GE145.out) | exact HB.out))) : w.heap.size ≤ gb146)); have n5_ := Aside0.mk ((by rw [hg]; exact (below_size (by repeat (first | (with_reducible first | exact HB.out | apply below_alloc | apply pw_below_drewN | apply below_drew1 | refine below_set ?_ GE144.out | refine below_set ?_ GE145.out) | exact HB.out))) : w.heap.size ≤ gb146)); have n6_ := Aside0.mk ((by rw [hg]; exact Nat.ne_of_lt (blk_lt (g := gb144) (o := .cells #[.bool a0_0, .slice A0_1 l0_1.length c0_1, .int .i64 a0_2] 26 (0, 0)) (by (with_reducible repeat (first | refine blk_drewN ?_ _ | refine blk_drew ?_ | refine blk_alloc ?_ _)); exact BK144.out)) : gb144 ≠ gb146)); have n7_ := Aside0.mk ((by rw [hg]; exact Nat.ne_of_gt (blk_lt (g := gb144) (o := .cells #[.bool a0_0, .slice A0_1 l0_1.length c0_1, .int .i64 a0_2] 26 (0, 0)) (by (with_reducible repeat (first | refine blk_drewN ?_ _ | refine blk_drew ?_ | refine blk_alloc ?_ _)); exact BK144.out)) : gb146 ≠ gb144)); have n8_ := Aside0.mk ((by rw [hg]; exact Nat.ne_of_lt (blk_lt (g := gb145) (o := .cells #[.bool a1_0, .slice A1_1 l1_1.length c1_1, .int .i64 a1_2] 26 (0, 0)) (by (with_reducible repeat (first | refine blk_drewN ?_ _ | refine blk_drew ?_ | refine blk_alloc ?_ _)); exact BK145.out)) : gb145 ≠ gb146)); have n9_ := Aside0.mk ((by rw [hg]; exact Nat.ne_of_gt (blk_lt (g := gb145) (o := .cells #[.bool a1_0, .slice A1_1 l1_1.length c1_1, .int .i64 a1_2] 26 (0, 0)) (by (with_reducible repeat (first | refine blk_drewN ?_ _ | refine blk_drew ?_ | refine blk_alloc ?_ _)); exact BK145.out)) : gb146 ≠ gb145)); clear BK144; clear BK145; clear HB; have BK144 := n0_; have BK145 := n1_; have HB := n2_; have BK146 := n3_; have GW146 := n4_; have GE146 := n5_; have NB144_146 := n6_; have NB146_144 := n7_; have NB145_146 := n8_; have NB146_145 := n9_; clear n0_ n1_ n2_ n3_ n4_ n5_ n6_ n7_ n8_ n9_; clear hb hbox hg; have hnb9 := NB144_145.out; have hnc9 := NB145_144.out; have hnb10 := NB144_146.out; have hnc10 := NB146_144.out; have hcz11_0 : w8.cell? ⟨gb144, 0, none⟩ = some (.bool a0_0) := (blk_cell BK144.out 0).trans rfl; have hcz11_1 : w8.cell? ⟨gb144, 1, none⟩ = some (.slice A0_1 l0_1.length c0_1) := (blk_cell BK144.out 1).trans rfl; have hcz11_2 : w8.cell? ⟨gb144, 2, none⟩ = some (.int .i64 a0_2) := (blk_cell BK144.out 2).trans rfl; have hfz11_0 := blk_frozen BK144.out 0; have hfz11_1 := blk_frozen BK144.out 1; have hfz11_2 := blk_frozen BK144.out 2; have hnb12 := NB145_146.out; have hnc12 := NB146_145.out; have hcz13_0 : w8.cell? ⟨gb145, 0, none⟩ = some (.bool a1_0) := (blk_cell BK145.out 0).trans rfl; have hcz13_1 : w8.cell? ⟨gb145, 1, none⟩ = some (.slice A1_1 l1_1.length c1_1) := (blk_cell BK145.out 1).trans rfl; have hcz13_2 : w8.cell? ⟨gb145, 2, none⟩ = some (.int .i64 a1_2) := (blk_cell BK145.out 2).trans rfl; have hfz13_0 := blk_frozen BK145.out 0; have hfz13_1 := blk_frozen BK145.out 1; have hfz13_2 := blk_frozen BK145.out 2) | ((with_reducible refine gate_dst (N := 17) rfl ?_); refine Kd.R_make (Kd.int .i64) _ 3 rfl (N := 17) rfl 24 _ _ rfl ji3 rfl rfl Try.underlying24 (.int .i64 0) 8 info3 rfl (by decide) (by omega) 0 (ok := fun _ => True) (okp := fun _ => True) rfl (fun _ hk => hk) trivial (of_decide_eq_true (by first | (with_reducible assumption) | assumption)) (Nat.le_trans (Nat.mul_le_mul_right _ (of_decide_eq_true (by first | (with_reducible assumption) | assumption) : ji3.toNat ≤ 35184372088832)) (by omega)) (Below.refl _ _) (Nat.le_refl _) ?_; intro v148 w14 ho15 hb hg_ hnew_; clear hg_ hnew_; (first | rw [← Ny147.out] at ho15 | (simp only [Int.reduceToNat] at ho15; rw [← Ny147.out] at ho15)); have n0_ := Aside0.mk (Kd.R_lower ho15 (below_size (by repeat (first | (with_reducible first | exact HB.out | apply below_alloc | apply pw_below_drewN | apply below_drew1 | refine below_set ?_ GE144.out | refine below_set ?_ GE145.out | refine below_set ?_ GE146.out) | exact HB.out)))); have n1_ := Aside0.mk (blk_below (g := gb144) (o := .cells #[.bool a0_0, .slice A0_1 l0_1.length c0_1, .int .i64 a0_2] 26 (0, 0)) (by (with_reducible repeat (first | refine blk_drewN ?_ _ | refine blk_drew ?_ | refine blk_alloc ?_ _)); exact BK144.out) hb); have n2_ := Aside0.mk (blk_below (g := gb145) (o := .cells #[.bool a1_0, .slice A1_1 l1_1.length c1_1, .int .i64 a1_2] 26 (0, 0)) (by (with_reducible repeat (first | refine blk_drewN ?_ _ | refine blk_drew ?_ | refine blk_alloc ?_ _)); exact BK145.out) hb); have n3_ := Aside0.mk (blk_below (g := gb146) (o := .cells #[.bool false, .slice none 0 0, .int .i64 0] 26 (0, 0)) (by (with_reducible repeat (first | refine blk_drewN ?_ _ | refine blk_drew ?_ | refine blk_alloc ?_ _)); exact BK146.out) hb); have n4_ := Aside0.mk (below_step (by repeat (first | (with_reducible first | exact HB.out | apply below_alloc | apply pw_below_drewN | apply below_drew1 | refine below_set ?_ GE144.out | refine below_set ?_ GE145.out | refine below_set ?_ GE146.out) | exact HB.out)) hb); clear BK144; clear BK145; clear BK146; clear HB; have HO149 := n0_; have BK144 := n1_; have BK145 := n2_; have BK146 := n3_; have HB := n4_; clear n0_ n1_ n2_ n3_ n4_; clear hb ho15; have hcz16_0 : w14.cell? ⟨gb144, 0, none⟩ = some (.bool a0_0) := (blk_cell BK144.out 0).trans rfl; have hcz16_1 : w14.cell? ⟨gb144, 1, none⟩ = some (.slice A0_1 l0_1.length c0_1) := (blk_cell BK144.out 1).trans rfl; have hcz16_2 : w14.cell? ⟨gb144, 2, none⟩ = some (.int .i64 a0_2) := (blk_cell BK144.out 2).trans rfl; have hfz16_0 := blk_frozen BK144.out 0; have hfz16_1 := blk_frozen BK144.out 1; have hfz16_2 := blk_frozen BK144.out 2))
      go_loopg [21] k (fun kq v21 w' => ∃ (x5_1 : List Int) (x21_1 : Int), v21 = .int .i64 x21_1 ∧ Aside0 (spec_DecimalTimes.l0 kq x5_1 (l0_1.length : Int) x21_1 a0_0 l0_1 a0_2 a1_0 l1_1 a1_2 = some (r1, r2, r3)) ∧ Aside0 (kq ≤ k) ∧ Aside0 (Kd.R (Kd.int .i64) 3 w' w.heap.size (fun _ => True) v148 x5_1) ∧ Aside0 (w'.heap[gb144]? = some (.cells #[.bool a0_0, (.slice A0_1 l0_1.length c0_1), .int .i64 a0_2] 26 (0, 0))) ∧ Aside0 (w'.heap[gb145]? = some (.cells #[.bool a1_0, (.slice A1_1 l1_1.length c1_1), .int .i64 a1_2] 26 (0, 0))) ∧ Aside0 (w'.heap[gb146]? = some (.cells #[.bool false, (.slice none 0 0), .int .i64 0] 26 (0, 0))) ∧ Aside0 (Below w.heap.size w w'))
      case atStart => exact ⟨(y147), (0), (by first | rfl | (simp; done) | (simp [*]; done)), H', ⟨Nat.le_refl _⟩, ⟨by (with_reducible repeat (first | apply Kd.R_alloc | apply Kd.R_drewN | apply Kd.R_drew)); exact HO149.out⟩, ⟨by (with_reducible repeat (first | refine blk_drewN ?_ _ | refine blk_drew ?_ | refine blk_alloc ?_ _)); exact BK144.out⟩, ⟨by (with_reducible repeat (first | refine blk_drewN ?_ _ | refine blk_drew ?_ | refine blk_alloc ?_ _)); exact BK145.out⟩, ⟨by (with_reducible repeat (first | refine blk_drewN ?_ _ | refine blk_drew ?_ | refine blk_alloc ?_ _)); exact BK146.out⟩, ⟨by repeat (first | (with_reducible first | exact HB.out | apply below_alloc | apply pw_below_drewN | apply below_drew1 | refine below_set ?_ GE144.out | refine below_set ?_ GE145.out | refine below_set ?_ GE146.out) | exact HB.out)⟩⟩
      case round =>
        clear H'
        try clear c1
        try clear p2
        try clear c4
        try clear c4b0
        try clear c4b1
        try clear c5
        try clear c5b0
        try clear c5b1
        try clear p6
        try clear c9
        try clear c10
        try clear c12
        try clear hcz11_0
        try clear hcz11_1
        try clear hcz11_2
        try clear hcz13_0
        try clear hcz13_1
        try clear hcz13_2
        try clear hcz16_0
        try clear hcz16_1
        try clear hcz16_2
        try clear hfz11_0
        try clear hfz11_1
        try clear hfz11_2
        try clear hfz13_0
        try clear hfz13_1
        try clear hfz13_2
        try clear hfz16_0
        try clear hfz16_1
        try clear hfz16_2
        obtain ⟨x5_1, x21_1, rfl, HA, HK1, HO_5, BK144, BK145, BK146, HB⟩ := hrel
        cases gk with
        | zero => exact absurd HA.out (by simp [spec_DecimalTimes.l0])
        | succ k1 =>
          have H := HA.out
          clear HA
          simp only [spec_DecimalTimes.l0] at H
          by_cases c17 : x21_1 < (l0_1.length : Int)
          · rw [if_pos c17] at H
            have c17b0 : decide (x21_1 < (l0_1.length : Int)) = true := decide_eq_true c17
            clear c17
            have H' := Aside0.mk H
            clear H
            have hnb18 := NB145_144.out
            have hnc18 := NB144_145.out
            have hnb19 := NB145_146.out
            have hnc19 := NB146_145.out
            have hcz20_0 : wr.cell? ⟨gb145, 0, none⟩ = some (.bool a1_0) := (blk_cell BK145.out 0).trans rfl
            have hcz20_1 : wr.cell? ⟨gb145, 1, none⟩ = some (.slice A1_1 l1_1.length c1_1) := (blk_cell BK145.out 1).trans rfl
            have hcz20_2 : wr.cell? ⟨gb145, 2, none⟩ = some (.int .i64 a1_2) := (blk_cell BK145.out 2).trans rfl
            have hfz20_0 := blk_frozen BK145.out 0
            have hfz20_1 := blk_frozen BK145.out 1
            have hfz20_2 := blk_frozen BK145.out 2
            go_wp2
            go_loopg [27] k1 (fun kq v27 w' => ∃ (x5_2 : List Int) (x27_2 : Int), v27 = .int .i64 x27_2 ∧ Aside0 (spec_DecimalTimes.l1 kq x5_2 x21_1 (l0_1.length : Int) x21_1 (l1_1.length : Int) x27_2 a0_0 l0_1 a0_2 a1_0 l1_1 a1_2 = some (r1, r2, r3)) ∧ Aside0 (kq ≤ k1) ∧ Aside0 (Kd.R (Kd.int .i64) 3 w' w.heap.size (fun _ => True) v148 x5_2) ∧ Aside0 (w'.heap[gb144]? = some (.cells #[.bool a0_0, (.slice A0_1 l0_1.length c0_1), .int .i64 a0_2] 26 (0, 0))) ∧ Aside0 (w'.heap[gb145]? = some (.cells #[.bool a1_0, (.slice A1_1 l1_1.length c1_1), .int .i64 a1_2] 26 (0, 0))) ∧ Aside0 (w'.heap[gb146]? = some (.cells #[.bool false, (.slice none 0 0), .int .i64 0] 26 (0, 0))) ∧ Aside0 (Below w.heap.size w w'))
            case atStart => exact ⟨(x5_1), (0), (by first | rfl | (simp; done) | (simp [*]; done)), H', ⟨Nat.le_refl _⟩, ⟨by (with_reducible repeat (first | apply Kd.R_alloc | apply Kd.R_drewN | apply Kd.R_drew)); exact HO_5.out⟩, ⟨by (with_reducible repeat (first | refine blk_drewN ?_ _ | refine blk_drew ?_ | refine blk_alloc ?_ _)); exact BK144.out⟩, ⟨by (with_reducible repeat (first | refine blk_drewN ?_ _ | refine blk_drew ?_ | refine blk_alloc ?_ _)); exact BK145.out⟩, ⟨by (with_reducible repeat (first | refine blk_drewN ?_ _ | refine blk_drew ?_ | refine blk_alloc ?_ _)); exact BK146.out⟩, ⟨by repeat (first | (with_reducible first | exact HB.out | apply below_alloc | apply pw_below_drewN | apply below_drew1 | refine below_set ?_ GE144.out | refine below_set ?_ GE145.out | refine below_set ?_ GE146.out) | exact HB.out)⟩⟩
            case round =>
              clear H'
              try clear c1
              try clear p2
              try clear c4
              try clear c4b0
              try clear c4b1
              try clear c5
              try clear c5b0
              try clear c5b1
              try clear p6
              try clear c9
              try clear c10
              try clear c12
              try clear c17
              try clear c17b0
              try clear c18
              try clear c19
              try clear hcz11_0
              try clear hcz11_1
              try clear hcz11_2
              try clear hcz13_0
              try clear hcz13_1
              try clear hcz13_2
              try clear hcz16_0
              try clear hcz16_1
              try clear hcz16_2
              try clear hcz20_0
              try clear hcz20_1
              try clear hcz20_2
              try clear hfz11_0
              try clear hfz11_1
              try clear hfz11_2
              try clear hfz13_0
              try clear hfz13_1
              try clear hfz13_2
              try clear hfz16_0
              try clear hfz16_1
              try clear hfz16_2
              try clear hfz20_0
              try clear hfz20_1
              try clear hfz20_2
              try clear p2
              try clear p6
              obtain ⟨x5_2, x27_2, rfl, HA, HK2, HO_5, BK144, BK145, BK146, HB⟩ := hrel
              cases gk with
              | zero => exact absurd HA.out (by simp [spec_DecimalTimes.l1])
              | succ k2 =>
                have H := HA.out
                clear HA
                simp only [spec_DecimalTimes.l1] at H
                by_cases c21 : x27_2 < (l1_1.length : Int)
                · rw [if_pos c21] at H
                  have c21b0 : decide (x27_2 < (l1_1.length : Int)) = true := decide_eq_true c21
                  clear c21
                  obtain ⟨ji22, hji22⟩ : ∃ j_ : Int, (wrap64 ((wrap64 (x21_1 + x27_2)) + 2)) = j_ := ⟨_, rfl⟩
                  replace H : (if 0 ≤ (ji22) then (if (ji22) < (x5_2.length : Int) then (if 0 ≤ x21_1 then (if x21_1 < (l0_1.length : Int) then (if 0 ≤ x27_2 then (if x27_2 < (l1_1.length : Int) then (spec_DecimalTimes.l1 k2 (x5_2.set ((ji22) : Int).toNat (wrap64 ((rd x5_2 (ji22)) + (wrap64 ((rd l0_1 x21_1) * (rd l1_1 x27_2)))))) x21_1 (l0_1.length : Int) x21_1 (l1_1.length : Int) (wrap64 (x27_2 + 1)) a0_0 l0_1 a0_2 a1_0 l1_1 a1_2) else (none)) else (none)) else (none)) else (none)) else (none)) else (none)) = some (r1, r2, r3) := by first | (rw [hji22] at H; exact H) | (simp only [hji22] at H ⊢; exact H)
                  have hji22w : (IntKind.i64.wrap ((wrap64 (x21_1 + x27_2)) + 2)) = ji22 := (i64_w _).trans hji22
                  by_cases c23 : 0 ≤ (ji22)
                  · rw [if_pos c23] at H
                    have c23b0 : decide (0 ≤ (ji22)) = true := decide_eq_true c23
                    clear c23
                    by_cases c24 : (ji22) < (x5_2.length : Int)
                    · rw [if_pos c24] at H
                      have c24b0 : decide ((ji22) < (x5_2.length : Int)) = true := decide_eq_true c24
                      clear c24
                      by_cases c25 : 0 ≤ x21_1
                      · rw [if_pos c25] at H
                        have c25b0 : decide (0 ≤ x21_1) = true := decide_eq_true c25
                        clear c25
                        by_cases c26 : x21_1 < (l0_1.length : Int)
                        · rw [if_pos c26] at H
                          have c26b0 : decide (x21_1 < (l0_1.length : Int)) = true := decide_eq_true c26
                          clear c26
                          by_cases c27 : 0 ≤ x27_2
                          · rw [if_pos c27] at H
                            have c27b0 : decide (0 ≤ x27_2) = true := decide_eq_true c27
                            clear c27
                            by_cases c28 : x27_2 < (l1_1.length : Int)
                            · rw [if_pos c28] at H
                              have c28b0 : decide (x27_2 < (l1_1.length : Int)) = true := decide_eq_true c28
                              clear c28
                              obtain ⟨y153, hy153⟩ : ∃ y_ : List Int, y_ = (x5_2.set ((ji22) : Int).toNat (wrap64 ((rd x5_2 (ji22)) + (wrap64 ((rd l0_1 x21_1) * (rd l1_1 x27_2)))))) := ⟨_, rfl⟩
                              replace H : (spec_DecimalTimes.l1 k2 y153 x21_1 (l0_1.length : Int) x21_1 (l1_1.length : Int) (wrap64 (x27_2 + 1)) a0_0 l0_1 a0_2 a1_0 l1_1 a1_2) = some (r1, r2, r3) := by first | (rw [hy153]; with_reducible exact H) | (have H2_ := (Option.bind_some _ _).symm.trans H; rw [hy153]; with_reducible exact H2_) | (have H2_ := (Option.bind_some _ _).symm.trans H; with_reducible exact H2_) | with_reducible exact H | (rw [hy153]; exact H) | exact H
                              have Ny153 := Aside0.mk hy153
                              clear hy153
                              have H' := Aside0.mk H
                              clear H
                              try go_wp2
                              have n0_ := Aside0.mk (Kd.R_drew HO_5.out)
                              have n1_ := Aside0.mk (blk_drew BK144.out)
                              have n2_ := Aside0.mk (blk_drew BK145.out)
                              have n3_ := Aside0.mk (blk_drew BK146.out)
                              have n4_ := Aside0.mk (below_drew1 HB.out)
                              clear HO_5
                              clear BK144
                              clear BK145
                              clear BK146
                              clear HB
                              have HO_5 := n0_
                              have BK144 := n1_
                              have BK145 := n2_
                              have BK146 := n3_
                              have HB := n4_
                              clear n0_ n1_ n2_ n3_ n4_
                              obtain ⟨Ao31, co31, eo31⟩ := Kd.R_slice HO_5.out
                              (first | subst eo31 | (injection eo31 with f1_ f2_ f3_; have f4_ := f1_.symm; have f5_ := f3_.symm; clear f1_ f2_ f3_; subst f4_; subst f5_))
                              have p150 : 0 ≤ ((ji22) : Int) := of_decide_eq_true (by first | (with_reducible assumption) | assumption)
                              have q150 : (ji22) < (x5_2.length : Int) := of_decide_eq_true (by first | (with_reducible assumption) | assumption)
                              obtain ⟨ad150, e150, hx150_0⟩ := Kd.at_int (Kd.R_reads' HO_5.out).2.2 (ji22) p150 q150
                              cases e150
                              replace p150 := eq_true p150
                              replace q150 := eq_true q150
                              have p151 : 0 ≤ (x21_1 : Int) := of_decide_eq_true (by first | (with_reducible assumption) | assumption)
                              have q151 : x21_1 < (l0_1.length : Int) := of_decide_eq_true (by first | (with_reducible assumption) | assumption)
                              obtain ⟨ad151, e151, hx151_0⟩ := Kd.at_int HR0_1.out x21_1 p151 q151
                              have hw151_0 := hx151_0
                              cases e151
                              replace hx151_0 := (HB.out.cell (World.block_lt_of_cell? w _ hx151_0)).trans hx151_0
                              replace p151 := eq_true p151
                              replace q151 := eq_true q151
                              have p152 : 0 ≤ (x27_2 : Int) := of_decide_eq_true (by first | (with_reducible assumption) | assumption)
                              have q152 : x27_2 < (l1_1.length : Int) := of_decide_eq_true (by first | (with_reducible assumption) | assumption)
                              obtain ⟨ad152, e152, hx152_0⟩ := Kd.at_int HR1_1.out x27_2 p152 q152
                              have hw152_0 := hx152_0
                              cases e152
                              replace hx152_0 := (HB.out.cell (World.block_lt_of_cell? w _ hx152_0)).trans hx152_0
                              replace p152 := eq_true p152
                              replace q152 := eq_true q152
                              have p29 : 0 ≤ ((ji22) : Int) := of_decide_eq_true (by first | (with_reducible assumption) | assumption)
                              have q29 : ((ji22) : Int) < ((x5_2.length : Int) : Int) := of_decide_eq_true (by first | (with_reducible assumption) | assumption)
                              obtain ⟨go29, co29, eo29, gb29, gl29, cl29, HG29⟩ := Kd.R_form HO_5.out (by omega)
                              (first | cases eo29 | (injection eo29 with ea_ en_ ec_; (first | subst ea_ | (injection ea_ with ea_; subst ea_)); subst ec_; clear en_))
                              have GB29 := Aside0.mk gb29
                              have GG29 := Aside0.mk HG29
                              clear gb29 gl29 HG29
                              (first | simp only [add_plain] at hx150_0 | skip)
                              obtain ⟨hx29_0, hf29_0⟩ := Kd.R_celln 0 HO_5.out ((ji22) : Int) p29 q29
                              replace p29 := eq_true p29
                              replace q29 := eq_true q29
                              have HP32 := Kd.R_putn HO_5.out ((ji22) : Int) (wrap64 ((rd x5_2 (ji22)) + (wrap64 ((rd l0_1 x21_1) * (rd l1_1 x27_2)))))
                              rw [← Ny153.out] at HP32
                              have HQ32 := Aside0.mk HP32
                              clear HP32
                              refine start_ (n := 21) (S := fun w' => w'.cell? ⟨gb144, 0, none⟩ = some (.bool a0_0) ∧ w'.cell? ⟨gb144, 1, none⟩ = some (.slice (some ad151) l0_1.length c0_1) ∧ w'.cell? ⟨gb144, 2, none⟩ = some (.int .i64 a0_2) ∧ w'.cell? ⟨gb145, 0, none⟩ = some (.bool a1_0) ∧ w'.cell? ⟨gb145, 1, none⟩ = some (.slice (some ad152) l1_1.length c1_1) ∧ w'.cell? ⟨gb145, 2, none⟩ = some (.int .i64 a1_2) ∧ w'.cell? ⟨go29, ((ji22)).toNat, none⟩ = some (.int .i64 (rd x5_2 (ji22))) ∧ w'.cell? (ad151.add (x21_1).toNat) = some (.int .i64 (rd l0_1 x21_1)) ∧ w'.cell? (ad152.add (x27_2).toNat) = some (.int .i64 (rd l1_1 x27_2))) (ds := [20]) #[false, false, false, false, false, false, false, false, false, false, false, false, false, false, false, false, false, false, false, false, false] (by kernel_rfl) rfl rfl ⟨(blk_cell BK144.out 0).trans rfl, (blk_cell BK144.out 1).trans rfl, (blk_cell BK144.out 2).trans rfl, (blk_cell BK145.out 0).trans rfl, (blk_cell BK145.out 1).trans rfl, (blk_cell BK145.out 2).trans rfl, hx150_0, ((HB.out.cell (World.block_lt_of_cell? w _ hw151_0)).trans hw151_0), ((HB.out.cell (World.block_lt_of_cell? w _ hw152_0)).trans hw152_0)⟩ (fun hHeld => ?_); refine with_tabW spec_DecimalTimes.tab8 spec_DecimalTimes.bits8 (fun HT_ HW_ => ?_)
                              generalize wr.drew = w30 at HO_5 BK144 BK145 BK146 HB GG29 HQ32 hf29_0 hx150_0 hx151_0 hx152_0 hx29_0 hHeld ⊢
                              refine pure_ (i := 0) (N := some 30) (v := ?_) (a' := ?_) #[true, false, false, false, false, false, false, false, false, false, false, false, false, false, false, false, false, false, false, false, false] rfl rfl (any_of HT_.out (by kernel_rfl)) (fun _ _ _ h => h) (Or.inl ⟨by rfl, ?_⟩) ?_ ?_
                              rotate_left
                              · intro w'
                                go_simp
                                with_reducible rfl
                              rotate_left
                              · simp only [Act.put, List.setIfInBounds_toArray, List.set_cons_zero, List.set_cons_succ, i64_w, i32_w]
                                rfl
                              refine pure_ (i := 1) (N := some 31) (v := ?_) (a' := ?_) #[true, true, false, false, false, false, false, false, false, false, false, false, false, false, false, false, false, false, false, false, false] rfl rfl (any_of HT_.out (by kernel_rfl)) (fun _ _ _ h => h) (Or.inl ⟨by rfl, ?_⟩) ?_ ?_
                              rotate_left
                              · intro w'
                                go_simp
                                with_reducible rfl
                              rotate_left
                              · simp only [Act.put, List.setIfInBounds_toArray, List.set_cons_zero, List.set_cons_succ, i64_w, i32_w]
                                rfl
                              refine pure_ (i := 2) (N := some 32) (v := ?_) (a' := ?_) #[true, true, true, false, false, false, false, false, false, false, false, false, false, false, false, false, false, false, false, false, false] rfl rfl (any_of HT_.out (by kernel_rfl)) (fun _ _ _ h => h) (Or.inl ⟨by rfl, ?_⟩) ?_ ?_
                              rotate_left
                              · intro w'
                                go_simp
                                with_reducible rfl
                              rotate_left
                              · simp only [Act.put, List.setIfInBounds_toArray, List.set_cons_zero, List.set_cons_succ, i64_w, i32_w]
                                rfl
                              refine pure_ (i := 3) (N := some 33) (v := ?_) (a' := ?_) #[true, true, true, true, false, false, false, false, false, false, false, false, false, false, false, false, false, false, false, false, false] rfl rfl (any_of HT_.out (by kernel_rfl)) (fun _ _ _ h => h) (Or.inl ⟨by rfl, ?_⟩) ?_ ?_
                              rotate_left
                              · intro w'
                                go_simp
                                with_reducible rfl
                              rotate_left
                              · simp only [Act.put, List.setIfInBounds_toArray, List.set_cons_zero, List.set_cons_succ, i64_w, i32_w]
                                rfl
                              refine pure_ (i := 4) (N := some 34) (v := ?_) (a' := ?_) #[true, true, true, true, true, false, false, false, false, false, false, false, false, false, false, false, false, false, false, false, false] rfl rfl (any_of HT_.out (by kernel_rfl)) (fun _ _ _ h => h) (Or.inl ⟨by rfl, ?_⟩) ?_ ?_
                              rotate_left
                              · intro w'
                                go_simp
                                with_reducible rfl
                              rotate_left
                              · simp only [Act.put, List.setIfInBounds_toArray, List.set_cons_zero, List.set_cons_succ, i64_w, i32_w]
                                rfl
                              refine pure_ (i := 5) (N := some 35) (v := ?_) (a' := ?_) #[true, true, true, true, true, true, false, false, false, false, false, false, false, false, false, false, false, false, false, false, false] rfl rfl (any_of HT_.out (by kernel_rfl)) (fun _ _ _ h => h) (Or.inl ⟨by rfl, ?_⟩) ?_ ?_
                              rotate_left
                              · intro w'
                                go_simp
                                with_reducible rfl
                              rotate_left
                              · simp only [Act.put, List.setIfInBounds_toArray, List.set_cons_zero, List.set_cons_succ, i64_w, i32_w]
                                rfl
                              refine pure_ (i := 7) (N := some 37) (v := ?_) (a' := ?_) #[true, true, true, true, true, true, false, true, false, false, false, false, false, false, false, false, false, false, false, false, false] rfl rfl (any_of HT_.out (by kernel_rfl)) (fun _ _ _ h => h) (Or.inl ⟨by rfl, ?_⟩) ?_ ?_
                              rotate_left
                              · intro w'
                                go_simp
                                with_reducible rfl
                              rotate_left
                              · simp only [Act.put, List.setIfInBounds_toArray, List.set_cons_zero, List.set_cons_succ, i64_w, i32_w]
                                rfl
                              refine pure_ (i := 9) (N := some 39) (v := ?_) (a' := ?_) #[true, true, true, true, true, true, false, true, false, true, false, false, false, false, false, false, false, false, false, false, false] rfl rfl (any_of HT_.out (by kernel_rfl)) (fun _ _ _ h => h) (Or.inl ⟨by rfl, ?_⟩) ?_ ?_
                              rotate_left
                              · intro w'
                                go_simp
                                with_reducible rfl
                              rotate_left
                              · simp only [Act.put, List.setIfInBounds_toArray, List.set_cons_zero, List.set_cons_succ, i64_w, i32_w]
                                rfl
                              refine pure_ (i := 12) (N := some 42) (v := ?_) (a' := ?_) #[true, true, true, true, true, true, false, true, false, true, false, false, true, false, false, false, false, false, false, false, false] rfl rfl (any_of HT_.out (by kernel_rfl)) (fun _ _ _ h => h) (Or.inl ⟨by rfl, ?_⟩) ?_ ?_
                              rotate_left
                              · intro w'
                                go_simp
                                with_reducible rfl
                              rotate_left
                              · simp only [Act.put, List.setIfInBounds_toArray, List.set_cons_zero, List.set_cons_succ, i64_w, i32_w]
                                rfl
                              refine pure_ (i := 14) (N := some 44) (v := ?_) (a' := ?_) #[true, true, true, true, true, true, false, true, false, true, false, false, true, false, true, false, false, false, false, false, false] rfl rfl (any_of HT_.out (by kernel_rfl)) (fun _ _ _ h => h) (Or.inl ⟨by rfl, ?_⟩) ?_ ?_
                              rotate_left
                              · intro w'
                                go_simp
                                with_reducible rfl
                              rotate_left
                              · simp only [Act.put, List.setIfInBounds_toArray, List.set_cons_zero, List.set_cons_succ, i64_w, i32_w]
                                rfl
                              refine take_ (i := 6) (N := some 36) (v := ?_) (a' := ?_) #[true, true, true, true, true, true, true, true, false, true, false, false, true, false, true, false, false, false, false, false, false] rfl rfl (take_ofW HT_.out HW_.out (by kernel_rfl)) (fun _ _ _ h => h) (Or.inl ⟨by rfl, ?_⟩) hHeld ?_ ?_
                              rotate_left
                              · rintro w' ⟨s0, s1, s2, s3, s4, s5, s6, s7, s8⟩
                                go_simp
                                with_reducible rfl
                              rotate_left
                              · simp only [Act.put, List.setIfInBounds_toArray, List.set_cons_zero, List.set_cons_succ, i64_w, i32_w]
                                rfl
                              refine take_ (i := 8) (N := some 38) (v := ?_) (a' := ?_) #[true, true, true, true, true, true, true, true, true, true, false, false, true, false, true, false, false, false, false, false, false] rfl rfl (take_ofW HT_.out HW_.out (by kernel_rfl)) (fun _ _ _ h => h) (Or.inl ⟨by rfl, ?_⟩) hHeld ?_ ?_
                              rotate_left
                              · rintro w' ⟨s0, s1, s2, s3, s4, s5, s6, s7, s8⟩
                                go_simp
                                with_reducible rfl
                              rotate_left
                              · simp only [Act.put, List.setIfInBounds_toArray, List.set_cons_zero, List.set_cons_succ, i64_w, i32_w]
                                rfl
                              refine pure_ (i := 10) (N := some 40) (v := ?_) (a' := ?_) #[true, true, true, true, true, true, true, true, true, true, true, false, true, false, true, false, false, false, false, false, false] rfl rfl (any_of HT_.out (by kernel_rfl)) (fun _ _ _ h => h) (Or.inl ⟨by rfl, ?_⟩) ?_ ?_
                              rotate_left
                              · intro w'
                                go_simp
                                with_reducible rfl
                              rotate_left
                              · simp only [Act.put, List.setIfInBounds_toArray, List.set_cons_zero, List.set_cons_succ, i64_w, i32_w]
                                rfl
                              refine take_ (i := 11) (N := some 41) (v := ?_) (a' := ?_) #[true, true, true, true, true, true, true, true, true, true, true, true, true, false, true, false, false, false, false, false, false] rfl rfl (take_ofW HT_.out HW_.out (by kernel_rfl)) (fun _ _ _ h => h) (Or.inl ⟨by rfl, ?_⟩) hHeld ?_ ?_
                              rotate_left
                              · rintro w' ⟨s0, s1, s2, s3, s4, s5, s6, s7, s8⟩
                                go_simp
                                with_reducible rfl
                              rotate_left
                              · simp only [Act.put, List.setIfInBounds_toArray, List.set_cons_zero, List.set_cons_succ, i64_w, i32_w]
                                rfl
                              refine take_ (i := 13) (N := some 43) (v := ?_) (a' := ?_) #[true, true, true, true, true, true, true, true, true, true, true, true, true, true, true, false, false, false, false, false, false] rfl rfl (take_ofW HT_.out HW_.out (by kernel_rfl)) (fun _ _ _ h => h) (Or.inl ⟨by rfl, ?_⟩) hHeld ?_ ?_
                              rotate_left
                              · rintro w' ⟨s0, s1, s2, s3, s4, s5, s6, s7, s8⟩
                                go_simp
                                with_reducible rfl
                              rotate_left
                              · simp only [Act.put, List.setIfInBounds_toArray, List.set_cons_zero, List.set_cons_succ, i64_w, i32_w]
                                rfl
                              refine pure_ (i := 15) (N := some 45) (v := ?_) (a' := ?_) #[true, true, true, true, true, true, true, true, true, true, true, true, true, true, true, true, false, false, false, false, false] rfl rfl (any_of HT_.out (by kernel_rfl)) (fun _ _ _ h => h) (Or.inl ⟨by rfl, ?_⟩) ?_ ?_
                              rotate_left
                              · intro w'
                                go_simp
                                with_reducible rfl
                              rotate_left
                              · simp only [Act.put, List.setIfInBounds_toArray, List.set_cons_zero, List.set_cons_succ, i64_w, i32_w]
                                rfl
                              refine take_ (i := 16) (N := some 46) (v := ?_) (a' := ?_) #[true, true, true, true, true, true, true, true, true, true, true, true, true, true, true, true, true, false, false, false, false] rfl rfl (take_ofW HT_.out HW_.out (by kernel_rfl)) (fun _ _ _ h => h) (Or.inl ⟨by rfl, ?_⟩) hHeld ?_ ?_
                              rotate_left
                              · rintro w' ⟨s0, s1, s2, s3, s4, s5, s6, s7, s8⟩
                                go_simp
                                with_reducible rfl
                              rotate_left
                              · simp only [Act.put, List.setIfInBounds_toArray, List.set_cons_zero, List.set_cons_succ, i64_w, i32_w]
                                rfl
                              refine pure_ (i := 17) (N := some 47) (v := ?_) (a' := ?_) #[true, true, true, true, true, true, true, true, true, true, true, true, true, true, true, true, true, true, false, false, false] rfl rfl (any_of HT_.out (by kernel_rfl)) (fun _ _ _ h => h) (Or.inl ⟨by rfl, ?_⟩) ?_ ?_
                              rotate_left
                              · intro w'
                                go_simp
                                with_reducible rfl
                              rotate_left
                              · simp only [Act.put, List.setIfInBounds_toArray, List.set_cons_zero, List.set_cons_succ, i64_w, i32_w]
                                rfl
                              refine pure_ (i := 18) (N := some 48) (v := ?_) (a' := ?_) #[true, true, true, true, true, true, true, true, true, true, true, true, true, true, true, true, true, true, true, false, false] rfl rfl (any_of HT_.out (by kernel_rfl)) (fun _ _ _ h => h) (Or.inl ⟨by rfl, ?_⟩) ?_ ?_
                              rotate_left
                              · intro w'
                                go_simp
                                with_reducible rfl
                              rotate_left
                              · simp only [Act.put, List.setIfInBounds_toArray, List.set_cons_zero, List.set_cons_succ, i64_w, i32_w]
                                rfl
                              refine pure_ (i := 19) (N := some 49) (v := ?_) (a' := ?_) #[true, true, true, true, true, true, true, true, true, true, true, true, true, true, true, true, true, true, true, true, false] rfl rfl (any_of HT_.out (by kernel_rfl)) (fun _ _ _ h => h) (Or.inl ⟨by rfl, ?_⟩) ?_ ?_
                              rotate_left
                              · intro w'
                                go_simp
                                with_reducible rfl
                              rotate_left
                              · simp only [Act.put, List.setIfInBounds_toArray, List.set_cons_zero, List.set_cons_succ, i64_w, i32_w]
                                rfl
                              refine last_ (i := 20) (N := none) #[true, true, true, true, true, true, true, true, true, true, true, true, true, true, true, true, true, true, true, true, true] rfl rfl (one_of HT_.out (by kernel_rfl)) (by decide) (fun K hK => ?_)
                              refine skip_ (w1 := ?_) (by rfl) rfl ?_ ?_
                              rotate_left
                              · go_simp
                                rfl
                              refine hK.out _ _ ?_
                              clear hK K
                              refine done_ (done_of HT_.out (by kernel_rfl)) ?_
                              try go_wp2
                              go_roundg k2
                              case measure => have := HK1.out; have := HK2.out; omega
                              case rel => exact ⟨(y153), (wrap64 (x27_2 + 1)), (by first | rfl | (simp; done) | (simp [*]; done)), H', ⟨by have := HK1.out; have := HK2.out; omega⟩, ⟨by (with_reducible repeat (first | apply Kd.R_alloc | apply Kd.R_drewN | apply Kd.R_drew)); exact HQ32.out⟩, ⟨by (with_reducible repeat (first | refine blk_drewN ?_ _ | refine blk_drew ?_ | refine blk_alloc ?_ _)); refine blk_far ?_ (by have h_ := Kd.R_ne HO_5.out BK144.out (by decide); intro e_; exact h_ (by rw [e_]; rfl)) _; (with_reducible repeat (first | refine blk_drewN ?_ _ | refine blk_drew ?_ | refine blk_alloc ?_ _)); exact BK144.out⟩, ⟨by (with_reducible repeat (first | refine blk_drewN ?_ _ | refine blk_drew ?_ | refine blk_alloc ?_ _)); refine blk_far ?_ (by have h_ := Kd.R_ne HO_5.out BK145.out (by decide); intro e_; exact h_ (by rw [e_]; rfl)) _; (with_reducible repeat (first | refine blk_drewN ?_ _ | refine blk_drew ?_ | refine blk_alloc ?_ _)); exact BK145.out⟩, ⟨by (with_reducible repeat (first | refine blk_drewN ?_ _ | refine blk_drew ?_ | refine blk_alloc ?_ _)); refine blk_far ?_ (by have h_ := Kd.R_ne HO_5.out BK146.out (by decide); intro e_; exact h_ (by rw [e_]; rfl)) _; (with_reducible repeat (first | refine blk_drewN ?_ _ | refine blk_drew ?_ | refine blk_alloc ?_ _)); exact BK146.out⟩, ⟨by repeat (first | (with_reducible first | exact HB.out | apply below_alloc | apply pw_below_drewN | apply below_drew1 | refine below_set ?_ GB29.out | refine below_set ?_ GE144.out | refine below_set ?_ GE145.out | refine below_set ?_ GE146.out) | exact HB.out)⟩⟩
                            · rw [if_neg c28] at H
                              exact absurd H (by simp)
                          · rw [if_neg c27] at H
                            exact absurd H (by simp)
                        · rw [if_neg c26] at H
                          exact absurd H (by simp)
                      · rw [if_neg c25] at H
                        exact absurd H (by simp)
                    · rw [if_neg c24] at H
                      exact absurd H (by simp)
                  · rw [if_neg c23] at H
                    exact absurd H (by simp)
                · rw [if_neg c21] at H
                  have c21b0 : decide (x27_2 < (l1_1.length : Int)) = false := decide_eq_false c21
                  clear c21
                  have H' := Aside0.mk H
                  clear H
                  go_wp2
                  go_roundg k2
                  case measure => have := HK1.out; have := HK2.out; omega
                  case rel => exact ⟨(x5_2), (wrap64 (x21_1 + 1)), (by first | rfl | (simp; done) | (simp [*]; done)), H', ⟨by have := HK1.out; have := HK2.out; omega⟩, ⟨by (with_reducible repeat (first | apply Kd.R_alloc | apply Kd.R_drewN | apply Kd.R_drew)); exact HO_5.out⟩, ⟨by (with_reducible repeat (first | refine blk_drewN ?_ _ | refine blk_drew ?_ | refine blk_alloc ?_ _)); exact BK144.out⟩, ⟨by (with_reducible repeat (first | refine blk_drewN ?_ _ | refine blk_drew ?_ | refine blk_alloc ?_ _)); exact BK145.out⟩, ⟨by (with_reducible repeat (first | refine blk_drewN ?_ _ | refine blk_drew ?_ | refine blk_alloc ?_ _)); exact BK146.out⟩, ⟨by repeat (first | (with_reducible first | exact HB.out | apply below_alloc | apply pw_below_drewN | apply below_drew1 | refine below_set ?_ GE144.out | refine below_set ?_ GE145.out | refine below_set ?_ GE146.out) | exact HB.out)⟩⟩
          · rw [if_neg c17] at H
            have c17b0 : decide (x21_1 < (l0_1.length : Int)) = false := decide_eq_false c17
            clear c17
            have H' := Aside0.mk H
            clear H
            obtain ⟨Ao33, co33, eo33⟩ := Kd.R_slice HO_5.out
            subst eo33
            go_wp2
            go_loopg [8] k1 (fun kq v8 w' => ∃ (x5_2 : List Int) (x8_2 : Int), v8 = .int .i64 x8_2 ∧ Aside0 (spec_DecimalTimes.l2 kq x5_2 x8_2 a0_0 l0_1 a0_2 a1_0 l1_1 a1_2 = some (r1, r2, r3)) ∧ Aside0 (kq ≤ k1) ∧ Aside0 (Kd.R (Kd.int .i64) 3 w' w.heap.size (fun _ => True) (.slice Ao33 x5_1.length co33) x5_2) ∧ Aside0 (w'.heap[gb144]? = some (.cells #[.bool a0_0, (.slice A0_1 l0_1.length c0_1), .int .i64 a0_2] 26 (0, 0))) ∧ Aside0 (w'.heap[gb145]? = some (.cells #[.bool a1_0, (.slice A1_1 l1_1.length c1_1), .int .i64 a1_2] 26 (0, 0))) ∧ Aside0 (w'.heap[gb146]? = some (.cells #[.bool false, (.slice none 0 0), .int .i64 0] 26 (0, 0))) ∧ Aside0 (Below w.heap.size w w'))
            case atStart => exact ⟨(x5_1), (wrap64 ((x5_1.length : Int) - 1)), (by first | rfl | (simp; done) | (simp [*]; done)), H', ⟨Nat.le_refl _⟩, ⟨by (with_reducible repeat (first | apply Kd.R_alloc | apply Kd.R_drewN | apply Kd.R_drew)); exact HO_5.out⟩, ⟨by (with_reducible repeat (first | refine blk_drewN ?_ _ | refine blk_drew ?_ | refine blk_alloc ?_ _)); exact BK144.out⟩, ⟨by (with_reducible repeat (first | refine blk_drewN ?_ _ | refine blk_drew ?_ | refine blk_alloc ?_ _)); exact BK145.out⟩, ⟨by (with_reducible repeat (first | refine blk_drewN ?_ _ | refine blk_drew ?_ | refine blk_alloc ?_ _)); exact BK146.out⟩, ⟨by repeat (first | (with_reducible first | exact HB.out | apply below_alloc | apply pw_below_drewN | apply below_drew1 | refine below_set ?_ GE144.out | refine below_set ?_ GE145.out | refine below_set ?_ GE146.out) | exact HB.out)⟩⟩
            case round =>
              clear H'
              try clear c1
              try clear p1
              try clear q1
              try clear hx1
              try clear c2
              try clear p2
              try clear q2
              try clear hx2
              try clear hf2
              try clear c4
              try clear c4b0
              try clear c4b1
              try clear c5
              try clear c5b0
              try clear c5b1
              try clear p6
              try clear c9
              try clear c10
              try clear c12
              try clear p15
              try clear q15
              try clear hx15
              try clear c17
              try clear c17b0
              try clear c18
              try clear c19
              try clear c21
              try clear c21b0
              try clear c23
              try clear c23b0
              try clear c24
              try clear c24b0
              try clear c25
              try clear c25b0
              try clear c26
              try clear c26b0
              try clear c27
              try clear c27b0
              try clear c28
              try clear c28b0
              try clear p29
              try clear q29
              try clear hx29
              try clear hf29
              try clear hcz11_0
              try clear hcz11_1
              try clear hcz11_2
              try clear hcz13_0
              try clear hcz13_1
              try clear hcz13_2
              try clear hcz16_0
              try clear hcz16_1
              try clear hcz16_2
              try clear hcz20_0
              try clear hcz20_1
              try clear hcz20_2
              try clear hfz11_0
              try clear hfz11_1
              try clear hfz11_2
              try clear hfz13_0
              try clear hfz13_1
              try clear hfz13_2
              try clear hfz16_0
              try clear hfz16_1
              try clear hfz16_2
              try clear hfz20_0
              try clear hfz20_1
              try clear hfz20_2
              try clear hx150_0
              try clear hx151_0
              try clear hx152_0
              try clear hx29_0
              try clear p150
              try clear p151
              try clear p152
              try clear p2
              try clear p29
              try clear p6
              try clear q150
              try clear q151
              try clear q152
              try clear q29
              obtain ⟨x5_2, x8_2, rfl, HA, HK2, HO_5, BK144, BK145, BK146, HB⟩ := hrel
              have hl5_2 := (Kd.R_reads' HO_5.out).1
              rw [hl5_2] at HO_5
              (try simp only [hl5_2])
              (try simp only [hl5_2] at BK144)
              (try simp only [hl5_2] at BK145)
              (try simp only [hl5_2] at BK146)
              cases gk with
              | zero => exact absurd HA.out (by simp [spec_DecimalTimes.l2])
              | succ k2 =>
                have H := HA.out
                clear HA
                simp only [spec_DecimalTimes.l2] at H
                by_cases c34 : x8_2 > 0
                · rw [if_pos c34] at H
                  have c34b0 : decide (0 < x8_2) = true := decide_eq_true c34
                  clear c34
                  obtain ⟨ji35, hji35⟩ : ∃ j_ : Int, (wrap64 (x8_2 - 1)) = j_ := ⟨_, rfl⟩
                  replace H : (if 0 ≤ (ji35) then (if (ji35) < (x5_2.length : Int) then (if 0 ≤ x8_2 then (if x8_2 < (x5_2.length : Int) then ((some (x5_2.set ((ji35) : Int).toNat (wrap64 ((rd x5_2 (ji35)) + (wrap64 (Int.tdiv (rd x5_2 x8_2) 10)))) : List Int)).bind fun y156 => (spec_DecimalTimes.l2 k2 (y156.set (x8_2 : Int).toNat (Int.tmod (rd y156 x8_2) 10)) ji35 a0_0 l0_1 a0_2 a1_0 l1_1 a1_2)) else (none)) else (none)) else (none)) else (none)) = some (r1, r2, r3) := by first | (rw [hji35] at H; exact H) | (simp only [hji35] at H ⊢; exact H)
                  have hji35w : (IntKind.i64.wrap (x8_2 - 1)) = ji35 := (i64_w _).trans hji35
                  by_cases c36 : 0 ≤ (ji35)
                  · rw [if_pos c36] at H
                    have c36b0 : decide (0 ≤ (ji35)) = true := decide_eq_true c36
                    clear c36
                    by_cases c37 : (ji35) < (x5_2.length : Int)
                    · rw [if_pos c37] at H
                      have c37b0 : decide ((ji35) < (x5_2.length : Int)) = true := decide_eq_true c37
                      clear c37
                      by_cases c38 : 0 ≤ x8_2
                      · rw [if_pos c38] at H
                        have c38b0 : decide (0 ≤ x8_2) = true := decide_eq_true c38
                        clear c38
                        by_cases c39 : x8_2 < (x5_2.length : Int)
                        · rw [if_pos c39] at H
                          have c39b0 : decide (x8_2 < (x5_2.length : Int)) = true := decide_eq_true c39
                          clear c39
                          obtain ⟨y156, hy156⟩ : ∃ y_ : List Int, y_ = (x5_2.set ((ji35) : Int).toNat (wrap64 ((rd x5_2 (ji35)) + (wrap64 (Int.tdiv (rd x5_2 x8_2) 10))))) := ⟨_, rfl⟩
                          replace H : (spec_DecimalTimes.l2 k2 (y156.set (x8_2 : Int).toNat (Int.tmod (rd y156 x8_2) 10)) ji35 a0_0 l0_1 a0_2 a1_0 l1_1 a1_2) = some (r1, r2, r3) := by first | (rw [hy156]; with_reducible exact H) | (have H2_ := (Option.bind_some _ _).symm.trans H; rw [hy156]; with_reducible exact H2_) | (have H2_ := (Option.bind_some _ _).symm.trans H; with_reducible exact H2_) | with_reducible exact H | (rw [hy156]; exact H) | exact H
                          have Ny156 := Aside0.mk hy156
                          clear hy156
                          obtain ⟨y158, hy158⟩ : ∃ y_ : List Int, y_ = (y156.set (x8_2 : Int).toNat (Int.tmod (rd y156 x8_2) 10)) := ⟨_, rfl⟩
                          replace H : (spec_DecimalTimes.l2 k2 y158 ji35 a0_0 l0_1 a0_2 a1_0 l1_1 a1_2) = some (r1, r2, r3) := by first | (rw [hy158]; with_reducible exact H) | (have H2_ := (Option.bind_some _ _).symm.trans H; rw [hy158]; with_reducible exact H2_) | (have H2_ := (Option.bind_some _ _).symm.trans H; with_reducible exact H2_) | with_reducible exact H | (rw [hy158]; exact H) | exact H
                          have Ny158 := Aside0.mk hy158
                          clear hy158
                          have H' := Aside0.mk H
                          clear H
                          try go_wp2
                          have n0_ := Aside0.mk (Kd.R_drew HO_5.out)
                          have n1_ := Aside0.mk (blk_drew BK144.out)
                          have n2_ := Aside0.mk (blk_drew BK145.out)
                          have n3_ := Aside0.mk (blk_drew BK146.out)
                          have n4_ := Aside0.mk (below_drew1 HB.out)
                          clear HO_5
                          clear BK144
                          clear BK145
                          clear BK146
                          clear HB
                          have HO_5 := n0_
                          have BK144 := n1_
                          have BK145 := n2_
                          have BK146 := n3_
                          have HB := n4_
                          clear n0_ n1_ n2_ n3_ n4_
                          have p154 : 0 ≤ ((ji35) : Int) := of_decide_eq_true (by first | (with_reducible assumption) | assumption)
                          have q154 : (ji35) < (x5_2.length : Int) := of_decide_eq_true (by first | (with_reducible assumption) | assumption)
                          obtain ⟨ad154, e154, hx154_0⟩ := Kd.at_int (Kd.R_reads' HO_5.out).2.2 (ji35) p154 q154
                          cases e154
                          replace p154 := eq_true p154
                          replace q154 := eq_true q154
                          have p155 : 0 ≤ (x8_2 : Int) := of_decide_eq_true (by first | (with_reducible assumption) | assumption)
                          have q155 : x8_2 < (x5_2.length : Int) := of_decide_eq_true (by first | (with_reducible assumption) | assumption)
                          obtain ⟨ad155, e155, hx155_0⟩ := Kd.at_int (Kd.R_reads' HO_5.out).2.2 x8_2 p155 q155
                          obtain rfl : ad154 = ad155 := (by injection e155)
                          replace p155 := eq_true p155
                          replace q155 := eq_true q155
                          have p40 : 0 ≤ ((ji35) : Int) := of_decide_eq_true (by first | (with_reducible assumption) | assumption)
                          have q40 : ((ji35) : Int) < ((x5_2.length : Int) : Int) := of_decide_eq_true (by first | (with_reducible assumption) | assumption)
                          obtain ⟨go40, co40, eo40, gb40, gl40, cl40, HG40⟩ := Kd.R_form HO_5.out (by omega)
                          (first | cases eo40 | (injection eo40 with ea_ en_ ec_; (first | subst ea_ | (injection ea_ with ea_; subst ea_)); subst ec_; clear en_))
                          have GB40 := Aside0.mk gb40
                          have GG40 := Aside0.mk HG40
                          clear gb40 gl40 HG40
                          (first | simp only [add_plain] at hx154_0 | skip)
                          (first | simp only [add_plain] at hx155_0 | skip)
                          obtain ⟨hx40_0, hf40_0⟩ := Kd.R_celln 0 HO_5.out ((ji35) : Int) p40 q40
                          replace p40 := eq_true p40
                          replace q40 := eq_true q40
                          have HP43 := Kd.R_putn HO_5.out ((ji35) : Int) (wrap64 ((rd x5_2 (ji35)) + (wrap64 (Int.tdiv (rd x5_2 x8_2) 10))))
                          rw [← Ny156.out] at HP43
                          have HQ43 := Aside0.mk HP43
                          clear HP43
                          refine start_ (n := 13) (S := fun w' => w'.cell? ⟨go40, ((ji35)).toNat, none⟩ = some (.int .i64 (rd x5_2 (ji35))) ∧ w'.cell? ⟨go40, (x8_2).toNat, none⟩ = some (.int .i64 (rd x5_2 x8_2))) (ds := [12]) #[false, false, false, false, false, false, false, false, false, false, false, false, false] (by kernel_rfl) rfl rfl ⟨hx154_0, hx155_0⟩ (fun hHeld => ?_); refine with_tabW spec_DecimalTimes.tab14 spec_DecimalTimes.bits14 (fun HT_ HW_ => ?_)
                          generalize wr.drew = w42 at HO_5 BK144 BK145 BK146 HB GG40 HQ43 hf40_0 hx154_0 hx155_0 hx40_0 hHeld ⊢
                          refine pure_ (i := 0) (N := some 59) (v := ?_) (a' := ?_) #[true, false, false, false, false, false, false, false, false, false, false, false, false] rfl rfl (any_of HT_.out (by kernel_rfl)) (fun _ _ _ h => h) (Or.inl ⟨by rfl, ?_⟩) ?_ ?_
                          rotate_left
                          · intro w'
                            go_simp
                            with_reducible rfl
                          rotate_left
                          · simp only [Act.put, List.setIfInBounds_toArray, List.set_cons_zero, List.set_cons_succ, i64_w, i32_w]
                            rfl
                          refine pure_ (i := 1) (N := some 60) (v := ?_) (a' := ?_) #[true, true, false, false, false, false, false, false, false, false, false, false, false] rfl rfl (any_of HT_.out (by kernel_rfl)) (fun _ _ _ h => h) (Or.inl ⟨by rfl, ?_⟩) ?_ ?_
                          rotate_left
                          · intro w'
                            go_simp
                            with_reducible rfl
                          rotate_left
                          · simp only [Act.put, List.setIfInBounds_toArray, List.set_cons_zero, List.set_cons_succ, i64_w, i32_w]
                            rfl
                          refine pure_ (i := 2) (N := some 61) (v := ?_) (a' := ?_) #[true, true, true, false, false, false, false, false, false, false, false, false, false] rfl rfl (any_of HT_.out (by kernel_rfl)) (fun _ _ _ h => h) (Or.inl ⟨by rfl, ?_⟩) ?_ ?_
                          rotate_left
                          · intro w'
                            go_simp
                            with_reducible rfl
                          rotate_left
                          · simp only [Act.put, List.setIfInBounds_toArray, List.set_cons_zero, List.set_cons_succ, i64_w, i32_w]
                            rfl
                          refine pure_ (i := 3) (N := some 62) (v := ?_) (a' := ?_) #[true, true, true, true, false, false, false, false, false, false, false, false, false] rfl rfl (any_of HT_.out (by kernel_rfl)) (fun _ _ _ h => h) (Or.inl ⟨by rfl, ?_⟩) ?_ ?_
                          rotate_left
                          · intro w'
                            go_simp
                            with_reducible rfl
                          rotate_left
                          · simp only [Act.put, List.setIfInBounds_toArray, List.set_cons_zero, List.set_cons_succ, i64_w, i32_w]
                            rfl
                          refine pure_ (i := 5) (N := some 64) (v := ?_) (a' := ?_) #[true, true, true, true, false, true, false, false, false, false, false, false, false] rfl rfl (any_of HT_.out (by kernel_rfl)) (fun _ _ _ h => h) (Or.inl ⟨by rfl, ?_⟩) ?_ ?_
                          rotate_left
                          · intro w'
                            go_simp
                            with_reducible rfl
                          rotate_left
                          · simp only [Act.put, List.setIfInBounds_toArray, List.set_cons_zero, List.set_cons_succ, i64_w, i32_w]
                            rfl
                          refine pure_ (i := 6) (N := some 65) (v := ?_) (a' := ?_) #[true, true, true, true, false, true, true, false, false, false, false, false, false] rfl rfl (any_of HT_.out (by kernel_rfl)) (fun _ _ _ h => h) (Or.inl ⟨by rfl, ?_⟩) ?_ ?_
                          rotate_left
                          · intro w'
                            go_simp
                            with_reducible rfl
                          rotate_left
                          · simp only [Act.put, List.setIfInBounds_toArray, List.set_cons_zero, List.set_cons_succ, i64_w, i32_w]
                            rfl
                          refine pure_ (i := 7) (N := some 66) (v := ?_) (a' := ?_) #[true, true, true, true, false, true, true, true, false, false, false, false, false] rfl rfl (any_of HT_.out (by kernel_rfl)) (fun _ _ _ h => h) (Or.inl ⟨by rfl, ?_⟩) ?_ ?_
                          rotate_left
                          · intro w'
                            go_simp
                            with_reducible rfl
                          rotate_left
                          · simp only [Act.put, List.setIfInBounds_toArray, List.set_cons_zero, List.set_cons_succ, i64_w, i32_w]
                            rfl
                          refine take_ (i := 4) (N := some 63) (v := ?_) (a' := ?_) #[true, true, true, true, true, true, true, true, false, false, false, false, false] rfl rfl (take_ofW HT_.out HW_.out (by kernel_rfl)) (fun _ _ _ h => h) (Or.inl ⟨by rfl, ?_⟩) hHeld ?_ ?_
                          rotate_left
                          · rintro w' ⟨s0, s1⟩
                            go_simp
                            with_reducible rfl
                          rotate_left
                          · simp only [Act.put, List.setIfInBounds_toArray, List.set_cons_zero, List.set_cons_succ, i64_w, i32_w]
                            rfl
                          refine take_ (i := 8) (N := some 67) (v := ?_) (a' := ?_) #[true, true, true, true, true, true, true, true, true, false, false, false, false] rfl rfl (take_ofW HT_.out HW_.out (by kernel_rfl)) (fun _ _ _ h => h) (Or.inl ⟨by rfl, ?_⟩) hHeld ?_ ?_
                          rotate_left
                          · rintro w' ⟨s0, s1⟩
                            go_simp
                            with_reducible rfl
                          rotate_left
                          · simp only [Act.put, List.setIfInBounds_toArray, List.set_cons_zero, List.set_cons_succ, i64_w, i32_w]
                            rfl
                          refine pure_ (i := 9) (N := some 68) (v := ?_) (a' := ?_) #[true, true, true, true, true, true, true, true, true, true, false, false, false] rfl rfl (any_of HT_.out (by kernel_rfl)) (fun _ _ _ h => h) (Or.inl ⟨by rfl, ?_⟩) ?_ ?_
                          rotate_left
                          · intro w'
                            go_simp
                            with_reducible rfl
                          rotate_left
                          · simp only [Act.put, List.setIfInBounds_toArray, List.set_cons_zero, List.set_cons_succ, i64_w, i32_w]
                            rfl
                          refine pure_ (i := 10) (N := some 69) (v := ?_) (a' := ?_) #[true, true, true, true, true, true, true, true, true, true, true, false, false] rfl rfl (any_of HT_.out (by kernel_rfl)) (fun _ _ _ h => h) (Or.inl ⟨by rfl, ?_⟩) ?_ ?_
                          rotate_left
                          · intro w'
                            go_simp
                            with_reducible rfl
                          rotate_left
                          · simp only [Act.put, List.setIfInBounds_toArray, List.set_cons_zero, List.set_cons_succ, i64_w, i32_w]
                            rfl
                          refine pure_ (i := 11) (N := some 70) (v := ?_) (a' := ?_) #[true, true, true, true, true, true, true, true, true, true, true, true, false] rfl rfl (any_of HT_.out (by kernel_rfl)) (fun _ _ _ h => h) (Or.inl ⟨by rfl, ?_⟩) ?_ ?_
                          rotate_left
                          · intro w'
                            go_simp
                            with_reducible rfl
                          rotate_left
                          · simp only [Act.put, List.setIfInBounds_toArray, List.set_cons_zero, List.set_cons_succ, i64_w, i32_w]
                            rfl
                          refine last_ (i := 12) (N := none) #[true, true, true, true, true, true, true, true, true, true, true, true, true] rfl rfl (one_of HT_.out (by kernel_rfl)) (by decide) (fun K hK => ?_)
                          refine skip_ (w1 := ?_) (by rfl) rfl ?_ ?_
                          rotate_left
                          · go_simp
                            rfl
                          refine hK.out _ _ ?_
                          clear hK K
                          refine done_ (done_of HT_.out (by kernel_rfl)) ?_
                          have n0_ : Aside0 (Kd.R (Kd.int .i64) 3 (w42.setCell ⟨go40, ((ji35) : Int).toNat, none⟩ (.int .i64 (wrap64 ((rd x5_2 (ji35)) + (wrap64 (Int.tdiv (rd x5_2 x8_2) 10)))))) w.heap.size (fun _ => True) (.slice (some ⟨go40, 0, none⟩) x5_2.length co33) y156) := ⟨by (with_reducible repeat (first | apply Kd.R_alloc | apply Kd.R_drewN | apply Kd.R_drew)); exact HQ43.out⟩
                          have n1_ : Aside0 ((w42.setCell ⟨go40, ((ji35) : Int).toNat, none⟩ (.int .i64 (wrap64 ((rd x5_2 (ji35)) + (wrap64 (Int.tdiv (rd x5_2 x8_2) 10)))))).heap[gb144]? = some (.cells #[.bool a0_0, .slice A0_1 l0_1.length c0_1, .int .i64 a0_2] 26 (0, 0))) := ⟨by (with_reducible repeat (first | refine blk_drewN ?_ _ | refine blk_drew ?_ | refine blk_alloc ?_ _)); refine blk_far ?_ (by have h_ := Kd.R_ne HO_5.out BK144.out (by decide); intro e_; exact h_ (by rw [e_]; rfl)) _; (with_reducible repeat (first | refine blk_drewN ?_ _ | refine blk_drew ?_ | refine blk_alloc ?_ _)); exact BK144.out⟩
                          have n2_ : Aside0 ((w42.setCell ⟨go40, ((ji35) : Int).toNat, none⟩ (.int .i64 (wrap64 ((rd x5_2 (ji35)) + (wrap64 (Int.tdiv (rd x5_2 x8_2) 10)))))).heap[gb145]? = some (.cells #[.bool a1_0, .slice A1_1 l1_1.length c1_1, .int .i64 a1_2] 26 (0, 0))) := ⟨by (with_reducible repeat (first | refine blk_drewN ?_ _ | refine blk_drew ?_ | refine blk_alloc ?_ _)); refine blk_far ?_ (by have h_ := Kd.R_ne HO_5.out BK145.out (by decide); intro e_; exact h_ (by rw [e_]; rfl)) _; (with_reducible repeat (first | refine blk_drewN ?_ _ | refine blk_drew ?_ | refine blk_alloc ?_ _)); exact BK145.out⟩
                          have n3_ : Aside0 ((w42.setCell ⟨go40, ((ji35) : Int).toNat, none⟩ (.int .i64 (wrap64 ((rd x5_2 (ji35)) + (wrap64 (Int.tdiv (rd x5_2 x8_2) 10)))))).heap[gb146]? = some (.cells #[.bool false, .slice none 0 0, .int .i64 0] 26 (0, 0))) := ⟨by (with_reducible repeat (first | refine blk_drewN ?_ _ | refine blk_drew ?_ | refine blk_alloc ?_ _)); refine blk_far ?_ (by have h_ := Kd.R_ne HO_5.out BK146.out (by decide); intro e_; exact h_ (by rw [e_]; rfl)) _; (with_reducible repeat (first | refine blk_drewN ?_ _ | refine blk_drew ?_ | refine blk_alloc ?_ _)); exact BK146.out⟩
                          have n4_ : Aside0 (Below w.heap.size w (w42.setCell ⟨go40, ((ji35) : Int).toNat, none⟩ (.int .i64 (wrap64 ((rd x5_2 (ji35)) + (wrap64 (Int.tdiv (rd x5_2 x8_2) 10))))))) := ⟨by repeat (first | (with_reducible first | exact HB.out | apply below_alloc | apply pw_below_drewN | apply below_drew1 | refine below_set ?_ GB40.out | refine below_set ?_ GE144.out | refine below_set ?_ GE145.out | refine below_set ?_ GE146.out) | exact HB.out)⟩
                          (try clear HO_5)
                          (try clear BK144)
                          (try clear BK145)
                          (try clear BK146)
                          (try clear HB)
                          generalize (w42.setCell ⟨go40, ((ji35) : Int).toNat, none⟩ (.int .i64 (wrap64 ((rd x5_2 (ji35)) + (wrap64 (Int.tdiv (rd x5_2 x8_2) 10)))))) = w44 at n0_ n1_ n2_ n3_ n4_ ⊢
                          have HO_5 := n0_
                          have BK144 := n1_
                          have BK145 := n2_
                          have BK146 := n3_
                          have HB := n4_
                          clear n0_ n1_ n2_ n3_ n4_
                          have p157 : 0 ≤ (x8_2 : Int) := of_decide_eq_true (by first | (with_reducible assumption) | assumption)
                          have q157 : x8_2 < (y156.length : Int) := (by have h_ : (x8_2 : Int) < ((x5_2.length : Int) : Int) := of_decide_eq_true (by first | (with_reducible assumption) | assumption); first | (have e_ := (Kd.R_reads' HO_5.out).1; omega) | simpa only [Ny156.out, List.length_set] using h_)
                          have ql157 : ((x8_2 : Int) < ((x5_2.length : Int) : Int)) = True := eq_true (of_decide_eq_true (by first | (with_reducible assumption) | assumption))
                          obtain ⟨ad157, e157, hx157_0⟩ := Kd.at_int (Kd.R_reads' HO_5.out).2.2 x8_2 p157 q157
                          obtain rfl : (⟨go40, 0, none⟩ : Addr) = ad157 := (by injection e157)
                          (first | simp only [add_plain] at hx157_0 | simp only [add_at] at hx157_0 | simp only [Addr.add, Nat.zero_add] at hx157_0 | skip)
                          replace p157 := eq_true p157
                          replace q157 := eq_true q157
                          have p41 : 0 ≤ (x8_2 : Int) := of_decide_eq_true (by first | (with_reducible assumption) | assumption)
                          have q41 : (x8_2 : Int) < ((x5_2.length : Int) : Int) := of_decide_eq_true (by first | (with_reducible assumption) | assumption)
                          obtain ⟨hx41_0, hf41_0⟩ := Kd.R_celln 0 HO_5.out (x8_2 : Int) p41 q41
                          replace p41 := eq_true p41
                          replace q41 := eq_true q41
                          obtain ⟨hy45_, hz45_⟩ := Kd.R_celln 0 HO_5.out (x8_2 : Int) (of_decide_eq_true (by first | (with_reducible assumption) | assumption)) (of_decide_eq_true (by first | (with_reducible assumption) | assumption))
                          have HP45 := Kd.R_putg HO_5.out (x8_2 : Int) (Int.tmod (rd y156 x8_2) 10)
                          try go_wp2_with (first | ((with_reducible refine gate_store (t := 3) (p := 76) rfl ?_); refine store_event (t := 3) (p := 76) (v := ?vo_w46) (w1 := (w44.setCell ⟨go40, (x8_2 : Int).toNat, none⟩ (.int .i64 (Int.tmod (rd y156 x8_2) 10)))) ?hg ?ho ?hn ?hr ?_; (case ho => rfl); (case hg => rfl); (case hn => rfl); (case hr => first | (go_simp; done) | (go_simp; rfl)); intro w46 hw; have hg : w44.grownBy w46 (some go40) := (by rw [hw]; exact HP45.2); have hp_ : Kd.R (Kd.int .i64) 3 w46 w.heap.size (fun _ => True) (.slice (some ⟨go40, 0, none⟩) x5_2.length co33) y158 := (by rw [hw, Ny158.out]; exact HP45.1); clear HP45; have n0_ := Aside0.mk (hp_); have n1_ := Aside0.mk (blk_grown (g := gb144) (o := .cells #[.bool a0_0, .slice A0_1 l0_1.length c0_1, .int .i64 a0_2] 26 (0, 0)) (by (with_reducible repeat (first | refine blk_drewN ?_ _ | refine blk_drew ?_ | refine blk_alloc ?_ _)); exact BK144.out) hg (Kd.R_ne HO_5.out BK144.out (by decide))); have n2_ := Aside0.mk (blk_grown (g := gb145) (o := .cells #[.bool a1_0, .slice A1_1 l1_1.length c1_1, .int .i64 a1_2] 26 (0, 0)) (by (with_reducible repeat (first | refine blk_drewN ?_ _ | refine blk_drew ?_ | refine blk_alloc ?_ _)); exact BK145.out) hg (Kd.R_ne HO_5.out BK145.out (by decide))); have n3_ := Aside0.mk (blk_grown (g := gb146) (o := .cells #[.bool false, .slice none 0 0, .int .i64 0] 26 (0, 0)) (by (with_reducible repeat (first | refine blk_drewN ?_ _ | refine blk_drew ?_ | refine blk_alloc ?_ _)); exact BK146.out) hg (Kd.R_ne HO_5.out BK146.out (by decide))); have n4_ := Aside0.mk ((by rw [hw]; exact below_set (HB.out) GB40.out : Below w.heap.size w w46)); clear HO_5; clear BK144; clear BK145; clear BK146; clear HB; have HO_5 := n0_; have BK144 := n1_; have BK145 := n2_; have BK146 := n3_; have HB := n4_; clear n0_ n1_ n2_ n3_ n4_; clear hg hw hp_))
                          (try simp only [← hl5_2])
                          go_roundg k2
                          case measure => have := HK1.out; have := HK2.out; omega
                          case rel => exact ⟨(y158), (ji35), (by first | rfl | (simp; done) | (simp only [← hji35] <;> (first | rfl | simp)) | (simp [*]; done)), H', ⟨by have := HK1.out; have := HK2.out; omega⟩, ⟨by (try simp only [hl5_2]); (with_reducible repeat (first | apply Kd.R_alloc | apply Kd.R_drewN | apply Kd.R_drew)); exact HO_5.out⟩, ⟨by (try simp only [hl5_2]); (with_reducible repeat (first | refine blk_drewN ?_ _ | refine blk_drew ?_ | refine blk_alloc ?_ _)); exact BK144.out⟩, ⟨by (try simp only [hl5_2]); (with_reducible repeat (first | refine blk_drewN ?_ _ | refine blk_drew ?_ | refine blk_alloc ?_ _)); exact BK145.out⟩, ⟨by (try simp only [hl5_2]); (with_reducible repeat (first | refine blk_drewN ?_ _ | refine blk_drew ?_ | refine blk_alloc ?_ _)); exact BK146.out⟩, ⟨by repeat (first | (with_reducible first | exact HB.out | apply below_alloc | apply pw_below_drewN | apply below_drew1 | refine below_set ?_ GE144.out | refine below_set ?_ GE145.out | refine below_set ?_ GE146.out) | exact HB.out)⟩⟩
                        · rw [if_neg c39] at H
                          exact absurd H (by simp)
                      · rw [if_neg c38] at H
                        exact absurd H (by simp)
                    · rw [if_neg c37] at H
                      exact absurd H (by simp)
                  · rw [if_neg c36] at H
                    exact absurd H (by simp)
                · rw [if_neg c34] at H
                  have c34b0 : decide (0 < x8_2) = false := decide_eq_false c34
                  clear c34
                  replace H := Option.bind_eq_some_iff.mp H
                  obtain ⟨⟨t159, t160, t163⟩, A470, H⟩ := H
                  replace H : (some (t159, t160, t163)) = some (r1, r2, r3) := H
                  have A47 := Aside0.mk A470
                  clear A470
                  simp only [Option.some.injEq, Prod.mk.injEq] at H
                  obtain ⟨rfl, rfl, rfl⟩ := H
                  have hnb48 := NB144_145.out
                  have hnc48 := NB145_144.out
                  have hnb49 := NB144_146.out
                  have hnc49 := NB146_144.out
                  have hcz50_0 : wr.cell? ⟨gb144, 0, none⟩ = some (.bool a0_0) := (blk_cell BK144.out 0).trans rfl
                  have hcz50_1 : wr.cell? ⟨gb144, 1, none⟩ = some (.slice A0_1 l0_1.length c0_1) := (blk_cell BK144.out 1).trans rfl
                  have hcz50_2 : wr.cell? ⟨gb144, 2, none⟩ = some (.int .i64 a0_2) := (blk_cell BK144.out 2).trans rfl
                  have hfz50_0 := blk_frozen BK144.out 0
                  have hfz50_1 := blk_frozen BK144.out 1
                  have hfz50_2 := blk_frozen BK144.out 2
                  have hnb51 := NB145_146.out
                  have hnc51 := NB146_145.out
                  have hcz52_0 : wr.cell? ⟨gb145, 0, none⟩ = some (.bool a1_0) := (blk_cell BK145.out 0).trans rfl
                  have hcz52_1 : wr.cell? ⟨gb145, 1, none⟩ = some (.slice A1_1 l1_1.length c1_1) := (blk_cell BK145.out 1).trans rfl
                  have hcz52_2 : wr.cell? ⟨gb145, 2, none⟩ = some (.int .i64 a1_2) := (blk_cell BK145.out 2).trans rfl
                  have hfz52_0 := blk_frozen BK145.out 0
                  have hfz52_1 := blk_frozen BK145.out 1
                  have hfz52_2 := blk_frozen BK145.out 2
                  go_wp2_with (first | ((with_reducible refine gate_callee (f := 24) rfl ?_); refine goesL_ (some 88) rfl rfl Try.func24 (by kernel_rfl) rfl #[.bool (a0_0 != a1_0), .slice Ao33 x5_2.length co33, .int .i64 (wrap64 (a0_2 + a1_2))] rfl (by (try simp only [List.map_toArray, List.map_cons, List.map_nil]); first | done | rfl | (simp only [List.length_drop, List.length_take]; rfl)) ?_; (with_reducible refine (spec_decimal.calls k2 (a0_0 != a1_0) (fun k_ => some k_ = (.slice Ao33 x5_2.length co33 : Value).ownBlock) _ _ x5_2 (wrap64 (a0_2 + a1_2)) t159 t160 t163 _ ?side1 A47.out).mono ?_); (case side1 => exact Kd.R_V (Kd.R_tight rfl (Kd.R_types (Kd.R_types (Kd.R_types (HO_5.out) BK144.out (by decide)) BK145.out (by decide)) BK146.out (by decide)))); rintro e w53 ⟨v161, rfl, ho0, hb⟩; refine ⟨_, rfl, ?_⟩; have n0_ := Aside0.mk (Kd.R_elder' (by (with_reducible repeat (first | apply Kd.R_alloc | apply Kd.R_drewN | apply Kd.R_drew)); exact HO_5.out) (Kd.R_base ho0) hb); have n1_ := Aside0.mk (Kd.R_lower (Kd.R_new' (Kd.R_mono (ok' := fun k_ => True) ho0 (fun _ hk_ => trivial)) (Kd.R_lt (by (with_reducible repeat (first | apply Kd.R_alloc | apply Kd.R_drewN | apply Kd.R_drew)); exact HO_5.out))) (below_size (by repeat (first | (with_reducible first | exact HB.out | apply below_alloc | apply pw_below_drewN | apply below_drew1 | refine below_set ?_ GE144.out | refine below_set ?_ GE145.out | refine below_set ?_ GE146.out) | exact HB.out)))); have n2_ := Aside0.mk (blk_below (g := gb144) (o := .cells #[.bool a0_0, .slice A0_1 l0_1.length c0_1, .int .i64 a0_2] 26 (0, 0)) (by (with_reducible repeat (first | refine blk_drewN ?_ _ | refine blk_drew ?_ | refine blk_alloc ?_ _)); exact BK144.out) hb); have n3_ := Aside0.mk (blk_below (g := gb145) (o := .cells #[.bool a1_0, .slice A1_1 l1_1.length c1_1, .int .i64 a1_2] 26 (0, 0)) (by (with_reducible repeat (first | refine blk_drewN ?_ _ | refine blk_drew ?_ | refine blk_alloc ?_ _)); exact BK145.out) hb); have n4_ := Aside0.mk (blk_below (g := gb146) (o := .cells #[.bool false, .slice none 0 0, .int .i64 0] 26 (0, 0)) (by (with_reducible repeat (first | refine blk_drewN ?_ _ | refine blk_drew ?_ | refine blk_alloc ?_ _)); exact BK146.out) hb); have n5_ := Aside0.mk (below_step (by repeat (first | (with_reducible first | exact HB.out | apply below_alloc | apply pw_below_drewN | apply below_drew1 | refine below_set ?_ GE144.out | refine below_set ?_ GE145.out | refine below_set ?_ GE146.out) | exact HB.out)) hb); clear HO_5; clear BK144; clear BK145; clear BK146; clear HB; have HO_5 := n0_; have HO162 := n1_; have BK144 := n2_; have BK145 := n3_; have BK146 := n4_; have HB := n5_; clear n0_ n1_ n2_ n3_ n4_ n5_; (try clear hb); (try clear hb2); (try clear hk); (try clear hi); (try clear ho0); have hcz54_0 : w53.cell? ⟨gb146, 0, none⟩ = some (.bool false) := (blk_cell BK146.out 0).trans rfl; have hcz54_1 : w53.cell? ⟨gb146, 1, none⟩ = some (.slice none 0 0) := (blk_cell BK146.out 1).trans rfl; have hcz54_2 : w53.cell? ⟨gb146, 2, none⟩ = some (.int .i64 0) := (blk_cell BK146.out 2).trans rfl; have hfz54_0 := blk_frozen BK146.out 0; have hfz54_1 := blk_frozen BK146.out 1; have hfz54_2 := blk_frozen BK146.out 2; obtain ⟨Ao55, co55, eo55⟩ := Kd.R_slice HO162.out; subst eo55))
                  refine bodyPost_ret (results_cell_row rfl _ _ gb146 26 #[.bool t159, .slice Ao55 t160.length co55, .int .i64 t163] (0, 0) _ rfl (by (with_reducible repeat (first | refine blk_drewN ?_ _ | refine blk_drew ?_ | refine blk_alloc ?_ _)); refine blk_put (cs := #[.bool t159, .slice Ao55 t160.length co55, .int .i64 0]) ?_ 2 _ rfl; (with_reducible repeat (first | refine blk_drewN ?_ _ | refine blk_drew ?_ | refine blk_alloc ?_ _)); refine blk_put (cs := #[.bool t159, .slice none 0 0, .int .i64 0]) ?_ 1 _ rfl; (with_reducible repeat (first | refine blk_drewN ?_ _ | refine blk_drew ?_ | refine blk_alloc ?_ _)); refine blk_put (cs := #[.bool false, .slice none 0 0, .int .i64 0]) ?_ 0 _ rfl; (with_reducible repeat (first | refine blk_drewN ?_ _ | refine blk_drew ?_ | refine blk_alloc ?_ _)); exact BK146.out) Try.underlying26 rfl (by kernel_rfl)) rfl ?_
                  exact ⟨_, by first | rfl | (simp [errW_none, errW_some] <;> rfl) | (simp only [← hji3]; first | rfl | (simp [errW_none, errW_some] <;> rfl)) | (simp [*, errW_none, errW_some] <;> rfl), by (with_reducible repeat (first | apply Kd.R_alloc | apply Kd.R_drewN | apply Kd.R_drew)); exact Kd.R_mono (Kd.R_far (p := ⟨gb146, 2, none⟩) (Kd.R_far (p := ⟨gb146, 1, none⟩) (Kd.R_far (p := ⟨gb146, 0, none⟩) (Kd.R_types HO162.out BK146.out (by decide)) (fun _ hk => hk.2) (.bool t159)) (fun _ hk => hk.2) (.slice Ao55 t160.length co55)) (fun _ hk => hk.2) (.int .i64 t163)) (fun _ hk => trivial), by repeat (first | (with_reducible first | exact HB.out | apply below_alloc | apply pw_below_drewN | apply below_drew1 | refine below_set ?_ GE144.out | refine below_set ?_ GE145.out | refine below_set ?_ GE146.out) | exact HB.out)⟩
    · rw [if_neg c5] at H
      exact absurd H (by simp)
  · rw [if_neg c4] at H
    exact absurd H (by simp)

end Go.Proofs.Ytgidpggooclebaa.PFnScaleDowns
