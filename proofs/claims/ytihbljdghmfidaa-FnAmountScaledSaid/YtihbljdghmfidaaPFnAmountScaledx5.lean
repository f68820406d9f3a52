/- Functions of the program as plain Lean functions, and that the machine's calls do what these say: written for this claim by wip/myprint.py over the kit's print.py. -/
import Derived.Test.YtihbljdghmfidaaPFnAmountScaledx0
import Derived.Test.YtihbljdghmfidaaPFnAmountScaledx1
import Derived.Test.YtihbljdghmfidaaPFnAmountScaledx2
import Derived.Test.YtihbljdghmfidaaPFnAmountScaledx3
import Derived.Test.YtihbljdghmfidaaPFnAmountScaledx4
namespace Go.Proofs.Ytihbljdghmfidaa.PFnAmountScaled
open Go.RowKit Go.Proofs.YtihbljdghmfidaaW.PrintWords Go.Proofs.YtihbljdghmfidaaW.PrintLast Go.Proofs.YtihbljdghmfidaaW.PrintMore
attribute [local go_sem] max2_int min2_int max_two min_two max_three min_three max_four min_four   -- for this text's walks alone
set_option linter.unusedVariables false
set_option linter.unusedSimpArgs false

/-! ### spec_DecimalCmp: function 16 -/
def spec_DecimalCmp.j0 : Nat → Int → Int → Bool → Bool → List Int → Int → Bool → List Int → Int → Option (Int)
  | 0, _, _, _, _, _, _, _, _, _ => none
  | k + 1, x5, x6, x11, x176000, x176001, x176002, x177000, x177001, x177002 => if x11 = true then (some (-1)) else (if x5 = x6 then (if x5 < 0 then ((spec_larger.f k x176000 x176001 x176002 x177000 x177001 x177002).bind fun t179 => (some (wrap64 (-t179)))) else (if x5 > 0 then ((spec_larger.f k x176000 x176001 x176002 x177000 x177001 x177002).bind fun t180 => (some t180)) else (some 0))) else (some 1))
def spec_DecimalCmp.f (k : Nat) (a0_0 : Bool) (l0_1 : List Int) (a0_2 : Int) (a1_0 : Bool) (l1_1 : List Int) (a1_2 : Int) : Option (Int) := (spec_DecimalSign.f a0_0 l0_1 a0_2).bind fun t177 => ((spec_DecimalSign.f a1_0 l1_1 a1_2).bind fun t178 => (if t177 = t178 then (spec_DecimalCmp.j0 k t177 t178 false a0_0 l0_1 a0_2 a1_0 l1_1 a1_2) else (spec_DecimalCmp.j0 k t177 t178 (decide (t177 < t178)) a0_0 l0_1 a0_2 a1_0 l1_1 a1_2)))
theorem spec_DecimalCmp.mono_l : ∀ k, (∀ y0 y1 y2 y3 y4 y5 y6 y7 y8, LeO (spec_DecimalCmp.j0 k y0 y1 y2 y3 y4 y5 y6 y7 y8) (spec_DecimalCmp.j0 (k + 1) y0 y1 y2 y3 y4 y5 y6 y7 y8))
  | 0 => fun _ _ _ _ _ _ _ _ _ r h => by simp [spec_DecimalCmp.j0] at h
  | k + 1 => by
    have ih0 := spec_DecimalCmp.mono_l k
    · intro y0 y1 y2 y3 y4 y5 y6 y7 y8
      unfold spec_DecimalCmp.j0
      repeat' first
      | (with_reducible exact ih0 _ _ _ _ _ _ _ _ _)
      | (with_reducible exact spec_larger.mono _ _ _ _ _ _ _)
      | (with_reducible exact LeO.refl _)
      | (with_reducible exact LeO.none _)
      | (with_reducible refine LeO.ite ?_ ?_)
      | (with_reducible refine LeO.bind ?_ (fun _ => ?_))
      | exact ih0 _ _ _ _ _ _ _ _ _
      | exact spec_larger.mono _ _ _ _ _ _ _
      | exact LeO.none _
      | refine LeO.ite ?_ ?_
      | refine LeO.bind ?_ (fun _ => ?_)
theorem spec_DecimalCmp.mono : ∀ a0 a1 a2 a3 a4 a5 k, LeO (spec_DecimalCmp.f k a0 a1 a2 a3 a4 a5) (spec_DecimalCmp.f (k + 1) a0 a1 a2 a3 a4 a5) := by
  intro a0 a1 a2 a3 a4 a5 k
  have ih0 := spec_DecimalCmp.mono_l k
  unfold spec_DecimalCmp.f
  repeat' first
      | (with_reducible exact ih0 _ _ _ _ _ _ _ _ _)
      | (with_reducible exact spec_larger.mono _ _ _ _ _ _ _)
      | (with_reducible exact LeO.refl _)
      | (with_reducible exact LeO.none _)
      | (with_reducible refine LeO.ite ?_ ?_)
      | (with_reducible refine LeO.bind ?_ (fun _ => ?_))
      | exact ih0 _ _ _ _ _ _ _ _ _
      | exact spec_larger.mono _ _ _ _ _ _ _
      | exact LeO.none _
      | refine LeO.ite ?_ ?_
      | refine LeO.bind ?_ (fun _ => ?_)
set_option maxHeartbeats 8000000 in
set_option maxRecDepth 100000 in
theorem spec_DecimalCmp.calls (k : Nat) (a0_0 : Bool) (A0_1 : Option Addr) (c0_1 : Nat) (l0_1 : List Int) (a0_2 : Int) (a1_0 : Bool) (A1_1 : Option Addr) (c1_1 : Nat) (l1_1 : List Int) (a1_2 : Int) (r : Int) (w : World) (hr0_1 : Kd.C (Kd.int .i64) w A0_1 l0_1.length l0_1) (hc0_1 : l0_1.length ≤ c0_1) (hr1_1 : Kd.C (Kd.int .i64) w A1_1 l1_1.length l1_1) (hc1_1 : l1_1.length ≤ c1_1) (h : spec_DecimalCmp.f k a0_0 l0_1 a0_2 a1_0 l1_1 a1_2 = some r) :
    Calls Try.prog 16 #[.agg #[.bool a0_0, .slice A0_1 l0_1.length c0_1, .int .i64 a0_2], .agg #[.bool a1_0, .slice A1_1 l1_1.length c1_1, .int .i64 a1_2]] w fun e w' => e = .returned (.int .i64 r) ∧ Below w.heap.size w w' := by
  have hu26 := Try.underlying26
  have HR0_1 := Aside0.mk hr0_1
  have HC0_1 := Aside0.mk hc0_1
  clear hr0_1 hc0_1
  have HR1_1 := Aside0.mk hr1_1
  have HC1_1 := Aside0.mk hc1_1
  clear hr1_1 hc1_1
  have HB := Aside0.mk (Below.refl w.heap.size w)
  have H : ((spec_DecimalSign.f a0_0 l0_1 a0_2).bind fun t177 => ((spec_DecimalSign.f a1_0 l1_1 a1_2).bind fun t178 => (if t177 = t178 then (spec_DecimalCmp.j0 k t177 t178 false a0_0 l0_1 a0_2 a1_0 l1_1 a1_2) else (spec_DecimalCmp.j0 k t177 t178 (decide (t177 < t178)) a0_0 l0_1 a0_2 a1_0 l1_1 a1_2)))) = some r := h
  clear h
  replace H := Option.bind_eq_some_iff.mp H
  obtain ⟨t177, A30, H⟩ := H
  replace H : ((spec_DecimalSign.f a1_0 l1_1 a1_2).bind fun t178 => (if t177 = t178 then (spec_DecimalCmp.j0 k t177 t178 false a0_0 l0_1 a0_2 a1_0 l1_1 a1_2) else (spec_DecimalCmp.j0 k t177 t178 (decide (t177 < t178)) a0_0 l0_1 a0_2 a1_0 l1_1 a1_2))) = some r := H
  have A3 := Aside0.mk A30
  clear A30
  replace H := Option.bind_eq_some_iff.mp H
  obtain ⟨t178, A40, H⟩ := H
  replace H : (if t177 = t178 then (spec_DecimalCmp.j0 k t177 t178 false a0_0 l0_1 a0_2 a1_0 l1_1 a1_2) else (spec_DecimalCmp.j0 k t177 t178 (decide (t177 < t178)) a0_0 l0_1 a0_2 a1_0 l1_1 a1_2)) = some r := H
  have A4 := Aside0.mk A40
  clear A40
  have HC5 := Aside0.mk H
  clear H
  go_enter Try.func16, Try.ntmps16
  try go_wp2_with (first | ((with_reducible refine gate_dst (N := 2) rfl ?_); refine box_event ?hg (N := 2) ?hd (cs := #[.bool a0_0, .slice A0_1 l0_1.length c0_1, .int .i64 a0_2]) (t := 26) ?hr ?_; (case hd => rfl); (case hg => rfl); (case hr => first | (go_simp; done) | (go_simp; rfl)); intro gb175 hg w6 hbox hb; have n0_ := Aside0.mk (below_step (by repeat (first | (with_reducible first | exact HB.out | apply below_alloc | apply pw_below_drewN | apply below_drew1) | exact HB.out)) hb); have n1_ := Aside0.mk (hbox); have n2_ := Aside0.mk ((by rw [hg]; exact (below_size (by repeat (first | (with_reducible first | exact HB.out | apply below_alloc | apply pw_below_drewN | apply below_drew1) | exact HB.out))) : w.heap.size ≤ gb175)); have n3_ := Aside0.mk ((by rw [hg]; exact (below_size (by repeat (first | (with_reducible first | exact HB.out | apply below_alloc | apply pw_below_drewN | apply below_drew1) | exact HB.out))) : w.heap.size ≤ gb175)); clear HB; have HB := n0_; have BK175 := n1_; have GW175 := n2_; have GE175 := n3_; clear n0_ n1_ n2_ n3_; clear hb hbox hg) | ((with_reducible refine gate_dst (N := 3) rfl ?_); refine box_event ?hg (N := 3) ?hd (cs := #[.bool a1_0, .slice A1_1 l1_1.length c1_1, .int .i64 a1_2]) (t := 26) ?hr ?_; (case hd => rfl); (case hg => rfl); (case hr => first | (go_simp; done) | (go_simp; rfl)); intro gb176 hg w7 hbox hb; have n0_ := Aside0.mk (blk_below (g := gb175) (o := .cells #[.bool a0_0, .slice A0_1 l0_1.length c0_1, .int .i64 a0_2] 26 (0, 0)) (by (with_reducible repeat (first | refine blk_drewN ?_ _ | refine blk_drew ?_ | refine blk_alloc ?_ _)); exact BK175.out) hb); have n1_ := Aside0.mk (below_step (by repeat (first | (with_reducible first | exact HB.out | apply below_alloc | apply pw_below_drewN | apply below_drew1 | refine below_set ?_ GE175.out) | exact HB.out)) hb); have n2_ := Aside0.mk (hbox); have n3_ := Aside0.mk ((by rw [hg]; exact (below_size (by repeat (first | (with_reducible first | exact HB.out | apply below_alloc | apply pw_below_drewN | apply below_drew1 | refine below_set ?_ GE175.out) | exact HB.out))) : w.heap.size ≤ gb176)); have n4_ := Aside0.mk ((by rw [hg]; exact (below_size (by repeat (first | (with_reducible first | exact HB.out | apply below_alloc | apply pw_below_drewN | apply below_drew1 | refine below_set ?_ GE175.out) | exact HB.out))) : w.heap.size ≤ gb176)); have n5_ := Aside0.mk ((by rw [hg]; exact Nat.ne_of_lt (blk_lt (g := gb175) (o := .cells #[.bool a0_0, .slice A0_1 l0_1.length c0_1, .int .i64 a0_2] 26 (0, 0)) (by (with_reducible repeat (first | refine blk_drewN ?_ _ | refine blk_drew ?_ | refine blk_alloc ?_ _)); exact BK175.out)) : gb175 ≠ gb176)); have n6_ := Aside0.mk ((by rw [hg]; exact Nat.ne_of_gt (blk_lt (g := gb175) (o := .cells #[.bool a0_0, .slice A0_1 l0_1.length c0_1, .int .i64 a0_2] 26 (0, 0)) (by (with_reducible repeat (first | refine blk_drewN ?_ _ | refine blk_drew ?_ | refine blk_alloc ?_ _)); exact BK175.out)) : gb176 ≠ gb175)); clear BK175; clear HB; have BK175 := n0_; have HB := n1_; have BK176 := n2_; have GW176 := n3_; have GE176 := n4_; have NB175_176 := n5_; have NB176_175 := n6_; clear n0_ n1_ n2_ n3_ n4_ n5_ n6_; clear hb hbox hg))
  have n0_ := Aside0.mk (blk_drew BK175.out)
  have n1_ := Aside0.mk (blk_drew BK176.out)
  have n2_ := Aside0.mk (below_drew1 HB.out)
  clear BK175
  clear BK176
  clear HB
  have BK175 := n0_
  have BK176 := n1_
  have HB := n2_
  clear n0_ n1_ n2_
  refine start_ (n := 6) (S := fun w' => w'.cell? ⟨gb175, 0, none⟩ = some (.bool a0_0) ∧ w'.cell? ⟨gb175, 1, none⟩ = some (.slice A0_1 l0_1.length c0_1) ∧ w'.cell? ⟨gb175, 2, none⟩ = some (.int .i64 a0_2) ∧ w'.cell? ⟨gb176, 0, none⟩ = some (.bool a1_0) ∧ w'.cell? ⟨gb176, 1, none⟩ = some (.slice A1_1 l1_1.length c1_1) ∧ w'.cell? ⟨gb176, 2, none⟩ = some (.int .i64 a1_2)) (ds := []) #[false, false, false, false, false, false] (by kernel_rfl) rfl rfl ⟨(blk_cell BK175.out 0).trans rfl, (blk_cell BK175.out 1).trans rfl, (blk_cell BK175.out 2).trans rfl, (blk_cell BK176.out 0).trans rfl, (blk_cell BK176.out 1).trans rfl, (blk_cell BK176.out 2).trans rfl⟩ (fun hHeld => ?_)
  generalize w7.drew = w8 at BK175 BK176 HB hHeld ⊢
  refine take_ (i := 0) (N := some 7) (v := ?_) (a' := ?_) #[true, false, false, false, false, false] rfl rfl (by kernel_rfl) (fun _ _ _ h => h) (Or.inl ⟨by rfl, ?_⟩) hHeld ?_ ?_
  rotate_left
  · rintro w' ⟨s0, s1, s2, s3, s4, s5⟩
    go_simp
    with_reducible rfl
  rotate_left
  · simp only [Act.put, List.setIfInBounds_toArray, List.set_cons_zero, List.set_cons_succ, i64_w, i32_w]
    rfl
  refine take_ (i := 2) (N := some 9) (v := ?_) (a' := ?_) #[true, false, true, false, false, false] rfl rfl (by kernel_rfl) (fun _ _ _ h => h) (Or.inl ⟨by rfl, ?_⟩) hHeld ?_ ?_
  rotate_left
  · rintro w' ⟨s0, s1, s2, s3, s4, s5⟩
    go_simp
    with_reducible rfl
  rotate_left
  · simp only [Act.put, List.setIfInBounds_toArray, List.set_cons_zero, List.set_cons_succ, i64_w, i32_w]
    rfl
  refine one_ (i := 1) (N := some 8) #[true, true, true, false, false, false] rfl rfl (by kernel_rfl) (by decide) (fun K hK => ?_)
  refine goes_ Try.func26 (by kernel_rfl) rfl #[.agg #[.bool a0_0, .slice A0_1 l0_1.length c0_1, .int .i64 a0_2]] (by rfl) rfl rfl (by (try simp only [List.map_toArray, List.map_cons, List.map_nil]); first | done | rfl | (simp only [List.length_drop, List.length_take]; rfl)) ?_
  with_reducible refine (spec_DecimalSign.calls a0_0 _ _ l0_1 a0_2 t177 _ ?side1 ?side2 A3.out).mono ?_
  (case side1 => repeat (first | exact (Kd.C_below HR0_1.out HB.out) | (with_reducible refine Kd.C_alloc ?_ _) | (with_reducible refine Kd.C_drewN ?_ _) | (with_reducible refine Kd.C_drew ?_)))
  (case side2 => exact HC0_1.out)
  rintro e w9 ⟨rfl, hb⟩
  refine ⟨_, rfl, ?_⟩
  have n0_ := Aside0.mk (blk_below (g := gb175) (o := .cells #[.bool a0_0, .slice A0_1 l0_1.length c0_1, .int .i64 a0_2] 26 (0, 0)) (by (with_reducible repeat (first | refine blk_drewN ?_ _ | refine blk_drew ?_ | refine blk_alloc ?_ _)); exact BK175.out) hb)
  have n1_ := Aside0.mk (blk_below (g := gb176) (o := .cells #[.bool a1_0, .slice A1_1 l1_1.length c1_1, .int .i64 a1_2] 26 (0, 0)) (by (with_reducible repeat (first | refine blk_drewN ?_ _ | refine blk_drew ?_ | refine blk_alloc ?_ _)); exact BK176.out) hb)
  have n2_ := Aside0.mk (below_step (by repeat (first | (with_reducible first | exact HB.out | apply below_alloc | apply pw_below_drewN | apply below_drew1 | refine below_set ?_ GE175.out | refine below_set ?_ GE176.out) | exact HB.out)) hb)
  clear BK175
  clear BK176
  clear HB
  have BK175 := n0_
  have BK176 := n1_
  have HB := n2_
  clear n0_ n1_ n2_
  (try clear hb)
  (try clear hb2)
  (try clear hk)
  (try clear hi)
  refine hK.out _ _ ⟨(blk_cell BK175.out 0).trans rfl, (blk_cell BK175.out 1).trans rfl, (blk_cell BK175.out 2).trans rfl, (blk_cell BK176.out 0).trans rfl, (blk_cell BK176.out 1).trans rfl, (blk_cell BK176.out 2).trans rfl⟩ (fun hHeld => ?_)
  clear hK K
  refine norm_ (a' := ?_) ?_ ?_
  rotate_left
  · show Act.put _ (some 8) _ = _
    simp only [Act.put, List.setIfInBounds_toArray, List.set_cons_zero, List.set_cons_succ, i64_w, i32_w]
    rfl
  refine one_ (i := 3) (N := some 10) #[true, true, true, true, false, false] rfl rfl (by kernel_rfl) (by decide) (fun K hK => ?_)
  refine goes_ Try.func26 (by kernel_rfl) rfl #[.agg #[.bool a1_0, .slice A1_1 l1_1.length c1_1, .int .i64 a1_2]] (by rfl) rfl rfl (by (try simp only [List.map_toArray, List.map_cons, List.map_nil]); first | done | rfl | (simp only [List.length_drop, List.length_take]; rfl)) ?_
  with_reducible refine (spec_DecimalSign.calls a1_0 _ _ l1_1 a1_2 t178 _ ?side1 ?side2 A4.out).mono ?_
  (case side1 => repeat (first | exact (Kd.C_below HR1_1.out HB.out) | (with_reducible refine Kd.C_alloc ?_ _) | (with_reducible refine Kd.C_drewN ?_ _) | (with_reducible refine Kd.C_drew ?_)))
  (case side2 => exact HC1_1.out)
  rintro e w10 ⟨rfl, hb⟩
  refine ⟨_, rfl, ?_⟩
  have n0_ := Aside0.mk (blk_below (g := gb175) (o := .cells #[.bool a0_0, .slice A0_1 l0_1.length c0_1, .int .i64 a0_2] 26 (0, 0)) (by (with_reducible repeat (first | refine blk_drewN ?_ _ | refine blk_drew ?_ | refine blk_alloc ?_ _)); exact BK175.out) hb)
  have n1_ := Aside0.mk (blk_below (g := gb176) (o := .cells #[.bool a1_0, .slice A1_1 l1_1.length c1_1, .int .i64 a1_2] 26 (0, 0)) (by (with_reducible repeat (first | refine blk_drewN ?_ _ | refine blk_drew ?_ | refine blk_alloc ?_ _)); exact BK176.out) hb)
  have n2_ := Aside0.mk (below_step (by repeat (first | (with_reducible first | exact HB.out | apply below_alloc | apply pw_below_drewN | apply below_drew1 | refine below_set ?_ GE175.out | refine below_set ?_ GE176.out) | exact HB.out)) hb)
  clear BK175
  clear BK176
  clear HB
  have BK175 := n0_
  have BK176 := n1_
  have HB := n2_
  clear n0_ n1_ n2_
  (try clear hb)
  (try clear hb2)
  (try clear hk)
  (try clear hi)
  refine hK.out _ _ ⟨(blk_cell BK175.out 0).trans rfl, (blk_cell BK175.out 1).trans rfl, (blk_cell BK175.out 2).trans rfl, (blk_cell BK176.out 0).trans rfl, (blk_cell BK176.out 1).trans rfl, (blk_cell BK176.out 2).trans rfl⟩ (fun hHeld => ?_)
  clear hK K
  refine norm_ (a' := ?_) ?_ ?_
  rotate_left
  · show Act.put _ (some 10) _ = _
    simp only [Act.put, List.setIfInBounds_toArray, List.set_cons_zero, List.set_cons_succ, i64_w, i32_w]
    rfl
  refine pure_ (i := 4) (N := some 5) (v := ?_) (a' := ?_) #[true, true, true, true, true, false] rfl rfl (by kernel_rfl) (fun _ _ _ h => h) (Or.inl ⟨by rfl, ?_⟩) ?_ ?_
  rotate_left
  · intro w'
    go_simp
    with_reducible rfl
  rotate_left
  · simp only [Act.put, List.setIfInBounds_toArray, List.set_cons_zero, List.set_cons_succ, i64_w, i32_w]
    rfl
  refine pure_ (i := 5) (N := some 6) (v := ?_) (a' := ?_) #[true, true, true, true, true, true] rfl rfl (by kernel_rfl) (fun _ _ _ h => h) (Or.inl ⟨by rfl, ?_⟩) ?_ ?_
  rotate_left
  · intro w'
    go_simp
    with_reducible rfl
  rotate_left
  · simp only [Act.put, List.setIfInBounds_toArray, List.set_cons_zero, List.set_cons_succ, i64_w, i32_w]
    rfl
  refine done_ (by kernel_rfl) ?_
  go_upto_region 2 with (fail)
  go_cut [11] (fun v11 wc => ∃ (kq : Nat) (x11_4 : Bool), v11 = .bool x11_4 ∧ Aside0 (spec_DecimalCmp.j0 kq t177 t178 x11_4 a0_0 l0_1 a0_2 a1_0 l1_1 a1_2 = some r) ∧ Aside0 (kq ≤ k) ∧ Aside0 (wc.heap[gb175]? = some (.cells #[.bool a0_0, (.slice A0_1 l0_1.length c0_1), .int .i64 a0_2] 26 (0, 0))) ∧ Aside0 (wc.heap[gb176]? = some (.cells #[.bool a1_0, (.slice A1_1 l1_1.length c1_1), .int .i64 a1_2] 26 (0, 0))) ∧ Aside0 (Below w.heap.size w wc))
  case first =>
    have H := HC5.out
    clear HC5
    by_cases c11 : t177 = t178
    · rw [if_pos c11] at H
      have c11b0 : (t177 == t178) = true := beq_iff_eq.mpr c11
      have c11b1 : (t177 != t178) = false := bne_eq_false_iff_eq.mpr c11
      clear c11
      (first | rw [c11b0] | (simp only [i64_w, i32_w]; rw [c11b0]) | skip)
      have H' := Aside0.mk H
      clear H
      go_wp2
      go_meet
      case rel => exact ⟨_, (false), (by first | rfl | (simp; done) | (simp [*]; done)), H', ⟨by first | omega | exact Nat.le_refl _⟩, ⟨by (with_reducible repeat (first | refine blk_drewN ?_ _ | refine blk_drew ?_ | refine blk_alloc ?_ _)); exact BK175.out⟩, ⟨by (with_reducible repeat (first | refine blk_drewN ?_ _ | refine blk_drew ?_ | refine blk_alloc ?_ _)); exact BK176.out⟩, ⟨by repeat (first | (with_reducible first | exact HB.out | apply below_alloc | apply pw_below_drewN | apply below_drew1 | refine below_set ?_ GE175.out | refine below_set ?_ GE176.out) | exact HB.out)⟩⟩
    · rw [if_neg c11] at H
      have c11b0 : (t177 == t178) = false := beq_eq_false_iff_ne.mpr c11
      have c11b1 : (t177 != t178) = true := bne_iff_ne.mpr c11
      (first | rw [c11b0] | (simp only [i64_w, i32_w]; rw [c11b0]) | skip)
      have H' := Aside0.mk H
      clear H
      go_wp2
      go_meet
      case rel => exact ⟨_, (decide (t177 < t178)), (by first | rfl | (simp; done) | (simp [*]; done)), H', ⟨by first | omega | exact Nat.le_refl _⟩, ⟨by (with_reducible repeat (first | refine blk_drewN ?_ _ | refine blk_drew ?_ | refine blk_alloc ?_ _)); exact BK175.out⟩, ⟨by (with_reducible repeat (first | refine blk_drewN ?_ _ | refine blk_drew ?_ | refine blk_alloc ?_ _)); exact BK176.out⟩, ⟨by repeat (first | (with_reducible first | exact HB.out | apply below_alloc | apply pw_below_drewN | apply below_drew1 | refine below_set ?_ GE175.out | refine below_set ?_ GE176.out) | exact HB.out)⟩⟩
  case rest =>
    clear HC5
    try clear c1
    try clear c2
    try clear p2
    try clear c11
    try clear c11b0
    try clear c11b1
    obtain ⟨kq, x11_4, rfl, HA, HJ4, BK175, BK176, HB⟩ := hcut
    cases kq with
    | zero => exact absurd HA.out (by simp [spec_DecimalCmp.j0])
    | succ kj4 =>
      have H := HA.out
      clear HA
      simp only [spec_DecimalCmp.j0] at H
      by_cases c12 : x11_4 = true
      · subst c12
        have H1 : (some (-1)) = some r := by rw [if_pos rfl] at H; exact H
        clear H
        have H := H1
        clear H1
        obtain rfl := Option.some.inj H
        go_wp2
        go_ret
        exact ⟨by first | rfl | (simp [errW_none, errW_some] <;> rfl) | (simp [*, errW_none, errW_some] <;> rfl), by repeat (first | (with_reducible first | exact HB.out | apply below_alloc | apply pw_below_drewN | apply below_drew1 | refine below_set ?_ GE175.out | refine below_set ?_ GE176.out) | exact HB.out)⟩
      · replace c12 := Bool.eq_false_iff.mpr c12
        subst c12
        have H1 : (if t177 = t178 then (if t177 < 0 then ((spec_larger.f kj4 a0_0 l0_1 a0_2 a1_0 l1_1 a1_2).bind fun t179 => (some (wrap64 (-t179)))) else (if t177 > 0 then ((spec_larger.f kj4 a0_0 l0_1 a0_2 a1_0 l1_1 a1_2).bind fun t180 => (some t180)) else (some 0))) else (some 1)) = some r := by rw [if_neg (show ¬ (false = true) by decide)] at H; exact H
        clear H
        have H := H1
        clear H1
        by_cases c13 : t177 = t178
        · rw [if_pos c13] at H
          have c13b0 : (t177 == t178) = true := beq_iff_eq.mpr c13
          have c13b1 : (t177 != t178) = false := bne_eq_false_iff_eq.mpr c13
          clear c13
          by_cases c14 : t177 < 0
          · rw [if_pos c14] at H
            have c14b0 : decide (t177 < 0) = true := decide_eq_true c14
            clear c14
            replace H := Option.bind_eq_some_iff.mp H
            obtain ⟨t179, A150, H⟩ := H
            replace H : (some (wrap64 (-t179))) = some r := H
            have A15 := Aside0.mk A150
            clear A150
            obtain rfl := Option.some.inj H
            have hnb16 := NB175_176.out
            have hnc16 := NB176_175.out
            have hcz17_0 : wc.cell? ⟨gb175, 0, none⟩ = some (.bool a0_0) := (blk_cell BK175.out 0).trans rfl
            have hcz17_1 : wc.cell? ⟨gb175, 1, none⟩ = some (.slice A0_1 l0_1.length c0_1) := (blk_cell BK175.out 1).trans rfl
            have hcz17_2 : wc.cell? ⟨gb175, 2, none⟩ = some (.int .i64 a0_2) := (blk_cell BK175.out 2).trans rfl
            have hfz17_0 := blk_frozen BK175.out 0
            have hfz17_1 := blk_frozen BK175.out 1
            have hfz17_2 := blk_frozen BK175.out 2
            have hcz18_0 : wc.cell? ⟨gb176, 0, none⟩ = some (.bool a1_0) := (blk_cell BK176.out 0).trans rfl
            have hcz18_1 : wc.cell? ⟨gb176, 1, none⟩ = some (.slice A1_1 l1_1.length c1_1) := (blk_cell BK176.out 1).trans rfl
            have hcz18_2 : wc.cell? ⟨gb176, 2, none⟩ = some (.int .i64 a1_2) := (blk_cell BK176.out 2).trans rfl
            have hfz18_0 := blk_frozen BK176.out 0
            have hfz18_1 := blk_frozen BK176.out 1
            have hfz18_2 := blk_frozen BK176.out 2
            go_wp2_with (first | ((with_reducible refine gate_callee (f := 21) rfl ?_); refine goesL_ (some 29) rfl rfl Try.func21 (by kernel_rfl) rfl #[.agg #[.bool a0_0, .slice A0_1 l0_1.length c0_1, .int .i64 a0_2], .agg #[.bool a1_0, .slice A1_1 l1_1.length c1_1, .int .i64 a1_2]] rfl (by (try simp only [List.map_toArray, List.map_cons, List.map_nil]); first | done | rfl | (simp only [List.length_drop, List.length_take]; rfl)) ?_; (with_reducible refine (spec_larger.calls kj4 a0_0 _ _ l0_1 a0_2 a1_0 _ _ l1_1 a1_2 t179 _ ?side1 ?side2 ?side3 ?side4 A15.out).mono ?_); (case side1 => repeat (first | exact (Kd.C_below HR0_1.out HB.out) | (with_reducible refine Kd.C_alloc ?_ _) | (with_reducible refine Kd.C_drewN ?_ _) | (with_reducible refine Kd.C_drew ?_))); (case side2 => exact HC0_1.out); (case side3 => repeat (first | exact (Kd.C_below HR1_1.out HB.out) | (with_reducible refine Kd.C_alloc ?_ _) | (with_reducible refine Kd.C_drewN ?_ _) | (with_reducible refine Kd.C_drew ?_))); (case side4 => exact HC1_1.out); rintro e w19 ⟨rfl, hb⟩; refine ⟨_, rfl, ?_⟩; have n0_ := Aside0.mk (blk_below (g := gb175) (o := .cells #[.bool a0_0, .slice A0_1 l0_1.length c0_1, .int .i64 a0_2] 26 (0, 0)) (by (with_reducible repeat (first | refine blk_drewN ?_ _ | refine blk_drew ?_ | refine blk_alloc ?_ _)); exact BK175.out) hb); have n1_ := Aside0.mk (blk_below (g := gb176) (o := .cells #[.bool a1_0, .slice A1_1 l1_1.length c1_1, .int .i64 a1_2] 26 (0, 0)) (by (with_reducible repeat (first | refine blk_drewN ?_ _ | refine blk_drew ?_ | refine blk_alloc ?_ _)); exact BK176.out) hb); have n2_ := Aside0.mk (below_step (by repeat (first | (with_reducible first | exact HB.out | apply below_alloc | apply pw_below_drewN | apply below_drew1 | refine below_set ?_ GE175.out | refine below_set ?_ GE176.out) | exact HB.out)) hb); clear BK175; clear BK176; clear HB; have BK175 := n0_; have BK176 := n1_; have HB := n2_; clear n0_ n1_ n2_; (try clear hb); (try clear hb2); (try clear hk); (try clear hi)))
            go_ret
            exact ⟨by first | rfl | (simp [errW_none, errW_some] <;> rfl) | (simp [*, errW_none, errW_some] <;> rfl), by repeat (first | (with_reducible first | exact HB.out | apply below_alloc | apply pw_below_drewN | apply below_drew1 | refine below_set ?_ GE175.out | refine below_set ?_ GE176.out) | exact HB.out)⟩
          · rw [if_neg c14] at H
            have c14b0 : decide (t177 < 0) = false := decide_eq_false c14
            clear c14
            by_cases c20 : t177 > 0
            · rw [if_pos c20] at H
              have c20b0 : decide (0 < t177) = true := decide_eq_true c20
              clear c20
              replace H := Option.bind_eq_some_iff.mp H
              obtain ⟨t180, A210, H⟩ := H
              replace H : (some t180) = some r := H
              have A21 := Aside0.mk A210
              clear A210
              obtain rfl := Option.some.inj H
              have hnb22 := NB175_176.out
              have hnc22 := NB176_175.out
              have hcz23_0 : wc.cell? ⟨gb175, 0, none⟩ = some (.bool a0_0) := (blk_cell BK175.out 0).trans rfl
              have hcz23_1 : wc.cell? ⟨gb175, 1, none⟩ = some (.slice A0_1 l0_1.length c0_1) := (blk_cell BK175.out 1).trans rfl
              have hcz23_2 : wc.cell? ⟨gb175, 2, none⟩ = some (.int .i64 a0_2) := (blk_cell BK175.out 2).trans rfl
              have hfz23_0 := blk_frozen BK175.out 0
              have hfz23_1 := blk_frozen BK175.out 1
              have hfz23_2 := blk_frozen BK175.out 2
              have hcz24_0 : wc.cell? ⟨gb176, 0, none⟩ = some (.bool a1_0) := (blk_cell BK176.out 0).trans rfl
              have hcz24_1 : wc.cell? ⟨gb176, 1, none⟩ = some (.slice A1_1 l1_1.length c1_1) := (blk_cell BK176.out 1).trans rfl
              have hcz24_2 : wc.cell? ⟨gb176, 2, none⟩ = some (.int .i64 a1_2) := (blk_cell BK176.out 2).trans rfl
              have hfz24_0 := blk_frozen BK176.out 0
              have hfz24_1 := blk_frozen BK176.out 1
              have hfz24_2 := blk_frozen BK176.out 2
              go_wp2_with (first | ((with_reducible refine gate_callee (f := 21) rfl ?_); refine goesL_ (some 36) rfl rfl Try.func21 (by kernel_rfl) rfl #[.agg #[.bool a0_0, .slice A0_1 l0_1.length c0_1, .int .i64 a0_2], .agg #[.bool a1_0, .slice A1_1 l1_1.length c1_1, .int .i64 a1_2]] rfl (by (try simp only [List.map_toArray, List.map_cons, List.map_nil]); first | done | rfl | (simp only [List.length_drop, List.length_take]; rfl)) ?_; (with_reducible refine (spec_larger.calls kj4 a0_0 _ _ l0_1 a0_2 a1_0 _ _ l1_1 a1_2 t180 _ ?side1 ?side2 ?side3 ?side4 A21.out).mono ?_); (case side1 => repeat (first | exact (Kd.C_below HR0_1.out HB.out) | (with_reducible refine Kd.C_alloc ?_ _) | (with_reducible refine Kd.C_drewN ?_ _) | (with_reducible refine Kd.C_drew ?_))); (case side2 => exact HC0_1.out); (case side3 => repeat (first | exact (Kd.C_below HR1_1.out HB.out) | (with_reducible refine Kd.C_alloc ?_ _) | (with_reducible refine Kd.C_drewN ?_ _) | (with_reducible refine Kd.C_drew ?_))); (case side4 => exact HC1_1.out); rintro e w25 ⟨rfl, hb⟩; refine ⟨_, rfl, ?_⟩; have n0_ := Aside0.mk (blk_below (g := gb175) (o := .cells #[.bool a0_0, .slice A0_1 l0_1.length c0_1, .int .i64 a0_2] 26 (0, 0)) (by (with_reducible repeat (first | refine blk_drewN ?_ _ | refine blk_drew ?_ | refine blk_alloc ?_ _)); exact BK175.out) hb); have n1_ := Aside0.mk (blk_below (g := gb176) (o := .cells #[.bool a1_0, .slice A1_1 l1_1.length c1_1, .int .i64 a1_2] 26 (0, 0)) (by (with_reducible repeat (first | refine blk_drewN ?_ _ | refine blk_drew ?_ | refine blk_alloc ?_ _)); exact BK176.out) hb); have n2_ := Aside0.mk (below_step (by repeat (first | (with_reducible first | exact HB.out | apply below_alloc | apply pw_below_drewN | apply below_drew1 | refine below_set ?_ GE175.out | refine below_set ?_ GE176.out) | exact HB.out)) hb); clear BK175; clear BK176; clear HB; have BK175 := n0_; have BK176 := n1_; have HB := n2_; clear n0_ n1_ n2_; (try clear hb); (try clear hb2); (try clear hk); (try clear hi)))
              go_ret
              exact ⟨by first | rfl | (simp [errW_none, errW_some] <;> rfl) | (simp [*, errW_none, errW_some] <;> rfl), by repeat (first | (with_reducible first | exact HB.out | apply below_alloc | apply pw_below_drewN | apply below_drew1 | refine below_set ?_ GE175.out | refine below_set ?_ GE176.out) | exact HB.out)⟩
            · rw [if_neg c20] at H
              have c20b0 : decide (0 < t177) = false := decide_eq_false c20
              clear c20
              obtain rfl := Option.some.inj H
              go_wp2
              go_ret
              exact ⟨by first | rfl | (simp [errW_none, errW_some] <;> rfl) | (simp [*, errW_none, errW_some] <;> rfl), by repeat (first | (with_reducible first | exact HB.out | apply below_alloc | apply pw_below_drewN | apply below_drew1 | refine below_set ?_ GE175.out | refine below_set ?_ GE176.out) | exact HB.out)⟩
        · rw [if_neg c13] at H
          have c13b0 : (t177 == t178) = false := beq_eq_false_iff_ne.mpr c13
          have c13b1 : (t177 != t178) = true := bne_iff_ne.mpr c13
          obtain rfl := Option.some.inj H
          go_wp2
          go_ret
          exact ⟨by first | rfl | (simp [errW_none, errW_some] <;> rfl) | (simp [*, errW_none, errW_some] <;> rfl), by repeat (first | (with_reducible first | exact HB.out | apply below_alloc | apply pw_below_drewN | apply below_drew1 | refine below_set ?_ GE175.out | refine below_set ?_ GE176.out) | exact HB.out)⟩

/-! ### laws_amountIs: function 9 -/
def laws_amountIs.f (k : Nat) (a0_0 : Int) (a0_1 : Int) (a1_0 : Bool) (l1_1 : List Int) (a1_2 : Int) : Option (Bool) := (laws_amountOf.f k a0_0 a0_1).bind fun bt183 => (if bt183.2.2.2 = true then ((spec_DecimalCmp.f k bt183.1 bt183.2.1 bt183.2.2.1 a1_0 l1_1 a1_2).bind fun t190 => (some (t190 == 0))) else (some false))
theorem laws_amountIs.mono : ∀ a0 a1 a2 a3 a4 k, LeO (laws_amountIs.f k a0 a1 a2 a3 a4) (laws_amountIs.f (k + 1) a0 a1 a2 a3 a4) := by
  intro a0 a1 a2 a3 a4 k
  unfold laws_amountIs.f
  repeat' first
      | (with_reducible exact laws_amountOf.mono _ _ _)
      | (with_reducible exact spec_DecimalCmp.mono _ _ _ _ _ _ _)
      | (with_reducible exact LeO.refl _)
      | (with_reducible exact LeO.none _)
      | (with_reducible refine LeO.ite ?_ ?_)
      | (with_reducible refine LeO.bind ?_ (fun _ => ?_))
      | exact laws_amountOf.mono _ _ _
      | exact spec_DecimalCmp.mono _ _ _ _ _ _ _
      | exact LeO.none _
      | refine LeO.ite ?_ ?_
      | refine LeO.bind ?_ (fun _ => ?_)
set_option maxHeartbeats 8000000 in
set_option maxRecDepth 100000 in
theorem laws_amountIs.calls (k : Nat) (a0_0 : Int) (a0_1 : Int) (a1_0 : Bool) (A1_1 : Option Addr) (c1_1 : Nat) (l1_1 : List Int) (a1_2 : Int) (r : Bool) (w : World) (hr1_1 : Kd.C (Kd.int .i64) w A1_1 l1_1.length l1_1) (hc1_1 : l1_1.length ≤ c1_1) (h : laws_amountIs.f k a0_0 a0_1 a1_0 l1_1 a1_2 = some r) :
    Calls Try.prog 9 #[.agg #[.int .i64 a0_0, .int .i64 a0_1], .agg #[.bool a1_0, .slice A1_1 l1_1.length c1_1, .int .i64 a1_2]] w fun e w' => e = .returned (.bool r) ∧ Below w.heap.size w w' := by
  have hu23 := Try.underlying23
  have hu26 := Try.underlying26
  have HR1_1 := Aside0.mk hr1_1
  have HC1_1 := Aside0.mk hc1_1
  clear hr1_1 hc1_1
  have HB := Aside0.mk (Below.refl w.heap.size w)
  have H : ((laws_amountOf.f k a0_0 a0_1).bind fun bt183 => (if bt183.2.2.2 = true then ((spec_DecimalCmp.f k bt183.1 bt183.2.1 bt183.2.2.1 a1_0 l1_1 a1_2).bind fun t190 => (some (t190 == 0))) else (some false))) = some r := h
  clear h
  replace H := Option.bind_eq_some_iff.mp H
  obtain ⟨⟨t183, t184, t187, t188⟩, A30, H⟩ := H
  replace H : (if t188 = true then ((spec_DecimalCmp.f k t183 t184 t187 a1_0 l1_1 a1_2).bind fun t190 => (some (t190 == 0))) else (some false)) = some r := H
  have A3 := Aside0.mk A30
  clear A30
  by_cases c4 : t188 = true
  · subst c4
    have H1 : ((spec_DecimalCmp.f k t183 t184 t187 a1_0 l1_1 a1_2).bind fun t190 => (some (t190 == 0))) = some r := by rw [if_pos rfl] at H; exact H
    clear H
    have H := H1
    clear H1
    replace H := Option.bind_eq_some_iff.mp H
    obtain ⟨t190, A50, H⟩ := H
    replace H : (some (t190 == 0)) = some r := H
    have A5 := Aside0.mk A50
    clear A50
    obtain rfl := Option.some.inj H
    go_enter Try.func9, Try.ntmps9
    go_wp2_with (first | ((with_reducible refine gate_dst (N := 2) rfl ?_); refine box_event ?hg (N := 2) ?hd (cs := #[.int .i64 a0_0, .int .i64 a0_1]) (t := 23) ?hr ?_; (case hd => rfl); (case hg => rfl); (case hr => first | (go_simp; done) | (go_simp; rfl)); intro gb181 hg w6 hbox hb; have n0_ := Aside0.mk (below_step (by repeat (first | (with_reducible first | exact HB.out | apply below_alloc | apply pw_below_drewN | apply below_drew1) | exact HB.out)) hb); have n1_ := Aside0.mk (hbox); have n2_ := Aside0.mk ((by rw [hg]; exact (below_size (by repeat (first | (with_reducible first | exact HB.out | apply below_alloc | apply pw_below_drewN | apply below_drew1) | exact HB.out))) : w.heap.size ≤ gb181)); have n3_ := Aside0.mk ((by rw [hg]; exact (below_size (by repeat (first | (with_reducible first | exact HB.out | apply below_alloc | apply pw_below_drewN | apply below_drew1) | exact HB.out))) : w.heap.size ≤ gb181)); clear HB; have HB := n0_; have BK181 := n1_; have GW181 := n2_; have GE181 := n3_; clear n0_ n1_ n2_ n3_; clear hb hbox hg) | ((with_reducible refine gate_dst (N := 3) rfl ?_); refine box_event ?hg (N := 3) ?hd (cs := #[.bool a1_0, .slice A1_1 l1_1.length c1_1, .int .i64 a1_2]) (t := 26) ?hr ?_; (case hd => rfl); (case hg => rfl); (case hr => first | (go_simp; done) | (go_simp; rfl)); intro gb182 hg w7 hbox hb; have n0_ := Aside0.mk (blk_below (g := gb181) (o := .cells #[.int .i64 a0_0, .int .i64 a0_1] 23 (0, 0)) (by (with_reducible repeat (first | refine blk_drewN ?_ _ | refine blk_drew ?_ | refine blk_alloc ?_ _)); exact BK181.out) hb); have n1_ := Aside0.mk (below_step (by repeat (first | (with_reducible first | exact HB.out | apply below_alloc | apply pw_below_drewN | apply below_drew1 | refine below_set ?_ GE181.out) | exact HB.out)) hb); have n2_ := Aside0.mk (hbox); have n3_ := Aside0.mk ((by rw [hg]; exact (below_size (by repeat (first | (with_reducible first | exact HB.out | apply below_alloc | apply pw_below_drewN | apply below_drew1 | refine below_set ?_ GE181.out) | exact HB.out))) : w.heap.size ≤ gb182)); have n4_ := Aside0.mk ((by rw [hg]; exact (below_size (by repeat (first | (with_reducible first | exact HB.out | apply below_alloc | apply pw_below_drewN | apply below_drew1 | refine below_set ?_ GE181.out) | exact HB.out))) : w.heap.size ≤ gb182)); have n5_ := Aside0.mk ((by rw [hg]; exact Nat.ne_of_lt (blk_lt (g := gb181) (o := .cells #[.int .i64 a0_0, .int .i64 a0_1] 23 (0, 0)) (by (with_reducible repeat (first | refine blk_drewN ?_ _ | refine blk_drew ?_ | refine blk_alloc ?_ _)); exact BK181.out)) : gb181 ≠ gb182)); have n6_ := Aside0.mk ((by rw [hg]; exact Nat.ne_of_gt (blk_lt (g := gb181) (o := .cells #[.int .i64 a0_0, .int .i64 a0_1] 23 (0, 0)) (by (with_reducible repeat (first | refine blk_drewN ?_ _ | refine blk_drew ?_ | refine blk_alloc ?_ _)); exact BK181.out)) : gb182 ≠ gb181)); clear BK181; clear HB; have BK181 := n0_; have HB := n1_; have BK182 := n2_; have GW182 := n3_; have GE182 := n4_; have NB181_182 := n5_; have NB182_181 := n6_; clear n0_ n1_ n2_ n3_ n4_ n5_ n6_; clear hb hbox hg; have hnb8 := NB181_182.out; have hnc8 := NB182_181.out; have hcz9_0 : w7.cell? ⟨gb181, 0, none⟩ = some (.int .i64 a0_0) := (blk_cell BK181.out 0).trans rfl; have hcz9_1 : w7.cell? ⟨gb181, 1, none⟩ = some (.int .i64 a0_1) := (blk_cell BK181.out 1).trans rfl; have hfz9_0 := blk_frozen BK181.out 0; have hfz9_1 := blk_frozen BK181.out 1) | ((with_reducible refine gate_callee (f := 6) rfl ?_); refine goesL_ (some 9) rfl rfl Try.func6 (by kernel_rfl) rfl #[.agg #[.int .i64 a0_0, .int .i64 a0_1]] rfl (by (try simp only [List.map_toArray, List.map_cons, List.map_nil]); first | done | rfl | (simp only [List.length_drop, List.length_take]; rfl)) ?_; (with_reducible refine (laws_amountOf.calls k a0_0 a0_1 t183 t184 t187 true _ A3.out).mono ?_); rintro e w10 ⟨v185, rfl, ho0, hb⟩; refine ⟨_, rfl, ?_⟩; have n0_ := Aside0.mk (Kd.R_lower ho0 (below_size (by repeat (first | (with_reducible first | exact HB.out | apply below_alloc | apply pw_below_drewN | apply below_drew1 | refine below_set ?_ GE181.out | refine below_set ?_ GE182.out) | exact HB.out)))); have n1_ := Aside0.mk (blk_below (g := gb181) (o := .cells #[.int .i64 a0_0, .int .i64 a0_1] 23 (0, 0)) (by (with_reducible repeat (first | refine blk_drewN ?_ _ | refine blk_drew ?_ | refine blk_alloc ?_ _)); exact BK181.out) hb); have n2_ := Aside0.mk (blk_below (g := gb182) (o := .cells #[.bool a1_0, .slice A1_1 l1_1.length c1_1, .int .i64 a1_2] 26 (0, 0)) (by (with_reducible repeat (first | refine blk_drewN ?_ _ | refine blk_drew ?_ | refine blk_alloc ?_ _)); exact BK182.out) hb); have n3_ := Aside0.mk (below_step (by repeat (first | (with_reducible first | exact HB.out | apply below_alloc | apply pw_below_drewN | apply below_drew1 | refine below_set ?_ GE181.out | refine below_set ?_ GE182.out) | exact HB.out)) hb); clear BK181; clear BK182; clear HB; have HO186 := n0_; have BK181 := n1_; have BK182 := n2_; have HB := n3_; clear n0_ n1_ n2_ n3_; (try clear hb); (try clear hb2); (try clear hk); (try clear hi); (try clear ho0)) | ((with_reducible refine gate_dst (N := 5) rfl ?_); refine box_event ?hg (N := 5) ?hd (cs := #[.bool false, .slice none 0 0, .int .i64 0]) (t := 26) ?hr ?_; (case hd => rfl); (case hg => rfl); (case hr => first | (go_simp; done) | (go_simp; rfl)); intro gb189 hg w11 hbox hb; have n0_ := Aside0.mk (Kd.R_below (by (with_reducible repeat (first | apply Kd.R_alloc | apply Kd.R_drewN | apply Kd.R_drew)); exact HO186.out) hb); have n1_ := Aside0.mk (blk_below (g := gb181) (o := .cells #[.int .i64 a0_0, .int .i64 a0_1] 23 (0, 0)) (by (with_reducible repeat (first | refine blk_drewN ?_ _ | refine blk_drew ?_ | refine blk_alloc ?_ _)); exact BK181.out) hb); have n2_ := Aside0.mk (blk_below (g := gb182) (o := .cells #[.bool a1_0, .slice A1_1 l1_1.length c1_1, .int .i64 a1_2] 26 (0, 0)) (by (with_reducible repeat (first | refine blk_drewN ?_ _ | refine blk_drew ?_ | refine blk_alloc ?_ _)); exact BK182.out) hb); have n3_ := Aside0.mk (below_step (by repeat (first | (with_reducible first | exact HB.out | apply below_alloc | apply pw_below_drewN | apply below_drew1 | refine below_set ?_ GE181.out | refine below_set ?_ GE182.out) | exact HB.out)) hb); have n4_ := Aside0.mk (hbox); have n5_ := Aside0.mk ((by rw [hg]; exact (below_size (by repeat (first | (with_reducible first | exact HB.out | apply below_alloc | apply pw_below_drewN | apply below_drew1 | refine below_set ?_ GE181.out | refine below_set ?_ GE182.out) | exact HB.out))) : w.heap.size ≤ gb189)); have n6_ := Aside0.mk ((by rw [hg]; exact (below_size (by repeat (first | (with_reducible first | exact HB.out | apply below_alloc | apply pw_below_drewN | apply below_drew1 | refine below_set ?_ GE181.out | refine below_set ?_ GE182.out) | exact HB.out))) : w.heap.size ≤ gb189)); have n7_ := Aside0.mk ((by rw [hg]; exact Nat.ne_of_lt (blk_lt (g := gb181) (o := .cells #[.int .i64 a0_0, .int .i64 a0_1] 23 (0, 0)) (by (with_reducible repeat (first | refine blk_drewN ?_ _ | refine blk_drew ?_ | refine blk_alloc ?_ _)); exact BK181.out)) : gb181 ≠ gb189)); have n8_ := Aside0.mk ((by rw [hg]; exact Nat.ne_of_gt (blk_lt (g := gb181) (o := .cells #[.int .i64 a0_0, .int .i64 a0_1] 23 (0, 0)) (by (with_reducible repeat (first | refine blk_drewN ?_ _ | refine blk_drew ?_ | refine blk_alloc ?_ _)); exact BK181.out)) : gb189 ≠ gb181)); have n9_ := Aside0.mk ((by rw [hg]; exact Nat.ne_of_lt (blk_lt (g := gb182) (o := .cells #[.bool a1_0, .slice A1_1 l1_1.length c1_1, .int .i64 a1_2] 26 (0, 0)) (by (with_reducible repeat (first | refine blk_drewN ?_ _ | refine blk_drew ?_ | refine blk_alloc ?_ _)); exact BK182.out)) : gb182 ≠ gb189)); have n10_ := Aside0.mk ((by rw [hg]; exact Nat.ne_of_gt (blk_lt (g := gb182) (o := .cells #[.bool a1_0, .slice A1_1 l1_1.length c1_1, .int .i64 a1_2] 26 (0, 0)) (by (with_reducible repeat (first | refine blk_drewN ?_ _ | refine blk_drew ?_ | refine blk_alloc ?_ _)); exact BK182.out)) : gb189 ≠ gb182)); clear HO186; clear BK181; clear BK182; clear HB; have HO186 := n0_; have BK181 := n1_; have BK182 := n2_; have HB := n3_; have BK189 := n4_; have GW189 := n5_; have GE189 := n6_; have NB181_189 := n7_; have NB189_181 := n8_; have NB182_189 := n9_; have NB189_182 := n10_; clear n0_ n1_ n2_ n3_ n4_ n5_ n6_ n7_ n8_ n9_ n10_; clear hb hbox hg; have hnb12 := NB189_181.out; have hnc12 := NB181_189.out; have hnb13 := NB189_182.out; have hnc13 := NB182_189.out; have hcz14_0 : w11.cell? ⟨gb189, 0, none⟩ = some (.bool false) := (blk_cell BK189.out 0).trans rfl; have hcz14_1 : w11.cell? ⟨gb189, 1, none⟩ = some (.slice none 0 0) := (blk_cell BK189.out 1).trans rfl; have hcz14_2 : w11.cell? ⟨gb189, 2, none⟩ = some (.int .i64 0) := (blk_cell BK189.out 2).trans rfl; have hfz14_0 := blk_frozen BK189.out 0; have hfz14_1 := blk_frozen BK189.out 1; have hfz14_2 := blk_frozen BK189.out 2; obtain ⟨Ao15, co15, eo15⟩ := Kd.R_slice HO186.out; subst eo15; have hcz16_0 : w11.cell? ⟨gb182, 0, none⟩ = some (.bool a1_0) := (blk_cell BK182.out 0).trans rfl; have hcz16_1 : w11.cell? ⟨gb182, 1, none⟩ = some (.slice A1_1 l1_1.length c1_1) := (blk_cell BK182.out 1).trans rfl; have hcz16_2 : w11.cell? ⟨gb182, 2, none⟩ = some (.int .i64 a1_2) := (blk_cell BK182.out 2).trans rfl; have hfz16_0 := blk_frozen BK182.out 0; have hfz16_1 := blk_frozen BK182.out 1; have hfz16_2 := blk_frozen BK182.out 2) | (go_at_call 16; (with_reducible refine (spec_DecimalCmp.calls k t183 _ _ t184 t187 a1_0 _ _ l1_1 a1_2 t190 _ ?side1 ?side2 ?side3 ?side4 A5.out).mono ?_); (case side1 => refine (Kd.R_reads' (e := 3) (base := w.heap.size) (ok := fun k_ => True) (n := t184.length) (c := co15) ?_).2.2; exact (by (with_reducible repeat (first | apply Kd.R_alloc | apply Kd.R_drewN | apply Kd.R_drew)); exact (Kd.R_mono (Kd.R_far (p := ⟨gb189, 2, none⟩) (Kd.R_far (p := ⟨gb189, 1, none⟩) (Kd.R_far (p := ⟨gb189, 0, none⟩) (Kd.R_types HO186.out BK189.out (by decide)) (fun _ hk => hk.2) (.bool t183)) (fun _ hk => hk.2) (.slice Ao15 t184.length co15)) (fun _ hk => hk.2) (.int .i64 t187)) (fun _ h_ => h_.1)))); (case side2 => exact (Kd.R_reads' HO186.out).2.1); (case side3 => exact Kd.C_below HR1_1.out (by repeat (first | (with_reducible first | exact HB.out | apply below_alloc | apply pw_below_drewN | apply below_drew1 | refine below_set ?_ GE181.out | refine below_set ?_ GE182.out | refine below_set ?_ GE189.out) | exact HB.out))); (case side4 => exact HC1_1.out); rintro e w17 ⟨rfl, hb⟩; have n0_ := Aside0.mk (Kd.R_below (by (with_reducible repeat (first | apply Kd.R_alloc | apply Kd.R_drewN | apply Kd.R_drew)); exact (Kd.R_mono (Kd.R_far (p := ⟨gb189, 2, none⟩) (Kd.R_far (p := ⟨gb189, 1, none⟩) (Kd.R_far (p := ⟨gb189, 0, none⟩) (Kd.R_types HO186.out BK189.out (by decide)) (fun _ hk => hk.2) (.bool t183)) (fun _ hk => hk.2) (.slice Ao15 t184.length co15)) (fun _ hk => hk.2) (.int .i64 t187)) (fun _ h_ => h_.1))) hb); have n1_ := Aside0.mk (blk_below (g := gb181) (o := .cells #[.int .i64 a0_0, .int .i64 a0_1] 23 (0, 0)) (by (with_reducible repeat (first | refine blk_drewN ?_ _ | refine blk_drew ?_ | refine blk_alloc ?_ _)); refine blk_far ?_ NB181_189.out _; (with_reducible repeat (first | refine blk_drewN ?_ _ | refine blk_drew ?_ | refine blk_alloc ?_ _)); refine blk_far ?_ NB181_189.out _; (with_reducible repeat (first | refine blk_drewN ?_ _ | refine blk_drew ?_ | refine blk_alloc ?_ _)); refine blk_far ?_ NB181_189.out _; (with_reducible repeat (first | refine blk_drewN ?_ _ | refine blk_drew ?_ | refine blk_alloc ?_ _)); exact BK181.out) hb); have n2_ := Aside0.mk (blk_below (g := gb182) (o := .cells #[.bool a1_0, .slice A1_1 l1_1.length c1_1, .int .i64 a1_2] 26 (0, 0)) (by (with_reducible repeat (first | refine blk_drewN ?_ _ | refine blk_drew ?_ | refine blk_alloc ?_ _)); refine blk_far ?_ NB182_189.out _; (with_reducible repeat (first | refine blk_drewN ?_ _ | refine blk_drew ?_ | refine blk_alloc ?_ _)); refine blk_far ?_ NB182_189.out _; (with_reducible repeat (first | refine blk_drewN ?_ _ | refine blk_drew ?_ | refine blk_alloc ?_ _)); refine blk_far ?_ NB182_189.out _; (with_reducible repeat (first | refine blk_drewN ?_ _ | refine blk_drew ?_ | refine blk_alloc ?_ _)); exact BK182.out) hb); have n3_ := Aside0.mk (blk_below (g := gb189) (o := .cells #[.bool t183, .slice Ao15 t184.length co15, .int .i64 t187] 26 (0, 0)) (by (with_reducible repeat (first | refine blk_drewN ?_ _ | refine blk_drew ?_ | refine blk_alloc ?_ _)); refine blk_put (cs := #[.bool t183, .slice Ao15 t184.length co15, .int .i64 0]) ?_ 2 _ rfl; (with_reducible repeat (first | refine blk_drewN ?_ _ | refine blk_drew ?_ | refine blk_alloc ?_ _)); refine blk_put (cs := #[.bool t183, .slice none 0 0, .int .i64 0]) ?_ 1 _ rfl; (with_reducible repeat (first | refine blk_drewN ?_ _ | refine blk_drew ?_ | refine blk_alloc ?_ _)); refine blk_put (cs := #[.bool false, .slice none 0 0, .int .i64 0]) ?_ 0 _ rfl; (with_reducible repeat (first | refine blk_drewN ?_ _ | refine blk_drew ?_ | refine blk_alloc ?_ _)); exact BK189.out) hb); have n4_ := Aside0.mk (below_step (by repeat (first | (with_reducible first | exact HB.out | apply below_alloc | apply pw_below_drewN | apply below_drew1 | refine below_set ?_ GE181.out | refine below_set ?_ GE182.out | refine below_set ?_ GE189.out) | exact HB.out)) hb); clear HO186; clear BK181; clear BK182; clear BK189; clear HB; have HO186 := n0_; have BK181 := n1_; have BK182 := n2_; have BK189 := n3_; have HB := n4_; clear n0_ n1_ n2_ n3_ n4_; (try clear hb); (try clear hb2); (try clear hk); (try clear hi)))
    go_ret
    exact ⟨by first | rfl | (simp [errW_none, errW_some] <;> rfl) | (simp [*, errW_none, errW_some] <;> rfl), by repeat (first | (with_reducible first | exact HB.out | apply below_alloc | apply pw_below_drewN | apply below_drew1 | refine below_set ?_ GE181.out | refine below_set ?_ GE182.out | refine below_set ?_ GE189.out) | exact HB.out)⟩
  · replace c4 := Bool.eq_false_iff.mpr c4
    subst c4
    have H1 : (some false) = some r := by rw [if_neg (show ¬ (false = true) by decide)] at H; exact H
    clear H
    have H := H1
    clear H1
    obtain rfl := Option.some.inj H
    go_enter Try.func9, Try.ntmps9
    go_wp2_with (first | ((with_reducible refine gate_dst (N := 2) rfl ?_); refine box_event ?hg (N := 2) ?hd (cs := #[.int .i64 a0_0, .int .i64 a0_1]) (t := 23) ?hr ?_; (case hd => rfl); (case hg => rfl); (case hr => first | (go_simp; done) | (go_simp; rfl)); intro gb181 hg w18 hbox hb; have n0_ := Aside0.mk (below_step (by repeat (first | (with_reducible first | exact HB.out | apply below_alloc | apply pw_below_drewN | apply below_drew1) | exact HB.out)) hb); have n1_ := Aside0.mk (hbox); have n2_ := Aside0.mk ((by rw [hg]; exact (below_size (by repeat (first | (with_reducible first | exact HB.out | apply below_alloc | apply pw_below_drewN | apply below_drew1) | exact HB.out))) : w.heap.size ≤ gb181)); have n3_ := Aside0.mk ((by rw [hg]; exact (below_size (by repeat (first | (with_reducible first | exact HB.out | apply below_alloc | apply pw_below_drewN | apply below_drew1) | exact HB.out))) : w.heap.size ≤ gb181)); clear HB; have HB := n0_; have BK181 := n1_; have GW181 := n2_; have GE181 := n3_; clear n0_ n1_ n2_ n3_; clear hb hbox hg) | ((with_reducible refine gate_dst (N := 3) rfl ?_); refine box_event ?hg (N := 3) ?hd (cs := #[.bool a1_0, .slice A1_1 l1_1.length c1_1, .int .i64 a1_2]) (t := 26) ?hr ?_; (case hd => rfl); (case hg => rfl); (case hr => first | (go_simp; done) | (go_simp; rfl)); intro gb182 hg w19 hbox hb; have n0_ := Aside0.mk (blk_below (g := gb181) (o := .cells #[.int .i64 a0_0, .int .i64 a0_1] 23 (0, 0)) (by (with_reducible repeat (first | refine blk_drewN ?_ _ | refine blk_drew ?_ | refine blk_alloc ?_ _)); exact BK181.out) hb); have n1_ := Aside0.mk (below_step (by repeat (first | (with_reducible first | exact HB.out | apply below_alloc | apply pw_below_drewN | apply below_drew1 | refine below_set ?_ GE181.out) | exact HB.out)) hb); have n2_ := Aside0.mk (hbox); have n3_ := Aside0.mk ((by rw [hg]; exact (below_size (by repeat (first | (with_reducible first | exact HB.out | apply below_alloc | apply pw_below_drewN | apply below_drew1 | refine below_set ?_ GE181.out) | exact HB.out))) : w.heap.size ≤ gb182)); have n4_ := Aside0.mk ((by rw [hg]; exact (below_size (by repeat (first | (with_reducible first | exact HB.out | apply below_alloc | apply pw_below_drewN | apply below_drew1 | refine below_set ?_ GE181.out) | exact HB.out))) : w.heap.size ≤ gb182)); have n5_ := Aside0.mk ((by rw [hg]; exact Nat.ne_of_lt (blk_lt (g := gb181) (o := .cells #[.int .i64 a0_0, .int .i64 a0_1] 23 (0, 0)) (by (with_reducible repeat (first | refine blk_drewN ?_ _ | refine blk_drew ?_ | refine blk_alloc ?_ _)); exact BK181.out)) : gb181 ≠ gb182)); have n6_ := Aside0.mk ((by rw [hg]; exact Nat.ne_of_gt (blk_lt (g := gb181) (o := .cells #[.int .i64 a0_0, .int .i64 a0_1] 23 (0, 0)) (by (with_reducible repeat (first | refine blk_drewN ?_ _ | refine blk_drew ?_ | refine blk_alloc ?_ _)); exact BK181.out)) : gb182 ≠ gb181)); clear BK181; clear HB; have BK181 := n0_; have HB := n1_; have BK182 := n2_; have GW182 := n3_; have GE182 := n4_; have NB181_182 := n5_; have NB182_181 := n6_; clear n0_ n1_ n2_ n3_ n4_ n5_ n6_; clear hb hbox hg; have hnb20 := NB181_182.out; have hnc20 := NB182_181.out; have hcz21_0 : w19.cell? ⟨gb181, 0, none⟩ = some (.int .i64 a0_0) := (blk_cell BK181.out 0).trans rfl; have hcz21_1 : w19.cell? ⟨gb181, 1, none⟩ = some (.int .i64 a0_1) := (blk_cell BK181.out 1).trans rfl; have hfz21_0 := blk_frozen BK181.out 0; have hfz21_1 := blk_frozen BK181.out 1) | ((with_reducible refine gate_callee (f := 6) rfl ?_); refine goesL_ (some 9) rfl rfl Try.func6 (by kernel_rfl) rfl #[.agg #[.int .i64 a0_0, .int .i64 a0_1]] rfl (by (try simp only [List.map_toArray, List.map_cons, List.map_nil]); first | done | rfl | (simp only [List.length_drop, List.length_take]; rfl)) ?_; (with_reducible refine (laws_amountOf.calls k a0_0 a0_1 t183 t184 t187 false _ A3.out).mono ?_); rintro e w22 ⟨v185, rfl, ho0, hb⟩; refine ⟨_, rfl, ?_⟩; have n0_ := Aside0.mk (Kd.R_lower ho0 (below_size (by repeat (first | (with_reducible first | exact HB.out | apply below_alloc | apply pw_below_drewN | apply below_drew1 | refine below_set ?_ GE181.out | refine below_set ?_ GE182.out) | exact HB.out)))); have n1_ := Aside0.mk (blk_below (g := gb181) (o := .cells #[.int .i64 a0_0, .int .i64 a0_1] 23 (0, 0)) (by (with_reducible repeat (first | refine blk_drewN ?_ _ | refine blk_drew ?_ | refine blk_alloc ?_ _)); exact BK181.out) hb); have n2_ := Aside0.mk (blk_below (g := gb182) (o := .cells #[.bool a1_0, .slice A1_1 l1_1.length c1_1, .int .i64 a1_2] 26 (0, 0)) (by (with_reducible repeat (first | refine blk_drewN ?_ _ | refine blk_drew ?_ | refine blk_alloc ?_ _)); exact BK182.out) hb); have n3_ := Aside0.mk (below_step (by repeat (first | (with_reducible first | exact HB.out | apply below_alloc | apply pw_below_drewN | apply below_drew1 | refine below_set ?_ GE181.out | refine below_set ?_ GE182.out) | exact HB.out)) hb); clear BK181; clear BK182; clear HB; have HO186 := n0_; have BK181 := n1_; have BK182 := n2_; have HB := n3_; clear n0_ n1_ n2_ n3_; (try clear hb); (try clear hb2); (try clear hk); (try clear hi); (try clear ho0)) | ((with_reducible refine gate_dst (N := 5) rfl ?_); refine box_event ?hg (N := 5) ?hd (cs := #[.bool false, .slice none 0 0, .int .i64 0]) (t := 26) ?hr ?_; (case hd => rfl); (case hg => rfl); (case hr => first | (go_simp; done) | (go_simp; rfl)); intro gb189 hg w23 hbox hb; have n0_ := Aside0.mk (Kd.R_below (by (with_reducible repeat (first | apply Kd.R_alloc | apply Kd.R_drewN | apply Kd.R_drew)); exact HO186.out) hb); have n1_ := Aside0.mk (blk_below (g := gb181) (o := .cells #[.int .i64 a0_0, .int .i64 a0_1] 23 (0, 0)) (by (with_reducible repeat (first | refine blk_drewN ?_ _ | refine blk_drew ?_ | refine blk_alloc ?_ _)); exact BK181.out) hb); have n2_ := Aside0.mk (blk_below (g := gb182) (o := .cells #[.bool a1_0, .slice A1_1 l1_1.length c1_1, .int .i64 a1_2] 26 (0, 0)) (by (with_reducible repeat (first | refine blk_drewN ?_ _ | refine blk_drew ?_ | refine blk_alloc ?_ _)); exact BK182.out) hb); have n3_ := Aside0.mk (below_step (by repeat (first | (with_reducible first | exact HB.out | apply below_alloc | apply pw_below_drewN | apply below_drew1 | refine below_set ?_ GE181.out | refine below_set ?_ GE182.out) | exact HB.out)) hb); have n4_ := Aside0.mk (hbox); have n5_ := Aside0.mk ((by rw [hg]; exact (below_size (by repeat (first | (with_reducible first | exact HB.out | apply below_alloc | apply pw_below_drewN | apply below_drew1 | refine below_set ?_ GE181.out | refine below_set ?_ GE182.out) | exact HB.out))) : w.heap.size ≤ gb189)); have n6_ := Aside0.mk ((by rw [hg]; exact (below_size (by repeat (first | (with_reducible first | exact HB.out | apply below_alloc | apply pw_below_drewN | apply below_drew1 | refine below_set ?_ GE181.out | refine below_set ?_ GE182.out) | exact HB.out))) : w.heap.size ≤ gb189)); have n7_ := Aside0.mk ((by rw [hg]; exact Nat.ne_of_lt (blk_lt (g := gb181) (o := .cells #[.int .i64 a0_0, .int .i64 a0_1] 23 (0, 0)) (by (with_reducible repeat (first | refine blk_drewN ?_ _ | refine blk_drew ?_ | refine blk_alloc ?_ _)); exact BK181.out)) : gb181 ≠ gb189)); have n8_ := Aside0.mk ((by rw [hg]; exact Nat.ne_of_gt (blk_lt (g := gb181) (o := .cells #[.int .i64 a0_0, .int .i64 a0_1] 23 (0, 0)) (by (with_reducible repeat (first | refine blk_drewN ?_ _ | refine blk_drew ?_ | refine blk_alloc ?_ _)); exact BK181.out)) : gb189 ≠ gb181)); have n9_ := Aside0.mk ((by rw [hg]; exact Nat.ne_of_lt (blk_lt (g := gb182) (o := .cells #[.bool a1_0, .slice A1_1 l1_1.length c1_1, .int .i64 a1_2] 26 (0, 0)) (by (with_reducible repeat (first | refine blk_drewN ?_ _ | refine blk_drew ?_ | refine blk_alloc ?_ _)); exact BK182.out)) : gb182 ≠ gb189)); have n10_ := Aside0.mk ((by rw [hg]; exact Nat.ne_of_gt (blk_lt (g := gb182) (o := .cells #[.bool a1_0, .slice A1_1 l1_1.length c1_1, .int .i64 a1_2] 26 (0, 0)) (by (with_reducible repeat (first | refine blk_drewN ?_ _ | refine blk_drew ?_ | refine blk_alloc ?_ _)); exact BK182.out)) : gb189 ≠ gb182)); clear HO186; clear BK181; clear BK182; clear HB; have HO186 := n0_; have BK181 := n1_; have BK182 := n2_; have HB := n3_; have BK189 := n4_; have GW189 := n5_; have GE189 := n6_; have NB181_189 := n7_; have NB189_181 := n8_; have NB182_189 := n9_; have NB189_182 := n10_; clear n0_ n1_ n2_ n3_ n4_ n5_ n6_ n7_ n8_ n9_ n10_; clear hb hbox hg; have hnb24 := NB189_181.out; have hnc24 := NB181_189.out; have hnb25 := NB189_182.out; have hnc25 := NB182_189.out; have hcz26_0 : w23.cell? ⟨gb189, 0, none⟩ = some (.bool false) := (blk_cell BK189.out 0).trans rfl; have hcz26_1 : w23.cell? ⟨gb189, 1, none⟩ = some (.slice none 0 0) := (blk_cell BK189.out 1).trans rfl; have hcz26_2 : w23.cell? ⟨gb189, 2, none⟩ = some (.int .i64 0) := (blk_cell BK189.out 2).trans rfl; have hfz26_0 := blk_frozen BK189.out 0; have hfz26_1 := blk_frozen BK189.out 1; have hfz26_2 := blk_frozen BK189.out 2; obtain ⟨Ao27, co27, eo27⟩ := Kd.R_slice HO186.out; subst eo27))
    go_ret
    exact ⟨by first | rfl | (simp [errW_none, errW_some] <;> rfl) | (simp [*, errW_none, errW_some] <;> rfl), by repeat (first | (with_reducible first | exact HB.out | apply below_alloc | apply pw_below_drewN | apply below_drew1 | refine below_set ?_ GE181.out | refine below_set ?_ GE182.out | refine below_set ?_ GE189.out) | exact HB.out)⟩

/-! ### laws_amountAwake: function 13 -/
def laws_amountAwake.f (k : Nat)  : Option (Bool) := (impl_AmountAdd.f k 2 3 5 2).bind fun bt191 => (if bt191.2.2 = true then ((spec_DecimalOf.f k 25 2).bind fun bt195 => ((laws_amountIs.f k bt191.1 bt191.2.1 bt195.1 bt195.2.1 bt195.2.2).bind fun t200 => (some t200))) else (some false))
theorem laws_amountAwake.mono : ∀ k, LeO (laws_amountAwake.f k ) (laws_amountAwake.f (k + 1) ) := by
  intro  k
  unfold laws_amountAwake.f
  repeat' first
      | (with_reducible exact impl_AmountAdd.mono _ _ _ _ _)
      | (with_reducible exact laws_amountIs.mono _ _ _ _ _ _)
      | (with_reducible exact spec_DecimalOf.mono _ _ _)
      | (with_reducible exact LeO.refl _)
      | (with_reducible exact LeO.none _)
      | (with_reducible refine LeO.ite ?_ ?_)
      | (with_reducible refine LeO.bind ?_ (fun _ => ?_))
      | exact impl_AmountAdd.mono _ _ _ _ _
      | exact laws_amountIs.mono _ _ _ _ _ _
      | exact spec_DecimalOf.mono _ _ _
      | exact LeO.none _
      | refine LeO.ite ?_ ?_
      | refine LeO.bind ?_ (fun _ => ?_)
set_option maxHeartbeats 8000000 in
set_option maxRecDepth 100000 in
theorem laws_amountAwake.calls (k : Nat)  (r : Bool) (w : World) (h : laws_amountAwake.f k  = some r) :
    Calls Try.prog 13 #[] w fun e w' => e = .returned (.bool r) ∧ Below w.heap.size w w' := by
  have hu23 := Try.underlying23
  have HB := Aside0.mk (Below.refl w.heap.size w)
  have H : ((impl_AmountAdd.f k 2 3 5 2).bind fun bt191 => (if bt191.2.2 = true then ((spec_DecimalOf.f k 25 2).bind fun bt195 => ((laws_amountIs.f k bt191.1 bt191.2.1 bt195.1 bt195.2.1 bt195.2.2).bind fun t200 => (some t200))) else (some false))) = some r := h
  clear h
  replace H := Option.bind_eq_some_iff.mp H
  obtain ⟨⟨t191, t192, t193⟩, A10, H⟩ := H
  replace H : (if t193 = true then ((spec_DecimalOf.f k 25 2).bind fun bt195 => ((laws_amountIs.f k t191 t192 bt195.1 bt195.2.1 bt195.2.2).bind fun t200 => (some t200))) else (some false)) = some r := H
  have A1 := Aside0.mk A10
  clear A10
  by_cases c2 : t193 = true
  · subst c2
    have H1 : ((spec_DecimalOf.f k 25 2).bind fun bt195 => ((laws_amountIs.f k t191 t192 bt195.1 bt195.2.1 bt195.2.2).bind fun t200 => (some t200))) = some r := by rw [if_pos rfl] at H; exact H
    clear H
    have H := H1
    clear H1
    replace H := Option.bind_eq_some_iff.mp H
    obtain ⟨⟨t195, t196, t199⟩, A30, H⟩ := H
    replace H : ((laws_amountIs.f k t191 t192 t195 t196 t199).bind fun t200 => (some t200)) = some r := H
    have A3 := Aside0.mk A30
    clear A30
    replace H := Option.bind_eq_some_iff.mp H
    obtain ⟨t200, A40, H⟩ := H
    replace H : (some t200) = some r := H
    have A4 := Aside0.mk A40
    clear A40
    obtain rfl := Option.some.inj H
    go_enter Try.func13, Try.ntmps13
    try go_wp2_with (first | ((with_reducible refine gate_callee (f := 7) rfl ?_); refine goesL_ (some 6) rfl rfl Try.func7 (by kernel_rfl) rfl #[.agg #[.int .i64 2, .int .i64 3], .agg #[.int .i64 5, .int .i64 2]] rfl (by (try simp only [List.map_toArray, List.map_cons, List.map_nil]); first | done | rfl | (simp only [List.length_drop, List.length_take]; rfl)) ?_; (with_reducible refine (impl_AmountAdd.calls k 2 3 5 2 t191 t192 true _ A1.out).mono ?_); rintro e w5 ⟨rfl, hb⟩; refine ⟨_, rfl, ?_⟩; have n0_ := Aside0.mk (below_step (by repeat (first | (with_reducible first | exact HB.out | apply below_alloc | apply pw_below_drewN | apply below_drew1) | exact HB.out)) hb); clear HB; have HB := n0_; clear n0_; (try clear hb); (try clear hb2); (try clear hk); (try clear hi)) | ((with_reducible refine gate_dst (N := 1) rfl ?_); refine box_event ?hg (N := 1) ?hd (cs := #[.int .i64 0, .int .i64 0]) (t := 23) ?hr ?_; (case hd => rfl); (case hg => rfl); (case hr => first | (go_simp; done) | (go_simp; rfl)); intro gb194 hg w6 hbox hb; have n0_ := Aside0.mk (below_step (by repeat (first | (with_reducible first | exact HB.out | apply below_alloc | apply pw_below_drewN | apply below_drew1) | exact HB.out)) hb); have n1_ := Aside0.mk (hbox); have n2_ := Aside0.mk ((by rw [hg]; exact (below_size (by repeat (first | (with_reducible first | exact HB.out | apply below_alloc | apply pw_below_drewN | apply below_drew1) | exact HB.out))) : w.heap.size ≤ gb194)); have n3_ := Aside0.mk ((by rw [hg]; exact (below_size (by repeat (first | (with_reducible first | exact HB.out | apply below_alloc | apply pw_below_drewN | apply below_drew1) | exact HB.out))) : w.heap.size ≤ gb194)); clear HB; have HB := n0_; have BK194 := n1_; have GW194 := n2_; have GE194 := n3_; clear n0_ n1_ n2_ n3_; clear hb hbox hg; have hcz7_0 : w6.cell? ⟨gb194, 0, none⟩ = some (.int .i64 0) := (blk_cell BK194.out 0).trans rfl; have hcz7_1 : w6.cell? ⟨gb194, 1, none⟩ = some (.int .i64 0) := (blk_cell BK194.out 1).trans rfl; have hfz7_0 := blk_frozen BK194.out 0; have hfz7_1 := blk_frozen BK194.out 1))
    have n0_ : Aside0 (((w6.setCell ⟨gb194, 0, none⟩ (.int .i64 t191)).setCell ⟨gb194, 1, none⟩ (.int .i64 t192)).heap[gb194]? = some (.cells #[.int .i64 t191, .int .i64 t192] 23 (0, 0))) := ⟨by (with_reducible repeat (first | refine blk_drewN ?_ _ | refine blk_drew ?_ | refine blk_alloc ?_ _)); refine blk_put (cs := #[.int .i64 t191, .int .i64 0]) ?_ 1 _ rfl; (with_reducible repeat (first | refine blk_drewN ?_ _ | refine blk_drew ?_ | refine blk_alloc ?_ _)); refine blk_put (cs := #[.int .i64 0, .int .i64 0]) ?_ 0 _ rfl; (with_reducible repeat (first | refine blk_drewN ?_ _ | refine blk_drew ?_ | refine blk_alloc ?_ _)); exact BK194.out⟩
    have n1_ : Aside0 (Below w.heap.size w ((w6.setCell ⟨gb194, 0, none⟩ (.int .i64 t191)).setCell ⟨gb194, 1, none⟩ (.int .i64 t192))) := ⟨by repeat (first | (with_reducible first | exact HB.out | apply below_alloc | apply pw_below_drewN | apply below_drew1 | refine below_set ?_ GE194.out) | exact HB.out)⟩
    (try clear BK194)
    (try clear HB)
    generalize ((w6.setCell ⟨gb194, 0, none⟩ (.int .i64 t191)).setCell ⟨gb194, 1, none⟩ (.int .i64 t192)) = w8 at n0_ n1_ ⊢
    have BK194 := n0_
    have HB := n1_
    clear n0_ n1_
    have n0_ := Aside0.mk (blk_drew BK194.out)
    have n1_ := Aside0.mk (below_drew1 HB.out)
    clear BK194
    clear HB
    have BK194 := n0_
    have HB := n1_
    clear n0_ n1_
    refine start_ (n := 7) (S := fun w' => w'.cell? ⟨gb194, 0, none⟩ = some (.int .i64 t191) ∧ w'.cell? ⟨gb194, 1, none⟩ = some (.int .i64 t192)) (ds := []) #[false, false, false, false, false, false, false] (by kernel_rfl) rfl rfl ⟨(blk_cell BK194.out 0).trans rfl, (blk_cell BK194.out 1).trans rfl⟩ (fun hHeld => ?_)
    generalize w8.drew = w9 at BK194 HB hHeld ⊢
    refine pure_ (i := 0) (N := some 9) (v := ?_) (a' := ?_) #[true, false, false, false, false, false, false] rfl rfl (by kernel_rfl) (fun _ _ _ h => h) (Or.inl ⟨by rfl, ?_⟩) ?_ ?_
    rotate_left
    · intro w'
      go_simp
      with_reducible rfl
    rotate_left
    · simp only [Act.put, List.setIfInBounds_toArray, List.set_cons_zero, List.set_cons_succ, i64_w, i32_w]
      rfl
    refine pure_ (i := 1) (N := some 10) (v := ?_) (a' := ?_) #[true, true, false, false, false, false, false] rfl rfl (by kernel_rfl) (fun _ _ _ h => h) (Or.inl ⟨by rfl, ?_⟩) ?_ ?_
    rotate_left
    · intro w'
      go_simp
      with_reducible rfl
    rotate_left
    · simp only [Act.put, List.setIfInBounds_toArray, List.set_cons_zero, List.set_cons_succ, i64_w, i32_w]
      rfl
    refine take_ (i := 2) (N := some 11) (v := ?_) (a' := ?_) #[true, true, true, false, false, false, false] rfl rfl (by kernel_rfl) (fun _ _ _ h => h) (Or.inl ⟨by rfl, ?_⟩) hHeld ?_ ?_
    rotate_left
    · rintro w' ⟨s0, s1⟩
      go_simp
      with_reducible rfl
    rotate_left
    · simp only [Act.put, List.setIfInBounds_toArray, List.set_cons_zero, List.set_cons_succ, i64_w, i32_w]
      rfl
    refine one_ (i := 3) (N := some 12) #[true, true, true, true, false, false, false] rfl rfl (by kernel_rfl) (by decide) (fun K hK => ?_)
    refine goes_ Try.func12 (by kernel_rfl) rfl #[.int .i64 25, .int .i64 2] (by rfl) rfl rfl (by (try simp only [List.map_toArray, List.map_cons, List.map_nil]); first | done | rfl | (simp only [List.length_drop, List.length_take]; rfl)) ?_
    with_reducible refine (spec_DecimalOf.calls k 25 2 t195 t196 t199 _ A3.out).mono ?_
    rintro e w10 ⟨v197, rfl, ho0, hb⟩
    refine ⟨_, rfl, ?_⟩
    have n0_ := Aside0.mk (Kd.R_lower ho0 (below_size (by repeat (first | (with_reducible first | exact HB.out | apply below_alloc | apply pw_below_drewN | apply below_drew1 | refine below_set ?_ GE194.out) | exact HB.out))))
    have n1_ := Aside0.mk (blk_below (g := gb194) (o := .cells #[.int .i64 t191, .int .i64 t192] 23 (0, 0)) (by (with_reducible repeat (first | refine blk_drewN ?_ _ | refine blk_drew ?_ | refine blk_alloc ?_ _)); exact BK194.out) hb)
    have n2_ := Aside0.mk (below_step (by repeat (first | (with_reducible first | exact HB.out | apply below_alloc | apply pw_below_drewN | apply below_drew1 | refine below_set ?_ GE194.out) | exact HB.out)) hb)
    clear BK194
    clear HB
    have HO198 := n0_
    have BK194 := n1_
    have HB := n2_
    clear n0_ n1_ n2_
    (try clear hb)
    (try clear hb2)
    (try clear hk)
    (try clear hi)
    (try clear ho0)
    obtain ⟨Ao11, co11, eo11⟩ := Kd.R_slice HO198.out
    (first | subst eo11 | (injection eo11 with f1_ f2_ f3_; have f4_ := f1_.symm; have f5_ := f3_.symm; clear f1_ f2_ f3_; subst f4_; subst f5_))
    refine hK.out _ _ ⟨(blk_cell BK194.out 0).trans rfl, (blk_cell BK194.out 1).trans rfl⟩ (fun hHeld => ?_)
    clear hK K
    refine norm_ (a' := ?_) ?_ ?_
    rotate_left
    · show Act.put _ (some 12) _ = _
      simp only [Act.put, List.setIfInBounds_toArray, List.set_cons_zero, List.set_cons_succ, i64_w, i32_w]
      rfl
    refine one_ (i := 4) (N := some 13) #[true, true, true, true, true, false, false] rfl rfl (by kernel_rfl) (by decide) (fun K hK => ?_)
    refine goes_ Try.func9 (by kernel_rfl) rfl #[.agg #[.int .i64 t191, .int .i64 t192], .agg #[.bool t195, .slice Ao11 t196.length co11, .int .i64 t199]] (by rfl) rfl rfl (by (try simp only [List.map_toArray, List.map_cons, List.map_nil]); first | done | rfl | (simp only [List.length_drop, List.length_take]; rfl)) ?_
    with_reducible refine (laws_amountIs.calls k t191 t192 t195 _ _ t196 t199 t200 _ ?side1 ?side2 A4.out).mono ?_
    (case side1 => repeat (first | exact (Kd.R_reads' HO198.out).2.2 | (with_reducible refine Kd.C_alloc ?_ _) | (with_reducible refine Kd.C_drewN ?_ _) | (with_reducible refine Kd.C_drew ?_)))
    (case side2 => exact (Kd.R_reads' HO198.out).2.1)
    rintro e w12 ⟨rfl, hb⟩
    refine ⟨_, rfl, ?_⟩
    have n0_ := Aside0.mk (Kd.R_below (by (with_reducible repeat (first | apply Kd.R_alloc | apply Kd.R_drewN | apply Kd.R_drew)); exact HO198.out) hb)
    have n1_ := Aside0.mk (blk_below (g := gb194) (o := .cells #[.int .i64 t191, .int .i64 t192] 23 (0, 0)) (by (with_reducible repeat (first | refine blk_drewN ?_ _ | refine blk_drew ?_ | refine blk_alloc ?_ _)); exact BK194.out) hb)
    have n2_ := Aside0.mk (below_step (by repeat (first | (with_reducible first | exact HB.out | apply below_alloc | apply pw_below_drewN | apply below_drew1 | refine below_set ?_ GE194.out) | exact HB.out)) hb)
    clear HO198
    clear BK194
    clear HB
    have HO198 := n0_
    have BK194 := n1_
    have HB := n2_
    clear n0_ n1_ n2_
    (try clear hb)
    (try clear hb2)
    (try clear hk)
    (try clear hi)
    refine hK.out _ _ ⟨(blk_cell BK194.out 0).trans rfl, (blk_cell BK194.out 1).trans rfl⟩ (fun hHeld => ?_)
    clear hK K
    refine norm_ (a' := ?_) ?_ ?_
    rotate_left
    · show Act.put _ (some 13) _ = _
      simp only [Act.put, List.setIfInBounds_toArray, List.set_cons_zero, List.set_cons_succ, i64_w, i32_w]
      rfl
    refine pure_ (i := 5) (N := some 14) (v := ?_) (a' := ?_) #[true, true, true, true, true, true, false] rfl rfl (by kernel_rfl) (fun _ _ _ h => h) (Or.inl ⟨by rfl, ?_⟩) ?_ ?_
    rotate_left
    · intro w'
      go_simp
      with_reducible rfl
    rotate_left
    · simp only [Act.put, List.setIfInBounds_toArray, List.set_cons_zero, List.set_cons_succ, i64_w, i32_w]
      rfl
    refine pure_ (i := 6) (N := some 0) (v := ?_) (a' := ?_) #[true, true, true, true, true, true, true] rfl rfl (by kernel_rfl) (fun _ _ _ h => h) (Or.inl ⟨by rfl, ?_⟩) ?_ ?_
    rotate_left
    · intro w'
      go_simp
      with_reducible rfl
    rotate_left
    · simp only [Act.put, List.setIfInBounds_toArray, List.set_cons_zero, List.set_cons_succ, i64_w, i32_w]
      rfl
    refine done_ (by kernel_rfl) ?_
    try go_wp2
    go_ret
    exact ⟨by first | rfl | (simp [errW_none, errW_some] <;> rfl) | (simp [*, errW_none, errW_some] <;> rfl), by repeat (first | (with_reducible first | exact HB.out | apply below_alloc | apply pw_below_drewN | apply below_drew1 | refine below_set ?_ GE194.out) | exact HB.out)⟩
  · replace c2 := Bool.eq_false_iff.mpr c2
    subst c2
    have H1 : (some false) = some r := by rw [if_neg (show ¬ (false = true) by decide)] at H; exact H
    clear H
    have H := H1
    clear H1
    obtain rfl := Option.some.inj H
    go_enter Try.func13, Try.ntmps13
    try go_wp2_with (first | ((with_reducible refine gate_callee (f := 7) rfl ?_); refine goesL_ (some 6) rfl rfl Try.func7 (by kernel_rfl) rfl #[.agg #[.int .i64 2, .int .i64 3], .agg #[.int .i64 5, .int .i64 2]] rfl (by (try simp only [List.map_toArray, List.map_cons, List.map_nil]); first | done | rfl | (simp only [List.length_drop, List.length_take]; rfl)) ?_; (with_reducible refine (impl_AmountAdd.calls k 2 3 5 2 t191 t192 false _ A1.out).mono ?_); rintro e w13 ⟨rfl, hb⟩; refine ⟨_, rfl, ?_⟩; have n0_ := Aside0.mk (below_step (by repeat (first | (with_reducible first | exact HB.out | apply below_alloc | apply pw_below_drewN | apply below_drew1) | exact HB.out)) hb); clear HB; have HB := n0_; clear n0_; (try clear hb); (try clear hb2); (try clear hk); (try clear hi)) | ((with_reducible refine gate_dst (N := 1) rfl ?_); refine box_event ?hg (N := 1) ?hd (cs := #[.int .i64 0, .int .i64 0]) (t := 23) ?hr ?_; (case hd => rfl); (case hg => rfl); (case hr => first | (go_simp; done) | (go_simp; rfl)); intro gb194 hg w14 hbox hb; have n0_ := Aside0.mk (below_step (by repeat (first | (with_reducible first | exact HB.out | apply below_alloc | apply pw_below_drewN | apply below_drew1) | exact HB.out)) hb); have n1_ := Aside0.mk (hbox); have n2_ := Aside0.mk ((by rw [hg]; exact (below_size (by repeat (first | (with_reducible first | exact HB.out | apply below_alloc | apply pw_below_drewN | apply below_drew1) | exact HB.out))) : w.heap.size ≤ gb194)); have n3_ := Aside0.mk ((by rw [hg]; exact (below_size (by repeat (first | (with_reducible first | exact HB.out | apply below_alloc | apply pw_below_drewN | apply below_drew1) | exact HB.out))) : w.heap.size ≤ gb194)); clear HB; have HB := n0_; have BK194 := n1_; have GW194 := n2_; have GE194 := n3_; clear n0_ n1_ n2_ n3_; clear hb hbox hg; have hcz15_0 : w14.cell? ⟨gb194, 0, none⟩ = some (.int .i64 0) := (blk_cell BK194.out 0).trans rfl; have hcz15_1 : w14.cell? ⟨gb194, 1, none⟩ = some (.int .i64 0) := (blk_cell BK194.out 1).trans rfl; have hfz15_0 := blk_frozen BK194.out 0; have hfz15_1 := blk_frozen BK194.out 1))
    have n0_ : Aside0 (((w14.setCell ⟨gb194, 0, none⟩ (.int .i64 t191)).setCell ⟨gb194, 1, none⟩ (.int .i64 t192)).heap[gb194]? = some (.cells #[.int .i64 t191, .int .i64 t192] 23 (0, 0))) := ⟨by (with_reducible repeat (first | refine blk_drewN ?_ _ | refine blk_drew ?_ | refine blk_alloc ?_ _)); refine blk_put (cs := #[.int .i64 t191, .int .i64 0]) ?_ 1 _ rfl; (with_reducible repeat (first | refine blk_drewN ?_ _ | refine blk_drew ?_ | refine blk_alloc ?_ _)); refine blk_put (cs := #[.int .i64 0, .int .i64 0]) ?_ 0 _ rfl; (with_reducible repeat (first | refine blk_drewN ?_ _ | refine blk_drew ?_ | refine blk_alloc ?_ _)); exact BK194.out⟩
    have n1_ : Aside0 (Below w.heap.size w ((w14.setCell ⟨gb194, 0, none⟩ (.int .i64 t191)).setCell ⟨gb194, 1, none⟩ (.int .i64 t192))) := ⟨by repeat (first | (with_reducible first | exact HB.out | apply below_alloc | apply pw_below_drewN | apply below_drew1 | refine below_set ?_ GE194.out) | exact HB.out)⟩
    (try clear BK194)
    (try clear HB)
    generalize ((w14.setCell ⟨gb194, 0, none⟩ (.int .i64 t191)).setCell ⟨gb194, 1, none⟩ (.int .i64 t192)) = w16 at n0_ n1_ ⊢
    have BK194 := n0_
    have HB := n1_
    clear n0_ n1_
    have n0_ := Aside0.mk (blk_drew BK194.out)
    have n1_ := Aside0.mk (below_drew1 HB.out)
    clear BK194
    clear HB
    have BK194 := n0_
    have HB := n1_
    clear n0_ n1_
    refine start_ (n := 7) (S := fun w' => True) (ds := []) #[false, false, false, false, false, false, false] (by kernel_rfl) rfl rfl trivial (fun hHeld => ?_)
    generalize w16.drew = w17 at BK194 HB hHeld ⊢
    refine pure_ (i := 0) (N := some 9) (v := ?_) (a' := ?_) #[true, false, false, false, false, false, false] rfl rfl (by kernel_rfl) (fun _ _ _ h => h) (Or.inl ⟨by rfl, ?_⟩) ?_ ?_
    rotate_left
    · intro w'
      go_simp
      with_reducible rfl
    rotate_left
    · simp only [Act.put, List.setIfInBounds_toArray, List.set_cons_zero, List.set_cons_succ, i64_w, i32_w]
      rfl
    refine pure_ (i := 1) (N := some 10) (v := ?_) (a' := ?_) #[true, true, false, false, false, false, false] rfl rfl (by kernel_rfl) (fun _ _ _ h => h) (Or.inl ⟨by rfl, ?_⟩) ?_ ?_
    rotate_left
    · intro w'
      go_simp
      with_reducible rfl
    rotate_left
    · simp only [Act.put, List.setIfInBounds_toArray, List.set_cons_zero, List.set_cons_succ, i64_w, i32_w]
      rfl
    refine pure_ (i := 2) (N := some 11) (v := undef) (a' := ?_) #[true, true, true, false, false, false, false] rfl rfl (by kernel_rfl) (fun _ _ _ h => h) (Or.inr ⟨by rfl, rfl⟩) ?_ ?_
    rotate_left
    · simp only [Act.put, List.setIfInBounds_toArray, List.set_cons_zero, List.set_cons_succ, i64_w, i32_w]
      rfl
    refine pure_ (i := 3) (N := some 12) (v := undef) (a' := ?_) #[true, true, true, true, false, false, false] rfl rfl (by kernel_rfl) (fun _ _ _ h => h) (Or.inr ⟨by rfl, rfl⟩) ?_ ?_
    rotate_left
    · simp only [Act.put, List.setIfInBounds_toArray, List.set_cons_zero, List.set_cons_succ, i64_w, i32_w]
      rfl
    refine pure_ (i := 4) (N := some 13) (v := undef) (a' := ?_) #[true, true, true, true, true, false, false] rfl rfl (by kernel_rfl) (fun _ _ _ h => h) (Or.inr ⟨by rfl, rfl⟩) ?_ ?_
    rotate_left
    · simp only [Act.put, List.setIfInBounds_toArray, List.set_cons_zero, List.set_cons_succ, i64_w, i32_w]
      rfl
    refine pure_ (i := 5) (N := some 14) (v := ?_) (a' := ?_) #[true, true, true, true, true, true, false] rfl rfl (by kernel_rfl) (fun _ _ _ h => h) (Or.inl ⟨by rfl, ?_⟩) ?_ ?_
    rotate_left
    · intro w'
      go_simp
      with_reducible rfl
    rotate_left
    · simp only [Act.put, List.setIfInBounds_toArray, List.set_cons_zero, List.set_cons_succ, i64_w, i32_w]
      rfl
    refine pure_ (i := 6) (N := some 0) (v := ?_) (a' := ?_) #[true, true, true, true, true, true, true] rfl rfl (by kernel_rfl) (fun _ _ _ h => h) (Or.inl ⟨by rfl, ?_⟩) ?_ ?_
    rotate_left
    · intro w'
      go_simp
      with_reducible rfl
    rotate_left
    · simp only [Act.put, List.setIfInBounds_toArray, List.set_cons_zero, List.set_cons_succ, i64_w, i32_w]
      rfl
    refine done_ (by kernel_rfl) ?_
    try go_wp2
    go_ret
    exact ⟨by first | rfl | (simp [errW_none, errW_some] <;> rfl) | (simp [*, errW_none, errW_some] <;> rfl), by repeat (first | (with_reducible first | exact HB.out | apply below_alloc | apply pw_below_drewN | apply below_drew1 | refine below_set ?_ GE194.out) | exact HB.out)⟩

end Go.Proofs.Ytihbljdghmfidaa.PFnAmountScaled
