/- Functions of the program as plain Lean functions, and that the machine's calls do what these say: written for this claim by wip/myprint.py over the kit's print.py. -/
import Derived.Test.YtihbljdghmfidaaPFnAmountScaledx0
import Derived.Test.YtihbljdghmfidaaPFnAmountScaledx1
import Derived.Test.YtihbljdghmfidaaPFnAmountScaledx2
import Derived.Test.YtihbljdghmfidaaPFnAmountScaledx5
import Derived.Test.YtihbljdghmfidaaPFnAmountScaledx6
namespace Go.Proofs.Ytihbljdghmfidaa.PFnAmountScaled
open Go.RowKit Go.Proofs.YtihbljdghmfidaaW.PrintWords Go.Proofs.YtihbljdghmfidaaW.PrintLast Go.Proofs.YtihbljdghmfidaaW.PrintMore
attribute [local go_sem] max2_int min2_int max_two min_two max_three min_three max_four min_four   -- for this text's walks alone
set_option linter.unusedVariables false
set_option linter.unusedSimpArgs false

/-! ### laws_FnAmountScaled: function 4 -/
mutual
def laws_FnAmountScaled.j0 : Nat → Int → Bool → Int → Int → Bool → List Int → Int → Option (Bool)
  | 0, _, _, _, _, _, _, _ => none
  | k + 1, x1, x32, x233000, x233001, x240000, x240001, x240002 => if x32 = true then (some true) else ((impl_AmountScaled.f k x233000 x233001 x1).bind fun bt240 => ((spec_DecimalUp.f k x240000 x240001 x240002 x1).bind fun bt242 => (if bt240.2 = true then ((spec_DecimalOf.f k bt240.1 x1).bind fun bt249 => ((spec_DecimalCmp.f k bt249.1 bt249.2.1 bt249.2.2 bt242.1 bt242.2.1 bt242.2.2.1).bind fun t254 => (laws_FnAmountScaled.j1 k (t254 != 0) x233000 x233001))) else (laws_FnAmountScaled.j1 k false x233000 x233001))))
def laws_FnAmountScaled.j1 : Nat → Bool → Int → Int → Option (Bool)
  | 0, _, _, _ => none
  | k + 1, x53, x233000, x233001 => if x53 = true then (some false) else ((impl_AmountScaled.f k x233000 x233001 x233001).bind fun bt255 => (if bt255.2 = true then (if bt255.1 = x233000 then ((laws_amountAwake.f k).bind fun t257 => (some t257)) else (some false)) else (some false)))
end
def laws_FnAmountScaled.f (k : Nat) (a0_0 : Int) (a0_1 : Int) (a1 : Int) : Option (Bool) := (laws_amountOf.f k a0_0 a0_1).bind fun bt233 => (if bt233.2.2.2 = true then (if a1 < (-500) then (laws_FnAmountScaled.j0 k a1 true a0_0 a0_1 bt233.1 bt233.2.1 bt233.2.2.1) else (if a1 > 500 then (laws_FnAmountScaled.j0 k a1 true a0_0 a0_1 bt233.1 bt233.2.1 bt233.2.2.1) else (laws_FnAmountScaled.j0 k a1 (a0_0 == (-9223372036854775808)) a0_0 a0_1 bt233.1 bt233.2.1 bt233.2.2.1))) else (laws_FnAmountScaled.j0 k a1 true a0_0 a0_1 bt233.1 bt233.2.1 bt233.2.2.1))
theorem laws_FnAmountScaled.mono_l : ∀ k, (∀ y0 y1 y2 y3 y4 y5 y6, LeO (laws_FnAmountScaled.j0 k y0 y1 y2 y3 y4 y5 y6) (laws_FnAmountScaled.j0 (k + 1) y0 y1 y2 y3 y4 y5 y6)) ∧ (∀ y0 y1 y2, LeO (laws_FnAmountScaled.j1 k y0 y1 y2) (laws_FnAmountScaled.j1 (k + 1) y0 y1 y2))
  | 0 => ⟨fun _ _ _ _ _ _ _ r h => by simp [laws_FnAmountScaled.j0] at h, fun _ _ _ r h => by simp [laws_FnAmountScaled.j1] at h⟩
  | k + 1 => by
    obtain ⟨ih0, ih1⟩ := laws_FnAmountScaled.mono_l k
    refine ⟨?_, ?_⟩
    · intro y0 y1 y2 y3 y4 y5 y6
      unfold laws_FnAmountScaled.j0
      repeat' first
      | (with_reducible exact ih0 _ _ _ _ _ _ _)
      | (with_reducible exact ih1 _ _ _)
      | (with_reducible exact impl_AmountScaled.mono _ _ _ _)
      | (with_reducible exact laws_amountAwake.mono _)
      | (with_reducible exact laws_amountOf.mono _ _ _)
      | (with_reducible exact spec_DecimalCmp.mono _ _ _ _ _ _ _)
      | (with_reducible exact spec_DecimalOf.mono _ _ _)
      | (with_reducible exact spec_DecimalUp.mono _ _ _ _ _)
      | (with_reducible exact LeO.refl _)
      | (with_reducible exact LeO.none _)
      | (with_reducible refine LeO.ite ?_ ?_)
      | (with_reducible refine LeO.bind ?_ (fun _ => ?_))
      | exact ih0 _ _ _ _ _ _ _
      | exact ih1 _ _ _
      | exact impl_AmountScaled.mono _ _ _ _
      | exact laws_amountAwake.mono _
      | exact laws_amountOf.mono _ _ _
      | exact spec_DecimalCmp.mono _ _ _ _ _ _ _
      | exact spec_DecimalOf.mono _ _ _
      | exact spec_DecimalUp.mono _ _ _ _ _
      | exact LeO.none _
      | refine LeO.ite ?_ ?_
      | refine LeO.bind ?_ (fun _ => ?_)
    · intro y0 y1 y2
      unfold laws_FnAmountScaled.j1
      repeat' first
      | (with_reducible exact ih0 _ _ _ _ _ _ _)
      | (with_reducible exact ih1 _ _ _)
      | (with_reducible exact impl_AmountScaled.mono _ _ _ _)
      | (with_reducible exact laws_amountAwake.mono _)
      | (with_reducible exact laws_amountOf.mono _ _ _)
      | (with_reducible exact spec_DecimalCmp.mono _ _ _ _ _ _ _)
      | (with_reducible exact spec_DecimalOf.mono _ _ _)
      | (with_reducible exact spec_DecimalUp.mono _ _ _ _ _)
      | (with_reducible exact LeO.refl _)
      | (with_reducible exact LeO.none _)
      | (with_reducible refine LeO.ite ?_ ?_)
      | (with_reducible refine LeO.bind ?_ (fun _ => ?_))
      | exact ih0 _ _ _ _ _ _ _
      | exact ih1 _ _ _
      | exact impl_AmountScaled.mono _ _ _ _
      | exact laws_amountAwake.mono _
      | exact laws_amountOf.mono _ _ _
      | exact spec_DecimalCmp.mono _ _ _ _ _ _ _
      | exact spec_DecimalOf.mono _ _ _
      | exact spec_DecimalUp.mono _ _ _ _ _
      | exact LeO.none _
      | refine LeO.ite ?_ ?_
      | refine LeO.bind ?_ (fun _ => ?_)
theorem laws_FnAmountScaled.mono : ∀ a0 a1 a2 k, LeO (laws_FnAmountScaled.f k a0 a1 a2) (laws_FnAmountScaled.f (k + 1) a0 a1 a2) := by
  intro a0 a1 a2 k
  obtain ⟨ih0, ih1⟩ := laws_FnAmountScaled.mono_l k
  unfold laws_FnAmountScaled.f
  repeat' first
      | (with_reducible exact ih0 _ _ _ _ _ _ _)
      | (with_reducible exact ih1 _ _ _)
      | (with_reducible exact impl_AmountScaled.mono _ _ _ _)
      | (with_reducible exact laws_amountAwake.mono _)
      | (with_reducible exact laws_amountOf.mono _ _ _)
      | (with_reducible exact spec_DecimalCmp.mono _ _ _ _ _ _ _)
      | (with_reducible exact spec_DecimalOf.mono _ _ _)
      | (with_reducible exact spec_DecimalUp.mono _ _ _ _ _)
      | (with_reducible exact LeO.refl _)
      | (with_reducible exact LeO.none _)
      | (with_reducible refine LeO.ite ?_ ?_)
      | (with_reducible refine LeO.bind ?_ (fun _ => ?_))
      | exact ih0 _ _ _ _ _ _ _
      | exact ih1 _ _ _
      | exact impl_AmountScaled.mono _ _ _ _
      | exact laws_amountAwake.mono _
      | exact laws_amountOf.mono _ _ _
      | exact spec_DecimalCmp.mono _ _ _ _ _ _ _
      | exact spec_DecimalOf.mono _ _ _
      | exact spec_DecimalUp.mono _ _ _ _ _
      | exact LeO.none _
      | refine LeO.ite ?_ ?_
      | refine LeO.bind ?_ (fun _ => ?_)
def laws_FnAmountScaled.T6 : Bool × List (List Nat × List Nat) := (true, [([], []), ([0], [0]), ([1], [1]), ([1], [1]), ([2, 3, 1, 1], [1, 2, 3]), ([1], [1]), ([4, 5, 4, 1], [1, 4, 5]), ([6, 1], [1, 6]), ([1, 7], [1, 7])])
def laws_FnAmountScaled.B6 : List Nat := [0, 1, 3, 3, 15, 3, 63, 127, 255]
theorem laws_FnAmountScaled.tab6 : rtab .any (opsOf Try.f4 6) = laws_FnAmountScaled.T6 := by kernel_rfl
theorem laws_FnAmountScaled.bits6 : waitsOk laws_FnAmountScaled.T6.2 laws_FnAmountScaled.B6 = true := by kernel_rfl
set_option maxHeartbeats 8000000 in
set_option maxRecDepth 100000 in
theorem laws_FnAmountScaled.calls (k : Nat) (a0_0 : Int) (a0_1 : Int) (a1 : Int) (r : Bool) (w : World) (h : laws_FnAmountScaled.f k a0_0 a0_1 a1 = some r) :
    Calls Try.prog 4 #[.agg #[.int .i64 a0_0, .int .i64 a0_1], .int .i64 a1] w fun e w' => e = .returned (.bool r) ∧ Below w.heap.size w w' := by
  have hu23 := Try.underlying23
  have hu26 := Try.underlying26
  have HB := Aside0.mk (Below.refl w.heap.size w)
  have H : ((laws_amountOf.f k a0_0 a0_1).bind fun bt233 => (if bt233.2.2.2 = true then (if a1 < (-500) then (laws_FnAmountScaled.j0 k a1 true a0_0 a0_1 bt233.1 bt233.2.1 bt233.2.2.1) else (if a1 > 500 then (laws_FnAmountScaled.j0 k a1 true a0_0 a0_1 bt233.1 bt233.2.1 bt233.2.2.1) else (laws_FnAmountScaled.j0 k a1 (a0_0 == (-9223372036854775808)) a0_0 a0_1 bt233.1 bt233.2.1 bt233.2.2.1))) else (laws_FnAmountScaled.j0 k a1 true a0_0 a0_1 bt233.1 bt233.2.1 bt233.2.2.1))) = some r := h
  clear h
  replace H := Option.bind_eq_some_iff.mp H
  obtain ⟨⟨t233, t234, t237, t238⟩, A30, H⟩ := H
  replace H : (if t238 = true then (if a1 < (-500) then (laws_FnAmountScaled.j0 k a1 true a0_0 a0_1 t233 t234 t237) else (if a1 > 500 then (laws_FnAmountScaled.j0 k a1 true a0_0 a0_1 t233 t234 t237) else (laws_FnAmountScaled.j0 k a1 (a0_0 == (-9223372036854775808)) a0_0 a0_1 t233 t234 t237))) else (laws_FnAmountScaled.j0 k a1 true a0_0 a0_1 t233 t234 t237)) = some r := H
  have A3 := Aside0.mk A30
  clear A30
  have HC4 := Aside0.mk H
  clear H
  go_enter Try.func4, Try.ntmps4
  go_upto_region 2 with (first | ((with_reducible refine gate_dst (N := 2) rfl ?_); refine box_event ?hg (N := 2) ?hd (cs := #[.int .i64 a0_0, .int .i64 a0_1]) (t := 23) ?hr ?_; (case hd => rfl); (case hg => rfl); (case hr => first | (go_simp; done) | (go_simp; rfl)); intro gb232 hg w5 hbox hb; have n0_ := Aside0.mk (below_step (by repeat (first | (with_reducible first | exact HB.out | apply below_alloc | apply pw_below_drewN | apply below_drew1) | exact HB.out)) hb); have n1_ := Aside0.mk (hbox); have n2_ := Aside0.mk ((by rw [hg]; exact (below_size (by repeat (first | (with_reducible first | exact HB.out | apply below_alloc | apply pw_below_drewN | apply below_drew1) | exact HB.out))) : w.heap.size ≤ gb232)); have n3_ := Aside0.mk ((by rw [hg]; exact (below_size (by repeat (first | (with_reducible first | exact HB.out | apply below_alloc | apply pw_below_drewN | apply below_drew1) | exact HB.out))) : w.heap.size ≤ gb232)); clear HB; have HB := n0_; have BK232 := n1_; have GW232 := n2_; have GE232 := n3_; clear n0_ n1_ n2_ n3_; clear hb hbox hg; have hcz6_0 : w5.cell? ⟨gb232, 0, none⟩ = some (.int .i64 a0_0) := (blk_cell BK232.out 0).trans rfl; have hcz6_1 : w5.cell? ⟨gb232, 1, none⟩ = some (.int .i64 a0_1) := (blk_cell BK232.out 1).trans rfl; have hfz6_0 := blk_frozen BK232.out 0; have hfz6_1 := blk_frozen BK232.out 1) | ((with_reducible refine gate_callee (f := 6) rfl ?_); refine goesL_ (some 15) rfl rfl Try.func6 (by kernel_rfl) rfl #[.agg #[.int .i64 a0_0, .int .i64 a0_1]] rfl (by (try simp only [List.map_toArray, List.map_cons, List.map_nil]); first | done | rfl | (simp only [List.length_drop, List.length_take]; rfl)) ?_; (with_reducible refine (laws_amountOf.calls k a0_0 a0_1 t233 t234 t237 t238 _ A3.out).mono ?_); rintro e w7 ⟨v235, rfl, ho0, hb⟩; refine ⟨_, rfl, ?_⟩; have n0_ := Aside0.mk (Kd.R_lower ho0 (below_size (by repeat (first | (with_reducible first | exact HB.out | apply below_alloc | apply pw_below_drewN | apply below_drew1 | refine below_set ?_ GE232.out) | exact HB.out)))); have n1_ := Aside0.mk (blk_below (g := gb232) (o := .cells #[.int .i64 a0_0, .int .i64 a0_1] 23 (0, 0)) (by (with_reducible repeat (first | refine blk_drewN ?_ _ | refine blk_drew ?_ | refine blk_alloc ?_ _)); exact BK232.out) hb); have n2_ := Aside0.mk (below_step (by repeat (first | (with_reducible first | exact HB.out | apply below_alloc | apply pw_below_drewN | apply below_drew1 | refine below_set ?_ GE232.out) | exact HB.out)) hb); clear BK232; clear HB; have HO236 := n0_; have BK232 := n1_; have HB := n2_; clear n0_ n1_ n2_; (try clear hb); (try clear hb2); (try clear hk); (try clear hi); (try clear ho0)) | ((with_reducible refine gate_dst (N := 5) rfl ?_); refine box_event ?hg (N := 5) ?hd (cs := #[.bool false, .slice none 0 0, .int .i64 0]) (t := 26) ?hr ?_; (case hd => rfl); (case hg => rfl); (case hr => first | (go_simp; done) | (go_simp; rfl)); intro gb239 hg w8 hbox hb; have n0_ := Aside0.mk (Kd.R_below (by (with_reducible repeat (first | apply Kd.R_alloc | apply Kd.R_drewN | apply Kd.R_drew)); exact HO236.out) hb); have n1_ := Aside0.mk (blk_below (g := gb232) (o := .cells #[.int .i64 a0_0, .int .i64 a0_1] 23 (0, 0)) (by (with_reducible repeat (first | refine blk_drewN ?_ _ | refine blk_drew ?_ | refine blk_alloc ?_ _)); exact BK232.out) hb); have n2_ := Aside0.mk (below_step (by repeat (first | (with_reducible first | exact HB.out | apply below_alloc | apply pw_below_drewN | apply below_drew1 | refine below_set ?_ GE232.out) | exact HB.out)) hb); have n3_ := Aside0.mk (hbox); have n4_ := Aside0.mk ((by rw [hg]; exact (below_size (by repeat (first | (with_reducible first | exact HB.out | apply below_alloc | apply pw_below_drewN | apply below_drew1 | refine below_set ?_ GE232.out) | exact HB.out))) : w.heap.size ≤ gb239)); have n5_ := Aside0.mk ((by rw [hg]; exact (below_size (by repeat (first | (with_reducible first | exact HB.out | apply below_alloc | apply pw_below_drewN | apply below_drew1 | refine below_set ?_ GE232.out) | exact HB.out))) : w.heap.size ≤ gb239)); have n6_ := Aside0.mk ((by rw [hg]; exact Nat.ne_of_lt (blk_lt (g := gb232) (o := .cells #[.int .i64 a0_0, .int .i64 a0_1] 23 (0, 0)) (by (with_reducible repeat (first | refine blk_drewN ?_ _ | refine blk_drew ?_ | refine blk_alloc ?_ _)); exact BK232.out)) : gb232 ≠ gb239)); have n7_ := Aside0.mk ((by rw [hg]; exact Nat.ne_of_gt (blk_lt (g := gb232) (o := .cells #[.int .i64 a0_0, .int .i64 a0_1] 23 (0, 0)) (by (with_reducible repeat (first | refine blk_drewN ?_ _ | refine blk_drew ?_ | refine blk_alloc ?_ _)); exact BK232.out)) : gb239 ≠ gb232)); clear HO236; clear BK232; clear HB; have HO236 := n0_; have BK232 := n1_; have HB := n2_; have BK239 := n3_; have GW239 := n4_; have GE239 := n5_; have NB232_239 := n6_; have NB239_232 := n7_; clear n0_ n1_ n2_ n3_ n4_ n5_ n6_ n7_; clear hb hbox hg; have hnb9 := NB239_232.out; have hnc9 := NB232_239.out; have hcz10_0 : w8.cell? ⟨gb239, 0, none⟩ = some (.bool false) := (blk_cell BK239.out 0).trans rfl; have hcz10_1 : w8.cell? ⟨gb239, 1, none⟩ = some (.slice none 0 0) := (blk_cell BK239.out 1).trans rfl; have hcz10_2 : w8.cell? ⟨gb239, 2, none⟩ = some (.int .i64 0) := (blk_cell BK239.out 2).trans rfl; have hfz10_0 := blk_frozen BK239.out 0; have hfz10_1 := blk_frozen BK239.out 1; have hfz10_2 := blk_frozen BK239.out 2; obtain ⟨Ao11, co11, eo11⟩ := Kd.R_slice HO236.out; subst eo11))
  (try simp only [Act.put, List.setIfInBounds_toArray, List.set_cons_zero, List.set_cons_succ])
  go_cut [32] (fun v32 wc => ∃ (kq : Nat) (x32_3 : Bool), v32 = .bool x32_3 ∧ Aside0 (laws_FnAmountScaled.j0 kq a1 x32_3 a0_0 a0_1 t233 t234 t237 = some r) ∧ Aside0 (kq ≤ k) ∧ Aside0 (Kd.R (Kd.int .i64) 3 wc w.heap.size (fun _ => True) (.slice Ao11 t234.length co11) t234) ∧ Aside0 (wc.heap[gb232]? = some (.cells #[.int .i64 a0_0, .int .i64 a0_1] 23 (0, 0))) ∧ Aside0 (wc.heap[gb239]? = some (.cells #[.bool t233, (.slice Ao11 t234.length co11), .int .i64 t237] 26 (0, 0))) ∧ Aside0 (Below w.heap.size w wc))
  case first =>
    have H := HC4.out
    clear HC4
    by_cases c12 : t238 = true
    · subst c12
      have H1 : (if a1 < (-500) then (laws_FnAmountScaled.j0 k a1 true a0_0 a0_1 t233 t234 t237) else (if a1 > 500 then (laws_FnAmountScaled.j0 k a1 true a0_0 a0_1 t233 t234 t237) else (laws_FnAmountScaled.j0 k a1 (a0_0 == (-9223372036854775808)) a0_0 a0_1 t233 t234 t237))) = some r := by rw [if_pos rfl] at H; exact H
      clear H
      have H := H1
      clear H1
      by_cases c13 : a1 < (-500)
      · rw [if_pos c13] at H
        have c13b0 : decide (a1 < (-500)) = true := decide_eq_true c13
        clear c13
        (first | rw [c13b0] | (simp only [i64_w, i32_w]; rw [c13b0]) | skip)
        have H' := Aside0.mk H
        clear H
        go_wp2
        go_meet
        case rel => exact ⟨_, (true), (by first | rfl | (simp; done) | (simp [*]; done)), H', ⟨by first | omega | exact Nat.le_refl _⟩, ⟨by (with_reducible repeat (first | apply Kd.R_alloc | apply Kd.R_drewN | apply Kd.R_drew)); exact Kd.R_mono (Kd.R_far (p := ⟨gb239, 2, none⟩) (Kd.R_far (p := ⟨gb239, 1, none⟩) (Kd.R_far (p := ⟨gb239, 0, none⟩) (Kd.R_types HO236.out BK239.out (by decide)) (fun _ hk => hk.2) (.bool t233)) (fun _ hk => hk.2) (.slice Ao11 t234.length co11)) (fun _ hk => hk.2) (.int .i64 t237)) (fun _ hk => trivial)⟩, ⟨by (with_reducible repeat (first | refine blk_drewN ?_ _ | refine blk_drew ?_ | refine blk_alloc ?_ _)); refine blk_far ?_ NB232_239.out _; (with_reducible repeat (first | refine blk_drewN ?_ _ | refine blk_drew ?_ | refine blk_alloc ?_ _)); refine blk_far ?_ NB232_239.out _; (with_reducible repeat (first | refine blk_drewN ?_ _ | refine blk_drew ?_ | refine blk_alloc ?_ _)); refine blk_far ?_ NB232_239.out _; (with_reducible repeat (first | refine blk_drewN ?_ _ | refine blk_drew ?_ | refine blk_alloc ?_ _)); exact BK232.out⟩, ⟨by (with_reducible repeat (first | refine blk_drewN ?_ _ | refine blk_drew ?_ | refine blk_alloc ?_ _)); refine blk_put (cs := #[.bool t233, .slice Ao11 t234.length co11, .int .i64 0]) ?_ 2 _ rfl; (with_reducible repeat (first | refine blk_drewN ?_ _ | refine blk_drew ?_ | refine blk_alloc ?_ _)); refine blk_put (cs := #[.bool t233, .slice none 0 0, .int .i64 0]) ?_ 1 _ rfl; (with_reducible repeat (first | refine blk_drewN ?_ _ | refine blk_drew ?_ | refine blk_alloc ?_ _)); refine blk_put (cs := #[.bool false, .slice none 0 0, .int .i64 0]) ?_ 0 _ rfl; (with_reducible repeat (first | refine blk_drewN ?_ _ | refine blk_drew ?_ | refine blk_alloc ?_ _)); exact BK239.out⟩, ⟨by repeat (first | (with_reducible first | exact HB.out | apply below_alloc | apply pw_below_drewN | apply below_drew1 | refine below_set ?_ GE232.out | refine below_set ?_ GE239.out) | exact HB.out)⟩⟩
      · rw [if_neg c13] at H
        have c13b0 : decide (a1 < (-500)) = false := decide_eq_false c13
        clear c13
        (first | rw [c13b0] | (simp only [i64_w, i32_w]; rw [c13b0]) | skip)
        by_cases c14 : a1 > 500
        · rw [if_pos c14] at H
          have c14b0 : decide (500 < a1) = true := decide_eq_true c14
          clear c14
          have H' := Aside0.mk H
          clear H
          go_wp2
          go_meet
          case rel => exact ⟨_, (true), (by first | rfl | (simp; done) | (simp [*]; done)), H', ⟨by first | omega | exact Nat.le_refl _⟩, ⟨by (with_reducible repeat (first | apply Kd.R_alloc | apply Kd.R_drewN | apply Kd.R_drew)); exact Kd.R_mono (Kd.R_far (p := ⟨gb239, 2, none⟩) (Kd.R_far (p := ⟨gb239, 1, none⟩) (Kd.R_far (p := ⟨gb239, 0, none⟩) (Kd.R_types HO236.out BK239.out (by decide)) (fun _ hk => hk.2) (.bool t233)) (fun _ hk => hk.2) (.slice Ao11 t234.length co11)) (fun _ hk => hk.2) (.int .i64 t237)) (fun _ hk => trivial)⟩, ⟨by (with_reducible repeat (first | refine blk_drewN ?_ _ | refine blk_drew ?_ | refine blk_alloc ?_ _)); refine blk_far ?_ NB232_239.out _; (with_reducible repeat (first | refine blk_drewN ?_ _ | refine blk_drew ?_ | refine blk_alloc ?_ _)); refine blk_far ?_ NB232_239.out _; (with_reducible repeat (first | refine blk_drewN ?_ _ | refine blk_drew ?_ | refine blk_alloc ?_ _)); refine blk_far ?_ NB232_239.out _; (with_reducible repeat (first | refine blk_drewN ?_ _ | refine blk_drew ?_ | refine blk_alloc ?_ _)); exact BK232.out⟩, ⟨by (with_reducible repeat (first | refine blk_drewN ?_ _ | refine blk_drew ?_ | refine blk_alloc ?_ _)); refine blk_put (cs := #[.bool t233, .slice Ao11 t234.length co11, .int .i64 0]) ?_ 2 _ rfl; (with_reducible repeat (first | refine blk_drewN ?_ _ | refine blk_drew ?_ | refine blk_alloc ?_ _)); refine blk_put (cs := #[.bool t233, .slice none 0 0, .int .i64 0]) ?_ 1 _ rfl; (with_reducible repeat (first | refine blk_drewN ?_ _ | refine blk_drew ?_ | refine blk_alloc ?_ _)); refine blk_put (cs := #[.bool false, .slice none 0 0, .int .i64 0]) ?_ 0 _ rfl; (with_reducible repeat (first | refine blk_drewN ?_ _ | refine blk_drew ?_ | refine blk_alloc ?_ _)); exact BK239.out⟩, ⟨by repeat (first | (with_reducible first | exact HB.out | apply below_alloc | apply pw_below_drewN | apply below_drew1 | refine below_set ?_ GE232.out | refine below_set ?_ GE239.out) | exact HB.out)⟩⟩
        · rw [if_neg c14] at H
          have c14b0 : decide (500 < a1) = false := decide_eq_false c14
          clear c14
          have H' := Aside0.mk H
          clear H
          have hnb15 := NB232_239.out
          have hnc15 := NB239_232.out
          have hcz16_0 : w8.cell? ⟨gb232, 0, none⟩ = some (.int .i64 a0_0) := (blk_cell BK232.out 0).trans rfl
          have hcz16_1 : w8.cell? ⟨gb232, 1, none⟩ = some (.int .i64 a0_1) := (blk_cell BK232.out 1).trans rfl
          have hfz16_0 := blk_frozen BK232.out 0
          have hfz16_1 := blk_frozen BK232.out 1
          go_wp2
          go_meet
          case rel => exact ⟨_, ((a0_0 == (-9223372036854775808))), (by first | rfl | (simp; done) | (simp [*]; done)), H', ⟨by first | omega | exact Nat.le_refl _⟩, ⟨by (with_reducible repeat (first | apply Kd.R_alloc | apply Kd.R_drewN | apply Kd.R_drew)); exact Kd.R_mono (Kd.R_far (p := ⟨gb239, 2, none⟩) (Kd.R_far (p := ⟨gb239, 1, none⟩) (Kd.R_far (p := ⟨gb239, 0, none⟩) (Kd.R_types HO236.out BK239.out (by decide)) (fun _ hk => hk.2) (.bool t233)) (fun _ hk => hk.2) (.slice Ao11 t234.length co11)) (fun _ hk => hk.2) (.int .i64 t237)) (fun _ hk => trivial)⟩, ⟨by (with_reducible repeat (first | refine blk_drewN ?_ _ | refine blk_drew ?_ | refine blk_alloc ?_ _)); refine blk_far ?_ NB232_239.out _; (with_reducible repeat (first | refine blk_drewN ?_ _ | refine blk_drew ?_ | refine blk_alloc ?_ _)); refine blk_far ?_ NB232_239.out _; (with_reducible repeat (first | refine blk_drewN ?_ _ | refine blk_drew ?_ | refine blk_alloc ?_ _)); refine blk_far ?_ NB232_239.out _; (with_reducible repeat (first | refine blk_drewN ?_ _ | refine blk_drew ?_ | refine blk_alloc ?_ _)); exact BK232.out⟩, ⟨by (with_reducible repeat (first | refine blk_drewN ?_ _ | refine blk_drew ?_ | refine blk_alloc ?_ _)); refine blk_put (cs := #[.bool t233, .slice Ao11 t234.length co11, .int .i64 0]) ?_ 2 _ rfl; (with_reducible repeat (first | refine blk_drewN ?_ _ | refine blk_drew ?_ | refine blk_alloc ?_ _)); refine blk_put (cs := #[.bool t233, .slice none 0 0, .int .i64 0]) ?_ 1 _ rfl; (with_reducible repeat (first | refine blk_drewN ?_ _ | refine blk_drew ?_ | refine blk_alloc ?_ _)); refine blk_put (cs := #[.bool false, .slice none 0 0, .int .i64 0]) ?_ 0 _ rfl; (with_reducible repeat (first | refine blk_drewN ?_ _ | refine blk_drew ?_ | refine blk_alloc ?_ _)); exact BK239.out⟩, ⟨by repeat (first | (with_reducible first | exact HB.out | apply below_alloc | apply pw_below_drewN | apply below_drew1 | refine below_set ?_ GE232.out | refine below_set ?_ GE239.out) | exact HB.out)⟩⟩
    · replace c12 := Bool.eq_false_iff.mpr c12
      subst c12
      have H1 : (laws_FnAmountScaled.j0 k a1 true a0_0 a0_1 t233 t234 t237) = some r := by rw [if_neg (show ¬ (false = true) by decide)] at H; exact H
      clear H
      have H := H1
      clear H1
      have H' := Aside0.mk H
      clear H
      go_wp2
      go_meet
      case rel => exact ⟨_, (true), (by first | rfl | (simp; done) | (simp [*]; done)), H', ⟨by first | omega | exact Nat.le_refl _⟩, ⟨by (with_reducible repeat (first | apply Kd.R_alloc | apply Kd.R_drewN | apply Kd.R_drew)); exact Kd.R_mono (Kd.R_far (p := ⟨gb239, 2, none⟩) (Kd.R_far (p := ⟨gb239, 1, none⟩) (Kd.R_far (p := ⟨gb239, 0, none⟩) (Kd.R_types HO236.out BK239.out (by decide)) (fun _ hk => hk.2) (.bool t233)) (fun _ hk => hk.2) (.slice Ao11 t234.length co11)) (fun _ hk => hk.2) (.int .i64 t237)) (fun _ hk => trivial)⟩, ⟨by (with_reducible repeat (first | refine blk_drewN ?_ _ | refine blk_drew ?_ | refine blk_alloc ?_ _)); refine blk_far ?_ NB232_239.out _; (with_reducible repeat (first | refine blk_drewN ?_ _ | refine blk_drew ?_ | refine blk_alloc ?_ _)); refine blk_far ?_ NB232_239.out _; (with_reducible repeat (first | refine blk_drewN ?_ _ | refine blk_drew ?_ | refine blk_alloc ?_ _)); refine blk_far ?_ NB232_239.out _; (with_reducible repeat (first | refine blk_drewN ?_ _ | refine blk_drew ?_ | refine blk_alloc ?_ _)); exact BK232.out⟩, ⟨by (with_reducible repeat (first | refine blk_drewN ?_ _ | refine blk_drew ?_ | refine blk_alloc ?_ _)); refine blk_put (cs := #[.bool t233, .slice Ao11 t234.length co11, .int .i64 0]) ?_ 2 _ rfl; (with_reducible repeat (first | refine blk_drewN ?_ _ | refine blk_drew ?_ | refine blk_alloc ?_ _)); refine blk_put (cs := #[.bool t233, .slice none 0 0, .int .i64 0]) ?_ 1 _ rfl; (with_reducible repeat (first | refine blk_drewN ?_ _ | refine blk_drew ?_ | refine blk_alloc ?_ _)); refine blk_put (cs := #[.bool false, .slice none 0 0, .int .i64 0]) ?_ 0 _ rfl; (with_reducible repeat (first | refine blk_drewN ?_ _ | refine blk_drew ?_ | refine blk_alloc ?_ _)); exact BK239.out⟩, ⟨by repeat (first | (with_reducible first | exact HB.out | apply below_alloc | apply pw_below_drewN | apply below_drew1 | refine below_set ?_ GE232.out | refine below_set ?_ GE239.out) | exact HB.out)⟩⟩
  case rest =>
    clear HC4
    try clear c1
    try clear p2
    try clear c4
    try clear c6
    try clear c9
    try clear c12
    try clear c13
    try clear c13b0
    try clear c14
    try clear c14b0
    try clear c15
    try clear hcz10_0
    try clear hcz10_1
    try clear hcz10_2
    try clear hcz16_0
    try clear hcz16_1
    try clear hcz6_0
    try clear hcz6_1
    try clear hfz10_0
    try clear hfz10_1
    try clear hfz10_2
    try clear hfz16_0
    try clear hfz16_1
    try clear hfz6_0
    try clear hfz6_1
    obtain ⟨kq, x32_3, rfl, HA, HJ3, HO_240001, BK232, BK239, HB⟩ := hcut
    cases kq with
    | zero => exact absurd HA.out (by simp [laws_FnAmountScaled.j0])
    | succ kj3 =>
      have H := HA.out
      clear HA
      simp only [laws_FnAmountScaled.j0] at H
      by_cases c17 : x32_3 = true
      · subst c17
        have H1 : (some true) = some r := by rw [if_pos rfl] at H; exact H
        clear H
        have H := H1
        clear H1
        obtain rfl := Option.some.inj H
        go_wp2
        go_ret
        exact ⟨by first | rfl | (simp [errW_none, errW_some] <;> rfl) | (simp [*, errW_none, errW_some] <;> rfl), by repeat (first | (with_reducible first | exact HB.out | apply below_alloc | apply pw_below_drewN | apply below_drew1 | refine below_set ?_ GE232.out | refine below_set ?_ GE239.out) | exact HB.out)⟩
      · replace c17 := Bool.eq_false_iff.mpr c17
        subst c17
        have H1 : ((impl_AmountScaled.f kj3 a0_0 a0_1 a1).bind fun bt240 => ((spec_DecimalUp.f kj3 t233 t234 t237 a1).bind fun bt242 => (if bt240.2 = true then ((spec_DecimalOf.f kj3 bt240.1 a1).bind fun bt249 => ((spec_DecimalCmp.f kj3 bt249.1 bt249.2.1 bt249.2.2 bt242.1 bt242.2.1 bt242.2.2.1).bind fun t254 => (laws_FnAmountScaled.j1 kj3 (t254 != 0) a0_0 a0_1))) else (laws_FnAmountScaled.j1 kj3 false a0_0 a0_1)))) = some r := by rw [if_neg (show ¬ (false = true) by decide)] at H; exact H
        clear H
        have H := H1
        clear H1
        replace H := Option.bind_eq_some_iff.mp H
        obtain ⟨⟨t240, t241⟩, A180, H⟩ := H
        replace H : ((spec_DecimalUp.f kj3 t233 t234 t237 a1).bind fun bt242 => (if t241 = true then ((spec_DecimalOf.f kj3 t240 a1).bind fun bt249 => ((spec_DecimalCmp.f kj3 bt249.1 bt249.2.1 bt249.2.2 bt242.1 bt242.2.1 bt242.2.2.1).bind fun t254 => (laws_FnAmountScaled.j1 kj3 (t254 != 0) a0_0 a0_1))) else (laws_FnAmountScaled.j1 kj3 false a0_0 a0_1))) = some r := H
        have A18 := Aside0.mk A180
        clear A180
        replace H := Option.bind_eq_some_iff.mp H
        obtain ⟨⟨t242, t243, t246, t247⟩, A190, H⟩ := H
        replace H : (if t241 = true then ((spec_DecimalOf.f kj3 t240 a1).bind fun bt249 => ((spec_DecimalCmp.f kj3 bt249.1 bt249.2.1 bt249.2.2 t242 t243 t246).bind fun t254 => (laws_FnAmountScaled.j1 kj3 (t254 != 0) a0_0 a0_1))) else (laws_FnAmountScaled.j1 kj3 false a0_0 a0_1)) = some r := H
        have A19 := Aside0.mk A190
        clear A190
        have HC20 := Aside0.mk H
        clear H
        have hnb21 := NB232_239.out
        have hnc21 := NB239_232.out
        have hcz22_0 : wc.cell? ⟨gb232, 0, none⟩ = some (.int .i64 a0_0) := (blk_cell BK232.out 0).trans rfl
        have hcz22_1 : wc.cell? ⟨gb232, 1, none⟩ = some (.int .i64 a0_1) := (blk_cell BK232.out 1).trans rfl
        have hfz22_0 := blk_frozen BK232.out 0
        have hfz22_1 := blk_frozen BK232.out 1
        go_upto_region 6 with (first | ((with_reducible refine gate_callee (f := 14) rfl ?_); refine goesL_ (some 36) rfl rfl Try.func14 (by kernel_rfl) rfl #[.agg #[.int .i64 a0_0, .int .i64 a0_1], .int .i64 a1] rfl (by (try simp only [List.map_toArray, List.map_cons, List.map_nil]); first | done | rfl | (simp only [List.length_drop, List.length_take]; rfl)) ?_; (with_reducible refine (impl_AmountScaled.calls kj3 a0_0 a0_1 a1 t240 t241 _ A18.out).mono ?_); rintro e w23 ⟨rfl, hb⟩; refine ⟨_, rfl, ?_⟩; have n0_ := Aside0.mk (Kd.R_below (by (with_reducible repeat (first | apply Kd.R_alloc | apply Kd.R_drewN | apply Kd.R_drew)); exact HO_240001.out) hb); have n1_ := Aside0.mk (blk_below (g := gb232) (o := .cells #[.int .i64 a0_0, .int .i64 a0_1] 23 (0, 0)) (by (with_reducible repeat (first | refine blk_drewN ?_ _ | refine blk_drew ?_ | refine blk_alloc ?_ _)); exact BK232.out) hb); have n2_ := Aside0.mk (blk_below (g := gb239) (o := .cells #[.bool t233, .slice Ao11 t234.length co11, .int .i64 t237] 26 (0, 0)) (by (with_reducible repeat (first | refine blk_drewN ?_ _ | refine blk_drew ?_ | refine blk_alloc ?_ _)); exact BK239.out) hb); have n3_ := Aside0.mk (below_step (by repeat (first | (with_reducible first | exact HB.out | apply below_alloc | apply pw_below_drewN | apply below_drew1 | refine below_set ?_ GE232.out | refine below_set ?_ GE239.out) | exact HB.out)) hb); clear HO_240001; clear BK232; clear BK239; clear HB; have HO_240001 := n0_; have BK232 := n1_; have BK239 := n2_; have HB := n3_; clear n0_ n1_ n2_ n3_; (try clear hb); (try clear hb2); (try clear hk); (try clear hi); have hcz24_0 : w23.cell? ⟨gb239, 0, none⟩ = some (.bool t233) := (blk_cell BK239.out 0).trans rfl; have hcz24_1 : w23.cell? ⟨gb239, 1, none⟩ = some (.slice Ao11 t234.length co11) := (blk_cell BK239.out 1).trans rfl; have hcz24_2 : w23.cell? ⟨gb239, 2, none⟩ = some (.int .i64 t237) := (blk_cell BK239.out 2).trans rfl; have hfz24_0 := blk_frozen BK239.out 0; have hfz24_1 := blk_frozen BK239.out 1; have hfz24_2 := blk_frozen BK239.out 2) | ((with_reducible refine gate_callee (f := 15) rfl ?_); refine goesL_ (some 42) rfl rfl Try.func15 (by kernel_rfl) rfl #[.agg #[.bool t233, .slice Ao11 t234.length co11, .int .i64 t237], .int .i64 a1] rfl (by (try simp only [List.map_toArray, List.map_cons, List.map_nil]); first | done | rfl | (simp only [List.length_drop, List.length_take]; rfl)) ?_; (with_reducible refine (spec_DecimalUp.calls kj3 t233 (fun k_ => some k_ = (.slice Ao11 t234.length co11 : Value).ownBlock) (.slice Ao11 t234.length co11) t234 t237 a1 t242 t243 t246 t247 w _ ?side1 ?side2 A19.out).mono ?_); (case side1 => repeat (first | (with_reducible first | exact HB.out | apply below_alloc | apply pw_below_drewN | apply below_drew1 | refine below_set ?_ GE232.out | refine below_set ?_ GE239.out) | exact HB.out)); (case side2 => exact Kd.R_tight rfl HO_240001.out); rintro e w25 ⟨v244, rfl, ho0, hb, hkp⟩; refine ⟨_, rfl, ?_⟩; have n0_ := Aside0.mk (blk_kept (by (with_reducible repeat (first | refine blk_drewN ?_ _ | refine blk_drew ?_ | refine blk_alloc ?_ _)); exact BK232.out) hkp (fun hs_ => (fun e_ => (Kd.R_ne HO_240001.out BK232.out (by decide)) e_) hs_)); have n1_ := Aside0.mk (blk_kept (by (with_reducible repeat (first | refine blk_drewN ?_ _ | refine blk_drew ?_ | refine blk_alloc ?_ _)); exact BK239.out) hkp (fun hs_ => (fun e_ => (Kd.R_ne HO_240001.out BK239.out (by decide)) e_) hs_)); have n2_ := Aside0.mk (Kd.R_mono (ok' := fun k_ => True) ho0 (fun k_ hk_ => trivial)); have n3_ := Aside0.mk (hb); clear BK232; clear BK239; clear HB; clear HO_240001; have BK232 := n0_; have BK239 := n1_; have HO245 := n2_; have HB := n3_; clear n0_ n1_ n2_ n3_; (try clear hb); (try clear hkp); (try clear ho0)) | ((with_reducible refine gate_dst (N := 9) rfl ?_); refine box_event ?hg (N := 9) ?hd (cs := #[.bool false, .slice none 0 0, .int .i64 0]) (t := 26) ?hr ?_; (case hd => rfl); (case hg => rfl); (case hr => first | (go_simp; done) | (go_simp; rfl)); intro gb248 hg w26 hbox hb; have n0_ := Aside0.mk (Kd.R_below (by (with_reducible repeat (first | apply Kd.R_alloc | apply Kd.R_drewN | apply Kd.R_drew)); exact HO245.out) hb); have n1_ := Aside0.mk (blk_below (g := gb232) (o := .cells #[.int .i64 a0_0, .int .i64 a0_1] 23 (0, 0)) (by (with_reducible repeat (first | refine blk_drewN ?_ _ | refine blk_drew ?_ | refine blk_alloc ?_ _)); exact BK232.out) hb); have n2_ := Aside0.mk (blk_below (g := gb239) (o := .cells #[.bool t233, .slice Ao11 t234.length co11, .int .i64 t237] 26 (0, 0)) (by (with_reducible repeat (first | refine blk_drewN ?_ _ | refine blk_drew ?_ | refine blk_alloc ?_ _)); exact BK239.out) hb); have n3_ := Aside0.mk (below_step (by repeat (first | (with_reducible first | exact HB.out | apply below_alloc | apply pw_below_drewN | apply below_drew1 | refine below_set ?_ GE232.out | refine below_set ?_ GE239.out) | exact HB.out)) hb); have n4_ := Aside0.mk (hbox); have n5_ := Aside0.mk ((by rw [hg]; exact (below_size (by repeat (first | (with_reducible first | exact HB.out | apply below_alloc | apply pw_below_drewN | apply below_drew1 | refine below_set ?_ GE232.out | refine below_set ?_ GE239.out) | exact HB.out))) : w.heap.size ≤ gb248)); have n6_ := Aside0.mk ((by rw [hg]; exact (below_size (by repeat (first | (with_reducible first | exact HB.out | apply below_alloc | apply pw_below_drewN | apply below_drew1 | refine below_set ?_ GE232.out | refine below_set ?_ GE239.out) | exact HB.out))) : w.heap.size ≤ gb248)); have n7_ := Aside0.mk ((by rw [hg]; exact Nat.ne_of_lt (blk_lt (g := gb232) (o := .cells #[.int .i64 a0_0, .int .i64 a0_1] 23 (0, 0)) (by (with_reducible repeat (first | refine blk_drewN ?_ _ | refine blk_drew ?_ | refine blk_alloc ?_ _)); exact BK232.out)) : gb232 ≠ gb248)); have n8_ := Aside0.mk ((by rw [hg]; exact Nat.ne_of_gt (blk_lt (g := gb232) (o := .cells #[.int .i64 a0_0, .int .i64 a0_1] 23 (0, 0)) (by (with_reducible repeat (first | refine blk_drewN ?_ _ | refine blk_drew ?_ | refine blk_alloc ?_ _)); exact BK232.out)) : gb248 ≠ gb232)); have n9_ := Aside0.mk ((by rw [hg]; exact Nat.ne_of_lt (blk_lt (g := gb239) (o := .cells #[.bool t233, .slice Ao11 t234.length co11, .int .i64 t237] 26 (0, 0)) (by (with_reducible repeat (first | refine blk_drewN ?_ _ | refine blk_drew ?_ | refine blk_alloc ?_ _)); exact BK239.out)) : gb239 ≠ gb248)); have n10_ := Aside0.mk ((by rw [hg]; exact Nat.ne_of_gt (blk_lt (g := gb239) (o := .cells #[.bool t233, .slice Ao11 t234.length co11, .int .i64 t237] 26 (0, 0)) (by (with_reducible repeat (first | refine blk_drewN ?_ _ | refine blk_drew ?_ | refine blk_alloc ?_ _)); exact BK239.out)) : gb248 ≠ gb239)); clear HO245; clear BK232; clear BK239; clear HB; have HO245 := n0_; have BK232 := n1_; have BK239 := n2_; have HB := n3_; have BK248 := n4_; have GW248 := n5_; have GE248 := n6_; have NB232_248 := n7_; have NB248_232 := n8_; have NB239_248 := n9_; have NB248_239 := n10_; clear n0_ n1_ n2_ n3_ n4_ n5_ n6_ n7_ n8_ n9_ n10_; clear hb hbox hg; have hnb27 := NB248_232.out; have hnc27 := NB232_248.out; have hnb28 := NB248_239.out; have hnc28 := NB239_248.out; have hcz29_0 : w26.cell? ⟨gb248, 0, none⟩ = some (.bool false) := (blk_cell BK248.out 0).trans rfl; have hcz29_1 : w26.cell? ⟨gb248, 1, none⟩ = some (.slice none 0 0) := (blk_cell BK248.out 1).trans rfl; have hcz29_2 : w26.cell? ⟨gb248, 2, none⟩ = some (.int .i64 0) := (blk_cell BK248.out 2).trans rfl; have hfz29_0 := blk_frozen BK248.out 0; have hfz29_1 := blk_frozen BK248.out 1; have hfz29_2 := blk_frozen BK248.out 2; obtain ⟨Ao30, co30, eo30⟩ := Kd.R_slice HO245.out; subst eo30))
        (try simp only [Act.put, List.setIfInBounds_toArray, List.set_cons_zero, List.set_cons_succ])
        go_cut [53] (fun v53 wc => ∃ (kq : Nat) (x53_19 : Bool), v53 = .bool x53_19 ∧ Aside0 (laws_FnAmountScaled.j1 kq x53_19 a0_0 a0_1 = some r) ∧ Aside0 (kq ≤ kj3) ∧ Aside0 (Kd.R (Kd.int .i64) 3 wc w.heap.size (fun _ => True) (.slice Ao30 t243.length co30) t243) ∧ Aside0 (wc.heap[gb232]? = some (.cells #[.int .i64 a0_0, .int .i64 a0_1] 23 (0, 0))) ∧ Aside0 (wc.heap[gb248]? = some (.cells #[.bool t242, (.slice Ao30 t243.length co30), .int .i64 t246] 26 (0, 0))) ∧ Aside0 (Below w.heap.size w wc))
        case first =>
          have H := HC20.out
          clear HC20
          by_cases c31 : t241 = true
          · subst c31
            have H1 : ((spec_DecimalOf.f kj3 t240 a1).bind fun bt249 => ((spec_DecimalCmp.f kj3 bt249.1 bt249.2.1 bt249.2.2 t242 t243 t246).bind fun t254 => (laws_FnAmountScaled.j1 kj3 (t254 != 0) a0_0 a0_1))) = some r := by rw [if_pos rfl] at H; exact H
            clear H
            have H := H1
            clear H1
            replace H := Option.bind_eq_some_iff.mp H
            obtain ⟨⟨t249, t250, t253⟩, A320, H⟩ := H
            replace H : ((spec_DecimalCmp.f kj3 t249 t250 t253 t242 t243 t246).bind fun t254 => (laws_FnAmountScaled.j1 kj3 (t254 != 0) a0_0 a0_1)) = some r := H
            have A32 := Aside0.mk A320
            clear A320
            replace H := Option.bind_eq_some_iff.mp H
            obtain ⟨t254, A330, H⟩ := H
            replace H : (laws_FnAmountScaled.j1 kj3 (t254 != 0) a0_0 a0_1) = some r := H
            have A33 := Aside0.mk A330
            clear A330
            have H' := Aside0.mk H
            clear H
            try go_wp2
            have n0_ : Aside0 (Kd.R (Kd.int .i64) 3 (((w26.setCell ⟨gb248, 0, none⟩ (.bool t242)).setCell ⟨gb248, 1, none⟩ (.slice Ao30 t243.length co30)).setCell ⟨gb248, 2, none⟩ (.int .i64 t246)) w.heap.size (fun _ => True) (.slice Ao30 t243.length co30) t243) := ⟨by (with_reducible repeat (first | apply Kd.R_alloc | apply Kd.R_drewN | apply Kd.R_drew)); exact Kd.R_mono (Kd.R_far (p := ⟨gb248, 2, none⟩) (Kd.R_far (p := ⟨gb248, 1, none⟩) (Kd.R_far (p := ⟨gb248, 0, none⟩) (Kd.R_types HO245.out BK248.out (by decide)) (fun _ hk => hk.2) (.bool t242)) (fun _ hk => hk.2) (.slice Ao30 t243.length co30)) (fun _ hk => hk.2) (.int .i64 t246)) (fun _ hk => trivial)⟩
            have n1_ : Aside0 ((((w26.setCell ⟨gb248, 0, none⟩ (.bool t242)).setCell ⟨gb248, 1, none⟩ (.slice Ao30 t243.length co30)).setCell ⟨gb248, 2, none⟩ (.int .i64 t246)).heap[gb232]? = some (.cells #[.int .i64 a0_0, .int .i64 a0_1] 23 (0, 0))) := ⟨by (with_reducible repeat (first | refine blk_drewN ?_ _ | refine blk_drew ?_ | refine blk_alloc ?_ _)); refine blk_far ?_ NB232_248.out _; (with_reducible repeat (first | refine blk_drewN ?_ _ | refine blk_drew ?_ | refine blk_alloc ?_ _)); refine blk_far ?_ NB232_248.out _; (with_reducible repeat (first | refine blk_drewN ?_ _ | refine blk_drew ?_ | refine blk_alloc ?_ _)); refine blk_far ?_ NB232_248.out _; (with_reducible repeat (first | refine blk_drewN ?_ _ | refine blk_drew ?_ | refine blk_alloc ?_ _)); exact BK232.out⟩
            have n2_ : Aside0 ((((w26.setCell ⟨gb248, 0, none⟩ (.bool t242)).setCell ⟨gb248, 1, none⟩ (.slice Ao30 t243.length co30)).setCell ⟨gb248, 2, none⟩ (.int .i64 t246)).heap[gb239]? = some (.cells #[.bool t233, .slice Ao11 t234.length co11, .int .i64 t237] 26 (0, 0))) := ⟨by (with_reducible repeat (first | refine blk_drewN ?_ _ | refine blk_drew ?_ | refine blk_alloc ?_ _)); refine blk_far ?_ NB239_248.out _; (with_reducible repeat (first | refine blk_drewN ?_ _ | refine blk_drew ?_ | refine blk_alloc ?_ _)); refine blk_far ?_ NB239_248.out _; (with_reducible repeat (first | refine blk_drewN ?_ _ | refine blk_drew ?_ | refine blk_alloc ?_ _)); refine blk_far ?_ NB239_248.out _; (with_reducible repeat (first | refine blk_drewN ?_ _ | refine blk_drew ?_ | refine blk_alloc ?_ _)); exact BK239.out⟩
            have n3_ : Aside0 ((((w26.setCell ⟨gb248, 0, none⟩ (.bool t242)).setCell ⟨gb248, 1, none⟩ (.slice Ao30 t243.length co30)).setCell ⟨gb248, 2, none⟩ (.int .i64 t246)).heap[gb248]? = some (.cells #[.bool t242, .slice Ao30 t243.length co30, .int .i64 t246] 26 (0, 0))) := ⟨by (with_reducible repeat (first | refine blk_drewN ?_ _ | refine blk_drew ?_ | refine blk_alloc ?_ _)); refine blk_put (cs := #[.bool t242, .slice Ao30 t243.length co30, .int .i64 0]) ?_ 2 _ rfl; (with_reducible repeat (first | refine blk_drewN ?_ _ | refine blk_drew ?_ | refine blk_alloc ?_ _)); refine blk_put (cs := #[.bool t242, .slice none 0 0, .int .i64 0]) ?_ 1 _ rfl; (with_reducible repeat (first | refine blk_drewN ?_ _ | refine blk_drew ?_ | refine blk_alloc ?_ _)); refine blk_put (cs := #[.bool false, .slice none 0 0, .int .i64 0]) ?_ 0 _ rfl; (with_reducible repeat (first | refine blk_drewN ?_ _ | refine blk_drew ?_ | refine blk_alloc ?_ _)); exact BK248.out⟩
            have n4_ : Aside0 (Below w.heap.size w (((w26.setCell ⟨gb248, 0, none⟩ (.bool t242)).setCell ⟨gb248, 1, none⟩ (.slice Ao30 t243.length co30)).setCell ⟨gb248, 2, none⟩ (.int .i64 t246))) := ⟨by repeat (first | (with_reducible first | exact HB.out | apply below_alloc | apply pw_below_drewN | apply below_drew1 | refine below_set ?_ GE232.out | refine below_set ?_ GE239.out | refine below_set ?_ GE248.out) | exact HB.out)⟩
            (try clear HO245)
            (try clear BK232)
            (try clear BK239)
            (try clear BK248)
            (try clear HB)
            generalize (((w26.setCell ⟨gb248, 0, none⟩ (.bool t242)).setCell ⟨gb248, 1, none⟩ (.slice Ao30 t243.length co30)).setCell ⟨gb248, 2, none⟩ (.int .i64 t246)) = w34 at n0_ n1_ n2_ n3_ n4_ ⊢
            have HO245 := n0_
            have BK232 := n1_
            have BK239 := n2_
            have BK248 := n3_
            have HB := n4_
            clear n0_ n1_ n2_ n3_ n4_
            have n0_ := Aside0.mk (Kd.R_drew HO245.out)
            have n1_ := Aside0.mk (blk_drew BK232.out)
            have n2_ := Aside0.mk (blk_drew BK239.out)
            have n3_ := Aside0.mk (blk_drew BK248.out)
            have n4_ := Aside0.mk (below_drew1 HB.out)
            clear HO245
            clear BK232
            clear BK239
            clear BK248
            clear HB
            have HO245 := n0_
            have BK232 := n1_
            have BK239 := n2_
            have BK248 := n3_
            have HB := n4_
            clear n0_ n1_ n2_ n3_ n4_
            refine start_ (n := 9) (S := fun w' => w'.cell? ⟨gb248, 0, none⟩ = some (.bool t242) ∧ w'.cell? ⟨gb248, 1, none⟩ = some (.slice Ao30 t243.length co30) ∧ w'.cell? ⟨gb248, 2, none⟩ = some (.int .i64 t246)) (ds := []) #[false, false, false, false, false, false, false, false, false] (by kernel_rfl) rfl rfl ⟨(blk_cell BK248.out 0).trans rfl, (blk_cell BK248.out 1).trans rfl, (blk_cell BK248.out 2).trans rfl⟩ (fun hHeld => ?_); refine with_tabW laws_FnAmountScaled.tab6 laws_FnAmountScaled.bits6 (fun HT_ HW_ => ?_)
            generalize w34.drew = w35 at HO245 BK232 BK239 BK248 HB hHeld ⊢
            refine pure_ (i := 0) (N := some 45) (v := ?_) (a' := ?_) #[true, false, false, false, false, false, false, false, false] rfl rfl (any_of HT_.out (by kernel_rfl)) (fun _ _ _ h => h) (Or.inl ⟨by rfl, ?_⟩) ?_ ?_
            rotate_left
            · intro w'
              go_simp
              with_reducible rfl
            rotate_left
            · simp only [Act.put, List.setIfInBounds_toArray, List.set_cons_zero, List.set_cons_succ, i64_w, i32_w]
              rfl
            refine pure_ (i := 1) (N := some 46) (v := ?_) (a' := ?_) #[true, true, false, false, false, false, false, false, false] rfl rfl (any_of HT_.out (by kernel_rfl)) (fun _ _ _ h => h) (Or.inl ⟨by rfl, ?_⟩) ?_ ?_
            rotate_left
            · intro w'
              go_simp
              with_reducible rfl
            rotate_left
            · simp only [Act.put, List.setIfInBounds_toArray, List.set_cons_zero, List.set_cons_succ, i64_w, i32_w]
              rfl
            refine pure_ (i := 2) (N := some 47) (v := ?_) (a' := ?_) #[true, true, true, false, false, false, false, false, false] rfl rfl (any_of HT_.out (by kernel_rfl)) (fun _ _ _ h => h) (Or.inl ⟨by rfl, ?_⟩) ?_ ?_
            rotate_left
            · intro w'
              go_simp
              with_reducible rfl
            rotate_left
            · simp only [Act.put, List.setIfInBounds_toArray, List.set_cons_zero, List.set_cons_succ, i64_w, i32_w]
              rfl
            refine pure_ (i := 3) (N := some 48) (v := ?_) (a' := ?_) #[true, true, true, true, false, false, false, false, false] rfl rfl (any_of HT_.out (by kernel_rfl)) (fun _ _ _ h => h) (Or.inl ⟨by rfl, ?_⟩) ?_ ?_
            rotate_left
            · intro w'
              go_simp
              with_reducible rfl
            rotate_left
            · simp only [Act.put, List.setIfInBounds_toArray, List.set_cons_zero, List.set_cons_succ, i64_w, i32_w]
              rfl
            refine take_ (i := 5) (N := some 50) (v := ?_) (a' := ?_) #[true, true, true, true, false, true, false, false, false] rfl rfl (take_ofW HT_.out HW_.out (by kernel_rfl)) (fun _ _ _ h => h) (Or.inl ⟨by rfl, ?_⟩) hHeld ?_ ?_
            rotate_left
            · rintro w' ⟨s0, s1, s2⟩
              go_simp
              with_reducible rfl
            rotate_left
            · simp only [Act.put, List.setIfInBounds_toArray, List.set_cons_zero, List.set_cons_succ, i64_w, i32_w]
              rfl
            refine one_ (i := 4) (N := some 49) #[true, true, true, true, true, true, false, false, false] rfl rfl (one_of HT_.out (by kernel_rfl)) (by decide) (fun K hK => ?_)
            refine goes_ Try.func12 (by kernel_rfl) rfl #[.int .i64 t240, .int .i64 a1] (by rfl) rfl rfl (by (try simp only [List.map_toArray, List.map_cons, List.map_nil]); first | done | rfl | (simp only [List.length_drop, List.length_take]; rfl)) ?_
            with_reducible refine (spec_DecimalOf.calls kj3 t240 a1 t249 t250 t253 _ A32.out).mono ?_
            rintro e w36 ⟨v251, rfl, ho0, hb⟩
            refine ⟨_, rfl, ?_⟩
            have n0_ := Aside0.mk (Kd.R_elder' (by (with_reducible repeat (first | apply Kd.R_alloc | apply Kd.R_drewN | apply Kd.R_drew)); exact HO245.out) (Kd.R_base ho0) hb)
            have n1_ := Aside0.mk (Kd.R_lower (Kd.R_new' ho0 (Kd.R_lt (by (with_reducible repeat (first | apply Kd.R_alloc | apply Kd.R_drewN | apply Kd.R_drew)); exact HO245.out))) (below_size (by repeat (first | (with_reducible first | exact HB.out | apply below_alloc | apply pw_below_drewN | apply below_drew1 | refine below_set ?_ GE232.out | refine below_set ?_ GE239.out | refine below_set ?_ GE248.out) | exact HB.out))))
            have n2_ := Aside0.mk (blk_below (g := gb232) (o := .cells #[.int .i64 a0_0, .int .i64 a0_1] 23 (0, 0)) (by (with_reducible repeat (first | refine blk_drewN ?_ _ | refine blk_drew ?_ | refine blk_alloc ?_ _)); exact BK232.out) hb)
            have n3_ := Aside0.mk (blk_below (g := gb239) (o := .cells #[.bool t233, .slice Ao11 t234.length co11, .int .i64 t237] 26 (0, 0)) (by (with_reducible repeat (first | refine blk_drewN ?_ _ | refine blk_drew ?_ | refine blk_alloc ?_ _)); exact BK239.out) hb)
            have n4_ := Aside0.mk (blk_below (g := gb248) (o := .cells #[.bool t242, .slice Ao30 t243.length co30, .int .i64 t246] 26 (0, 0)) (by (with_reducible repeat (first | refine blk_drewN ?_ _ | refine blk_drew ?_ | refine blk_alloc ?_ _)); exact BK248.out) hb)
            have n5_ := Aside0.mk (below_step (by repeat (first | (with_reducible first | exact HB.out | apply below_alloc | apply pw_below_drewN | apply below_drew1 | refine below_set ?_ GE232.out | refine below_set ?_ GE239.out | refine below_set ?_ GE248.out) | exact HB.out)) hb)
            clear HO245
            clear BK232
            clear BK239
            clear BK248
            clear HB
            have HO245 := n0_
            have HO252 := n1_
            have BK232 := n2_
            have BK239 := n3_
            have BK248 := n4_
            have HB := n5_
            clear n0_ n1_ n2_ n3_ n4_ n5_
            (try clear hb)
            (try clear hb2)
            (try clear hk)
            (try clear hi)
            (try clear ho0)
            obtain ⟨Ao37, co37, eo37⟩ := Kd.R_slice HO252.out
            (first | subst eo37 | (injection eo37 with f1_ f2_ f3_; have f4_ := f1_.symm; have f5_ := f3_.symm; clear f1_ f2_ f3_; subst f4_; subst f5_))
            refine hK.out _ _ ⟨(blk_cell BK248.out 0).trans rfl, (blk_cell BK248.out 1).trans rfl, (blk_cell BK248.out 2).trans rfl⟩ (fun hHeld => ?_)
            clear hK K
            refine norm_ (a' := ?_) ?_ ?_
            rotate_left
            · show Act.put _ (some 49) _ = _
              simp only [Act.put, List.setIfInBounds_toArray, List.set_cons_zero, List.set_cons_succ, i64_w, i32_w]
              rfl
            refine one_ (i := 6) (N := some 51) #[true, true, true, true, true, true, true, false, false] rfl rfl (one_of HT_.out (by kernel_rfl)) (by decide) (fun K hK => ?_)
            refine goes_ Try.func16 (by kernel_rfl) rfl #[.agg #[.bool t249, .slice Ao37 t250.length co37, .int .i64 t253], .agg #[.bool t242, .slice Ao30 t243.length co30, .int .i64 t246]] (by rfl) rfl rfl (by (try simp only [List.map_toArray, List.map_cons, List.map_nil]); first | done | rfl | (simp only [List.length_drop, List.length_take]; rfl)) ?_
            with_reducible refine (spec_DecimalCmp.calls kj3 t249 _ _ t250 t253 t242 _ _ t243 t246 t254 _ ?side1 ?side2 ?side3 ?side4 A33.out).mono ?_
            (case side1 => repeat (first | exact (Kd.R_reads' HO252.out).2.2 | (with_reducible refine Kd.C_alloc ?_ _) | (with_reducible refine Kd.C_drewN ?_ _) | (with_reducible refine Kd.C_drew ?_)))
            (case side2 => exact (Kd.R_reads' HO252.out).2.1)
            (case side3 => repeat (first | exact (Kd.R_reads' HO245.out).2.2 | (with_reducible refine Kd.C_alloc ?_ _) | (with_reducible refine Kd.C_drewN ?_ _) | (with_reducible refine Kd.C_drew ?_)))
            (case side4 => exact (Kd.R_reads' HO245.out).2.1)
            rintro e w38 ⟨rfl, hb⟩
            refine ⟨_, rfl, ?_⟩
            have n0_ := Aside0.mk (Kd.R_below (by (with_reducible repeat (first | apply Kd.R_alloc | apply Kd.R_drewN | apply Kd.R_drew)); exact HO245.out) hb)
            have n1_ := Aside0.mk (Kd.R_below (by (with_reducible repeat (first | apply Kd.R_alloc | apply Kd.R_drewN | apply Kd.R_drew)); exact HO252.out) hb)
            have n2_ := Aside0.mk (blk_below (g := gb232) (o := .cells #[.int .i64 a0_0, .int .i64 a0_1] 23 (0, 0)) (by (with_reducible repeat (first | refine blk_drewN ?_ _ | refine blk_drew ?_ | refine blk_alloc ?_ _)); exact BK232.out) hb)
            have n3_ := Aside0.mk (blk_below (g := gb239) (o := .cells #[.bool t233, .slice Ao11 t234.length co11, .int .i64 t237] 26 (0, 0)) (by (with_reducible repeat (first | refine blk_drewN ?_ _ | refine blk_drew ?_ | refine blk_alloc ?_ _)); exact BK239.out) hb)
            have n4_ := Aside0.mk (blk_below (g := gb248) (o := .cells #[.bool t242, .slice Ao30 t243.length co30, .int .i64 t246] 26 (0, 0)) (by (with_reducible repeat (first | refine blk_drewN ?_ _ | refine blk_drew ?_ | refine blk_alloc ?_ _)); exact BK248.out) hb)
            have n5_ := Aside0.mk (below_step (by repeat (first | (with_reducible first | exact HB.out | apply below_alloc | apply pw_below_drewN | apply below_drew1 | refine below_set ?_ GE232.out | refine below_set ?_ GE239.out | refine below_set ?_ GE248.out) | exact HB.out)) hb)
            clear HO245
            clear HO252
            clear BK232
            clear BK239
            clear BK248
            clear HB
            have HO245 := n0_
            have HO252 := n1_
            have BK232 := n2_
            have BK239 := n3_
            have BK248 := n4_
            have HB := n5_
            clear n0_ n1_ n2_ n3_ n4_ n5_
            (try clear hb)
            (try clear hb2)
            (try clear hk)
            (try clear hi)
            refine hK.out _ _ ⟨(blk_cell BK248.out 0).trans rfl, (blk_cell BK248.out 1).trans rfl, (blk_cell BK248.out 2).trans rfl⟩ (fun hHeld => ?_)
            clear hK K
            refine norm_ (a' := ?_) ?_ ?_
            rotate_left
            · show Act.put _ (some 51) _ = _
              simp only [Act.put, List.setIfInBounds_toArray, List.set_cons_zero, List.set_cons_succ, i64_w, i32_w]
              rfl
            refine pure_ (i := 7) (N := some 52) (v := ?_) (a' := ?_) #[true, true, true, true, true, true, true, true, false] rfl rfl (any_of HT_.out (by kernel_rfl)) (fun _ _ _ h => h) (Or.inl ⟨by rfl, ?_⟩) ?_ ?_
            rotate_left
            · intro w'
              go_simp
              with_reducible rfl
            rotate_left
            · simp only [Act.put, List.setIfInBounds_toArray, List.set_cons_zero, List.set_cons_succ, i64_w, i32_w]
              rfl
            refine pure_ (i := 8) (N := some 53) (v := ?_) (a' := ?_) #[true, true, true, true, true, true, true, true, true] rfl rfl (any_of HT_.out (by kernel_rfl)) (fun _ _ _ h => h) (Or.inl ⟨by rfl, ?_⟩) ?_ ?_
            rotate_left
            · intro w'
              go_simp
              with_reducible rfl
            rotate_left
            · simp only [Act.put, List.setIfInBounds_toArray, List.set_cons_zero, List.set_cons_succ, i64_w, i32_w]
              rfl
            refine done_ (done_of HT_.out (by kernel_rfl)) ?_
            try go_wp2
            go_meet
            case rel => exact ⟨_, ((t254 != 0)), (by first | rfl | (simp; done) | (simp [*]; done)), H', ⟨by have := HJ3.out; first | omega | exact Nat.le_refl _⟩, ⟨by (with_reducible repeat (first | apply Kd.R_alloc | apply Kd.R_drewN | apply Kd.R_drew)); exact Kd.R_mono HO245.out (fun _ hk => trivial)⟩, ⟨by (with_reducible repeat (first | refine blk_drewN ?_ _ | refine blk_drew ?_ | refine blk_alloc ?_ _)); exact BK232.out⟩, ⟨by (with_reducible repeat (first | refine blk_drewN ?_ _ | refine blk_drew ?_ | refine blk_alloc ?_ _)); exact BK248.out⟩, ⟨by repeat (first | (with_reducible first | exact HB.out | apply below_alloc | apply pw_below_drewN | apply below_drew1 | refine below_set ?_ GE232.out | refine below_set ?_ GE239.out | refine below_set ?_ GE248.out) | exact HB.out)⟩⟩
          · replace c31 := Bool.eq_false_iff.mpr c31
            subst c31
            have H1 : (laws_FnAmountScaled.j1 kj3 false a0_0 a0_1) = some r := by rw [if_neg (show ¬ (false = true) by decide)] at H; exact H
            clear H
            have H := H1
            clear H1
            have H' := Aside0.mk H
            clear H
            try go_wp2
            have n0_ : Aside0 (Kd.R (Kd.int .i64) 3 (((w26.setCell ⟨gb248, 0, none⟩ (.bool t242)).setCell ⟨gb248, 1, none⟩ (.slice Ao30 t243.length co30)).setCell ⟨gb248, 2, none⟩ (.int .i64 t246)) w.heap.size (fun _ => True) (.slice Ao30 t243.length co30) t243) := ⟨by (with_reducible repeat (first | apply Kd.R_alloc | apply Kd.R_drewN | apply Kd.R_drew)); exact Kd.R_mono (Kd.R_far (p := ⟨gb248, 2, none⟩) (Kd.R_far (p := ⟨gb248, 1, none⟩) (Kd.R_far (p := ⟨gb248, 0, none⟩) (Kd.R_types HO245.out BK248.out (by decide)) (fun _ hk => hk.2) (.bool t242)) (fun _ hk => hk.2) (.slice Ao30 t243.length co30)) (fun _ hk => hk.2) (.int .i64 t246)) (fun _ hk => trivial)⟩
            have n1_ : Aside0 ((((w26.setCell ⟨gb248, 0, none⟩ (.bool t242)).setCell ⟨gb248, 1, none⟩ (.slice Ao30 t243.length co30)).setCell ⟨gb248, 2, none⟩ (.int .i64 t246)).heap[gb232]? = some (.cells #[.int .i64 a0_0, .int .i64 a0_1] 23 (0, 0))) := ⟨by (with_reducible repeat (first | refine blk_drewN ?_ _ | refine blk_drew ?_ | refine blk_alloc ?_ _)); refine blk_far ?_ NB232_248.out _; (with_reducible repeat (first | refine blk_drewN ?_ _ | refine blk_drew ?_ | refine blk_alloc ?_ _)); refine blk_far ?_ NB232_248.out _; (with_reducible repeat (first | refine blk_drewN ?_ _ | refine blk_drew ?_ | refine blk_alloc ?_ _)); refine blk_far ?_ NB232_248.out _; (with_reducible repeat (first | refine blk_drewN ?_ _ | refine blk_drew ?_ | refine blk_alloc ?_ _)); exact BK232.out⟩
            have n2_ : Aside0 ((((w26.setCell ⟨gb248, 0, none⟩ (.bool t242)).setCell ⟨gb248, 1, none⟩ (.slice Ao30 t243.length co30)).setCell ⟨gb248, 2, none⟩ (.int .i64 t246)).heap[gb239]? = some (.cells #[.bool t233, .slice Ao11 t234.length co11, .int .i64 t237] 26 (0, 0))) := ⟨by (with_reducible repeat (first | refine blk_drewN ?_ _ | refine blk_drew ?_ | refine blk_alloc ?_ _)); refine blk_far ?_ NB239_248.out _; (with_reducible repeat (first | refine blk_drewN ?_ _ | refine blk_drew ?_ | refine blk_alloc ?_ _)); refine blk_far ?_ NB239_248.out _; (with_reducible repeat (first | refine blk_drewN ?_ _ | refine blk_drew ?_ | refine blk_alloc ?_ _)); refine blk_far ?_ NB239_248.out _; (with_reducible repeat (first | refine blk_drewN ?_ _ | refine blk_drew ?_ | refine blk_alloc ?_ _)); exact BK239.out⟩
            have n3_ : Aside0 ((((w26.setCell ⟨gb248, 0, none⟩ (.bool t242)).setCell ⟨gb248, 1, none⟩ (.slice Ao30 t243.length co30)).setCell ⟨gb248, 2, none⟩ (.int .i64 t246)).heap[gb248]? = some (.cells #[.bool t242, .slice Ao30 t243.length co30, .int .i64 t246] 26 (0, 0))) := ⟨by (with_reducible repeat (first | refine blk_drewN ?_ _ | refine blk_drew ?_ | refine blk_alloc ?_ _)); refine blk_put (cs := #[.bool t242, .slice Ao30 t243.length co30, .int .i64 0]) ?_ 2 _ rfl; (with_reducible repeat (first | refine blk_drewN ?_ _ | refine blk_drew ?_ | refine blk_alloc ?_ _)); refine blk_put (cs := #[.bool t242, .slice none 0 0, .int .i64 0]) ?_ 1 _ rfl; (with_reducible repeat (first | refine blk_drewN ?_ _ | refine blk_drew ?_ | refine blk_alloc ?_ _)); refine blk_put (cs := #[.bool false, .slice none 0 0, .int .i64 0]) ?_ 0 _ rfl; (with_reducible repeat (first | refine blk_drewN ?_ _ | refine blk_drew ?_ | refine blk_alloc ?_ _)); exact BK248.out⟩
            have n4_ : Aside0 (Below w.heap.size w (((w26.setCell ⟨gb248, 0, none⟩ (.bool t242)).setCell ⟨gb248, 1, none⟩ (.slice Ao30 t243.length co30)).setCell ⟨gb248, 2, none⟩ (.int .i64 t246))) := ⟨by repeat (first | (with_reducible first | exact HB.out | apply below_alloc | apply pw_below_drewN | apply below_drew1 | refine below_set ?_ GE232.out | refine below_set ?_ GE239.out | refine below_set ?_ GE248.out) | exact HB.out)⟩
            (try clear HO245)
            (try clear BK232)
            (try clear BK239)
            (try clear BK248)
            (try clear HB)
            generalize (((w26.setCell ⟨gb248, 0, none⟩ (.bool t242)).setCell ⟨gb248, 1, none⟩ (.slice Ao30 t243.length co30)).setCell ⟨gb248, 2, none⟩ (.int .i64 t246)) = w39 at n0_ n1_ n2_ n3_ n4_ ⊢
            have HO245 := n0_
            have BK232 := n1_
            have BK239 := n2_
            have BK248 := n3_
            have HB := n4_
            clear n0_ n1_ n2_ n3_ n4_
            have n0_ := Aside0.mk (Kd.R_drew HO245.out)
            have n1_ := Aside0.mk (blk_drew BK232.out)
            have n2_ := Aside0.mk (blk_drew BK239.out)
            have n3_ := Aside0.mk (blk_drew BK248.out)
            have n4_ := Aside0.mk (below_drew1 HB.out)
            clear HO245
            clear BK232
            clear BK239
            clear BK248
            clear HB
            have HO245 := n0_
            have BK232 := n1_
            have BK239 := n2_
            have BK248 := n3_
            have HB := n4_
            clear n0_ n1_ n2_ n3_ n4_
            refine start_ (n := 9) (S := fun w' => True) (ds := []) #[false, false, false, false, false, false, false, false, false] (by kernel_rfl) rfl rfl trivial (fun hHeld => ?_); refine with_tabW laws_FnAmountScaled.tab6 laws_FnAmountScaled.bits6 (fun HT_ HW_ => ?_)
            generalize w39.drew = w40 at HO245 BK232 BK239 BK248 HB hHeld ⊢
            refine pure_ (i := 0) (N := some 45) (v := ?_) (a' := ?_) #[true, false, false, false, false, false, false, false, false] rfl rfl (any_of HT_.out (by kernel_rfl)) (fun _ _ _ h => h) (Or.inl ⟨by rfl, ?_⟩) ?_ ?_
            rotate_left
            · intro w'
              go_simp
              with_reducible rfl
            rotate_left
            · simp only [Act.put, List.setIfInBounds_toArray, List.set_cons_zero, List.set_cons_succ, i64_w, i32_w]
              rfl
            refine pure_ (i := 1) (N := some 46) (v := ?_) (a' := ?_) #[true, true, false, false, false, false, false, false, false] rfl rfl (any_of HT_.out (by kernel_rfl)) (fun _ _ _ h => h) (Or.inl ⟨by rfl, ?_⟩) ?_ ?_
            rotate_left
            · intro w'
              go_simp
              with_reducible rfl
            rotate_left
            · simp only [Act.put, List.setIfInBounds_toArray, List.set_cons_zero, List.set_cons_succ, i64_w, i32_w]
              rfl
            refine pure_ (i := 2) (N := some 47) (v := undef) (a' := ?_) #[true, true, true, false, false, false, false, false, false] rfl rfl (any_of HT_.out (by kernel_rfl)) (fun _ _ _ h => h) (Or.inr ⟨by rfl, rfl⟩) ?_ ?_
            rotate_left
            · simp only [Act.put, List.setIfInBounds_toArray, List.set_cons_zero, List.set_cons_succ, i64_w, i32_w]
              rfl
            refine pure_ (i := 3) (N := some 48) (v := undef) (a' := ?_) #[true, true, true, true, false, false, false, false, false] rfl rfl (any_of HT_.out (by kernel_rfl)) (fun _ _ _ h => h) (Or.inr ⟨by rfl, rfl⟩) ?_ ?_
            rotate_left
            · simp only [Act.put, List.setIfInBounds_toArray, List.set_cons_zero, List.set_cons_succ, i64_w, i32_w]
              rfl
            refine pure_ (i := 4) (N := some 49) (v := undef) (a' := ?_) #[true, true, true, true, true, false, false, false, false] rfl rfl (any_of HT_.out (by kernel_rfl)) (fun _ _ _ h => h) (Or.inr ⟨by rfl, rfl⟩) ?_ ?_
            rotate_left
            · simp only [Act.put, List.setIfInBounds_toArray, List.set_cons_zero, List.set_cons_succ, i64_w, i32_w]
              rfl
            refine pure_ (i := 5) (N := some 50) (v := undef) (a' := ?_) #[true, true, true, true, true, true, false, false, false] rfl rfl (any_of HT_.out (by kernel_rfl)) (fun _ _ _ h => h) (Or.inr ⟨by rfl, rfl⟩) ?_ ?_
            rotate_left
            · simp only [Act.put, List.setIfInBounds_toArray, List.set_cons_zero, List.set_cons_succ, i64_w, i32_w]
              rfl
            refine pure_ (i := 6) (N := some 51) (v := undef) (a' := ?_) #[true, true, true, true, true, true, true, false, false] rfl rfl (any_of HT_.out (by kernel_rfl)) (fun _ _ _ h => h) (Or.inr ⟨by rfl, rfl⟩) ?_ ?_
            rotate_left
            · simp only [Act.put, List.setIfInBounds_toArray, List.set_cons_zero, List.set_cons_succ, i64_w, i32_w]
              rfl
            refine pure_ (i := 7) (N := some 52) (v := undef) (a' := ?_) #[true, true, true, true, true, true, true, true, false] rfl rfl (any_of HT_.out (by kernel_rfl)) (fun _ _ _ h => h) (Or.inr ⟨by rfl, rfl⟩) ?_ ?_
            rotate_left
            · simp only [Act.put, List.setIfInBounds_toArray, List.set_cons_zero, List.set_cons_succ, i64_w, i32_w]
              rfl
            refine pure_ (i := 8) (N := some 53) (v := ?_) (a' := ?_) #[true, true, true, true, true, true, true, true, true] rfl rfl (any_of HT_.out (by kernel_rfl)) (fun _ _ _ h => h) (Or.inl ⟨by rfl, ?_⟩) ?_ ?_
            rotate_left
            · intro w'
              go_simp
              with_reducible rfl
            rotate_left
            · simp only [Act.put, List.setIfInBounds_toArray, List.set_cons_zero, List.set_cons_succ, i64_w, i32_w]
              rfl
            refine done_ (done_of HT_.out (by kernel_rfl)) ?_
            try go_wp2
            go_meet
            case rel => exact ⟨_, (false), (by first | rfl | (simp; done) | (simp [*]; done)), H', ⟨by have := HJ3.out; first | omega | exact Nat.le_refl _⟩, ⟨by (with_reducible repeat (first | apply Kd.R_alloc | apply Kd.R_drewN | apply Kd.R_drew)); exact HO245.out⟩, ⟨by (with_reducible repeat (first | refine blk_drewN ?_ _ | refine blk_drew ?_ | refine blk_alloc ?_ _)); exact BK232.out⟩, ⟨by (with_reducible repeat (first | refine blk_drewN ?_ _ | refine blk_drew ?_ | refine blk_alloc ?_ _)); exact BK248.out⟩, ⟨by repeat (first | (with_reducible first | exact HB.out | apply below_alloc | apply pw_below_drewN | apply below_drew1 | refine below_set ?_ GE232.out | refine below_set ?_ GE239.out | refine below_set ?_ GE248.out) | exact HB.out)⟩⟩
        case rest =>
          clear HC20
          try clear c1
          try clear c2
          try clear p2
          try clear c3
          try clear c4
          try clear c6
          try clear c9
          try clear c12
          try clear c13
          try clear c13b0
          try clear c14
          try clear c14b0
          try clear c15
          try clear c16
          try clear c17
          try clear c21
          try clear c27
          try clear c28
          try clear c31
          try clear hcz10_0
          try clear hcz10_1
          try clear hcz10_2
          try clear hcz16_0
          try clear hcz16_1
          try clear hcz22_0
          try clear hcz22_1
          try clear hcz24_0
          try clear hcz24_1
          try clear hcz24_2
          try clear hcz29_0
          try clear hcz29_1
          try clear hcz29_2
          try clear hcz6_0
          try clear hcz6_1
          try clear hfz10_0
          try clear hfz10_1
          try clear hfz10_2
          try clear hfz16_0
          try clear hfz16_1
          try clear hfz22_0
          try clear hfz22_1
          try clear hfz24_0
          try clear hfz24_1
          try clear hfz24_2
          try clear hfz29_0
          try clear hfz29_1
          try clear hfz29_2
          try clear hfz6_0
          try clear hfz6_1
          try clear p2
          obtain ⟨kq, x53_19, rfl, HA, HJ19, HO_249001, BK232, BK248, HB⟩ := hcut
          cases kq with
          | zero => exact absurd HA.out (by simp [laws_FnAmountScaled.j1])
          | succ kj19 =>
            have H := HA.out
            clear HA
            simp only [laws_FnAmountScaled.j1] at H
            by_cases c41 : x53_19 = true
            · subst c41
              have H1 : (some false) = some r := by rw [if_pos rfl] at H; exact H
              clear H
              have H := H1
              clear H1
              obtain rfl := Option.some.inj H
              go_wp2
              go_ret
              exact ⟨by first | rfl | (simp [errW_none, errW_some] <;> rfl) | (simp [*, errW_none, errW_some] <;> rfl), by repeat (first | (with_reducible first | exact HB.out | apply below_alloc | apply pw_below_drewN | apply below_drew1 | refine below_set ?_ GE232.out | refine below_set ?_ GE248.out) | exact HB.out)⟩
            · replace c41 := Bool.eq_false_iff.mpr c41
              subst c41
              have H1 : ((impl_AmountScaled.f kj19 a0_0 a0_1 a0_1).bind fun bt255 => (if bt255.2 = true then (if bt255.1 = a0_0 then ((laws_amountAwake.f kj19).bind fun t257 => (some t257)) else (some false)) else (some false))) = some r := by rw [if_neg (show ¬ (false = true) by decide)] at H; exact H
              clear H
              have H := H1
              clear H1
              replace H := Option.bind_eq_some_iff.mp H
              obtain ⟨⟨t255, t256⟩, A420, H⟩ := H
              replace H : (if t256 = true then (if t255 = a0_0 then ((laws_amountAwake.f kj19).bind fun t257 => (some t257)) else (some false)) else (some false)) = some r := H
              have A42 := Aside0.mk A420
              clear A420
              by_cases c43 : t256 = true
              · subst c43
                have H1 : (if t255 = a0_0 then ((laws_amountAwake.f kj19).bind fun t257 => (some t257)) else (some false)) = some r := by rw [if_pos rfl] at H; exact H
                clear H
                have H := H1
                clear H1
                by_cases c44 : t255 = a0_0
                · rw [if_pos c44] at H
                  have c44b0 : (t255 == a0_0) = true := beq_iff_eq.mpr c44
                  have c44b1 : (t255 != a0_0) = false := bne_eq_false_iff_eq.mpr c44
                  clear c44
                  replace H := Option.bind_eq_some_iff.mp H
                  obtain ⟨t257, A450, H⟩ := H
                  replace H : (some t257) = some r := H
                  have A45 := Aside0.mk A450
                  clear A450
                  obtain rfl := Option.some.inj H
                  have hnb46 := NB232_248.out
                  have hnc46 := NB248_232.out
                  have hcz47_0 : wc.cell? ⟨gb232, 0, none⟩ = some (.int .i64 a0_0) := (blk_cell BK232.out 0).trans rfl
                  have hcz47_1 : wc.cell? ⟨gb232, 1, none⟩ = some (.int .i64 a0_1) := (blk_cell BK232.out 1).trans rfl
                  have hfz47_0 := blk_frozen BK232.out 0
                  have hfz47_1 := blk_frozen BK232.out 1
                  go_wp2_with (first | ((with_reducible refine gate_callee (f := 14) rfl ?_); refine goesL_ (some 58) rfl rfl Try.func14 (by kernel_rfl) rfl #[.agg #[.int .i64 a0_0, .int .i64 a0_1], .int .i64 a0_1] rfl (by (try simp only [List.map_toArray, List.map_cons, List.map_nil]); first | done | rfl | (simp only [List.length_drop, List.length_take]; rfl)) ?_; (with_reducible refine (impl_AmountScaled.calls kj19 a0_0 a0_1 a0_1 t255 true _ A42.out).mono ?_); rintro e w48 ⟨rfl, hb⟩; refine ⟨_, rfl, ?_⟩; have n0_ := Aside0.mk (Kd.R_below (by (with_reducible repeat (first | apply Kd.R_alloc | apply Kd.R_drewN | apply Kd.R_drew)); exact HO_249001.out) hb); have n1_ := Aside0.mk (blk_below (g := gb232) (o := .cells #[.int .i64 a0_0, .int .i64 a0_1] 23 (0, 0)) (by (with_reducible repeat (first | refine blk_drewN ?_ _ | refine blk_drew ?_ | refine blk_alloc ?_ _)); exact BK232.out) hb); have n2_ := Aside0.mk (blk_below (g := gb248) (o := .cells #[.bool t242, .slice Ao30 t243.length co30, .int .i64 t246] 26 (0, 0)) (by (with_reducible repeat (first | refine blk_drewN ?_ _ | refine blk_drew ?_ | refine blk_alloc ?_ _)); exact BK248.out) hb); have n3_ := Aside0.mk (below_step (by repeat (first | (with_reducible first | exact HB.out | apply below_alloc | apply pw_below_drewN | apply below_drew1 | refine below_set ?_ GE232.out | refine below_set ?_ GE248.out) | exact HB.out)) hb); clear HO_249001; clear BK232; clear BK248; clear HB; have HO_249001 := n0_; have BK232 := n1_; have BK248 := n2_; have HB := n3_; clear n0_ n1_ n2_ n3_; (try clear hb); (try clear hb2); (try clear hk); (try clear hi); have hcz49_0 : w48.cell? ⟨gb232, 0, none⟩ = some (.int .i64 a0_0) := (blk_cell BK232.out 0).trans rfl; have hcz49_1 : w48.cell? ⟨gb232, 1, none⟩ = some (.int .i64 a0_1) := (blk_cell BK232.out 1).trans rfl; have hfz49_0 := blk_frozen BK232.out 0; have hfz49_1 := blk_frozen BK232.out 1) | (go_at_call 13; (with_reducible refine (laws_amountAwake.calls kj19  t257 _ A45.out).mono ?_); rintro e w50 ⟨rfl, hb⟩; have n0_ := Aside0.mk (Kd.R_below (by (with_reducible repeat (first | apply Kd.R_alloc | apply Kd.R_drewN | apply Kd.R_drew)); exact HO_249001.out) hb); have n1_ := Aside0.mk (blk_below (g := gb232) (o := .cells #[.int .i64 a0_0, .int .i64 a0_1] 23 (0, 0)) (by (with_reducible repeat (first | refine blk_drewN ?_ _ | refine blk_drew ?_ | refine blk_alloc ?_ _)); exact BK232.out) hb); have n2_ := Aside0.mk (blk_below (g := gb248) (o := .cells #[.bool t242, .slice Ao30 t243.length co30, .int .i64 t246] 26 (0, 0)) (by (with_reducible repeat (first | refine blk_drewN ?_ _ | refine blk_drew ?_ | refine blk_alloc ?_ _)); exact BK248.out) hb); have n3_ := Aside0.mk (below_step (by repeat (first | (with_reducible first | exact HB.out | apply below_alloc | apply pw_below_drewN | apply below_drew1 | refine below_set ?_ GE232.out | refine below_set ?_ GE248.out) | exact HB.out)) hb); clear HO_249001; clear BK232; clear BK248; clear HB; have HO_249001 := n0_; have BK232 := n1_; have BK248 := n2_; have HB := n3_; clear n0_ n1_ n2_ n3_; (try clear hb); (try clear hb2); (try clear hk); (try clear hi)))
                  go_ret
                  exact ⟨by first | rfl | (simp [errW_none, errW_some] <;> rfl) | (simp [*, errW_none, errW_some] <;> rfl), by repeat (first | (with_reducible first | exact HB.out | apply below_alloc | apply pw_below_drewN | apply below_drew1 | refine below_set ?_ GE232.out | refine below_set ?_ GE248.out) | exact HB.out)⟩
                · rw [if_neg c44] at H
                  have c44b0 : (t255 == a0_0) = false := beq_eq_false_iff_ne.mpr c44
                  have c44b1 : (t255 != a0_0) = true := bne_iff_ne.mpr c44
                  obtain rfl := Option.some.inj H
                  have hnb51 := NB232_248.out
                  have hnc51 := NB248_232.out
                  have hcz52_0 : wc.cell? ⟨gb232, 0, none⟩ = some (.int .i64 a0_0) := (blk_cell BK232.out 0).trans rfl
                  have hcz52_1 : wc.cell? ⟨gb232, 1, none⟩ = some (.int .i64 a0_1) := (blk_cell BK232.out 1).trans rfl
                  have hfz52_0 := blk_frozen BK232.out 0
                  have hfz52_1 := blk_frozen BK232.out 1
                  go_wp2_with (first | ((with_reducible refine gate_callee (f := 14) rfl ?_); refine goesL_ (some 58) rfl rfl Try.func14 (by kernel_rfl) rfl #[.agg #[.int .i64 a0_0, .int .i64 a0_1], .int .i64 a0_1] rfl (by (try simp only [List.map_toArray, List.map_cons, List.map_nil]); first | done | rfl | (simp only [List.length_drop, List.length_take]; rfl)) ?_; (with_reducible refine (impl_AmountScaled.calls kj19 a0_0 a0_1 a0_1 t255 true _ A42.out).mono ?_); rintro e w53 ⟨rfl, hb⟩; refine ⟨_, rfl, ?_⟩; have n0_ := Aside0.mk (Kd.R_below (by (with_reducible repeat (first | apply Kd.R_alloc | apply Kd.R_drewN | apply Kd.R_drew)); exact HO_249001.out) hb); have n1_ := Aside0.mk (blk_below (g := gb232) (o := .cells #[.int .i64 a0_0, .int .i64 a0_1] 23 (0, 0)) (by (with_reducible repeat (first | refine blk_drewN ?_ _ | refine blk_drew ?_ | refine blk_alloc ?_ _)); exact BK232.out) hb); have n2_ := Aside0.mk (blk_below (g := gb248) (o := .cells #[.bool t242, .slice Ao30 t243.length co30, .int .i64 t246] 26 (0, 0)) (by (with_reducible repeat (first | refine blk_drewN ?_ _ | refine blk_drew ?_ | refine blk_alloc ?_ _)); exact BK248.out) hb); have n3_ := Aside0.mk (below_step (by repeat (first | (with_reducible first | exact HB.out | apply below_alloc | apply pw_below_drewN | apply below_drew1 | refine below_set ?_ GE232.out | refine below_set ?_ GE248.out) | exact HB.out)) hb); clear HO_249001; clear BK232; clear BK248; clear HB; have HO_249001 := n0_; have BK232 := n1_; have BK248 := n2_; have HB := n3_; clear n0_ n1_ n2_ n3_; (try clear hb); (try clear hb2); (try clear hk); (try clear hi); have hcz54_0 : w53.cell? ⟨gb232, 0, none⟩ = some (.int .i64 a0_0) := (blk_cell BK232.out 0).trans rfl; have hcz54_1 : w53.cell? ⟨gb232, 1, none⟩ = some (.int .i64 a0_1) := (blk_cell BK232.out 1).trans rfl; have hfz54_0 := blk_frozen BK232.out 0; have hfz54_1 := blk_frozen BK232.out 1))
                  go_ret
                  exact ⟨by first | rfl | (simp [errW_none, errW_some] <;> rfl) | (simp [*, errW_none, errW_some] <;> rfl), by repeat (first | (with_reducible first | exact HB.out | apply below_alloc | apply pw_below_drewN | apply below_drew1 | refine below_set ?_ GE232.out | refine below_set ?_ GE248.out) | exact HB.out)⟩
              · replace c43 := Bool.eq_false_iff.mpr c43
                subst c43
                have H1 : (some false) = some r := by rw [if_neg (show ¬ (false = true) by decide)] at H; exact H
                clear H
                have H := H1
                clear H1
                obtain rfl := Option.some.inj H
                have hnb55 := NB232_248.out
                have hnc55 := NB248_232.out
                have hcz56_0 : wc.cell? ⟨gb232, 0, none⟩ = some (.int .i64 a0_0) := (blk_cell BK232.out 0).trans rfl
                have hcz56_1 : wc.cell? ⟨gb232, 1, none⟩ = some (.int .i64 a0_1) := (blk_cell BK232.out 1).trans rfl
                have hfz56_0 := blk_frozen BK232.out 0
                have hfz56_1 := blk_frozen BK232.out 1
                go_wp2_with (first | ((with_reducible refine gate_callee (f := 14) rfl ?_); refine goesL_ (some 58) rfl rfl Try.func14 (by kernel_rfl) rfl #[.agg #[.int .i64 a0_0, .int .i64 a0_1], .int .i64 a0_1] rfl (by (try simp only [List.map_toArray, List.map_cons, List.map_nil]); first | done | rfl | (simp only [List.length_drop, List.length_take]; rfl)) ?_; (with_reducible refine (impl_AmountScaled.calls kj19 a0_0 a0_1 a0_1 t255 false _ A42.out).mono ?_); rintro e w57 ⟨rfl, hb⟩; refine ⟨_, rfl, ?_⟩; have n0_ := Aside0.mk (Kd.R_below (by (with_reducible repeat (first | apply Kd.R_alloc | apply Kd.R_drewN | apply Kd.R_drew)); exact HO_249001.out) hb); have n1_ := Aside0.mk (blk_below (g := gb232) (o := .cells #[.int .i64 a0_0, .int .i64 a0_1] 23 (0, 0)) (by (with_reducible repeat (first | refine blk_drewN ?_ _ | refine blk_drew ?_ | refine blk_alloc ?_ _)); exact BK232.out) hb); have n2_ := Aside0.mk (blk_below (g := gb248) (o := .cells #[.bool t242, .slice Ao30 t243.length co30, .int .i64 t246] 26 (0, 0)) (by (with_reducible repeat (first | refine blk_drewN ?_ _ | refine blk_drew ?_ | refine blk_alloc ?_ _)); exact BK248.out) hb); have n3_ := Aside0.mk (below_step (by repeat (first | (with_reducible first | exact HB.out | apply below_alloc | apply pw_below_drewN | apply below_drew1 | refine below_set ?_ GE232.out | refine below_set ?_ GE248.out) | exact HB.out)) hb); clear HO_249001; clear BK232; clear BK248; clear HB; have HO_249001 := n0_; have BK232 := n1_; have BK248 := n2_; have HB := n3_; clear n0_ n1_ n2_ n3_; (try clear hb); (try clear hb2); (try clear hk); (try clear hi)))
                go_ret
                exact ⟨by first | rfl | (simp [errW_none, errW_some] <;> rfl) | (simp [*, errW_none, errW_some] <;> rfl), by repeat (first | (with_reducible first | exact HB.out | apply below_alloc | apply pw_below_drewN | apply below_drew1 | refine below_set ?_ GE232.out | refine below_set ?_ GE248.out) | exact HB.out)⟩

/-- THE ONE PURE STATEMENT of laws_FnAmountScaled: yours. -/
def laws_FnAmountScaled.Pure : Prop := ∀ (a0_0 : Int) (a0_1 : Int) (a1 : Int), (Lit.int .i64 a0_0).wf = true → (Lit.int .i64 a0_1).wf = true → (Lit.int .i64 a1).wf = true → ∃ k, laws_FnAmountScaled.f k a0_0 a0_1 a1 = some true
theorem laws_FnAmountScaled.walk (P : laws_FnAmountScaled.Pure) (a0_0 : Int) (a0_1 : Int) (a1 : Int) (w : World)  (w0_0 : (Lit.int .i64 a0_0).wf = true) (w0_1 : (Lit.int .i64 a0_1).wf = true) (w1 : (Lit.int .i64 a1).wf = true) :
    Calls Try.prog 4 #[.agg #[.int .i64 a0_0, .int .i64 a0_1], .int .i64 a1] w fun e w' => e = .returned (.bool true) ∧ Below w.heap.size w w' := by
  obtain ⟨k, h⟩ := P a0_0 a0_1 a1 w0_0 w0_1 w1
  refine (laws_FnAmountScaled.calls k a0_0 a0_1 a1 true w h).mono ?_
  rintro e w' ⟨rfl, hd⟩
  exact ⟨rfl, hd⟩

end Go.Proofs.Ytihbljdghmfidaa.PFnAmountScaled
