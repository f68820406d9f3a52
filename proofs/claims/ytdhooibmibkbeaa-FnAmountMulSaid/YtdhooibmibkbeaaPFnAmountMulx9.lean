/- Functions of the program as plain Lean functions, and that the machine's calls do what these say: written for this claim by wip/myprint.py over the kit's print.py. -/
import Derived.Test.YtdhooibmibkbeaaPFnAmountMulx0
import Derived.Test.YtdhooibmibkbeaaPFnAmountMulx1
import Derived.Test.YtdhooibmibkbeaaPFnAmountMulx2
import Derived.Test.YtdhooibmibkbeaaPFnAmountMulx4
import Derived.Test.YtdhooibmibkbeaaPFnAmountMulx5
import Derived.Test.YtdhooibmibkbeaaPFnAmountMulx7
import Derived.Test.YtdhooibmibkbeaaPFnAmountMulx8
namespace Go.Proofs.Ytdhooibmibkbeaa.PFnAmountMul
open Go.RowKit Go.Proofs.YtdhooibmibkbeaaW.PrintWords Go.Proofs.YtdhooibmibkbeaaW.PrintLast Go.Proofs.YtdhooibmibkbeaaW.PrintMore
attribute [local go_sem] max2_int min2_int max_two min_two max_three min_three max_four min_four   -- for this text's walks alone
set_option linter.unusedVariables false
set_option linter.unusedSimpArgs false

/-! ### laws_FnAmountMul: function 5 -/
mutual
def laws_FnAmountMul.j0 : Nat → Int → Bool → Int → Int → Bool → List Int → Int → Option (Bool)
 | 0, _, _, _, _, _, _, _ => none
 | k + 1, x1, x29, x247000, x247001, x254000, x254001, x254002 => if x29 = true then (some true) else ((impl_AmountMul.f k x247000 x247001 x1).bind fun bt254 => ((spec_DecimalOf.f k x1 0).bind fun bt258 => ((spec_DecimalTimes.f k x254000 x254001 x254002 bt258.1 bt258.2.1 bt258.2.2).bind fun bt263 => ((spec_DecimalOf.f k x247000 0).bind fun bt269 => ((spec_DecimalOf.f k x1 0).bind fun bt274 => ((spec_DecimalTimes.f k bt269.1 bt269.2.1 bt269.2.2 bt274.1 bt274.2.1 bt274.2.2).bind fun bt279 => ((spec_DecimalInt.f k bt279.1 bt279.2.1 bt279.2.2).bind fun bt284 => (if bt254.2.2 = true then ((laws_amountIs.f k bt254.1 bt254.2.1 bt263.1 bt263.2.1 bt263.2.2).bind fun t286 => (if t286 = true then ((laws_amountAwake.f k).bind fun t287 => (some t287)) else (some false))) else ((spec_DecimalInt.f k bt263.1 bt263.2.1 bt263.2.2).bind fun bt288 => (if bt284.2 = true then (if bt288.2 = true then (laws_FnAmountMul.j1 k false) else ((laws_amountAwake.f k).bind fun t290 => (laws_FnAmountMul.j1 k t290))) else ((laws_amountAwake.f k).bind fun t291 => (laws_FnAmountMul.j1 k t291))))))))))))
def laws_FnAmountMul.j1 : Nat → Bool → Option (Bool)
 | 0, _ => none
 | k + 1, x4 => some x4
end
def laws_FnAmountMul.f (k : Nat) (a0_0 : Int) (a0_1 : Int) (a1 : Int) : Option (Bool) := (laws_amountOf.f k a0_0 a0_1).bind fun bt247 => (if bt247.2.2.2 = true then (if a0_0 = (-9223372036854775808) then (laws_FnAmountMul.j0 k a1 true a0_0 a0_1 bt247.1 bt247.2.1 bt247.2.2.1) else (laws_FnAmountMul.j0 k a1 (a1 == (-9223372036854775808)) a0_0 a0_1 bt247.1 bt247.2.1 bt247.2.2.1)) else (laws_FnAmountMul.j0 k a1 true a0_0 a0_1 bt247.1 bt247.2.1 bt247.2.2.1))
theorem laws_FnAmountMul.mono_l : ∀ k, (∀ y0 y1 y2 y3 y4 y5 y6, LeO (laws_FnAmountMul.j0 k y0 y1 y2 y3 y4 y5 y6) (laws_FnAmountMul.j0 (k + 1) y0 y1 y2 y3 y4 y5 y6)) ∧ (∀ y0, LeO (laws_FnAmountMul.j1 k y0) (laws_FnAmountMul.j1 (k + 1) y0))
 | 0 => ⟨fun _ _ _ _ _ _ _ r h => by simp [laws_FnAmountMul.j0] at h, fun _ r h => by simp [laws_FnAmountMul.j1] at h⟩
 | k + 1 => by
  obtain ⟨ih0, ih1⟩ := laws_FnAmountMul.mono_l k
  refine ⟨?_, ?_⟩
  ·
   intro y0 y1 y2 y3 y4 y5 y6
   unfold laws_FnAmountMul.j0
   repeat' first
   | (with_reducible exact ih0 _ _ _ _ _ _ _)
   | (with_reducible exact ih1 _)
   | (with_reducible exact impl_AmountMul.mono _ _ _ _)
   | (with_reducible exact laws_amountAwake.mono _)
   | (with_reducible exact laws_amountIs.mono _ _ _ _ _ _)
   | (with_reducible exact laws_amountOf.mono _ _ _)
   | (with_reducible exact spec_DecimalInt.mono _ _ _ _)
   | (with_reducible exact spec_DecimalOf.mono _ _ _)
   | (with_reducible exact spec_DecimalTimes.mono _ _ _ _ _ _ _)
   | (with_reducible exact LeO.refl _)
   | (with_reducible exact LeO.none _)
   | (with_reducible refine LeO.ite ?_ ?_)
   | (with_reducible refine LeO.bind ?_ (fun _ => ?_))
   | exact ih0 _ _ _ _ _ _ _
   | exact ih1 _
   | exact impl_AmountMul.mono _ _ _ _
   | exact laws_amountAwake.mono _
   | exact laws_amountIs.mono _ _ _ _ _ _
   | exact laws_amountOf.mono _ _ _
   | exact spec_DecimalInt.mono _ _ _ _
   | exact spec_DecimalOf.mono _ _ _
   | exact spec_DecimalTimes.mono _ _ _ _ _ _ _
   | exact LeO.none _
   | refine LeO.ite ?_ ?_
   | refine LeO.bind ?_ (fun _ => ?_)
  ·
   intro y0
   unfold laws_FnAmountMul.j1
   repeat' first
   | (with_reducible exact ih0 _ _ _ _ _ _ _)
   | (with_reducible exact ih1 _)
   | (with_reducible exact impl_AmountMul.mono _ _ _ _)
   | (with_reducible exact laws_amountAwake.mono _)
   | (with_reducible exact laws_amountIs.mono _ _ _ _ _ _)
   | (with_reducible exact laws_amountOf.mono _ _ _)
   | (with_reducible exact spec_DecimalInt.mono _ _ _ _)
   | (with_reducible exact spec_DecimalOf.mono _ _ _)
   | (with_reducible exact spec_DecimalTimes.mono _ _ _ _ _ _ _)
   | (with_reducible exact LeO.refl _)
   | (with_reducible exact LeO.none _)
   | (with_reducible refine LeO.ite ?_ ?_)
   | (with_reducible refine LeO.bind ?_ (fun _ => ?_))
   | exact ih0 _ _ _ _ _ _ _
   | exact ih1 _
   | exact impl_AmountMul.mono _ _ _ _
   | exact laws_amountAwake.mono _
   | exact laws_amountIs.mono _ _ _ _ _ _
   | exact laws_amountOf.mono _ _ _
   | exact spec_DecimalInt.mono _ _ _ _
   | exact spec_DecimalOf.mono _ _ _
   | exact spec_DecimalTimes.mono _ _ _ _ _ _ _
   | exact LeO.none _
   | refine LeO.ite ?_ ?_
   | refine LeO.bind ?_ (fun _ => ?_)
theorem laws_FnAmountMul.mono : ∀ a0 a1 a2 k, LeO (laws_FnAmountMul.f k a0 a1 a2) (laws_FnAmountMul.f (k + 1) a0 a1 a2) := by
 intro a0 a1 a2 k
 obtain ⟨ih0, ih1⟩ := laws_FnAmountMul.mono_l k
 unfold laws_FnAmountMul.f
 repeat' first
   | (with_reducible exact ih0 _ _ _ _ _ _ _)
   | (with_reducible exact ih1 _)
   | (with_reducible exact impl_AmountMul.mono _ _ _ _)
   | (with_reducible exact laws_amountAwake.mono _)
   | (with_reducible exact laws_amountIs.mono _ _ _ _ _ _)
   | (with_reducible exact laws_amountOf.mono _ _ _)
   | (with_reducible exact spec_DecimalInt.mono _ _ _ _)
   | (with_reducible exact spec_DecimalOf.mono _ _ _)
   | (with_reducible exact spec_DecimalTimes.mono _ _ _ _ _ _ _)
   | (with_reducible exact LeO.refl _)
   | (with_reducible exact LeO.none _)
   | (with_reducible refine LeO.ite ?_ ?_)
   | (with_reducible refine LeO.bind ?_ (fun _ => ?_))
   | exact ih0 _ _ _ _ _ _ _
   | exact ih1 _
   | exact impl_AmountMul.mono _ _ _ _
   | exact laws_amountAwake.mono _
   | exact laws_amountIs.mono _ _ _ _ _ _
   | exact laws_amountOf.mono _ _ _
   | exact spec_DecimalInt.mono _ _ _ _
   | exact spec_DecimalOf.mono _ _ _
   | exact spec_DecimalTimes.mono _ _ _ _ _ _ _
   | exact LeO.none _
   | refine LeO.ite ?_ ?_
   | refine LeO.bind ?_ (fun _ => ?_)
set_option maxHeartbeats 8000000 in
set_option maxRecDepth 100000 in
theorem laws_FnAmountMul.calls (k : Nat) (a0_0 : Int) (a0_1 : Int) (a1 : Int) (r : Bool) (w : World) (h : laws_FnAmountMul.f k a0_0 a0_1 a1 = some r) :
  Calls Try.prog 5 #[.agg #[.int .i64 a0_0, .int .i64 a0_1], .int .i64 a1] w fun e w' => e = .returned (.bool r) ∧ Below w.heap.size w w' := by
 have hu23 := Try.underlying23
 have hu26 := Try.underlying26
 have HB := aM_ (Below.refl w.heap.size w)
 have H : ((laws_amountOf.f k a0_0 a0_1).bind fun bt247 => (if bt247.2.2.2 = true then (if a0_0 = (-9223372036854775808) then (laws_FnAmountMul.j0 k a1 true a0_0 a0_1 bt247.1 bt247.2.1 bt247.2.2.1) else (laws_FnAmountMul.j0 k a1 (a1 == (-9223372036854775808)) a0_0 a0_1 bt247.1 bt247.2.1 bt247.2.2.1)) else (laws_FnAmountMul.j0 k a1 true a0_0 a0_1 bt247.1 bt247.2.1 bt247.2.2.1))) = some r := h
 clear h
 replace H := Option.bind_eq_some_iff.mp H
 obtain ⟨⟨t247, t248, t251, t252⟩, A30, H⟩ := H
 replace H : (if t252 = true then (if a0_0 = (-9223372036854775808) then (laws_FnAmountMul.j0 k a1 true a0_0 a0_1 t247 t248 t251) else (laws_FnAmountMul.j0 k a1 (a1 == (-9223372036854775808)) a0_0 a0_1 t247 t248 t251)) else (laws_FnAmountMul.j0 k a1 true a0_0 a0_1 t247 t248 t251)) = some r := H
 have A3 := aM_ A30
 clear A30
 have HC4 := aM_ H
 clear H
 go_enter Try.func5, Try.ntmps5
 go_upto_region 2 with (first | ((with_reducible refine gate_dst (N := 2) rfl ?_); refine box_event ?hg (N := 2) ?hd (cs := #[.int .i64 a0_0, .int .i64 a0_1]) (t := 23) ?hr ?_; (case hd => rfl); (case hg => rfl); (case hr => first | (go_simp; done) | (go_simp; rfl)); intro gb246 hg w5 hbox hb; have n0_ := aM_ (below_step (by repeat (first | (with_reducible first | exact HB.out | apply bB_ | apply wN_ | apply bE_) | exact HB.out)) hb); have n1_ := aM_ (hbox); have n2_ := aM_ ((by rw [hg]; exact (below_size (by repeat (first | (with_reducible first | exact HB.out | apply bB_ | apply wN_ | apply bE_) | exact HB.out))) : w.heap.size ≤ gb246)); have n3_ := aM_ ((by rw [hg]; exact (below_size (by repeat (first | (with_reducible first | exact HB.out | apply bB_ | apply wN_ | apply bE_) | exact HB.out))) : w.heap.size ≤ gb246)); clear HB; have HB := n0_; have BK246 := n1_; have GW246 := n2_; have GE246 := n3_; clear n0_ n1_ n2_ n3_; clear hb hbox hg; have hcz6_0 : w5.cell? ⟨gb246, 0, none⟩ = some (.int .i64 a0_0) := (bC_ BK246.out 0).trans rfl; have hcz6_1 : w5.cell? ⟨gb246, 1, none⟩ = some (.int .i64 a0_1) := (bC_ BK246.out 1).trans rfl; have hfz6_0 := bF_ BK246.out 0; have hfz6_1 := bF_ BK246.out 1) | ((with_reducible refine gate_callee (f := 6) rfl ?_); refine goesL_ (some 16) rfl rfl Try.func6 (by kernel_rfl) rfl #[.agg #[.int .i64 a0_0, .int .i64 a0_1]] rfl (by (try simp only [List.map_toArray, List.map_cons, List.map_nil]); first | done | rfl | (simp only [List.length_drop, List.length_take]; rfl)) ?_; (with_reducible refine (laws_amountOf.calls k a0_0 a0_1 t247 t248 t251 t252 _ A3.out).mono ?_); rintro e w7 ⟨v249, rfl, ho0, hb⟩; refine ⟨_, rfl, ?_⟩; have n0_ := aM_ (Kd.R_lower ho0 (below_size (by repeat (first | (with_reducible first | exact HB.out | apply bB_ | apply wN_ | apply bE_ | refine bS_ ?_ GE246.out) | exact HB.out)))); have n1_ := aM_ (blk_below (g := gb246) (o := .cells #[.int .i64 a0_0, .int .i64 a0_1] 23 (0, 0)) (by (with_reducible repeat (first | refine bN_ ?_ _ | refine bD_ ?_ | refine bA_ ?_ _)); exact BK246.out) hb); have n2_ := aM_ (below_step (by repeat (first | (with_reducible first | exact HB.out | apply bB_ | apply wN_ | apply bE_ | refine bS_ ?_ GE246.out) | exact HB.out)) hb); clear BK246; clear HB; have HO250 := n0_; have BK246 := n1_; have HB := n2_; clear n0_ n1_ n2_; (try clear hb); (try clear hb2); (try clear hk); (try clear hi); (try clear ho0)) | ((with_reducible refine gate_dst (N := 5) rfl ?_); refine box_event ?hg (N := 5) ?hd (cs := #[.bool false, .slice none 0 0, .int .i64 0]) (t := 26) ?hr ?_; (case hd => rfl); (case hg => rfl); (case hr => first | (go_simp; done) | (go_simp; rfl)); intro gb253 hg w8 hbox hb; have n0_ := aM_ (Kd.R_below (by (with_reducible repeat (first | apply kA_ | apply kN_ | apply kD_)); exact HO250.out) hb); have n1_ := aM_ (blk_below (g := gb246) (o := .cells #[.int .i64 a0_0, .int .i64 a0_1] 23 (0, 0)) (by (with_reducible repeat (first | refine bN_ ?_ _ | refine bD_ ?_ | refine bA_ ?_ _)); exact BK246.out) hb); have n2_ := aM_ (below_step (by repeat (first | (with_reducible first | exact HB.out | apply bB_ | apply wN_ | apply bE_ | refine bS_ ?_ GE246.out) | exact HB.out)) hb); have n3_ := aM_ (hbox); have n4_ := aM_ ((by rw [hg]; exact (below_size (by repeat (first | (with_reducible first | exact HB.out | apply bB_ | apply wN_ | apply bE_ | refine bS_ ?_ GE246.out) | exact HB.out))) : w.heap.size ≤ gb253)); have n5_ := aM_ ((by rw [hg]; exact (below_size (by repeat (first | (with_reducible first | exact HB.out | apply bB_ | apply wN_ | apply bE_ | refine bS_ ?_ GE246.out) | exact HB.out))) : w.heap.size ≤ gb253)); have n6_ := aM_ ((by rw [hg]; exact Nat.ne_of_lt (blk_lt (g := gb246) (o := .cells #[.int .i64 a0_0, .int .i64 a0_1] 23 (0, 0)) (by (with_reducible repeat (first | refine bN_ ?_ _ | refine bD_ ?_ | refine bA_ ?_ _)); exact BK246.out)) : gb246 ≠ gb253)); have n7_ := aM_ ((by rw [hg]; exact Nat.ne_of_gt (blk_lt (g := gb246) (o := .cells #[.int .i64 a0_0, .int .i64 a0_1] 23 (0, 0)) (by (with_reducible repeat (first | refine bN_ ?_ _ | refine bD_ ?_ | refine bA_ ?_ _)); exact BK246.out)) : gb253 ≠ gb246)); clear HO250; clear BK246; clear HB; have HO250 := n0_; have BK246 := n1_; have HB := n2_; have BK253 := n3_; have GW253 := n4_; have GE253 := n5_; have NB246_253 := n6_; have NB253_246 := n7_; clear n0_ n1_ n2_ n3_ n4_ n5_ n6_ n7_; clear hb hbox hg; have hnb9 := NB253_246.out; have hnc9 := NB246_253.out; have hcz10_0 : w8.cell? ⟨gb253, 0, none⟩ = some (.bool false) := (bC_ BK253.out 0).trans rfl; have hcz10_1 : w8.cell? ⟨gb253, 1, none⟩ = some (.slice none 0 0) := (bC_ BK253.out 1).trans rfl; have hcz10_2 : w8.cell? ⟨gb253, 2, none⟩ = some (.int .i64 0) := (bC_ BK253.out 2).trans rfl; have hfz10_0 := bF_ BK253.out 0; have hfz10_1 := bF_ BK253.out 1; have hfz10_2 := bF_ BK253.out 2; obtain ⟨Ao11, co11, eo11⟩ := Kd.R_slice HO250.out; subst eo11))
 (try simp only [Act.put, List.setIfInBounds_toArray, List.set_cons_zero, List.set_cons_succ])
 go_cut [29] (fun v29 wc => ∃ (kq : Nat) (x29_3 : Bool), v29 = .bool x29_3 ∧ Aside0 (laws_FnAmountMul.j0 kq a1 x29_3 a0_0 a0_1 t247 t248 t251 = some r) ∧ Aside0 (kq ≤ k) ∧ Aside0 (Kd.R (Kd.int .i64) 3 wc w.heap.size (fun _ => True) (.slice Ao11 t248.length co11) t248) ∧ Aside0 (wc.heap[gb246]? = some (.cells #[.int .i64 a0_0, .int .i64 a0_1] 23 (0, 0))) ∧ Aside0 (wc.heap[gb253]? = some (.cells #[.bool t247, (.slice Ao11 t248.length co11), .int .i64 t251] 26 (0, 0))) ∧ Aside0 (Below w.heap.size w wc))
 case first =>
  have H := HC4.out
  clear HC4
  by_cases c12 : t252 = true
  ·
   subst c12
   have H1 : (if a0_0 = (-9223372036854775808) then (laws_FnAmountMul.j0 k a1 true a0_0 a0_1 t247 t248 t251) else (laws_FnAmountMul.j0 k a1 (a1 == (-9223372036854775808)) a0_0 a0_1 t247 t248 t251)) = some r := by rw [if_pos rfl] at H; exact H
   clear H
   have H := H1
   clear H1
   by_cases c13 : a0_0 = (-9223372036854775808)
   ·
    rw [if_pos c13] at H
    have c13b0 : (a0_0 == (-9223372036854775808)) = true := beq_iff_eq.mpr c13
    have c13b1 : (a0_0 != (-9223372036854775808)) = false := bne_eq_false_iff_eq.mpr c13
    clear c13
    (first | rw [c13b0] | (simp only [i64_w, i32_w]; rw [c13b0]) | skip)
    have H' := aM_ H
    clear H
    have hnb14 := NB246_253.out
    have hnc14 := NB253_246.out
    have hcz15_0 : w8.cell? ⟨gb246, 0, none⟩ = some (.int .i64 a0_0) := (bC_ BK246.out 0).trans rfl
    have hcz15_1 : w8.cell? ⟨gb246, 1, none⟩ = some (.int .i64 a0_1) := (bC_ BK246.out 1).trans rfl
    have hfz15_0 := bF_ BK246.out 0
    have hfz15_1 := bF_ BK246.out 1
    go_wp2
    go_meet
    case rel => exact ⟨_, (true), (by first | rfl | (simp; done) | (simp [*]; done)), H', ⟨by first | omega | exact Nat.le_refl _⟩, ⟨by (with_reducible repeat (first | apply kA_ | apply kN_ | apply kD_)); exact Kd.R_mono (Kd.R_far (p := ⟨gb253, 2, none⟩) (Kd.R_far (p := ⟨gb253, 1, none⟩) (Kd.R_far (p := ⟨gb253, 0, none⟩) (Kd.R_types HO250.out BK253.out (by decide)) (fun _ hk => hk.2) (.bool t247)) (fun _ hk => hk.2) (.slice Ao11 t248.length co11)) (fun _ hk => hk.2) (.int .i64 t251)) (fun _ hk => trivial)⟩, ⟨by (with_reducible repeat (first | refine bN_ ?_ _ | refine bD_ ?_ | refine bA_ ?_ _)); refine blk_far ?_ NB246_253.out _; (with_reducible repeat (first | refine bN_ ?_ _ | refine bD_ ?_ | refine bA_ ?_ _)); refine blk_far ?_ NB246_253.out _; (with_reducible repeat (first | refine bN_ ?_ _ | refine bD_ ?_ | refine bA_ ?_ _)); refine blk_far ?_ NB246_253.out _; (with_reducible repeat (first | refine bN_ ?_ _ | refine bD_ ?_ | refine bA_ ?_ _)); exact BK246.out⟩, ⟨by (with_reducible repeat (first | refine bN_ ?_ _ | refine bD_ ?_ | refine bA_ ?_ _)); refine blk_put (cs := #[.bool t247, .slice Ao11 t248.length co11, .int .i64 0]) ?_ 2 _ rfl; (with_reducible repeat (first | refine bN_ ?_ _ | refine bD_ ?_ | refine bA_ ?_ _)); refine blk_put (cs := #[.bool t247, .slice none 0 0, .int .i64 0]) ?_ 1 _ rfl; (with_reducible repeat (first | refine bN_ ?_ _ | refine bD_ ?_ | refine bA_ ?_ _)); refine blk_put (cs := #[.bool false, .slice none 0 0, .int .i64 0]) ?_ 0 _ rfl; (with_reducible repeat (first | refine bN_ ?_ _ | refine bD_ ?_ | refine bA_ ?_ _)); exact BK253.out⟩, ⟨by repeat (first | (with_reducible first | exact HB.out | apply bB_ | apply wN_ | apply bE_ | refine bS_ ?_ GE246.out | refine bS_ ?_ GE253.out) | exact HB.out)⟩⟩
   ·
    rw [if_neg c13] at H
    have c13b0 : (a0_0 == (-9223372036854775808)) = false := beq_eq_false_iff_ne.mpr c13
    have c13b1 : (a0_0 != (-9223372036854775808)) = true := bne_iff_ne.mpr c13
    (first | rw [c13b0] | (simp only [i64_w, i32_w]; rw [c13b0]) | skip)
    have H' := aM_ H
    clear H
    have hnb16 := NB246_253.out
    have hnc16 := NB253_246.out
    have hcz17_0 : w8.cell? ⟨gb246, 0, none⟩ = some (.int .i64 a0_0) := (bC_ BK246.out 0).trans rfl
    have hcz17_1 : w8.cell? ⟨gb246, 1, none⟩ = some (.int .i64 a0_1) := (bC_ BK246.out 1).trans rfl
    have hfz17_0 := bF_ BK246.out 0
    have hfz17_1 := bF_ BK246.out 1
    go_wp2
    go_meet
    case rel => exact ⟨_, ((a1 == (-9223372036854775808))), (by first | rfl | (simp; done) | (simp [*]; done)), H', ⟨by first | omega | exact Nat.le_refl _⟩, ⟨by (with_reducible repeat (first | apply kA_ | apply kN_ | apply kD_)); exact Kd.R_mono (Kd.R_far (p := ⟨gb253, 2, none⟩) (Kd.R_far (p := ⟨gb253, 1, none⟩) (Kd.R_far (p := ⟨gb253, 0, none⟩) (Kd.R_types HO250.out BK253.out (by decide)) (fun _ hk => hk.2) (.bool t247)) (fun _ hk => hk.2) (.slice Ao11 t248.length co11)) (fun _ hk => hk.2) (.int .i64 t251)) (fun _ hk => trivial)⟩, ⟨by (with_reducible repeat (first | refine bN_ ?_ _ | refine bD_ ?_ | refine bA_ ?_ _)); refine blk_far ?_ NB246_253.out _; (with_reducible repeat (first | refine bN_ ?_ _ | refine bD_ ?_ | refine bA_ ?_ _)); refine blk_far ?_ NB246_253.out _; (with_reducible repeat (first | refine bN_ ?_ _ | refine bD_ ?_ | refine bA_ ?_ _)); refine blk_far ?_ NB246_253.out _; (with_reducible repeat (first | refine bN_ ?_ _ | refine bD_ ?_ | refine bA_ ?_ _)); exact BK246.out⟩, ⟨by (with_reducible repeat (first | refine bN_ ?_ _ | refine bD_ ?_ | refine bA_ ?_ _)); refine blk_put (cs := #[.bool t247, .slice Ao11 t248.length co11, .int .i64 0]) ?_ 2 _ rfl; (with_reducible repeat (first | refine bN_ ?_ _ | refine bD_ ?_ | refine bA_ ?_ _)); refine blk_put (cs := #[.bool t247, .slice none 0 0, .int .i64 0]) ?_ 1 _ rfl; (with_reducible repeat (first | refine bN_ ?_ _ | refine bD_ ?_ | refine bA_ ?_ _)); refine blk_put (cs := #[.bool false, .slice none 0 0, .int .i64 0]) ?_ 0 _ rfl; (with_reducible repeat (first | refine bN_ ?_ _ | refine bD_ ?_ | refine bA_ ?_ _)); exact BK253.out⟩, ⟨by repeat (first | (with_reducible first | exact HB.out | apply bB_ | apply wN_ | apply bE_ | refine bS_ ?_ GE246.out | refine bS_ ?_ GE253.out) | exact HB.out)⟩⟩
  ·
   replace c12 := Bool.eq_false_iff.mpr c12
   subst c12
   have H1 : (laws_FnAmountMul.j0 k a1 true a0_0 a0_1 t247 t248 t251) = some r := by rw [if_neg (show ¬ (false = true) by decide)] at H; exact H
   clear H
   have H := H1
   clear H1
   have H' := aM_ H
   clear H
   go_wp2
   go_meet
   case rel => exact ⟨_, (true), (by first | rfl | (simp; done) | (simp [*]; done)), H', ⟨by first | omega | exact Nat.le_refl _⟩, ⟨by (with_reducible repeat (first | apply kA_ | apply kN_ | apply kD_)); exact Kd.R_mono (Kd.R_far (p := ⟨gb253, 2, none⟩) (Kd.R_far (p := ⟨gb253, 1, none⟩) (Kd.R_far (p := ⟨gb253, 0, none⟩) (Kd.R_types HO250.out BK253.out (by decide)) (fun _ hk => hk.2) (.bool t247)) (fun _ hk => hk.2) (.slice Ao11 t248.length co11)) (fun _ hk => hk.2) (.int .i64 t251)) (fun _ hk => trivial)⟩, ⟨by (with_reducible repeat (first | refine bN_ ?_ _ | refine bD_ ?_ | refine bA_ ?_ _)); refine blk_far ?_ NB246_253.out _; (with_reducible repeat (first | refine bN_ ?_ _ | refine bD_ ?_ | refine bA_ ?_ _)); refine blk_far ?_ NB246_253.out _; (with_reducible repeat (first | refine bN_ ?_ _ | refine bD_ ?_ | refine bA_ ?_ _)); refine blk_far ?_ NB246_253.out _; (with_reducible repeat (first | refine bN_ ?_ _ | refine bD_ ?_ | refine bA_ ?_ _)); exact BK246.out⟩, ⟨by (with_reducible repeat (first | refine bN_ ?_ _ | refine bD_ ?_ | refine bA_ ?_ _)); refine blk_put (cs := #[.bool t247, .slice Ao11 t248.length co11, .int .i64 0]) ?_ 2 _ rfl; (with_reducible repeat (first | refine bN_ ?_ _ | refine bD_ ?_ | refine bA_ ?_ _)); refine blk_put (cs := #[.bool t247, .slice none 0 0, .int .i64 0]) ?_ 1 _ rfl; (with_reducible repeat (first | refine bN_ ?_ _ | refine bD_ ?_ | refine bA_ ?_ _)); refine blk_put (cs := #[.bool false, .slice none 0 0, .int .i64 0]) ?_ 0 _ rfl; (with_reducible repeat (first | refine bN_ ?_ _ | refine bD_ ?_ | refine bA_ ?_ _)); exact BK253.out⟩, ⟨by repeat (first | (with_reducible first | exact HB.out | apply bB_ | apply wN_ | apply bE_ | refine bS_ ?_ GE246.out | refine bS_ ?_ GE253.out) | exact HB.out)⟩⟩
 case rest =>
  clear HC4
  try clear c1
  try clear p2
  try clear c5
  try clear c6
  try clear c9
  try clear c12
  try clear c13
  try clear c13b0
  try clear c13b1
  try clear c14
  try clear c16
  try clear hcz10_0
  try clear hcz10_1
  try clear hcz10_2
  try clear hcz15_0
  try clear hcz15_1
  try clear hcz17_0
  try clear hcz17_1
  try clear hcz6_0
  try clear hcz6_1
  try clear hfz10_0
  try clear hfz10_1
  try clear hfz10_2
  try clear hfz15_0
  try clear hfz15_1
  try clear hfz17_0
  try clear hfz17_1
  try clear hfz6_0
  try clear hfz6_1
  obtain ⟨kq, x29_3, rfl, HA, HJ3, HO_254001, BK246, BK253, HB⟩ := hcut
  cases kq with
  | zero => exact absurd HA.out (by simp [laws_FnAmountMul.j0])
  | succ kj3 =>
   have H := HA.out
   clear HA
   simp only [laws_FnAmountMul.j0] at H
   by_cases c18 : x29_3 = true
   ·
    subst c18
    have H1 : (some true) = some r := by rw [if_pos rfl] at H; exact H
    clear H
    have H := H1
    clear H1
    obtain rfl := Option.some.inj H
    go_wp2
    go_ret
    exact ⟨by first | rfl | (simp [errW_none, errW_some] <;> rfl) | (simp [*, errW_none, errW_some] <;> rfl) | (exfalso; contradiction), by repeat (first | (with_reducible first | exact HB.out | apply bB_ | apply wN_ | apply bE_ | refine bS_ ?_ GE246.out | refine bS_ ?_ GE253.out) | exact HB.out)⟩
   ·
    replace c18 := Bool.eq_false_iff.mpr c18
    subst c18
    have H1 : ((impl_AmountMul.f kj3 a0_0 a0_1 a1).bind fun bt254 => ((spec_DecimalOf.f kj3 a1 0).bind fun bt258 => ((spec_DecimalTimes.f kj3 t247 t248 t251 bt258.1 bt258.2.1 bt258.2.2).bind fun bt263 => ((spec_DecimalOf.f kj3 a0_0 0).bind fun bt269 => ((spec_DecimalOf.f kj3 a1 0).bind fun bt274 => ((spec_DecimalTimes.f kj3 bt269.1 bt269.2.1 bt269.2.2 bt274.1 bt274.2.1 bt274.2.2).bind fun bt279 => ((spec_DecimalInt.f kj3 bt279.1 bt279.2.1 bt279.2.2).bind fun bt284 => (if bt254.2.2 = true then ((laws_amountIs.f kj3 bt254.1 bt254.2.1 bt263.1 bt263.2.1 bt263.2.2).bind fun t286 => (if t286 = true then ((laws_amountAwake.f kj3).bind fun t287 => (some t287)) else (some false))) else ((spec_DecimalInt.f kj3 bt263.1 bt263.2.1 bt263.2.2).bind fun bt288 => (if bt284.2 = true then (if bt288.2 = true then (laws_FnAmountMul.j1 kj3 false) else ((laws_amountAwake.f kj3).bind fun t290 => (laws_FnAmountMul.j1 kj3 t290))) else ((laws_amountAwake.f kj3).bind fun t291 => (laws_FnAmountMul.j1 kj3 t291)))))))))))) = some r := by rw [if_neg (show ¬ (false = true) by decide)] at H; exact H
    clear H
    have H := H1
    clear H1
    replace H := Option.bind_eq_some_iff.mp H
    obtain ⟨⟨t254, t255, t256⟩, A190, H⟩ := H
    replace H : ((spec_DecimalOf.f kj3 a1 0).bind fun bt258 => ((spec_DecimalTimes.f kj3 t247 t248 t251 bt258.1 bt258.2.1 bt258.2.2).bind fun bt263 => ((spec_DecimalOf.f kj3 a0_0 0).bind fun bt269 => ((spec_DecimalOf.f kj3 a1 0).bind fun bt274 => ((spec_DecimalTimes.f kj3 bt269.1 bt269.2.1 bt269.2.2 bt274.1 bt274.2.1 bt274.2.2).bind fun bt279 => ((spec_DecimalInt.f kj3 bt279.1 bt279.2.1 bt279.2.2).bind fun bt284 => (if t256 = true then ((laws_amountIs.f kj3 t254 t255 bt263.1 bt263.2.1 bt263.2.2).bind fun t286 => (if t286 = true then ((laws_amountAwake.f kj3).bind fun t287 => (some t287)) else (some false))) else ((spec_DecimalInt.f kj3 bt263.1 bt263.2.1 bt263.2.2).bind fun bt288 => (if bt284.2 = true then (if bt288.2 = true then (laws_FnAmountMul.j1 kj3 false) else ((laws_amountAwake.f kj3).bind fun t290 => (laws_FnAmountMul.j1 kj3 t290))) else ((laws_amountAwake.f kj3).bind fun t291 => (laws_FnAmountMul.j1 kj3 t291))))))))))) = some r := H
    have A19 := aM_ A190
    clear A190
    replace H := Option.bind_eq_some_iff.mp H
    obtain ⟨⟨t258, t259, t262⟩, A200, H⟩ := H
    replace H : ((spec_DecimalTimes.f kj3 t247 t248 t251 t258 t259 t262).bind fun bt263 => ((spec_DecimalOf.f kj3 a0_0 0).bind fun bt269 => ((spec_DecimalOf.f kj3 a1 0).bind fun bt274 => ((spec_DecimalTimes.f kj3 bt269.1 bt269.2.1 bt269.2.2 bt274.1 bt274.2.1 bt274.2.2).bind fun bt279 => ((spec_DecimalInt.f kj3 bt279.1 bt279.2.1 bt279.2.2).bind fun bt284 => (if t256 = true then ((laws_amountIs.f kj3 t254 t255 bt263.1 bt263.2.1 bt263.2.2).bind fun t286 => (if t286 = true then ((laws_amountAwake.f kj3).bind fun t287 => (some t287)) else (some false))) else ((spec_DecimalInt.f kj3 bt263.1 bt263.2.1 bt263.2.2).bind fun bt288 => (if bt284.2 = true then (if bt288.2 = true then (laws_FnAmountMul.j1 kj3 false) else ((laws_amountAwake.f kj3).bind fun t290 => (laws_FnAmountMul.j1 kj3 t290))) else ((laws_amountAwake.f kj3).bind fun t291 => (laws_FnAmountMul.j1 kj3 t291)))))))))) = some r := H
    have A20 := aM_ A200
    clear A200
    replace H := Option.bind_eq_some_iff.mp H
    obtain ⟨⟨t263, t264, t267⟩, A210, H⟩ := H
    replace H : ((spec_DecimalOf.f kj3 a0_0 0).bind fun bt269 => ((spec_DecimalOf.f kj3 a1 0).bind fun bt274 => ((spec_DecimalTimes.f kj3 bt269.1 bt269.2.1 bt269.2.2 bt274.1 bt274.2.1 bt274.2.2).bind fun bt279 => ((spec_DecimalInt.f kj3 bt279.1 bt279.2.1 bt279.2.2).bind fun bt284 => (if t256 = true then ((laws_amountIs.f kj3 t254 t255 t263 t264 t267).bind fun t286 => (if t286 = true then ((laws_amountAwake.f kj3).bind fun t287 => (some t287)) else (some false))) else ((spec_DecimalInt.f kj3 t263 t264 t267).bind fun bt288 => (if bt284.2 = true then (if bt288.2 = true then (laws_FnAmountMul.j1 kj3 false) else ((laws_amountAwake.f kj3).bind fun t290 => (laws_FnAmountMul.j1 kj3 t290))) else ((laws_amountAwake.f kj3).bind fun t291 => (laws_FnAmountMul.j1 kj3 t291))))))))) = some r := H
    have A21 := aM_ A210
    clear A210
    replace H := Option.bind_eq_some_iff.mp H
    obtain ⟨⟨t269, t270, t273⟩, A220, H⟩ := H
    replace H : ((spec_DecimalOf.f kj3 a1 0).bind fun bt274 => ((spec_DecimalTimes.f kj3 t269 t270 t273 bt274.1 bt274.2.1 bt274.2.2).bind fun bt279 => ((spec_DecimalInt.f kj3 bt279.1 bt279.2.1 bt279.2.2).bind fun bt284 => (if t256 = true then ((laws_amountIs.f kj3 t254 t255 t263 t264 t267).bind fun t286 => (if t286 = true then ((laws_amountAwake.f kj3).bind fun t287 => (some t287)) else (some false))) else ((spec_DecimalInt.f kj3 t263 t264 t267).bind fun bt288 => (if bt284.2 = true then (if bt288.2 = true then (laws_FnAmountMul.j1 kj3 false) else ((laws_amountAwake.f kj3).bind fun t290 => (laws_FnAmountMul.j1 kj3 t290))) else ((laws_amountAwake.f kj3).bind fun t291 => (laws_FnAmountMul.j1 kj3 t291)))))))) = some r := H
    have A22 := aM_ A220
    clear A220
    replace H := Option.bind_eq_some_iff.mp H
    obtain ⟨⟨t274, t275, t278⟩, A230, H⟩ := H
    replace H : ((spec_DecimalTimes.f kj3 t269 t270 t273 t274 t275 t278).bind fun bt279 => ((spec_DecimalInt.f kj3 bt279.1 bt279.2.1 bt279.2.2).bind fun bt284 => (if t256 = true then ((laws_amountIs.f kj3 t254 t255 t263 t264 t267).bind fun t286 => (if t286 = true then ((laws_amountAwake.f kj3).bind fun t287 => (some t287)) else (some false))) else ((spec_DecimalInt.f kj3 t263 t264 t267).bind fun bt288 => (if bt284.2 = true then (if bt288.2 = true then (laws_FnAmountMul.j1 kj3 false) else ((laws_amountAwake.f kj3).bind fun t290 => (laws_FnAmountMul.j1 kj3 t290))) else ((laws_amountAwake.f kj3).bind fun t291 => (laws_FnAmountMul.j1 kj3 t291))))))) = some r := H
    have A23 := aM_ A230
    clear A230
    replace H := Option.bind_eq_some_iff.mp H
    obtain ⟨⟨t279, t280, t283⟩, A240, H⟩ := H
    replace H : ((spec_DecimalInt.f kj3 t279 t280 t283).bind fun bt284 => (if t256 = true then ((laws_amountIs.f kj3 t254 t255 t263 t264 t267).bind fun t286 => (if t286 = true then ((laws_amountAwake.f kj3).bind fun t287 => (some t287)) else (some false))) else ((spec_DecimalInt.f kj3 t263 t264 t267).bind fun bt288 => (if bt284.2 = true then (if bt288.2 = true then (laws_FnAmountMul.j1 kj3 false) else ((laws_amountAwake.f kj3).bind fun t290 => (laws_FnAmountMul.j1 kj3 t290))) else ((laws_amountAwake.f kj3).bind fun t291 => (laws_FnAmountMul.j1 kj3 t291)))))) = some r := H
    have A24 := aM_ A240
    clear A240
    replace H := Option.bind_eq_some_iff.mp H
    obtain ⟨⟨t284, t285⟩, A250, H⟩ := H
    replace H : (if t256 = true then ((laws_amountIs.f kj3 t254 t255 t263 t264 t267).bind fun t286 => (if t286 = true then ((laws_amountAwake.f kj3).bind fun t287 => (some t287)) else (some false))) else ((spec_DecimalInt.f kj3 t263 t264 t267).bind fun bt288 => (if t285 = true then (if bt288.2 = true then (laws_FnAmountMul.j1 kj3 false) else ((laws_amountAwake.f kj3).bind fun t290 => (laws_FnAmountMul.j1 kj3 t290))) else ((laws_amountAwake.f kj3).bind fun t291 => (laws_FnAmountMul.j1 kj3 t291))))) = some r := H
    have A25 := aM_ A250
    clear A250
    by_cases c26 : t256 = true
    ·
     subst c26
     have H1 : ((laws_amountIs.f kj3 t254 t255 t263 t264 t267).bind fun t286 => (if t286 = true then ((laws_amountAwake.f kj3).bind fun t287 => (some t287)) else (some false))) = some r := by rw [if_pos rfl] at H; exact H
     clear H
     have H := H1
     clear H1
     replace H := Option.bind_eq_some_iff.mp H
     obtain ⟨t286, A270, H⟩ := H
     replace H : (if t286 = true then ((laws_amountAwake.f kj3).bind fun t287 => (some t287)) else (some false)) = some r := H
     have A27 := aM_ A270
     clear A270
     by_cases c28 : t286 = true
     ·
      subst c28
      have H1 : ((laws_amountAwake.f kj3).bind fun t287 => (some t287)) = some r := by rw [if_pos rfl] at H; exact H
      clear H
      have H := H1
      clear H1
      replace H := Option.bind_eq_some_iff.mp H
      obtain ⟨t287, A290, H⟩ := H
      replace H : (some t287) = some r := H
      have A29 := aM_ A290
      clear A290
      obtain rfl := Option.some.inj H
      have hnb30 := NB246_253.out
      have hnc30 := NB253_246.out
      have hcz31_0 : wc.cell? ⟨gb246, 0, none⟩ = some (.int .i64 a0_0) := (bC_ BK246.out 0).trans rfl
      have hcz31_1 : wc.cell? ⟨gb246, 1, none⟩ = some (.int .i64 a0_1) := (bC_ BK246.out 1).trans rfl
      have hfz31_0 := bF_ BK246.out 0
      have hfz31_1 := bF_ BK246.out 1
      try go_wp2_with (first | ((with_reducible refine gate_callee (f := 17) rfl ?_); refine goesL_ (some 33) rfl rfl Try.func17 (by kernel_rfl) rfl #[.agg #[.int .i64 a0_0, .int .i64 a0_1], .int .i64 a1] rfl (by (try simp only [List.map_toArray, List.map_cons, List.map_nil]); first | done | rfl | (simp only [List.length_drop, List.length_take]; rfl)) ?_; (with_reducible refine (impl_AmountMul.calls kj3 a0_0 a0_1 a1 t254 t255 true _ A19.out).mono ?_); rintro e w32 ⟨rfl, hb⟩; refine ⟨_, rfl, ?_⟩; have n0_ := aM_ (Kd.R_below (by (with_reducible repeat (first | apply kA_ | apply kN_ | apply kD_)); exact HO_254001.out) hb); have n1_ := aM_ (blk_below (g := gb246) (o := .cells #[.int .i64 a0_0, .int .i64 a0_1] 23 (0, 0)) (by (with_reducible repeat (first | refine bN_ ?_ _ | refine bD_ ?_ | refine bA_ ?_ _)); exact BK246.out) hb); have n2_ := aM_ (blk_below (g := gb253) (o := .cells #[.bool t247, .slice Ao11 t248.length co11, .int .i64 t251] 26 (0, 0)) (by (with_reducible repeat (first | refine bN_ ?_ _ | refine bD_ ?_ | refine bA_ ?_ _)); exact BK253.out) hb); have n3_ := aM_ (below_step (by repeat (first | (with_reducible first | exact HB.out | apply bB_ | apply wN_ | apply bE_ | refine bS_ ?_ GE246.out | refine bS_ ?_ GE253.out) | exact HB.out)) hb); clear HO_254001; clear BK246; clear BK253; clear HB; have HO_254001 := n0_; have BK246 := n1_; have BK253 := n2_; have HB := n3_; clear n0_ n1_ n2_ n3_; (try clear hb); (try clear hb2); (try clear hk); (try clear hi)) | ((with_reducible refine gate_dst (N := 7) rfl ?_); refine box_event ?hg (N := 7) ?hd (cs := #[.int .i64 0, .int .i64 0]) (t := 23) ?hr ?_; (case hd => rfl); (case hg => rfl); (case hr => first | (go_simp; done) | (go_simp; rfl)); intro gb257 hg w33 hbox hb; have n0_ := aM_ (Kd.R_below (by (with_reducible repeat (first | apply kA_ | apply kN_ | apply kD_)); exact HO_254001.out) hb); have n1_ := aM_ (blk_below (g := gb246) (o := .cells #[.int .i64 a0_0, .int .i64 a0_1] 23 (0, 0)) (by (with_reducible repeat (first | refine bN_ ?_ _ | refine bD_ ?_ | refine bA_ ?_ _)); exact BK246.out) hb); have n2_ := aM_ (blk_below (g := gb253) (o := .cells #[.bool t247, .slice Ao11 t248.length co11, .int .i64 t251] 26 (0, 0)) (by (with_reducible repeat (first | refine bN_ ?_ _ | refine bD_ ?_ | refine bA_ ?_ _)); exact BK253.out) hb); have n3_ := aM_ (below_step (by repeat (first | (with_reducible first | exact HB.out | apply bB_ | apply wN_ | apply bE_ | refine bS_ ?_ GE246.out | refine bS_ ?_ GE253.out) | exact HB.out)) hb); have n4_ := aM_ (hbox); have n5_ := aM_ ((by rw [hg]; exact (below_size (by repeat (first | (with_reducible first | exact HB.out | apply bB_ | apply wN_ | apply bE_ | refine bS_ ?_ GE246.out | refine bS_ ?_ GE253.out) | exact HB.out))) : w.heap.size ≤ gb257)); have n6_ := aM_ ((by rw [hg]; exact (below_size (by repeat (first | (with_reducible first | exact HB.out | apply bB_ | apply wN_ | apply bE_ | refine bS_ ?_ GE246.out | refine bS_ ?_ GE253.out) | exact HB.out))) : w.heap.size ≤ gb257)); have n7_ := aM_ ((by rw [hg]; exact Nat.ne_of_lt (blk_lt (g := gb246) (o := .cells #[.int .i64 a0_0, .int .i64 a0_1] 23 (0, 0)) (by (with_reducible repeat (first | refine bN_ ?_ _ | refine bD_ ?_ | refine bA_ ?_ _)); exact BK246.out)) : gb246 ≠ gb257)); have n8_ := aM_ ((by rw [hg]; exact Nat.ne_of_gt (blk_lt (g := gb246) (o := .cells #[.int .i64 a0_0, .int .i64 a0_1] 23 (0, 0)) (by (with_reducible repeat (first | refine bN_ ?_ _ | refine bD_ ?_ | refine bA_ ?_ _)); exact BK246.out)) : gb257 ≠ gb246)); have n9_ := aM_ ((by rw [hg]; exact Nat.ne_of_lt (blk_lt (g := gb253) (o := .cells #[.bool t247, .slice Ao11 t248.length co11, .int .i64 t251] 26 (0, 0)) (by (with_reducible repeat (first | refine bN_ ?_ _ | refine bD_ ?_ | refine bA_ ?_ _)); exact BK253.out)) : gb253 ≠ gb257)); have n10_ := aM_ ((by rw [hg]; exact Nat.ne_of_gt (blk_lt (g := gb253) (o := .cells #[.bool t247, .slice Ao11 t248.length co11, .int .i64 t251] 26 (0, 0)) (by (with_reducible repeat (first | refine bN_ ?_ _ | refine bD_ ?_ | refine bA_ ?_ _)); exact BK253.out)) : gb257 ≠ gb253)); clear HO_254001; clear BK246; clear BK253; clear HB; have HO_254001 := n0_; have BK246 := n1_; have BK253 := n2_; have HB := n3_; have BK257 := n4_; have GW257 := n5_; have GE257 := n6_; have NB246_257 := n7_; have NB257_246 := n8_; have NB253_257 := n9_; have NB257_253 := n10_; clear n0_ n1_ n2_ n3_ n4_ n5_ n6_ n7_ n8_ n9_ n10_; clear hb hbox hg; have hnb34 := NB257_246.out; have hnc34 := NB246_257.out; have hnb35 := NB257_253.out; have hnc35 := NB253_257.out; have hcz36_0 : w33.cell? ⟨gb257, 0, none⟩ = some (.int .i64 0) := (bC_ BK257.out 0).trans rfl; have hcz36_1 : w33.cell? ⟨gb257, 1, none⟩ = some (.int .i64 0) := (bC_ BK257.out 1).trans rfl; have hfz36_0 := bF_ BK257.out 0; have hfz36_1 := bF_ BK257.out 1))
      have n0_ : Aside0 (Kd.R (Kd.int .i64) 3 ((w33.setCell ⟨gb257, 0, none⟩ (.int .i64 t254)).setCell ⟨gb257, 1, none⟩ (.int .i64 t255)) w.heap.size (fun _ => True) (.slice Ao11 t248.length co11) t248) := ⟨by (with_reducible repeat (first | apply kA_ | apply kN_ | apply kD_)); exact Kd.R_mono (Kd.R_far (p := ⟨gb257, 1, none⟩) (Kd.R_far (p := ⟨gb257, 0, none⟩) (Kd.R_types HO_254001.out BK257.out (by decide)) (fun _ hk => hk.2) (.int .i64 t254)) (fun _ hk => hk.2) (.int .i64 t255)) (fun _ hk => trivial)⟩
      have n1_ : Aside0 (((w33.setCell ⟨gb257, 0, none⟩ (.int .i64 t254)).setCell ⟨gb257, 1, none⟩ (.int .i64 t255)).heap[gb246]? = some (.cells #[.int .i64 a0_0, .int .i64 a0_1] 23 (0, 0))) := ⟨by (with_reducible repeat (first | refine bN_ ?_ _ | refine bD_ ?_ | refine bA_ ?_ _)); refine blk_far ?_ NB246_257.out _; (with_reducible repeat (first | refine bN_ ?_ _ | refine bD_ ?_ | refine bA_ ?_ _)); refine blk_far ?_ NB246_257.out _; (with_reducible repeat (first | refine bN_ ?_ _ | refine bD_ ?_ | refine bA_ ?_ _)); exact BK246.out⟩
      have n2_ : Aside0 (((w33.setCell ⟨gb257, 0, none⟩ (.int .i64 t254)).setCell ⟨gb257, 1, none⟩ (.int .i64 t255)).heap[gb253]? = some (.cells #[.bool t247, .slice Ao11 t248.length co11, .int .i64 t251] 26 (0, 0))) := ⟨by (with_reducible repeat (first | refine bN_ ?_ _ | refine bD_ ?_ | refine bA_ ?_ _)); refine blk_far ?_ NB253_257.out _; (with_reducible repeat (first | refine bN_ ?_ _ | refine bD_ ?_ | refine bA_ ?_ _)); refine blk_far ?_ NB253_257.out _; (with_reducible repeat (first | refine bN_ ?_ _ | refine bD_ ?_ | refine bA_ ?_ _)); exact BK253.out⟩
      have n3_ : Aside0 (((w33.setCell ⟨gb257, 0, none⟩ (.int .i64 t254)).setCell ⟨gb257, 1, none⟩ (.int .i64 t255)).heap[gb257]? = some (.cells #[.int .i64 t254, .int .i64 t255] 23 (0, 0))) := ⟨by (with_reducible repeat (first | refine bN_ ?_ _ | refine bD_ ?_ | refine bA_ ?_ _)); refine blk_put (cs := #[.int .i64 t254, .int .i64 0]) ?_ 1 _ rfl; (with_reducible repeat (first | refine bN_ ?_ _ | refine bD_ ?_ | refine bA_ ?_ _)); refine blk_put (cs := #[.int .i64 0, .int .i64 0]) ?_ 0 _ rfl; (with_reducible repeat (first | refine bN_ ?_ _ | refine bD_ ?_ | refine bA_ ?_ _)); exact BK257.out⟩
      have n4_ : Aside0 (Below w.heap.size w ((w33.setCell ⟨gb257, 0, none⟩ (.int .i64 t254)).setCell ⟨gb257, 1, none⟩ (.int .i64 t255))) := ⟨by repeat (first | (with_reducible first | exact HB.out | apply bB_ | apply wN_ | apply bE_ | refine bS_ ?_ GE246.out | refine bS_ ?_ GE253.out | refine bS_ ?_ GE257.out) | exact HB.out)⟩
      (try clear HO_254001)
      (try clear BK246)
      (try clear BK253)
      (try clear BK257)
      (try clear HB)
      generalize ((w33.setCell ⟨gb257, 0, none⟩ (.int .i64 t254)).setCell ⟨gb257, 1, none⟩ (.int .i64 t255)) = w37 at n0_ n1_ n2_ n3_ n4_ ⊢
      have HO_254001 := n0_
      have BK246 := n1_
      have BK253 := n2_
      have BK257 := n3_
      have HB := n4_
      clear n0_ n1_ n2_ n3_ n4_
      have n0_ := aM_ (kD_ HO_254001.out)
      have n1_ := aM_ (bD_ BK246.out)
      have n2_ := aM_ (bD_ BK253.out)
      have n3_ := aM_ (bD_ BK257.out)
      have n4_ := aM_ (bE_ HB.out)
      clear HO_254001
      clear BK246
      clear BK253
      clear BK257
      clear HB
      have HO_254001 := n0_
      have BK246 := n1_
      have BK253 := n2_
      have BK257 := n3_
      have HB := n4_
      clear n0_ n1_ n2_ n3_ n4_
      refine start_ (n := 6) (S := fun w' => w'.cell? ⟨gb253, 0, none⟩ = some (.bool t247) ∧ w'.cell? ⟨gb253, 1, none⟩ = some (.slice Ao11 t248.length co11) ∧ w'.cell? ⟨gb253, 2, none⟩ = some (.int .i64 t251)) (ds := []) #[false, false, false, false, false, false] (by kernel_rfl) rfl rfl ⟨(bC_ BK253.out 0).trans rfl, (bC_ BK253.out 1).trans rfl, (bC_ BK253.out 2).trans rfl⟩ (fun hHeld => ?_)
      generalize w37.drew = w38 at HO_254001 BK246 BK253 BK257 HB hHeld ⊢
      refine pure_ (i := 1) (N := some 37) (v := ?_) (a' := ?_) #[false, true, false, false, false, false] rfl rfl (by kernel_rfl) (fun _ _ _ h => h) (Or.inl ⟨by rfl, ?_⟩) ?_ ?_
      rotate_left
      ·
       intro w'
       go_simp
       with_reducible rfl
      rotate_left
      ·
       simp only [Act.put, List.setIfInBounds_toArray, List.set_cons_zero, List.set_cons_succ, i64_w, i32_w]
       rfl
      refine take_ (i := 0) (N := some 36) (v := ?_) (a' := ?_) #[true, true, false, false, false, false] rfl rfl (by kernel_rfl) (fun _ _ _ h => h) (Or.inl ⟨by rfl, ?_⟩) hHeld ?_ ?_
      rotate_left
      ·
       rintro w' ⟨s0, s1, s2⟩
       go_simp
       with_reducible rfl
      rotate_left
      ·
       simp only [Act.put, List.setIfInBounds_toArray, List.set_cons_zero, List.set_cons_succ, i64_w, i32_w]
       rfl
      refine join_ (σ := Value × Value × Nat) 1 #[true, true, true, true, true, false] (fun s_ => [(38, .agg #[.bool t258, s_.1, .int .i64 t262]), (39, .agg #[.bool t263, s_.2.1, .int .i64 t267]), (9, .pointer (some ⟨s_.2.2, 0, none⟩))]) (fun s_ w' => (w'.cell? ⟨gb253, 0, none⟩ = some (.bool t247) ∧ w'.cell? ⟨gb253, 1, none⟩ = some (.slice Ao11 t248.length co11) ∧ w'.cell? ⟨gb253, 2, none⟩ = some (.int .i64 t251)) ∧ (Kd.R (Kd.int .i64) 3 w' w.heap.size (fun k_ => some k_ ≠ (s_.2.1 : Value).ownBlock ∧ some k_ ≠ (.slice Ao11 t248.length co11 : Value).ownBlock) s_.1 t259) ∧ (Kd.R (Kd.int .i64) 3 w' w.heap.size (fun k_ => some k_ ≠ (s_.1 : Value).ownBlock ∧ some k_ ≠ (.slice Ao11 t248.length co11 : Value).ownBlock) s_.2.1 t264) ∧ (Kd.R (Kd.int .i64) 3 w' w.heap.size (fun k_ => some k_ ≠ (s_.1 : Value).ownBlock ∧ some k_ ≠ (s_.2.1 : Value).ownBlock) (.slice Ao11 t248.length co11) t248) ∧ (w'.heap[gb246]? = some (.cells #[.int .i64 a0_0, .int .i64 a0_1] 23 (0, 0))) ∧ (w'.heap[gb253]? = some (.cells #[.bool t247, .slice Ao11 t248.length co11, .int .i64 t251] 26 (0, 0))) ∧ (w'.heap[gb257]? = some (.cells #[.int .i64 t254, .int .i64 t255] 23 (0, 0))) ∧ (w'.heap[s_.2.2]? = some (.cells #[.bool false, .slice none 0 0, .int .i64 0] 26 (0, 0))) ∧ (w.heap.size ≤ s_.2.2) ∧ (w.heap.size ≤ s_.2.2) ∧ (gb246 ≠ s_.2.2) ∧ (s_.2.2 ≠ gb246) ∧ (gb253 ≠ s_.2.2) ∧ (s_.2.2 ≠ gb253) ∧ (gb257 ≠ s_.2.2) ∧ (s_.2.2 ≠ gb257) ∧ (Below w.heap.size w w')) ?_ ?_
      rotate_left
      ·
       intro hCont
       refine two_ (i := 2) (j := 4) (Ni := some 38) (Nj := some 9) #[true, true, true, false, false, false] #[true, true, false, false, true, false] rfl rfl rfl rfl (by kernel_rfl) (by decide) (by decide) (fun K hK => ?_) (fun K hK => ?_)
       ·
        skip
        refine goes_ Try.func12 (by kernel_rfl) rfl #[.int .i64 a1, .int .i64 0] (by rfl) rfl rfl (by (try simp only [List.map_toArray, List.map_cons, List.map_nil]); first | done | rfl | (simp only [List.length_drop, List.length_take]; rfl)) ?_
        with_reducible refine (spec_DecimalOf.calls kj3 a1 0 t258 t259 t262 _ A20.out).mono ?_
        rintro e w39 ⟨v260, rfl, ho0, hb⟩
        refine ⟨_, rfl, ?_⟩
        have n0_ := aM_ (Kd.R_elder' (by (with_reducible repeat (first | apply kA_ | apply kN_ | apply kD_)); exact HO_254001.out) (Kd.R_base ho0) hb)
        have n1_ := aM_ (Kd.R_lower (Kd.R_new' ho0 (Kd.R_lt (by (with_reducible repeat (first | apply kA_ | apply kN_ | apply kD_)); exact HO_254001.out))) (below_size (by repeat (first | (with_reducible first | exact HB.out | apply bB_ | apply wN_ | apply bE_ | refine bS_ ?_ GE246.out | refine bS_ ?_ GE253.out | refine bS_ ?_ GE257.out) | exact HB.out))))
        have n2_ := aM_ (blk_below (g := gb246) (o := .cells #[.int .i64 a0_0, .int .i64 a0_1] 23 (0, 0)) (by (with_reducible repeat (first | refine bN_ ?_ _ | refine bD_ ?_ | refine bA_ ?_ _)); exact BK246.out) hb)
        have n3_ := aM_ (blk_below (g := gb253) (o := .cells #[.bool t247, .slice Ao11 t248.length co11, .int .i64 t251] 26 (0, 0)) (by (with_reducible repeat (first | refine bN_ ?_ _ | refine bD_ ?_ | refine bA_ ?_ _)); exact BK253.out) hb)
        have n4_ := aM_ (blk_below (g := gb257) (o := .cells #[.int .i64 t254, .int .i64 t255] 23 (0, 0)) (by (with_reducible repeat (first | refine bN_ ?_ _ | refine bD_ ?_ | refine bA_ ?_ _)); exact BK257.out) hb)
        have n5_ := aM_ (below_step (by repeat (first | (with_reducible first | exact HB.out | apply bB_ | apply wN_ | apply bE_ | refine bS_ ?_ GE246.out | refine bS_ ?_ GE253.out | refine bS_ ?_ GE257.out) | exact HB.out)) hb)
        clear HO_254001
        clear BK246
        clear BK253
        clear BK257
        clear HB
        have HO_254001 := n0_
        have HO261 := n1_
        have BK246 := n2_
        have BK253 := n3_
        have BK257 := n4_
        have HB := n5_
        clear n0_ n1_ n2_ n3_ n4_ n5_
        (try clear hb)
        (try clear hb2)
        (try clear hk)
        (try clear hi)
        (try clear ho0)
        obtain ⟨Ao40, co40, eo40⟩ := Kd.R_slice HO261.out
        (first | subst eo40 | (injection eo40 with f1_ f2_ f3_; have f4_ := f1_.symm; have f5_ := f3_.symm; clear f1_ f2_ f3_; subst f4_; subst f5_))
        refine hK.out _ _ ⟨(bC_ BK253.out 0).trans rfl, (bC_ BK253.out 1).trans rfl, (bC_ BK253.out 2).trans rfl⟩ (fun hHeld => ?_)
        clear hK K
        refine norm_ (a' := ?_) ?_ ?_
        rotate_left
        ·
         show Act.put _ (some 38) _ = _
         simp only [Act.put, List.setIfInBounds_toArray, List.set_cons_zero, List.set_cons_succ, i64_w, i32_w]
         rfl
        refine two_ (i := 3) (j := 4) (Ni := some 39) (Nj := some 9) #[true, true, true, true, false, false] #[true, true, true, false, true, false] rfl rfl rfl rfl (by kernel_rfl) (by decide) (by decide) (fun K hK => ?_) (fun K hK => ?_)
        ·
         skip
         refine goes_ Try.func11 (by kernel_rfl) rfl #[.agg #[.bool t247, .slice Ao11 t248.length co11, .int .i64 t251], .agg #[.bool t258, .slice Ao40 t259.length co40, .int .i64 t262]] (by rfl) rfl rfl (by (try simp only [List.map_toArray, List.map_cons, List.map_nil]); first | done | rfl | (simp only [List.length_drop, List.length_take]; rfl)) ?_
         with_reducible refine (spec_DecimalTimes.calls kj3 t247 _ _ t248 t251 t258 _ _ t259 t262 t263 t264 t267 _ ?side1 ?side2 ?side3 ?side4 A21.out).mono ?_
         (case side1 => repeat (first | exact (Kd.R_reads' HO_254001.out).2.2 | (with_reducible refine Kd.C_alloc ?_ _) | (with_reducible refine Kd.C_drewN ?_ _) | (with_reducible refine Kd.C_drew ?_)))
         (case side2 => exact (Kd.R_reads' HO_254001.out).2.1)
         (case side3 => repeat (first | exact (Kd.R_reads' HO261.out).2.2 | (with_reducible refine Kd.C_alloc ?_ _) | (with_reducible refine Kd.C_drewN ?_ _) | (with_reducible refine Kd.C_drew ?_)))
         (case side4 => exact (Kd.R_reads' HO261.out).2.1)
         rintro e w41 ⟨v265, rfl, ho0, hb⟩
         refine ⟨_, rfl, ?_⟩
         have n0_ := aM_ (Kd.R_elder' (by (with_reducible repeat (first | apply kA_ | apply kN_ | apply kD_)); exact HO_254001.out) (Kd.R_base ho0) hb)
         have n1_ := aM_ (Kd.R_elder' (by (with_reducible repeat (first | apply kA_ | apply kN_ | apply kD_)); exact HO261.out) (Kd.R_base ho0) hb)
         have n2_ := aM_ (Kd.R_lower (Kd.R_new' (Kd.R_new' ho0 (Kd.R_lt (by (with_reducible repeat (first | apply kA_ | apply kN_ | apply kD_)); exact HO_254001.out))) (Kd.R_lt (by (with_reducible repeat (first | apply kA_ | apply kN_ | apply kD_)); exact HO261.out))) (below_size (by repeat (first | (with_reducible first | exact HB.out | apply bB_ | apply wN_ | apply bE_ | refine bS_ ?_ GE246.out | refine bS_ ?_ GE253.out | refine bS_ ?_ GE257.out) | exact HB.out))))
         have n3_ := aM_ (blk_below (g := gb246) (o := .cells #[.int .i64 a0_0, .int .i64 a0_1] 23 (0, 0)) (by (with_reducible repeat (first | refine bN_ ?_ _ | refine bD_ ?_ | refine bA_ ?_ _)); exact BK246.out) hb)
         have n4_ := aM_ (blk_below (g := gb253) (o := .cells #[.bool t247, .slice Ao11 t248.length co11, .int .i64 t251] 26 (0, 0)) (by (with_reducible repeat (first | refine bN_ ?_ _ | refine bD_ ?_ | refine bA_ ?_ _)); exact BK253.out) hb)
         have n5_ := aM_ (blk_below (g := gb257) (o := .cells #[.int .i64 t254, .int .i64 t255] 23 (0, 0)) (by (with_reducible repeat (first | refine bN_ ?_ _ | refine bD_ ?_ | refine bA_ ?_ _)); exact BK257.out) hb)
         have n6_ := aM_ (below_step (by repeat (first | (with_reducible first | exact HB.out | apply bB_ | apply wN_ | apply bE_ | refine bS_ ?_ GE246.out | refine bS_ ?_ GE253.out | refine bS_ ?_ GE257.out) | exact HB.out)) hb)
         clear HO_254001
         clear HO261
         clear BK246
         clear BK253
         clear BK257
         clear HB
         have HO_254001 := n0_
         have HO261 := n1_
         have HO266 := n2_
         have BK246 := n3_
         have BK253 := n4_
         have BK257 := n5_
         have HB := n6_
         clear n0_ n1_ n2_ n3_ n4_ n5_ n6_
         (try clear hb)
         (try clear hb2)
         (try clear hk)
         (try clear hi)
         (try clear ho0)
         refine hK.out _ _ ⟨(bC_ BK253.out 0).trans rfl, (bC_ BK253.out 1).trans rfl, (bC_ BK253.out 2).trans rfl⟩ (fun hHeld => ?_)
         clear hK K
         refine norm_ (a' := ?_) ?_ ?_
         rotate_left
         ·
          show Act.put _ (some 39) _ = _
          simp only [Act.put, List.setIfInBounds_toArray, List.set_cons_zero, List.set_cons_succ, i64_w, i32_w]
          rfl
         refine one_ (i := 4) (N := some 9) #[true, true, true, true, true, false] rfl rfl (by kernel_rfl) (by decide) (fun K hK => ?_)
         refine box_step ?hg (N := 9) ?hd (cs := #[.bool false, .slice none 0 0, .int .i64 0]) (t := 26) ?hr ?_; (case hd => rfl); (case hg => rfl); (case hr => first | (go_simp; done) | (go_simp; rfl))
         intro gb268 hg w42 hbox hb
         have n0_ := aM_ (Kd.R_below (by (with_reducible repeat (first | apply kA_ | apply kN_ | apply kD_)); exact HO_254001.out) hb)
         have n1_ := aM_ (Kd.R_below (by (with_reducible repeat (first | apply kA_ | apply kN_ | apply kD_)); exact HO261.out) hb)
         have n2_ := aM_ (Kd.R_below (by (with_reducible repeat (first | apply kA_ | apply kN_ | apply kD_)); exact HO266.out) hb)
         have n3_ := aM_ (blk_below (g := gb246) (o := .cells #[.int .i64 a0_0, .int .i64 a0_1] 23 (0, 0)) (by (with_reducible repeat (first | refine bN_ ?_ _ | refine bD_ ?_ | refine bA_ ?_ _)); exact BK246.out) hb)
         have n4_ := aM_ (blk_below (g := gb253) (o := .cells #[.bool t247, .slice Ao11 t248.length co11, .int .i64 t251] 26 (0, 0)) (by (with_reducible repeat (first | refine bN_ ?_ _ | refine bD_ ?_ | refine bA_ ?_ _)); exact BK253.out) hb)
         have n5_ := aM_ (blk_below (g := gb257) (o := .cells #[.int .i64 t254, .int .i64 t255] 23 (0, 0)) (by (with_reducible repeat (first | refine bN_ ?_ _ | refine bD_ ?_ | refine bA_ ?_ _)); exact BK257.out) hb)
         have n6_ := aM_ (below_step (by repeat (first | (with_reducible first | exact HB.out | apply bB_ | apply wN_ | apply bE_ | refine bS_ ?_ GE246.out | refine bS_ ?_ GE253.out | refine bS_ ?_ GE257.out) | exact HB.out)) hb)
         have n7_ := aM_ (hbox)
         have n8_ := aM_ ((by rw [hg]; exact (below_size (by repeat (first | (with_reducible first | exact HB.out | apply bB_ | apply wN_ | apply bE_ | refine bS_ ?_ GE246.out | refine bS_ ?_ GE253.out | refine bS_ ?_ GE257.out) | exact HB.out))) : w.heap.size ≤ gb268))
         have n9_ := aM_ ((by rw [hg]; exact (below_size (by repeat (first | (with_reducible first | exact HB.out | apply bB_ | apply wN_ | apply bE_ | refine bS_ ?_ GE246.out | refine bS_ ?_ GE253.out | refine bS_ ?_ GE257.out) | exact HB.out))) : w.heap.size ≤ gb268))
         have n10_ := aM_ ((by rw [hg]; exact Nat.ne_of_lt (blk_lt (g := gb246) (o := .cells #[.int .i64 a0_0, .int .i64 a0_1] 23 (0, 0)) (by (with_reducible repeat (first | refine bN_ ?_ _ | refine bD_ ?_ | refine bA_ ?_ _)); exact BK246.out)) : gb246 ≠ gb268))
         have n11_ := aM_ ((by rw [hg]; exact Nat.ne_of_gt (blk_lt (g := gb246) (o := .cells #[.int .i64 a0_0, .int .i64 a0_1] 23 (0, 0)) (by (with_reducible repeat (first | refine bN_ ?_ _ | refine bD_ ?_ | refine bA_ ?_ _)); exact BK246.out)) : gb268 ≠ gb246))
         have n12_ := aM_ ((by rw [hg]; exact Nat.ne_of_lt (blk_lt (g := gb253) (o := .cells #[.bool t247, .slice Ao11 t248.length co11, .int .i64 t251] 26 (0, 0)) (by (with_reducible repeat (first | refine bN_ ?_ _ | refine bD_ ?_ | refine bA_ ?_ _)); exact BK253.out)) : gb253 ≠ gb268))
         have n13_ := aM_ ((by rw [hg]; exact Nat.ne_of_gt (blk_lt (g := gb253) (o := .cells #[.bool t247, .slice Ao11 t248.length co11, .int .i64 t251] 26 (0, 0)) (by (with_reducible repeat (first | refine bN_ ?_ _ | refine bD_ ?_ | refine bA_ ?_ _)); exact BK253.out)) : gb268 ≠ gb253))
         have n14_ := aM_ ((by rw [hg]; exact Nat.ne_of_lt (blk_lt (g := gb257) (o := .cells #[.int .i64 t254, .int .i64 t255] 23 (0, 0)) (by (with_reducible repeat (first | refine bN_ ?_ _ | refine bD_ ?_ | refine bA_ ?_ _)); exact BK257.out)) : gb257 ≠ gb268))
         have n15_ := aM_ ((by rw [hg]; exact Nat.ne_of_gt (blk_lt (g := gb257) (o := .cells #[.int .i64 t254, .int .i64 t255] 23 (0, 0)) (by (with_reducible repeat (first | refine bN_ ?_ _ | refine bD_ ?_ | refine bA_ ?_ _)); exact BK257.out)) : gb268 ≠ gb257))
         clear HO_254001
         clear HO261
         clear HO266
         clear BK246
         clear BK253
         clear BK257
         clear HB
         have HO_254001 := n0_
         have HO261 := n1_
         have HO266 := n2_
         have BK246 := n3_
         have BK253 := n4_
         have BK257 := n5_
         have HB := n6_
         have BK268 := n7_
         have GW268 := n8_
         have GE268 := n9_
         have NB246_268 := n10_
         have NB268_246 := n11_
         have NB253_268 := n12_
         have NB268_253 := n13_
         have NB257_268 := n14_
         have NB268_257 := n15_
         clear n0_ n1_ n2_ n3_ n4_ n5_ n6_ n7_ n8_ n9_ n10_ n11_ n12_ n13_ n14_ n15_
         clear hb hbox hg
         refine hK.out _ _ ⟨(bC_ BK253.out 0).trans rfl, (bC_ BK253.out 1).trans rfl, (bC_ BK253.out 2).trans rfl⟩ (fun hHeld => ?_)
         clear hK K
         refine norm_ (a' := ?_) ?_ ?_
         rotate_left
         ·
          show Act.put _ (some 9) _ = _
          simp only [Act.put, List.setIfInBounds_toArray, List.set_cons_zero, List.set_cons_succ, i64_w, i32_w]
          rfl
         exact norm_ (by simp only [putAll, Act.put, List.setIfInBounds_toArray, List.set_cons_zero, List.set_cons_succ]) (hCont (.slice Ao40 t259.length co40, v265, gb268) _ ⟨hHeld, (by (with_reducible repeat (first | apply kA_ | apply kN_ | apply kD_)); exact Kd.R_mono HO261.out (fun _ hk => ⟨hk.2, hk.1.2⟩)), (by (with_reducible repeat (first | apply kA_ | apply kN_ | apply kD_)); exact Kd.R_mono HO266.out (fun _ hk => ⟨hk.2, hk.1.2⟩)), (by (with_reducible repeat (first | apply kA_ | apply kN_ | apply kD_)); exact Kd.R_mono HO_254001.out (fun _ hk => ⟨hk.1.2, hk.2⟩)), (by (with_reducible repeat (first | refine bN_ ?_ _ | refine bD_ ?_ | refine bA_ ?_ _)); exact BK246.out), (by (with_reducible repeat (first | refine bN_ ?_ _ | refine bD_ ?_ | refine bA_ ?_ _)); exact BK253.out), (by (with_reducible repeat (first | refine bN_ ?_ _ | refine bD_ ?_ | refine bA_ ?_ _)); exact BK257.out), (by (with_reducible repeat (first | refine bN_ ?_ _ | refine bD_ ?_ | refine bA_ ?_ _)); exact BK268.out), GW268.out, GE268.out, NB246_268.out, NB268_246.out, NB253_268.out, NB268_253.out, NB257_268.out, NB268_257.out, (by repeat (first | (with_reducible first | exact HB.out | apply bB_ | apply wN_ | apply bE_ | refine bS_ ?_ GE246.out | refine bS_ ?_ GE253.out | refine bS_ ?_ GE257.out | refine bS_ ?_ GE268.out) | exact HB.out))⟩)
        ·
         skip
         refine box_step ?hg (N := 9) ?hd (cs := #[.bool false, .slice none 0 0, .int .i64 0]) (t := 26) ?hr ?_; (case hd => rfl); (case hg => rfl); (case hr => first | (go_simp; done) | (go_simp; rfl))
         intro gb268 hg w40 hbox hb
         have n0_ := aM_ (Kd.R_below (by (with_reducible repeat (first | apply kA_ | apply kN_ | apply kD_)); exact HO_254001.out) hb)
         have n1_ := aM_ (Kd.R_below (by (with_reducible repeat (first | apply kA_ | apply kN_ | apply kD_)); exact HO261.out) hb)
         have n2_ := aM_ (blk_below (g := gb246) (o := .cells #[.int .i64 a0_0, .int .i64 a0_1] 23 (0, 0)) (by (with_reducible repeat (first | refine bN_ ?_ _ | refine bD_ ?_ | refine bA_ ?_ _)); exact BK246.out) hb)
         have n3_ := aM_ (blk_below (g := gb253) (o := .cells #[.bool t247, .slice Ao11 t248.length co11, .int .i64 t251] 26 (0, 0)) (by (with_reducible repeat (first | refine bN_ ?_ _ | refine bD_ ?_ | refine bA_ ?_ _)); exact BK253.out) hb)
         have n4_ := aM_ (blk_below (g := gb257) (o := .cells #[.int .i64 t254, .int .i64 t255] 23 (0, 0)) (by (with_reducible repeat (first | refine bN_ ?_ _ | refine bD_ ?_ | refine bA_ ?_ _)); exact BK257.out) hb)
         have n5_ := aM_ (below_step (by repeat (first | (with_reducible first | exact HB.out | apply bB_ | apply wN_ | apply bE_ | refine bS_ ?_ GE246.out | refine bS_ ?_ GE253.out | refine bS_ ?_ GE257.out) | exact HB.out)) hb)
         have n6_ := aM_ (hbox)
         have n7_ := aM_ ((by rw [hg]; exact (below_size (by repeat (first | (with_reducible first | exact HB.out | apply bB_ | apply wN_ | apply bE_ | refine bS_ ?_ GE246.out | refine bS_ ?_ GE253.out | refine bS_ ?_ GE257.out) | exact HB.out))) : w.heap.size ≤ gb268))
         have n8_ := aM_ ((by rw [hg]; exact (below_size (by repeat (first | (with_reducible first | exact HB.out | apply bB_ | apply wN_ | apply bE_ | refine bS_ ?_ GE246.out | refine bS_ ?_ GE253.out | refine bS_ ?_ GE257.out) | exact HB.out))) : w.heap.size ≤ gb268))
         have n9_ := aM_ ((by rw [hg]; exact Nat.ne_of_lt (blk_lt (g := gb246) (o := .cells #[.int .i64 a0_0, .int .i64 a0_1] 23 (0, 0)) (by (with_reducible repeat (first | refine bN_ ?_ _ | refine bD_ ?_ | refine bA_ ?_ _)); exact BK246.out)) : gb246 ≠ gb268))
         have n10_ := aM_ ((by rw [hg]; exact Nat.ne_of_gt (blk_lt (g := gb246) (o := .cells #[.int .i64 a0_0, .int .i64 a0_1] 23 (0, 0)) (by (with_reducible repeat (first | refine bN_ ?_ _ | refine bD_ ?_ | refine bA_ ?_ _)); exact BK246.out)) : gb268 ≠ gb246))
         have n11_ := aM_ ((by rw [hg]; exact Nat.ne_of_lt (blk_lt (g := gb253) (o := .cells #[.bool t247, .slice Ao11 t248.length co11, .int .i64 t251] 26 (0, 0)) (by (with_reducible repeat (first | refine bN_ ?_ _ | refine bD_ ?_ | refine bA_ ?_ _)); exact BK253.out)) : gb253 ≠ gb268))
         have n12_ := aM_ ((by rw [hg]; exact Nat.ne_of_gt (blk_lt (g := gb253) (o := .cells #[.bool t247, .slice Ao11 t248.length co11, .int .i64 t251] 26 (0, 0)) (by (with_reducible repeat (first | refine bN_ ?_ _ | refine bD_ ?_ | refine bA_ ?_ _)); exact BK253.out)) : gb268 ≠ gb253))
         have n13_ := aM_ ((by rw [hg]; exact Nat.ne_of_lt (blk_lt (g := gb257) (o := .cells #[.int .i64 t254, .int .i64 t255] 23 (0, 0)) (by (with_reducible repeat (first | refine bN_ ?_ _ | refine bD_ ?_ | refine bA_ ?_ _)); exact BK257.out)) : gb257 ≠ gb268))
         have n14_ := aM_ ((by rw [hg]; exact Nat.ne_of_gt (blk_lt (g := gb257) (o := .cells #[.int .i64 t254, .int .i64 t255] 23 (0, 0)) (by (with_reducible repeat (first | refine bN_ ?_ _ | refine bD_ ?_ | refine bA_ ?_ _)); exact BK257.out)) : gb268 ≠ gb257))
         clear HO_254001
         clear HO261
         clear BK246
         clear BK253
         clear BK257
         clear HB
         have HO_254001 := n0_
         have HO261 := n1_
         have BK246 := n2_
         have BK253 := n3_
         have BK257 := n4_
         have HB := n5_
         have BK268 := n6_
         have GW268 := n7_
         have GE268 := n8_
         have NB246_268 := n9_
         have NB268_246 := n10_
         have NB253_268 := n11_
         have NB268_253 := n12_
         have NB257_268 := n13_
         have NB268_257 := n14_
         clear n0_ n1_ n2_ n3_ n4_ n5_ n6_ n7_ n8_ n9_ n10_ n11_ n12_ n13_ n14_
         clear hb hbox hg
         obtain ⟨Ao41, co41, eo41⟩ := Kd.R_slice HO261.out
         (first | subst eo41 | (injection eo41 with f1_ f2_ f3_; have f4_ := f1_.symm; have f5_ := f3_.symm; clear f1_ f2_ f3_; subst f4_; subst f5_))
         refine hK.out _ _ ⟨(bC_ BK253.out 0).trans rfl, (bC_ BK253.out 1).trans rfl, (bC_ BK253.out 2).trans rfl⟩ (fun hHeld => ?_)
         clear hK K
         refine norm_ (a' := ?_) ?_ ?_
         rotate_left
         ·
          show Act.put _ (some 9) _ = _
          simp only [Act.put, List.setIfInBounds_toArray, List.set_cons_zero, List.set_cons_succ, i64_w, i32_w]
          rfl
         refine one_ (i := 3) (N := some 39) #[true, true, true, true, true, false] rfl rfl (by kernel_rfl) (by decide) (fun K hK => ?_)
         refine goes_ Try.func11 (by kernel_rfl) rfl #[.agg #[.bool t247, .slice Ao11 t248.length co11, .int .i64 t251], .agg #[.bool t258, .slice Ao41 t259.length co41, .int .i64 t262]] (by rfl) rfl rfl (by (try simp only [List.map_toArray, List.map_cons, List.map_nil]); first | done | rfl | (simp only [List.length_drop, List.length_take]; rfl)) ?_
         with_reducible refine (spec_DecimalTimes.calls kj3 t247 _ _ t248 t251 t258 _ _ t259 t262 t263 t264 t267 _ ?side1 ?side2 ?side3 ?side4 A21.out).mono ?_
         (case side1 => repeat (first | exact (Kd.R_reads' HO_254001.out).2.2 | (with_reducible refine Kd.C_alloc ?_ _) | (with_reducible refine Kd.C_drewN ?_ _) | (with_reducible refine Kd.C_drew ?_)))
         (case side2 => exact (Kd.R_reads' HO_254001.out).2.1)
         (case side3 => repeat (first | exact (Kd.R_reads' HO261.out).2.2 | (with_reducible refine Kd.C_alloc ?_ _) | (with_reducible refine Kd.C_drewN ?_ _) | (with_reducible refine Kd.C_drew ?_)))
         (case side4 => exact (Kd.R_reads' HO261.out).2.1)
         rintro e w42 ⟨v265, rfl, ho0, hb⟩
         refine ⟨_, rfl, ?_⟩
         have n0_ := aM_ (Kd.R_elder' (by (with_reducible repeat (first | apply kA_ | apply kN_ | apply kD_)); exact HO_254001.out) (Kd.R_base ho0) hb)
         have n1_ := aM_ (Kd.R_elder' (by (with_reducible repeat (first | apply kA_ | apply kN_ | apply kD_)); exact HO261.out) (Kd.R_base ho0) hb)
         have n2_ := aM_ (Kd.R_lower (Kd.R_new' (Kd.R_new' ho0 (Kd.R_lt (by (with_reducible repeat (first | apply kA_ | apply kN_ | apply kD_)); exact HO_254001.out))) (Kd.R_lt (by (with_reducible repeat (first | apply kA_ | apply kN_ | apply kD_)); exact HO261.out))) (below_size (by repeat (first | (with_reducible first | exact HB.out | apply bB_ | apply wN_ | apply bE_ | refine bS_ ?_ GE246.out | refine bS_ ?_ GE253.out | refine bS_ ?_ GE257.out | refine bS_ ?_ GE268.out) | exact HB.out))))
         have n3_ := aM_ (blk_below (g := gb246) (o := .cells #[.int .i64 a0_0, .int .i64 a0_1] 23 (0, 0)) (by (with_reducible repeat (first | refine bN_ ?_ _ | refine bD_ ?_ | refine bA_ ?_ _)); exact BK246.out) hb)
         have n4_ := aM_ (blk_below (g := gb253) (o := .cells #[.bool t247, .slice Ao11 t248.length co11, .int .i64 t251] 26 (0, 0)) (by (with_reducible repeat (first | refine bN_ ?_ _ | refine bD_ ?_ | refine bA_ ?_ _)); exact BK253.out) hb)
         have n5_ := aM_ (blk_below (g := gb257) (o := .cells #[.int .i64 t254, .int .i64 t255] 23 (0, 0)) (by (with_reducible repeat (first | refine bN_ ?_ _ | refine bD_ ?_ | refine bA_ ?_ _)); exact BK257.out) hb)
         have n6_ := aM_ (blk_below (g := gb268) (o := .cells #[.bool false, .slice none 0 0, .int .i64 0] 26 (0, 0)) (by (with_reducible repeat (first | refine bN_ ?_ _ | refine bD_ ?_ | refine bA_ ?_ _)); exact BK268.out) hb)
         have n7_ := aM_ (below_step (by repeat (first | (with_reducible first | exact HB.out | apply bB_ | apply wN_ | apply bE_ | refine bS_ ?_ GE246.out | refine bS_ ?_ GE253.out | refine bS_ ?_ GE257.out | refine bS_ ?_ GE268.out) | exact HB.out)) hb)
         clear HO_254001
         clear HO261
         clear BK246
         clear BK253
         clear BK257
         clear BK268
         clear HB
         have HO_254001 := n0_
         have HO261 := n1_
         have HO266 := n2_
         have BK246 := n3_
         have BK253 := n4_
         have BK257 := n5_
         have BK268 := n6_
         have HB := n7_
         clear n0_ n1_ n2_ n3_ n4_ n5_ n6_ n7_
         (try clear hb)
         (try clear hb2)
         (try clear hk)
         (try clear hi)
         (try clear ho0)
         refine hK.out _ _ ⟨(bC_ BK253.out 0).trans rfl, (bC_ BK253.out 1).trans rfl, (bC_ BK253.out 2).trans rfl⟩ (fun hHeld => ?_)
         clear hK K
         refine norm_ (a' := ?_) ?_ ?_
         rotate_left
         ·
          show Act.put _ (some 39) _ = _
          simp only [Act.put, List.setIfInBounds_toArray, List.set_cons_zero, List.set_cons_succ, i64_w, i32_w]
          rfl
         exact norm_ (by simp only [putAll, Act.put, List.setIfInBounds_toArray, List.set_cons_zero, List.set_cons_succ]) (hCont (.slice Ao41 t259.length co41, v265, gb268) _ ⟨hHeld, (by (with_reducible repeat (first | apply kA_ | apply kN_ | apply kD_)); exact Kd.R_mono HO261.out (fun _ hk => ⟨hk.2, hk.1.2⟩)), (by (with_reducible repeat (first | apply kA_ | apply kN_ | apply kD_)); exact Kd.R_mono HO266.out (fun _ hk => ⟨hk.2, hk.1.2⟩)), (by (with_reducible repeat (first | apply kA_ | apply kN_ | apply kD_)); exact Kd.R_mono HO_254001.out (fun _ hk => ⟨hk.1.2, hk.2⟩)), (by (with_reducible repeat (first | refine bN_ ?_ _ | refine bD_ ?_ | refine bA_ ?_ _)); exact BK246.out), (by (with_reducible repeat (first | refine bN_ ?_ _ | refine bD_ ?_ | refine bA_ ?_ _)); exact BK253.out), (by (with_reducible repeat (first | refine bN_ ?_ _ | refine bD_ ?_ | refine bA_ ?_ _)); exact BK257.out), (by (with_reducible repeat (first | refine bN_ ?_ _ | refine bD_ ?_ | refine bA_ ?_ _)); exact BK268.out), GW268.out, GE268.out, NB246_268.out, NB268_246.out, NB253_268.out, NB268_253.out, NB257_268.out, NB268_257.out, (by repeat (first | (with_reducible first | exact HB.out | apply bB_ | apply wN_ | apply bE_ | refine bS_ ?_ GE246.out | refine bS_ ?_ GE253.out | refine bS_ ?_ GE257.out | refine bS_ ?_ GE268.out) | exact HB.out))⟩)
       ·
        skip
        refine box_step ?hg (N := 9) ?hd (cs := #[.bool false, .slice none 0 0, .int .i64 0]) (t := 26) ?hr ?_; (case hd => rfl); (case hg => rfl); (case hr => first | (go_simp; done) | (go_simp; rfl))
        intro gb268 hg w39 hbox hb
        have n0_ := aM_ (Kd.R_below (by (with_reducible repeat (first | apply kA_ | apply kN_ | apply kD_)); exact HO_254001.out) hb)
        have n1_ := aM_ (blk_below (g := gb246) (o := .cells #[.int .i64 a0_0, .int .i64 a0_1] 23 (0, 0)) (by (with_reducible repeat (first | refine bN_ ?_ _ | refine bD_ ?_ | refine bA_ ?_ _)); exact BK246.out) hb)
        have n2_ := aM_ (blk_below (g := gb253) (o := .cells #[.bool t247, .slice Ao11 t248.length co11, .int .i64 t251] 26 (0, 0)) (by (with_reducible repeat (first | refine bN_ ?_ _ | refine bD_ ?_ | refine bA_ ?_ _)); exact BK253.out) hb)
        have n3_ := aM_ (blk_below (g := gb257) (o := .cells #[.int .i64 t254, .int .i64 t255] 23 (0, 0)) (by (with_reducible repeat (first | refine bN_ ?_ _ | refine bD_ ?_ | refine bA_ ?_ _)); exact BK257.out) hb)
        have n4_ := aM_ (below_step (by repeat (first | (with_reducible first | exact HB.out | apply bB_ | apply wN_ | apply bE_ | refine bS_ ?_ GE246.out | refine bS_ ?_ GE253.out | refine bS_ ?_ GE257.out) | exact HB.out)) hb)
        have n5_ := aM_ (hbox)
        have n6_ := aM_ ((by rw [hg]; exact (below_size (by repeat (first | (with_reducible first | exact HB.out | apply bB_ | apply wN_ | apply bE_ | refine bS_ ?_ GE246.out | refine bS_ ?_ GE253.out | refine bS_ ?_ GE257.out) | exact HB.out))) : w.heap.size ≤ gb268))
        have n7_ := aM_ ((by rw [hg]; exact (below_size (by repeat (first | (with_reducible first | exact HB.out | apply bB_ | apply wN_ | apply bE_ | refine bS_ ?_ GE246.out | refine bS_ ?_ GE253.out | refine bS_ ?_ GE257.out) | exact HB.out))) : w.heap.size ≤ gb268))
        have n8_ := aM_ ((by rw [hg]; exact Nat.ne_of_lt (blk_lt (g := gb246) (o := .cells #[.int .i64 a0_0, .int .i64 a0_1] 23 (0, 0)) (by (with_reducible repeat (first | refine bN_ ?_ _ | refine bD_ ?_ | refine bA_ ?_ _)); exact BK246.out)) : gb246 ≠ gb268))
        have n9_ := aM_ ((by rw [hg]; exact Nat.ne_of_gt (blk_lt (g := gb246) (o := .cells #[.int .i64 a0_0, .int .i64 a0_1] 23 (0, 0)) (by (with_reducible repeat (first | refine bN_ ?_ _ | refine bD_ ?_ | refine bA_ ?_ _)); exact BK246.out)) : gb268 ≠ gb246))
        have n10_ := aM_ ((by rw [hg]; exact Nat.ne_of_lt (blk_lt (g := gb253) (o := .cells #[.bool t247, .slice Ao11 t248.length co11, .int .i64 t251] 26 (0, 0)) (by (with_reducible repeat (first | refine bN_ ?_ _ | refine bD_ ?_ | refine bA_ ?_ _)); exact BK253.out)) : gb253 ≠ gb268))
        have n11_ := aM_ ((by rw [hg]; exact Nat.ne_of_gt (blk_lt (g := gb253) (o := .cells #[.bool t247, .slice Ao11 t248.length co11, .int .i64 t251] 26 (0, 0)) (by (with_reducible repeat (first | refine bN_ ?_ _ | refine bD_ ?_ | refine bA_ ?_ _)); exact BK253.out)) : gb268 ≠ gb253))
        have n12_ := aM_ ((by rw [hg]; exact Nat.ne_of_lt (blk_lt (g := gb257) (o := .cells #[.int .i64 t254, .int .i64 t255] 23 (0, 0)) (by (with_reducible repeat (first | refine bN_ ?_ _ | refine bD_ ?_ | refine bA_ ?_ _)); exact BK257.out)) : gb257 ≠ gb268))
        have n13_ := aM_ ((by rw [hg]; exact Nat.ne_of_gt (blk_lt (g := gb257) (o := .cells #[.int .i64 t254, .int .i64 t255] 23 (0, 0)) (by (with_reducible repeat (first | refine bN_ ?_ _ | refine bD_ ?_ | refine bA_ ?_ _)); exact BK257.out)) : gb268 ≠ gb257))
        clear HO_254001
        clear BK246
        clear BK253
        clear BK257
        clear HB
        have HO_254001 := n0_
        have BK246 := n1_
        have BK253 := n2_
        have BK257 := n3_
        have HB := n4_
        have BK268 := n5_
        have GW268 := n6_
        have GE268 := n7_
        have NB246_268 := n8_
        have NB268_246 := n9_
        have NB253_268 := n10_
        have NB268_253 := n11_
        have NB257_268 := n12_
        have NB268_257 := n13_
        clear n0_ n1_ n2_ n3_ n4_ n5_ n6_ n7_ n8_ n9_ n10_ n11_ n12_ n13_
        clear hb hbox hg
        refine hK.out _ _ ⟨(bC_ BK253.out 0).trans rfl, (bC_ BK253.out 1).trans rfl, (bC_ BK253.out 2).trans rfl⟩ (fun hHeld => ?_)
        clear hK K
        refine norm_ (a' := ?_) ?_ ?_
        rotate_left
        ·
         show Act.put _ (some 9) _ = _
         simp only [Act.put, List.setIfInBounds_toArray, List.set_cons_zero, List.set_cons_succ, i64_w, i32_w]
         rfl
        refine one_ (i := 2) (N := some 38) #[true, true, true, false, true, false] rfl rfl (by kernel_rfl) (by decide) (fun K hK => ?_)
        refine goes_ Try.func12 (by kernel_rfl) rfl #[.int .i64 a1, .int .i64 0] (by rfl) rfl rfl (by (try simp only [List.map_toArray, List.map_cons, List.map_nil]); first | done | rfl | (simp only [List.length_drop, List.length_take]; rfl)) ?_
        with_reducible refine (spec_DecimalOf.calls kj3 a1 0 t258 t259 t262 _ A20.out).mono ?_
        rintro e w40 ⟨v260, rfl, ho0, hb⟩
        refine ⟨_, rfl, ?_⟩
        have n0_ := aM_ (Kd.R_elder' (by (with_reducible repeat (first | apply kA_ | apply kN_ | apply kD_)); exact HO_254001.out) (Kd.R_base ho0) hb)
        have n1_ := aM_ (Kd.R_lower (Kd.R_new' ho0 (Kd.R_lt (by (with_reducible repeat (first | apply kA_ | apply kN_ | apply kD_)); exact HO_254001.out))) (below_size (by repeat (first | (with_reducible first | exact HB.out | apply bB_ | apply wN_ | apply bE_ | refine bS_ ?_ GE246.out | refine bS_ ?_ GE253.out | refine bS_ ?_ GE257.out | refine bS_ ?_ GE268.out) | exact HB.out))))
        have n2_ := aM_ (blk_below (g := gb246) (o := .cells #[.int .i64 a0_0, .int .i64 a0_1] 23 (0, 0)) (by (with_reducible repeat (first | refine bN_ ?_ _ | refine bD_ ?_ | refine bA_ ?_ _)); exact BK246.out) hb)
        have n3_ := aM_ (blk_below (g := gb253) (o := .cells #[.bool t247, .slice Ao11 t248.length co11, .int .i64 t251] 26 (0, 0)) (by (with_reducible repeat (first | refine bN_ ?_ _ | refine bD_ ?_ | refine bA_ ?_ _)); exact BK253.out) hb)
        have n4_ := aM_ (blk_below (g := gb257) (o := .cells #[.int .i64 t254, .int .i64 t255] 23 (0, 0)) (by (with_reducible repeat (first | refine bN_ ?_ _ | refine bD_ ?_ | refine bA_ ?_ _)); exact BK257.out) hb)
        have n5_ := aM_ (blk_below (g := gb268) (o := .cells #[.bool false, .slice none 0 0, .int .i64 0] 26 (0, 0)) (by (with_reducible repeat (first | refine bN_ ?_ _ | refine bD_ ?_ | refine bA_ ?_ _)); exact BK268.out) hb)
        have n6_ := aM_ (below_step (by repeat (first | (with_reducible first | exact HB.out | apply bB_ | apply wN_ | apply bE_ | refine bS_ ?_ GE246.out | refine bS_ ?_ GE253.out | refine bS_ ?_ GE257.out | refine bS_ ?_ GE268.out) | exact HB.out)) hb)
        clear HO_254001
        clear BK246
        clear BK253
        clear BK257
        clear BK268
        clear HB
        have HO_254001 := n0_
        have HO261 := n1_
        have BK246 := n2_
        have BK253 := n3_
        have BK257 := n4_
        have BK268 := n5_
        have HB := n6_
        clear n0_ n1_ n2_ n3_ n4_ n5_ n6_
        (try clear hb)
        (try clear hb2)
        (try clear hk)
        (try clear hi)
        (try clear ho0)
        obtain ⟨Ao41, co41, eo41⟩ := Kd.R_slice HO261.out
        (first | subst eo41 | (injection eo41 with f1_ f2_ f3_; have f4_ := f1_.symm; have f5_ := f3_.symm; clear f1_ f2_ f3_; subst f4_; subst f5_))
        refine hK.out _ _ ⟨(bC_ BK253.out 0).trans rfl, (bC_ BK253.out 1).trans rfl, (bC_ BK253.out 2).trans rfl⟩ (fun hHeld => ?_)
        clear hK K
        refine norm_ (a' := ?_) ?_ ?_
        rotate_left
        ·
         show Act.put _ (some 38) _ = _
         simp only [Act.put, List.setIfInBounds_toArray, List.set_cons_zero, List.set_cons_succ, i64_w, i32_w]
         rfl
        refine one_ (i := 3) (N := some 39) #[true, true, true, true, true, false] rfl rfl (by kernel_rfl) (by decide) (fun K hK => ?_)
        refine goes_ Try.func11 (by kernel_rfl) rfl #[.agg #[.bool t247, .slice Ao11 t248.length co11, .int .i64 t251], .agg #[.bool t258, .slice Ao41 t259.length co41, .int .i64 t262]] (by rfl) rfl rfl (by (try simp only [List.map_toArray, List.map_cons, List.map_nil]); first | done | rfl | (simp only [List.length_drop, List.length_take]; rfl)) ?_
        with_reducible refine (spec_DecimalTimes.calls kj3 t247 _ _ t248 t251 t258 _ _ t259 t262 t263 t264 t267 _ ?side1 ?side2 ?side3 ?side4 A21.out).mono ?_
        (case side1 => repeat (first | exact (Kd.R_reads' HO_254001.out).2.2 | (with_reducible refine Kd.C_alloc ?_ _) | (with_reducible refine Kd.C_drewN ?_ _) | (with_reducible refine Kd.C_drew ?_)))
        (case side2 => exact (Kd.R_reads' HO_254001.out).2.1)
        (case side3 => repeat (first | exact (Kd.R_reads' HO261.out).2.2 | (with_reducible refine Kd.C_alloc ?_ _) | (with_reducible refine Kd.C_drewN ?_ _) | (with_reducible refine Kd.C_drew ?_)))
        (case side4 => exact (Kd.R_reads' HO261.out).2.1)
        rintro e w42 ⟨v265, rfl, ho0, hb⟩
        refine ⟨_, rfl, ?_⟩
        have n0_ := aM_ (Kd.R_elder' (by (with_reducible repeat (first | apply kA_ | apply kN_ | apply kD_)); exact HO_254001.out) (Kd.R_base ho0) hb)
        have n1_ := aM_ (Kd.R_elder' (by (with_reducible repeat (first | apply kA_ | apply kN_ | apply kD_)); exact HO261.out) (Kd.R_base ho0) hb)
        have n2_ := aM_ (Kd.R_lower (Kd.R_new' (Kd.R_new' ho0 (Kd.R_lt (by (with_reducible repeat (first | apply kA_ | apply kN_ | apply kD_)); exact HO_254001.out))) (Kd.R_lt (by (with_reducible repeat (first | apply kA_ | apply kN_ | apply kD_)); exact HO261.out))) (below_size (by repeat (first | (with_reducible first | exact HB.out | apply bB_ | apply wN_ | apply bE_ | refine bS_ ?_ GE246.out | refine bS_ ?_ GE253.out | refine bS_ ?_ GE257.out | refine bS_ ?_ GE268.out) | exact HB.out))))
        have n3_ := aM_ (blk_below (g := gb246) (o := .cells #[.int .i64 a0_0, .int .i64 a0_1] 23 (0, 0)) (by (with_reducible repeat (first | refine bN_ ?_ _ | refine bD_ ?_ | refine bA_ ?_ _)); exact BK246.out) hb)
        have n4_ := aM_ (blk_below (g := gb253) (o := .cells #[.bool t247, .slice Ao11 t248.length co11, .int .i64 t251] 26 (0, 0)) (by (with_reducible repeat (first | refine bN_ ?_ _ | refine bD_ ?_ | refine bA_ ?_ _)); exact BK253.out) hb)
        have n5_ := aM_ (blk_below (g := gb257) (o := .cells #[.int .i64 t254, .int .i64 t255] 23 (0, 0)) (by (with_reducible repeat (first | refine bN_ ?_ _ | refine bD_ ?_ | refine bA_ ?_ _)); exact BK257.out) hb)
        have n6_ := aM_ (blk_below (g := gb268) (o := .cells #[.bool false, .slice none 0 0, .int .i64 0] 26 (0, 0)) (by (with_reducible repeat (first | refine bN_ ?_ _ | refine bD_ ?_ | refine bA_ ?_ _)); exact BK268.out) hb)
        have n7_ := aM_ (below_step (by repeat (first | (with_reducible first | exact HB.out | apply bB_ | apply wN_ | apply bE_ | refine bS_ ?_ GE246.out | refine bS_ ?_ GE253.out | refine bS_ ?_ GE257.out | refine bS_ ?_ GE268.out) | exact HB.out)) hb)
        clear HO_254001
        clear HO261
        clear BK246
        clear BK253
        clear BK257
        clear BK268
        clear HB
        have HO_254001 := n0_
        have HO261 := n1_
        have HO266 := n2_
        have BK246 := n3_
        have BK253 := n4_
        have BK257 := n5_
        have BK268 := n6_
        have HB := n7_
        clear n0_ n1_ n2_ n3_ n4_ n5_ n6_ n7_
        (try clear hb)
        (try clear hb2)
        (try clear hk)
        (try clear hi)
        (try clear ho0)
        refine hK.out _ _ ⟨(bC_ BK253.out 0).trans rfl, (bC_ BK253.out 1).trans rfl, (bC_ BK253.out 2).trans rfl⟩ (fun hHeld => ?_)
        clear hK K
        refine norm_ (a' := ?_) ?_ ?_
        rotate_left
        ·
         show Act.put _ (some 39) _ = _
         simp only [Act.put, List.setIfInBounds_toArray, List.set_cons_zero, List.set_cons_succ, i64_w, i32_w]
         rfl
        exact norm_ (by simp only [putAll, Act.put, List.setIfInBounds_toArray, List.set_cons_zero, List.set_cons_succ]) (hCont (.slice Ao41 t259.length co41, v265, gb268) _ ⟨hHeld, (by (with_reducible repeat (first | apply kA_ | apply kN_ | apply kD_)); exact Kd.R_mono HO261.out (fun _ hk => ⟨hk.2, hk.1.2⟩)), (by (with_reducible repeat (first | apply kA_ | apply kN_ | apply kD_)); exact Kd.R_mono HO266.out (fun _ hk => ⟨hk.2, hk.1.2⟩)), (by (with_reducible repeat (first | apply kA_ | apply kN_ | apply kD_)); exact Kd.R_mono HO_254001.out (fun _ hk => ⟨hk.1.2, hk.2⟩)), (by (with_reducible repeat (first | refine bN_ ?_ _ | refine bD_ ?_ | refine bA_ ?_ _)); exact BK246.out), (by (with_reducible repeat (first | refine bN_ ?_ _ | refine bD_ ?_ | refine bA_ ?_ _)); exact BK253.out), (by (with_reducible repeat (first | refine bN_ ?_ _ | refine bD_ ?_ | refine bA_ ?_ _)); exact BK257.out), (by (with_reducible repeat (first | refine bN_ ?_ _ | refine bD_ ?_ | refine bA_ ?_ _)); exact BK268.out), GW268.out, GE268.out, NB246_268.out, NB268_246.out, NB253_268.out, NB268_253.out, NB257_268.out, NB268_257.out, (by repeat (first | (with_reducible first | exact HB.out | apply bB_ | apply wN_ | apply bE_ | refine bS_ ?_ GE246.out | refine bS_ ?_ GE253.out | refine bS_ ?_ GE257.out | refine bS_ ?_ GE268.out) | exact HB.out))⟩)
      rintro ⟨v260, v265, gb268⟩ w43 ⟨hS_, h0_, h1_, h2_, h3_, h4_, h5_, h6_, h7_, h8_, h9_, h10_, h11_, h12_, h13_, h14_, h15_⟩
      have n0_ : Aside0 (Kd.R (Kd.int .i64) 3 w43 w.heap.size (fun k_ => some k_ ≠ (v265 : Value).ownBlock ∧ some k_ ≠ (.slice Ao11 t248.length co11 : Value).ownBlock) v260 t259) := ⟨h0_⟩
      have n1_ : Aside0 (Kd.R (Kd.int .i64) 3 w43 w.heap.size (fun k_ => some k_ ≠ (v260 : Value).ownBlock ∧ some k_ ≠ (.slice Ao11 t248.length co11 : Value).ownBlock) v265 t264) := ⟨h1_⟩
      have n2_ : Aside0 (Kd.R (Kd.int .i64) 3 w43 w.heap.size (fun k_ => some k_ ≠ (v260 : Value).ownBlock ∧ some k_ ≠ (v265 : Value).ownBlock) (.slice Ao11 t248.length co11) t248) := ⟨h2_⟩
      have n3_ : Aside0 (w43.heap[gb246]? = some (.cells #[.int .i64 a0_0, .int .i64 a0_1] 23 (0, 0))) := ⟨h3_⟩
      have n4_ : Aside0 (w43.heap[gb253]? = some (.cells #[.bool t247, .slice Ao11 t248.length co11, .int .i64 t251] 26 (0, 0))) := ⟨h4_⟩
      have n5_ : Aside0 (w43.heap[gb257]? = some (.cells #[.int .i64 t254, .int .i64 t255] 23 (0, 0))) := ⟨h5_⟩
      have n6_ : Aside0 (w43.heap[gb268]? = some (.cells #[.bool false, .slice none 0 0, .int .i64 0] 26 (0, 0))) := ⟨h6_⟩
      have n7_ : Aside0 (w.heap.size ≤ gb268) := ⟨h7_⟩
      have n8_ : Aside0 (w.heap.size ≤ gb268) := ⟨h8_⟩
      have n9_ : Aside0 (gb246 ≠ gb268) := ⟨h9_⟩
      have n10_ : Aside0 (gb268 ≠ gb246) := ⟨h10_⟩
      have n11_ : Aside0 (gb253 ≠ gb268) := ⟨h11_⟩
      have n12_ : Aside0 (gb268 ≠ gb253) := ⟨h12_⟩
      have n13_ : Aside0 (gb257 ≠ gb268) := ⟨h13_⟩
      have n14_ : Aside0 (gb268 ≠ gb257) := ⟨h14_⟩
      have n15_ : Aside0 (Below w.heap.size w w43) := ⟨h15_⟩
      clear HO_254001
      clear BK246
      clear BK253
      clear BK257
      clear HB
      clear h0_ h1_ h2_ h3_ h4_ h5_ h6_ h7_ h8_ h9_ h10_ h11_ h12_ h13_ h14_ h15_
      have HO261 := n0_
      have HO266 := n1_
      have HO_254001 := n2_
      have BK246 := n3_
      have BK253 := n4_
      have BK257 := n5_
      have BK268 := n6_
      have GW268 := n7_
      have GE268 := n8_
      have NB246_268 := n9_
      have NB268_246 := n10_
      have NB253_268 := n11_
      have NB268_253 := n12_
      have NB257_268 := n13_
      have NB268_257 := n14_
      have HB := n15_
      clear n0_ n1_ n2_ n3_ n4_ n5_ n6_ n7_ n8_ n9_ n10_ n11_ n12_ n13_ n14_ n15_
      have hHeld : w43.cell? ⟨gb253, 0, none⟩ = some (.bool t247) ∧ w43.cell? ⟨gb253, 1, none⟩ = some (.slice Ao11 t248.length co11) ∧ w43.cell? ⟨gb253, 2, none⟩ = some (.int .i64 t251) := hS_
      obtain ⟨Ao45, co45, eo45⟩ := Kd.R_slice HO266.out
      (first | subst eo45 | (injection eo45 with f1_ f2_ f3_; have f4_ := f1_.symm; have f5_ := f3_.symm; clear f1_ f2_ f3_; subst f4_; subst f5_))
      refine norm_ (a' := ?_) ?_ ?_
      rotate_left
      ·
       simp only [putAll, Act.put, List.setIfInBounds_toArray, List.set_cons_zero, List.set_cons_succ]
       rfl
      refine one_ (i := 5) (N := none) #[true, true, true, true, true, true] rfl rfl (by kernel_rfl) (by decide) (fun K hK => ?_)
      have hs44 : w43.cell? ⟨gb268, 0, none⟩ = some (.bool false) := (bC_ BK268.out 0).trans rfl
      have hfs44 := bF_ BK268.out 0
      have hns44_0 := NB246_268.out
      have hns44_1 := NB253_268.out
      have hns44_2 := NB257_268.out
      have hms44_0 := NB268_246.out
      have hms44_1 := NB268_253.out
      have hms44_2 := NB268_257.out
      have hs46 : w43.cell? ⟨gb268, 1, none⟩ = some (.slice none 0 0) := (bC_ BK268.out 1).trans rfl
      have hfs46 := bF_ BK268.out 1
      have hns46_0 := NB246_268.out
      have hns46_1 := NB253_268.out
      have hns46_2 := NB257_268.out
      have hms46_0 := NB268_246.out
      have hms46_1 := NB268_253.out
      have hms46_2 := NB268_257.out
      have hs47 : w43.cell? ⟨gb268, 2, none⟩ = some (.int .i64 0) := (bC_ BK268.out 2).trans rfl
      have hfs47 := bF_ BK268.out 2
      have hns47_0 := NB246_268.out
      have hns47_1 := NB253_268.out
      have hns47_2 := NB257_268.out
      have hms47_0 := NB268_246.out
      have hms47_1 := NB268_253.out
      have hms47_2 := NB268_257.out
      refine skip_ (w1 := ?_) (by rfl) rfl ?_ ?_
      rotate_left
      ·
       go_simp
       rfl
      refine hK.out _ _ ⟨((cell_far (p := ⟨gb268, _, none⟩) NB253_268.out _).trans (((cell_far (p := ⟨gb268, _, none⟩) NB253_268.out _).trans (((cell_far (p := ⟨gb268, _, none⟩) NB253_268.out _).trans (hHeld.1)))))), ((cell_far (p := ⟨gb268, _, none⟩) NB253_268.out _).trans (((cell_far (p := ⟨gb268, _, none⟩) NB253_268.out _).trans (((cell_far (p := ⟨gb268, _, none⟩) NB253_268.out _).trans (hHeld.2.1)))))), ((cell_far (p := ⟨gb268, _, none⟩) NB253_268.out _).trans (((cell_far (p := ⟨gb268, _, none⟩) NB253_268.out _).trans (((cell_far (p := ⟨gb268, _, none⟩) NB253_268.out _).trans (hHeld.2.2))))))⟩ (fun hHeld => ?_)
      clear hK K
      refine done_ (by kernel_rfl) ?_
      have hnb48 := NB246_268.out
      have hnc48 := NB268_246.out
      have hcz49_0 : w43.cell? ⟨gb246, 0, none⟩ = some (.int .i64 a0_0) := (bC_ BK246.out 0).trans rfl
      have hcz49_1 : w43.cell? ⟨gb246, 1, none⟩ = some (.int .i64 a0_1) := (bC_ BK246.out 1).trans rfl
      have hfz49_0 := bF_ BK246.out 0
      have hfz49_1 := bF_ BK246.out 1
      try go_wp2_with (first | ((with_reducible refine gate_callee (f := 12) rfl ?_); refine goesL_ (some 43) rfl rfl Try.func12 (by kernel_rfl) rfl #[.int .i64 a0_0, .int .i64 0] rfl (by (try simp only [List.map_toArray, List.map_cons, List.map_nil]); first | done | rfl | (simp only [List.length_drop, List.length_take]; rfl)) ?_; (with_reducible refine (spec_DecimalOf.calls kj3 a0_0 0 t269 t270 t273 _ A22.out).mono ?_); rintro e w50 ⟨v271, rfl, ho0, hb⟩; refine ⟨_, rfl, ?_⟩; have n0_ := aM_ (Kd.R_elder' (by (with_reducible repeat (first | apply kA_ | apply kN_ | apply kD_)); exact (Kd.R_mono (Kd.R_far (p := ⟨gb268, 2, none⟩) (Kd.R_far (p := ⟨gb268, 1, none⟩) (Kd.R_far (p := ⟨gb268, 0, none⟩) (Kd.R_types HO_254001.out BK268.out (by decide)) (fun _ hk => hk.2) (.bool t263)) (fun _ hk => hk.2) (.slice Ao45 t264.length co45)) (fun _ hk => hk.2) (.int .i64 t267)) (fun _ h_ => h_.1))) (Kd.R_base ho0) hb); have n1_ := aM_ (Kd.R_elder' (by (with_reducible repeat (first | apply kA_ | apply kN_ | apply kD_)); exact (Kd.R_mono (Kd.R_far (p := ⟨gb268, 2, none⟩) (Kd.R_far (p := ⟨gb268, 1, none⟩) (Kd.R_far (p := ⟨gb268, 0, none⟩) (Kd.R_types HO261.out BK268.out (by decide)) (fun _ hk => hk.2) (.bool t263)) (fun _ hk => hk.2) (.slice Ao45 t264.length co45)) (fun _ hk => hk.2) (.int .i64 t267)) (fun _ h_ => h_.1))) (Kd.R_base ho0) hb); have n2_ := aM_ (Kd.R_elder' (by (with_reducible repeat (first | apply kA_ | apply kN_ | apply kD_)); exact (Kd.R_mono (Kd.R_far (p := ⟨gb268, 2, none⟩) (Kd.R_far (p := ⟨gb268, 1, none⟩) (Kd.R_far (p := ⟨gb268, 0, none⟩) (Kd.R_types HO266.out BK268.out (by decide)) (fun _ hk => hk.2) (.bool t263)) (fun _ hk => hk.2) (.slice Ao45 t264.length co45)) (fun _ hk => hk.2) (.int .i64 t267)) (fun _ h_ => h_.1))) (Kd.R_base ho0) hb); have n3_ := aM_ (Kd.R_lower (Kd.R_new' (Kd.R_new' (Kd.R_new' ho0 (Kd.R_lt (by (with_reducible repeat (first | apply kA_ | apply kN_ | apply kD_)); exact (Kd.R_mono (Kd.R_far (p := ⟨gb268, 2, none⟩) (Kd.R_far (p := ⟨gb268, 1, none⟩) (Kd.R_far (p := ⟨gb268, 0, none⟩) (Kd.R_types HO_254001.out BK268.out (by decide)) (fun _ hk => hk.2) (.bool t263)) (fun _ hk => hk.2) (.slice Ao45 t264.length co45)) (fun _ hk => hk.2) (.int .i64 t267)) (fun _ h_ => h_.1))))) (Kd.R_lt (by (with_reducible repeat (first | apply kA_ | apply kN_ | apply kD_)); exact (Kd.R_mono (Kd.R_far (p := ⟨gb268, 2, none⟩) (Kd.R_far (p := ⟨gb268, 1, none⟩) (Kd.R_far (p := ⟨gb268, 0, none⟩) (Kd.R_types HO261.out BK268.out (by decide)) (fun _ hk => hk.2) (.bool t263)) (fun _ hk => hk.2) (.slice Ao45 t264.length co45)) (fun _ hk => hk.2) (.int .i64 t267)) (fun _ h_ => h_.1))))) (Kd.R_lt (by (with_reducible repeat (first | apply kA_ | apply kN_ | apply kD_)); exact (Kd.R_mono (Kd.R_far (p := ⟨gb268, 2, none⟩) (Kd.R_far (p := ⟨gb268, 1, none⟩) (Kd.R_far (p := ⟨gb268, 0, none⟩) (Kd.R_types HO266.out BK268.out (by decide)) (fun _ hk => hk.2) (.bool t263)) (fun _ hk => hk.2) (.slice Ao45 t264.length co45)) (fun _ hk => hk.2) (.int .i64 t267)) (fun _ h_ => h_.1))))) (below_size (by repeat (first | (with_reducible first | exact HB.out | apply bB_ | apply wN_ | apply bE_ | refine bS_ ?_ GE246.out | refine bS_ ?_ GE253.out | refine bS_ ?_ GE257.out | refine bS_ ?_ GE268.out) | exact HB.out)))); have n4_ := aM_ (blk_below (g := gb246) (o := .cells #[.int .i64 a0_0, .int .i64 a0_1] 23 (0, 0)) (by (with_reducible repeat (first | refine bN_ ?_ _ | refine bD_ ?_ | refine bA_ ?_ _)); refine blk_far ?_ NB246_268.out _; (with_reducible repeat (first | refine bN_ ?_ _ | refine bD_ ?_ | refine bA_ ?_ _)); refine blk_far ?_ NB246_268.out _; (with_reducible repeat (first | refine bN_ ?_ _ | refine bD_ ?_ | refine bA_ ?_ _)); refine blk_far ?_ NB246_268.out _; (with_reducible repeat (first | refine bN_ ?_ _ | refine bD_ ?_ | refine bA_ ?_ _)); exact BK246.out) hb); have n5_ := aM_ (blk_below (g := gb253) (o := .cells #[.bool t247, .slice Ao11 t248.length co11, .int .i64 t251] 26 (0, 0)) (by (with_reducible repeat (first | refine bN_ ?_ _ | refine bD_ ?_ | refine bA_ ?_ _)); refine blk_far ?_ NB253_268.out _; (with_reducible repeat (first | refine bN_ ?_ _ | refine bD_ ?_ | refine bA_ ?_ _)); refine blk_far ?_ NB253_268.out _; (with_reducible repeat (first | refine bN_ ?_ _ | refine bD_ ?_ | refine bA_ ?_ _)); refine blk_far ?_ NB253_268.out _; (with_reducible repeat (first | refine bN_ ?_ _ | refine bD_ ?_ | refine bA_ ?_ _)); exact BK253.out) hb); have n6_ := aM_ (blk_below (g := gb257) (o := .cells #[.int .i64 t254, .int .i64 t255] 23 (0, 0)) (by (with_reducible repeat (first | refine bN_ ?_ _ | refine bD_ ?_ | refine bA_ ?_ _)); refine blk_far ?_ NB257_268.out _; (with_reducible repeat (first | refine bN_ ?_ _ | refine bD_ ?_ | refine bA_ ?_ _)); refine blk_far ?_ NB257_268.out _; (with_reducible repeat (first | refine bN_ ?_ _ | refine bD_ ?_ | refine bA_ ?_ _)); refine blk_far ?_ NB257_268.out _; (with_reducible repeat (first | refine bN_ ?_ _ | refine bD_ ?_ | refine bA_ ?_ _)); exact BK257.out) hb); have n7_ := aM_ (blk_below (g := gb268) (o := .cells #[.bool t263, .slice Ao45 t264.length co45, .int .i64 t267] 26 (0, 0)) (by (with_reducible repeat (first | refine bN_ ?_ _ | refine bD_ ?_ | refine bA_ ?_ _)); refine blk_put (cs := #[.bool t263, .slice Ao45 t264.length co45, .int .i64 0]) ?_ 2 _ rfl; (with_reducible repeat (first | refine bN_ ?_ _ | refine bD_ ?_ | refine bA_ ?_ _)); refine blk_put (cs := #[.bool t263, .slice none 0 0, .int .i64 0]) ?_ 1 _ rfl; (with_reducible repeat (first | refine bN_ ?_ _ | refine bD_ ?_ | refine bA_ ?_ _)); refine blk_put (cs := #[.bool false, .slice none 0 0, .int .i64 0]) ?_ 0 _ rfl; (with_reducible repeat (first | refine bN_ ?_ _ | refine bD_ ?_ | refine bA_ ?_ _)); exact BK268.out) hb); have n8_ := aM_ (below_step (by repeat (first | (with_reducible first | exact HB.out | apply bB_ | apply wN_ | apply bE_ | refine bS_ ?_ GE246.out | refine bS_ ?_ GE253.out | refine bS_ ?_ GE257.out | refine bS_ ?_ GE268.out) | exact HB.out)) hb); clear HO_254001; clear HO261; clear HO266; clear BK246; clear BK253; clear BK257; clear BK268; clear HB; have HO_254001 := n0_; have HO261 := n1_; have HO266 := n2_; have HO272 := n3_; have BK246 := n4_; have BK253 := n5_; have BK257 := n6_; have BK268 := n7_; have HB := n8_; clear n0_ n1_ n2_ n3_ n4_ n5_ n6_ n7_ n8_; (try clear hb); (try clear hb2); (try clear hk); (try clear hi); (try clear ho0)) | ((with_reducible refine gate_callee (f := 12) rfl ?_); refine goesL_ (some 45) rfl rfl Try.func12 (by kernel_rfl) rfl #[.int .i64 a1, .int .i64 0] rfl (by (try simp only [List.map_toArray, List.map_cons, List.map_nil]); first | done | rfl | (simp only [List.length_drop, List.length_take]; rfl)) ?_; (with_reducible refine (spec_DecimalOf.calls kj3 a1 0 t274 t275 t278 _ A23.out).mono ?_); rintro e w51 ⟨v276, rfl, ho0, hb⟩; refine ⟨_, rfl, ?_⟩; have n0_ := aM_ (Kd.R_elder' (by (with_reducible repeat (first | apply kA_ | apply kN_ | apply kD_)); exact HO_254001.out) (Kd.R_base ho0) hb); have n1_ := aM_ (Kd.R_elder' (by (with_reducible repeat (first | apply kA_ | apply kN_ | apply kD_)); exact HO261.out) (Kd.R_base ho0) hb); have n2_ := aM_ (Kd.R_elder' (by (with_reducible repeat (first | apply kA_ | apply kN_ | apply kD_)); exact HO266.out) (Kd.R_base ho0) hb); have n3_ := aM_ (Kd.R_elder' (by (with_reducible repeat (first | apply kA_ | apply kN_ | apply kD_)); exact HO272.out) (Kd.R_base ho0) hb); have n4_ := aM_ (Kd.R_lower (Kd.R_new' (Kd.R_new' (Kd.R_new' (Kd.R_new' ho0 (Kd.R_lt (by (with_reducible repeat (first | apply kA_ | apply kN_ | apply kD_)); exact HO_254001.out))) (Kd.R_lt (by (with_reducible repeat (first | apply kA_ | apply kN_ | apply kD_)); exact HO261.out))) (Kd.R_lt (by (with_reducible repeat (first | apply kA_ | apply kN_ | apply kD_)); exact HO266.out))) (Kd.R_lt (by (with_reducible repeat (first | apply kA_ | apply kN_ | apply kD_)); exact HO272.out))) (below_size (by repeat (first | (with_reducible first | exact HB.out | apply bB_ | apply wN_ | apply bE_ | refine bS_ ?_ GE246.out | refine bS_ ?_ GE253.out | refine bS_ ?_ GE257.out | refine bS_ ?_ GE268.out) | exact HB.out)))); have n5_ := aM_ (blk_below (g := gb246) (o := .cells #[.int .i64 a0_0, .int .i64 a0_1] 23 (0, 0)) (by (with_reducible repeat (first | refine bN_ ?_ _ | refine bD_ ?_ | refine bA_ ?_ _)); exact BK246.out) hb); have n6_ := aM_ (blk_below (g := gb253) (o := .cells #[.bool t247, .slice Ao11 t248.length co11, .int .i64 t251] 26 (0, 0)) (by (with_reducible repeat (first | refine bN_ ?_ _ | refine bD_ ?_ | refine bA_ ?_ _)); exact BK253.out) hb); have n7_ := aM_ (blk_below (g := gb257) (o := .cells #[.int .i64 t254, .int .i64 t255] 23 (0, 0)) (by (with_reducible repeat (first | refine bN_ ?_ _ | refine bD_ ?_ | refine bA_ ?_ _)); exact BK257.out) hb); have n8_ := aM_ (blk_below (g := gb268) (o := .cells #[.bool t263, .slice Ao45 t264.length co45, .int .i64 t267] 26 (0, 0)) (by (with_reducible repeat (first | refine bN_ ?_ _ | refine bD_ ?_ | refine bA_ ?_ _)); exact BK268.out) hb); have n9_ := aM_ (below_step (by repeat (first | (with_reducible first | exact HB.out | apply bB_ | apply wN_ | apply bE_ | refine bS_ ?_ GE246.out | refine bS_ ?_ GE253.out | refine bS_ ?_ GE257.out | refine bS_ ?_ GE268.out) | exact HB.out)) hb); clear HO_254001; clear HO261; clear HO266; clear HO272; clear BK246; clear BK253; clear BK257; clear BK268; clear HB; have HO_254001 := n0_; have HO261 := n1_; have HO266 := n2_; have HO272 := n3_; have HO277 := n4_; have BK246 := n5_; have BK253 := n6_; have BK257 := n7_; have BK268 := n8_; have HB := n9_; clear n0_ n1_ n2_ n3_ n4_ n5_ n6_ n7_ n8_ n9_; (try clear hb); (try clear hb2); (try clear hk); (try clear hi); (try clear ho0); obtain ⟨Ao52, co52, eo52⟩ := Kd.R_slice HO272.out; subst eo52; obtain ⟨Ao53, co53, eo53⟩ := Kd.R_slice HO277.out; subst eo53) | ((with_reducible refine gate_callee (f := 11) rfl ?_); refine goesL_ (some 46) rfl rfl Try.func11 (by kernel_rfl) rfl #[.agg #[.bool t269, .slice Ao52 t270.length co52, .int .i64 t273], .agg #[.bool t274, .slice Ao53 t275.length co53, .int .i64 t278]] rfl (by (try simp only [List.map_toArray, List.map_cons, List.map_nil]); first | done | rfl | (simp only [List.length_drop, List.length_take]; rfl)) ?_; (with_reducible refine (spec_DecimalTimes.calls kj3 t269 _ _ t270 t273 t274 _ _ t275 t278 t279 t280 t283 _ ?side1 ?side2 ?side3 ?side4 A24.out).mono ?_); (case side1 => repeat (first | exact (Kd.R_reads' HO272.out).2.2 | (with_reducible refine Kd.C_alloc ?_ _) | (with_reducible refine Kd.C_drewN ?_ _) | (with_reducible refine Kd.C_drew ?_))); (case side2 => exact (Kd.R_reads' HO272.out).2.1); (case side3 => repeat (first | exact (Kd.R_reads' HO277.out).2.2 | (with_reducible refine Kd.C_alloc ?_ _) | (with_reducible refine Kd.C_drewN ?_ _) | (with_reducible refine Kd.C_drew ?_))); (case side4 => exact (Kd.R_reads' HO277.out).2.1); rintro e w54 ⟨v281, rfl, ho0, hb⟩; refine ⟨_, rfl, ?_⟩; have n0_ := aM_ (Kd.R_elder' (by (with_reducible repeat (first | apply kA_ | apply kN_ | apply kD_)); exact HO_254001.out) (Kd.R_base ho0) hb); have n1_ := aM_ (Kd.R_elder' (by (with_reducible repeat (first | apply kA_ | apply kN_ | apply kD_)); exact HO261.out) (Kd.R_base ho0) hb); have n2_ := aM_ (Kd.R_elder' (by (with_reducible repeat (first | apply kA_ | apply kN_ | apply kD_)); exact HO266.out) (Kd.R_base ho0) hb); have n3_ := aM_ (Kd.R_elder' (by (with_reducible repeat (first | apply kA_ | apply kN_ | apply kD_)); exact HO272.out) (Kd.R_base ho0) hb); have n4_ := aM_ (Kd.R_elder' (by (with_reducible repeat (first | apply kA_ | apply kN_ | apply kD_)); exact HO277.out) (Kd.R_base ho0) hb); have n5_ := aM_ (Kd.R_lower (Kd.R_new' (Kd.R_new' (Kd.R_new' (Kd.R_new' (Kd.R_new' ho0 (Kd.R_lt (by (with_reducible repeat (first | apply kA_ | apply kN_ | apply kD_)); exact HO_254001.out))) (Kd.R_lt (by (with_reducible repeat (first | apply kA_ | apply kN_ | apply kD_)); exact HO261.out))) (Kd.R_lt (by (with_reducible repeat (first | apply kA_ | apply kN_ | apply kD_)); exact HO266.out))) (Kd.R_lt (by (with_reducible repeat (first | apply kA_ | apply kN_ | apply kD_)); exact HO272.out))) (Kd.R_lt (by (with_reducible repeat (first | apply kA_ | apply kN_ | apply kD_)); exact HO277.out))) (below_size (by repeat (first | (with_reducible first | exact HB.out | apply bB_ | apply wN_ | apply bE_ | refine bS_ ?_ GE246.out | refine bS_ ?_ GE253.out | refine bS_ ?_ GE257.out | refine bS_ ?_ GE268.out) | exact HB.out)))); have n6_ := aM_ (blk_below (g := gb246) (o := .cells #[.int .i64 a0_0, .int .i64 a0_1] 23 (0, 0)) (by (with_reducible repeat (first | refine bN_ ?_ _ | refine bD_ ?_ | refine bA_ ?_ _)); exact BK246.out) hb); have n7_ := aM_ (blk_below (g := gb253) (o := .cells #[.bool t247, .slice Ao11 t248.length co11, .int .i64 t251] 26 (0, 0)) (by (with_reducible repeat (first | refine bN_ ?_ _ | refine bD_ ?_ | refine bA_ ?_ _)); exact BK253.out) hb); have n8_ := aM_ (blk_below (g := gb257) (o := .cells #[.int .i64 t254, .int .i64 t255] 23 (0, 0)) (by (with_reducible repeat (first | refine bN_ ?_ _ | refine bD_ ?_ | refine bA_ ?_ _)); exact BK257.out) hb); have n9_ := aM_ (blk_below (g := gb268) (o := .cells #[.bool t263, .slice Ao45 t264.length co45, .int .i64 t267] 26 (0, 0)) (by (with_reducible repeat (first | refine bN_ ?_ _ | refine bD_ ?_ | refine bA_ ?_ _)); exact BK268.out) hb); have n10_ := aM_ (below_step (by repeat (first | (with_reducible first | exact HB.out | apply bB_ | apply wN_ | apply bE_ | refine bS_ ?_ GE246.out | refine bS_ ?_ GE253.out | refine bS_ ?_ GE257.out | refine bS_ ?_ GE268.out) | exact HB.out)) hb); clear HO_254001; clear HO261; clear HO266; clear HO272; clear HO277; clear BK246; clear BK253; clear BK257; clear BK268; clear HB; have HO_254001 := n0_; have HO261 := n1_; have HO266 := n2_; have HO272 := n3_; have HO277 := n4_; have HO282 := n5_; have BK246 := n6_; have BK253 := n7_; have BK257 := n8_; have BK268 := n9_; have HB := n10_; clear n0_ n1_ n2_ n3_ n4_ n5_ n6_ n7_ n8_ n9_ n10_; (try clear hb); (try clear hb2); (try clear hk); (try clear hi); (try clear ho0); obtain ⟨Ao55, co55, eo55⟩ := Kd.R_slice HO282.out; subst eo55) | ((with_reducible refine gate_callee (f := 10) rfl ?_); refine goesL_ (some 47) rfl rfl Try.func10 (by kernel_rfl) rfl #[.agg #[.bool t279, .slice Ao55 t280.length co55, .int .i64 t283]] rfl (by (try simp only [List.map_toArray, List.map_cons, List.map_nil]); first | done | rfl | (simp only [List.length_drop, List.length_take]; rfl)) ?_; (with_reducible refine (spec_DecimalInt.calls kj3 t279 _ _ t280 t283 t284 t285 _ ?side1 ?side2 A25.out).mono ?_); (case side1 => repeat (first | exact (Kd.R_reads' HO282.out).2.2 | (with_reducible refine Kd.C_alloc ?_ _) | (with_reducible refine Kd.C_drewN ?_ _) | (with_reducible refine Kd.C_drew ?_))); (case side2 => exact (Kd.R_reads' HO282.out).2.1); rintro e w56 ⟨rfl, hb⟩; refine ⟨_, rfl, ?_⟩; have n0_ := aM_ (Kd.R_below (by (with_reducible repeat (first | apply kA_ | apply kN_ | apply kD_)); exact HO_254001.out) hb); have n1_ := aM_ (Kd.R_below (by (with_reducible repeat (first | apply kA_ | apply kN_ | apply kD_)); exact HO261.out) hb); have n2_ := aM_ (Kd.R_below (by (with_reducible repeat (first | apply kA_ | apply kN_ | apply kD_)); exact HO266.out) hb); have n3_ := aM_ (Kd.R_below (by (with_reducible repeat (first | apply kA_ | apply kN_ | apply kD_)); exact HO272.out) hb); have n4_ := aM_ (Kd.R_below (by (with_reducible repeat (first | apply kA_ | apply kN_ | apply kD_)); exact HO277.out) hb); have n5_ := aM_ (Kd.R_below (by (with_reducible repeat (first | apply kA_ | apply kN_ | apply kD_)); exact HO282.out) hb); have n6_ := aM_ (blk_below (g := gb246) (o := .cells #[.int .i64 a0_0, .int .i64 a0_1] 23 (0, 0)) (by (with_reducible repeat (first | refine bN_ ?_ _ | refine bD_ ?_ | refine bA_ ?_ _)); exact BK246.out) hb); have n7_ := aM_ (blk_below (g := gb253) (o := .cells #[.bool t247, .slice Ao11 t248.length co11, .int .i64 t251] 26 (0, 0)) (by (with_reducible repeat (first | refine bN_ ?_ _ | refine bD_ ?_ | refine bA_ ?_ _)); exact BK253.out) hb); have n8_ := aM_ (blk_below (g := gb257) (o := .cells #[.int .i64 t254, .int .i64 t255] 23 (0, 0)) (by (with_reducible repeat (first | refine bN_ ?_ _ | refine bD_ ?_ | refine bA_ ?_ _)); exact BK257.out) hb); have n9_ := aM_ (blk_below (g := gb268) (o := .cells #[.bool t263, .slice Ao45 t264.length co45, .int .i64 t267] 26 (0, 0)) (by (with_reducible repeat (first | refine bN_ ?_ _ | refine bD_ ?_ | refine bA_ ?_ _)); exact BK268.out) hb); have n10_ := aM_ (below_step (by repeat (first | (with_reducible first | exact HB.out | apply bB_ | apply wN_ | apply bE_ | refine bS_ ?_ GE246.out | refine bS_ ?_ GE253.out | refine bS_ ?_ GE257.out | refine bS_ ?_ GE268.out) | exact HB.out)) hb); clear HO_254001; clear HO261; clear HO266; clear HO272; clear HO277; clear HO282; clear BK246; clear BK253; clear BK257; clear BK268; clear HB; have HO_254001 := n0_; have HO261 := n1_; have HO266 := n2_; have HO272 := n3_; have HO277 := n4_; have HO282 := n5_; have BK246 := n6_; have BK253 := n7_; have BK257 := n8_; have BK268 := n9_; have HB := n10_; clear n0_ n1_ n2_ n3_ n4_ n5_ n6_ n7_ n8_ n9_ n10_; (try clear hb); (try clear hb2); (try clear hk); (try clear hi); have hnb57 := NB257_268.out; have hnc57 := NB268_257.out; have hcz58_0 : w56.cell? ⟨gb257, 0, none⟩ = some (.int .i64 t254) := (bC_ BK257.out 0).trans rfl; have hcz58_1 : w56.cell? ⟨gb257, 1, none⟩ = some (.int .i64 t255) := (bC_ BK257.out 1).trans rfl; have hfz58_0 := bF_ BK257.out 0; have hfz58_1 := bF_ BK257.out 1; have hnb59 := NB268_253.out; have hnc59 := NB253_268.out; have hcz60_0 : w56.cell? ⟨gb268, 0, none⟩ = some (.bool t263) := (bC_ BK268.out 0).trans rfl; have hcz60_1 : w56.cell? ⟨gb268, 1, none⟩ = some (.slice Ao45 t264.length co45) := (bC_ BK268.out 1).trans rfl; have hcz60_2 : w56.cell? ⟨gb268, 2, none⟩ = some (.int .i64 t267) := (bC_ BK268.out 2).trans rfl; have hfz60_0 := bF_ BK268.out 0; have hfz60_1 := bF_ BK268.out 1; have hfz60_2 := bF_ BK268.out 2) | ((with_reducible refine gate_callee (f := 9) rfl ?_); refine goesL_ (some 53) rfl rfl Try.func9 (by kernel_rfl) rfl #[.agg #[.int .i64 t254, .int .i64 t255], .agg #[.bool t263, .slice Ao45 t264.length co45, .int .i64 t267]] rfl (by (try simp only [List.map_toArray, List.map_cons, List.map_nil]); first | done | rfl | (simp only [List.length_drop, List.length_take]; rfl)) ?_; (with_reducible refine (laws_amountIs.calls kj3 t254 t255 t263 _ _ t264 t267 true _ ?side1 ?side2 A27.out).mono ?_); (case side1 => repeat (first | exact (Kd.R_reads' HO266.out).2.2 | (with_reducible refine Kd.C_alloc ?_ _) | (with_reducible refine Kd.C_drewN ?_ _) | (with_reducible refine Kd.C_drew ?_))); (case side2 => exact (Kd.R_reads' HO266.out).2.1); rintro e w61 ⟨rfl, hb⟩; refine ⟨_, rfl, ?_⟩; have n0_ := aM_ (Kd.R_below (by (with_reducible repeat (first | apply kA_ | apply kN_ | apply kD_)); exact HO_254001.out) hb); have n1_ := aM_ (Kd.R_below (by (with_reducible repeat (first | apply kA_ | apply kN_ | apply kD_)); exact HO261.out) hb); have n2_ := aM_ (Kd.R_below (by (with_reducible repeat (first | apply kA_ | apply kN_ | apply kD_)); exact HO266.out) hb); have n3_ := aM_ (Kd.R_below (by (with_reducible repeat (first | apply kA_ | apply kN_ | apply kD_)); exact HO272.out) hb); have n4_ := aM_ (Kd.R_below (by (with_reducible repeat (first | apply kA_ | apply kN_ | apply kD_)); exact HO277.out) hb); have n5_ := aM_ (Kd.R_below (by (with_reducible repeat (first | apply kA_ | apply kN_ | apply kD_)); exact HO282.out) hb); have n6_ := aM_ (blk_below (g := gb246) (o := .cells #[.int .i64 a0_0, .int .i64 a0_1] 23 (0, 0)) (by (with_reducible repeat (first | refine bN_ ?_ _ | refine bD_ ?_ | refine bA_ ?_ _)); exact BK246.out) hb); have n7_ := aM_ (blk_below (g := gb253) (o := .cells #[.bool t247, .slice Ao11 t248.length co11, .int .i64 t251] 26 (0, 0)) (by (with_reducible repeat (first | refine bN_ ?_ _ | refine bD_ ?_ | refine bA_ ?_ _)); exact BK253.out) hb); have n8_ := aM_ (blk_below (g := gb257) (o := .cells #[.int .i64 t254, .int .i64 t255] 23 (0, 0)) (by (with_reducible repeat (first | refine bN_ ?_ _ | refine bD_ ?_ | refine bA_ ?_ _)); exact BK257.out) hb); have n9_ := aM_ (blk_below (g := gb268) (o := .cells #[.bool t263, .slice Ao45 t264.length co45, .int .i64 t267] 26 (0, 0)) (by (with_reducible repeat (first | refine bN_ ?_ _ | refine bD_ ?_ | refine bA_ ?_ _)); exact BK268.out) hb); have n10_ := aM_ (below_step (by repeat (first | (with_reducible first | exact HB.out | apply bB_ | apply wN_ | apply bE_ | refine bS_ ?_ GE246.out | refine bS_ ?_ GE253.out | refine bS_ ?_ GE257.out | refine bS_ ?_ GE268.out) | exact HB.out)) hb); clear HO_254001; clear HO261; clear HO266; clear HO272; clear HO277; clear HO282; clear BK246; clear BK253; clear BK257; clear BK268; clear HB; have HO_254001 := n0_; have HO261 := n1_; have HO266 := n2_; have HO272 := n3_; have HO277 := n4_; have HO282 := n5_; have BK246 := n6_; have BK253 := n7_; have BK257 := n8_; have BK268 := n9_; have HB := n10_; clear n0_ n1_ n2_ n3_ n4_ n5_ n6_ n7_ n8_ n9_ n10_; (try clear hb); (try clear hb2); (try clear hk); (try clear hi)) | (go_at_call 13; (with_reducible refine (laws_amountAwake.calls kj3  t287 _ A29.out).mono ?_); rintro e w62 ⟨rfl, hb⟩; have n0_ := aM_ (Kd.R_below (by (with_reducible repeat (first | apply kA_ | apply kN_ | apply kD_)); exact HO_254001.out) hb); have n1_ := aM_ (Kd.R_below (by (with_reducible repeat (first | apply kA_ | apply kN_ | apply kD_)); exact HO261.out) hb); have n2_ := aM_ (Kd.R_below (by (with_reducible repeat (first | apply kA_ | apply kN_ | apply kD_)); exact HO266.out) hb); have n3_ := aM_ (Kd.R_below (by (with_reducible repeat (first | apply kA_ | apply kN_ | apply kD_)); exact HO272.out) hb); have n4_ := aM_ (Kd.R_below (by (with_reducible repeat (first | apply kA_ | apply kN_ | apply kD_)); exact HO277.out) hb); have n5_ := aM_ (Kd.R_below (by (with_reducible repeat (first | apply kA_ | apply kN_ | apply kD_)); exact HO282.out) hb); have n6_ := aM_ (blk_below (g := gb246) (o := .cells #[.int .i64 a0_0, .int .i64 a0_1] 23 (0, 0)) (by (with_reducible repeat (first | refine bN_ ?_ _ | refine bD_ ?_ | refine bA_ ?_ _)); exact BK246.out) hb); have n7_ := aM_ (blk_below (g := gb253) (o := .cells #[.bool t247, .slice Ao11 t248.length co11, .int .i64 t251] 26 (0, 0)) (by (with_reducible repeat (first | refine bN_ ?_ _ | refine bD_ ?_ | refine bA_ ?_ _)); exact BK253.out) hb); have n8_ := aM_ (blk_below (g := gb257) (o := .cells #[.int .i64 t254, .int .i64 t255] 23 (0, 0)) (by (with_reducible repeat (first | refine bN_ ?_ _ | refine bD_ ?_ | refine bA_ ?_ _)); exact BK257.out) hb); have n9_ := aM_ (blk_below (g := gb268) (o := .cells #[.bool t263, .slice Ao45 t264.length co45, .int .i64 t267] 26 (0, 0)) (by (with_reducible repeat (first | refine bN_ ?_ _ | refine bD_ ?_ | refine bA_ ?_ _)); exact BK268.out) hb); have n10_ := aM_ (below_step (by repeat (first | (with_reducible first | exact HB.out | apply bB_ | apply wN_ | apply bE_ | refine bS_ ?_ GE246.out | refine bS_ ?_ GE253.out | refine bS_ ?_ GE257.out | refine bS_ ?_ GE268.out) | exact HB.out)) hb); clear HO_254001; clear HO261; clear HO266; clear HO272; clear HO277; clear HO282; clear BK246; clear BK253; clear BK257; clear BK268; clear HB; have HO_254001 := n0_; have HO261 := n1_; have HO266 := n2_; have HO272 := n3_; have HO277 := n4_; have HO282 := n5_; have BK246 := n6_; have BK253 := n7_; have BK257 := n8_; have BK268 := n9_; have HB := n10_; clear n0_ n1_ n2_ n3_ n4_ n5_ n6_ n7_ n8_ n9_ n10_; (try clear hb); (try clear hb2); (try clear hk); (try clear hi)))
      go_ret
      exact ⟨by first | rfl | (simp [errW_none, errW_some] <;> rfl) | (simp [*, errW_none, errW_some] <;> rfl) | (exfalso; contradiction), by repeat (first | (with_reducible first | exact HB.out | apply bB_ | apply wN_ | apply bE_ | refine bS_ ?_ GE246.out | refine bS_ ?_ GE253.out | refine bS_ ?_ GE257.out | refine bS_ ?_ GE268.out) | exact HB.out)⟩
     ·
      replace c28 := Bool.eq_false_iff.mpr c28
      subst c28
      have H1 : (some false) = some r := by rw [if_neg (show ¬ (false = true) by decide)] at H; exact H
      clear H
      have H := H1
      clear H1
      obtain rfl := Option.some.inj H
      have hnb63 := NB246_253.out
      have hnc63 := NB253_246.out
      have hcz64_0 : wc.cell? ⟨gb246, 0, none⟩ = some (.int .i64 a0_0) := (bC_ BK246.out 0).trans rfl
      have hcz64_1 : wc.cell? ⟨gb246, 1, none⟩ = some (.int .i64 a0_1) := (bC_ BK246.out 1).trans rfl
      have hfz64_0 := bF_ BK246.out 0
      have hfz64_1 := bF_ BK246.out 1
      try go_wp2_with (first | ((with_reducible refine gate_callee (f := 17) rfl ?_); refine goesL_ (some 33) rfl rfl Try.func17 (by kernel_rfl) rfl #[.agg #[.int .i64 a0_0, .int .i64 a0_1], .int .i64 a1] rfl (by (try simp only [List.map_toArray, List.map_cons, List.map_nil]); first | done | rfl | (simp only [List.length_drop, List.length_take]; rfl)) ?_; (with_reducible refine (impl_AmountMul.calls kj3 a0_0 a0_1 a1 t254 t255 true _ A19.out).mono ?_); rintro e w65 ⟨rfl, hb⟩; refine ⟨_, rfl, ?_⟩; have n0_ := aM_ (Kd.R_below (by (with_reducible repeat (first | apply kA_ | apply kN_ | apply kD_)); exact HO_254001.out) hb); have n1_ := aM_ (blk_below (g := gb246) (o := .cells #[.int .i64 a0_0, .int .i64 a0_1] 23 (0, 0)) (by (with_reducible repeat (first | refine bN_ ?_ _ | refine bD_ ?_ | refine bA_ ?_ _)); exact BK246.out) hb); have n2_ := aM_ (blk_below (g := gb253) (o := .cells #[.bool t247, .slice Ao11 t248.length co11, .int .i64 t251] 26 (0, 0)) (by (with_reducible repeat (first | refine bN_ ?_ _ | refine bD_ ?_ | refine bA_ ?_ _)); exact BK253.out) hb); have n3_ := aM_ (below_step (by repeat (first | (with_reducible first | exact HB.out | apply bB_ | apply wN_ | apply bE_ | refine bS_ ?_ GE246.out | refine bS_ ?_ GE253.out) | exact HB.out)) hb); clear HO_254001; clear BK246; clear BK253; clear HB; have HO_254001 := n0_; have BK246 := n1_; have BK253 := n2_; have HB := n3_; clear n0_ n1_ n2_ n3_; (try clear hb); (try clear hb2); (try clear hk); (try clear hi)) | ((with_reducible refine gate_dst (N := 7) rfl ?_); refine box_event ?hg (N := 7) ?hd (cs := #[.int .i64 0, .int .i64 0]) (t := 23) ?hr ?_; (case hd => rfl); (case hg => rfl); (case hr => first | (go_simp; done) | (go_simp; rfl)); intro gb257 hg w66 hbox hb; have n0_ := aM_ (Kd.R_below (by (with_reducible repeat (first | apply kA_ | apply kN_ | apply kD_)); exact HO_254001.out) hb); have n1_ := aM_ (blk_below (g := gb246) (o := .cells #[.int .i64 a0_0, .int .i64 a0_1] 23 (0, 0)) (by (with_reducible repeat (first | refine bN_ ?_ _ | refine bD_ ?_ | refine bA_ ?_ _)); exact BK246.out) hb); have n2_ := aM_ (blk_below (g := gb253) (o := .cells #[.bool t247, .slice Ao11 t248.length co11, .int .i64 t251] 26 (0, 0)) (by (with_reducible repeat (first | refine bN_ ?_ _ | refine bD_ ?_ | refine bA_ ?_ _)); exact BK253.out) hb); have n3_ := aM_ (below_step (by repeat (first | (with_reducible first | exact HB.out | apply bB_ | apply wN_ | apply bE_ | refine bS_ ?_ GE246.out | refine bS_ ?_ GE253.out) | exact HB.out)) hb); have n4_ := aM_ (hbox); have n5_ := aM_ ((by rw [hg]; exact (below_size (by repeat (first | (with_reducible first | exact HB.out | apply bB_ | apply wN_ | apply bE_ | refine bS_ ?_ GE246.out | refine bS_ ?_ GE253.out) | exact HB.out))) : w.heap.size ≤ gb257)); have n6_ := aM_ ((by rw [hg]; exact (below_size (by repeat (first | (with_reducible first | exact HB.out | apply bB_ | apply wN_ | apply bE_ | refine bS_ ?_ GE246.out | refine bS_ ?_ GE253.out) | exact HB.out))) : w.heap.size ≤ gb257)); have n7_ := aM_ ((by rw [hg]; exact Nat.ne_of_lt (blk_lt (g := gb246) (o := .cells #[.int .i64 a0_0, .int .i64 a0_1] 23 (0, 0)) (by (with_reducible repeat (first | refine bN_ ?_ _ | refine bD_ ?_ | refine bA_ ?_ _)); exact BK246.out)) : gb246 ≠ gb257)); have n8_ := aM_ ((by rw [hg]; exact Nat.ne_of_gt (blk_lt (g := gb246) (o := .cells #[.int .i64 a0_0, .int .i64 a0_1] 23 (0, 0)) (by (with_reducible repeat (first | refine bN_ ?_ _ | refine bD_ ?_ | refine bA_ ?_ _)); exact BK246.out)) : gb257 ≠ gb246)); have n9_ := aM_ ((by rw [hg]; exact Nat.ne_of_lt (blk_lt (g := gb253) (o := .cells #[.bool t247, .slice Ao11 t248.length co11, .int .i64 t251] 26 (0, 0)) (by (with_reducible repeat (first | refine bN_ ?_ _ | refine bD_ ?_ | refine bA_ ?_ _)); exact BK253.out)) : gb253 ≠ gb257)); have n10_ := aM_ ((by rw [hg]; exact Nat.ne_of_gt (blk_lt (g := gb253) (o := .cells #[.bool t247, .slice Ao11 t248.length co11, .int .i64 t251] 26 (0, 0)) (by (with_reducible repeat (first | refine bN_ ?_ _ | refine bD_ ?_ | refine bA_ ?_ _)); exact BK253.out)) : gb257 ≠ gb253)); clear HO_254001; clear BK246; clear BK253; clear HB; have HO_254001 := n0_; have BK246 := n1_; have BK253 := n2_; have HB := n3_; have BK257 := n4_; have GW257 := n5_; have GE257 := n6_; have NB246_257 := n7_; have NB257_246 := n8_; have NB253_257 := n9_; have NB257_253 := n10_; clear n0_ n1_ n2_ n3_ n4_ n5_ n6_ n7_ n8_ n9_ n10_; clear hb hbox hg; have hnb67 := NB257_246.out; have hnc67 := NB246_257.out; have hnb68 := NB257_253.out; have hnc68 := NB253_257.out; have hcz69_0 : w66.cell? ⟨gb257, 0, none⟩ = some (.int .i64 0) := (bC_ BK257.out 0).trans rfl; have hcz69_1 : w66.cell? ⟨gb257, 1, none⟩ = some (.int .i64 0) := (bC_ BK257.out 1).trans rfl; have hfz69_0 := bF_ BK257.out 0; have hfz69_1 := bF_ BK257.out 1))
      have n0_ : Aside0 (Kd.R (Kd.int .i64) 3 ((w66.setCell ⟨gb257, 0, none⟩ (.int .i64 t254)).setCell ⟨gb257, 1, none⟩ (.int .i64 t255)) w.heap.size (fun _ => True) (.slice Ao11 t248.length co11) t248) := ⟨by (with_reducible repeat (first | apply kA_ | apply kN_ | apply kD_)); exact Kd.R_mono (Kd.R_far (p := ⟨gb257, 1, none⟩) (Kd.R_far (p := ⟨gb257, 0, none⟩) (Kd.R_types HO_254001.out BK257.out (by decide)) (fun _ hk => hk.2) (.int .i64 t254)) (fun _ hk => hk.2) (.int .i64 t255)) (fun _ hk => trivial)⟩
      have n1_ : Aside0 (((w66.setCell ⟨gb257, 0, none⟩ (.int .i64 t254)).setCell ⟨gb257, 1, none⟩ (.int .i64 t255)).heap[gb246]? = some (.cells #[.int .i64 a0_0, .int .i64 a0_1] 23 (0, 0))) := ⟨by (with_reducible repeat (first | refine bN_ ?_ _ | refine bD_ ?_ | refine bA_ ?_ _)); refine blk_far ?_ NB246_257.out _; (with_reducible repeat (first | refine bN_ ?_ _ | refine bD_ ?_ | refine bA_ ?_ _)); refine blk_far ?_ NB246_257.out _; (with_reducible repeat (first | refine bN_ ?_ _ | refine bD_ ?_ | refine bA_ ?_ _)); exact BK246.out⟩
      have n2_ : Aside0 (((w66.setCell ⟨gb257, 0, none⟩ (.int .i64 t254)).setCell ⟨gb257, 1, none⟩ (.int .i64 t255)).heap[gb253]? = some (.cells #[.bool t247, .slice Ao11 t248.length co11, .int .i64 t251] 26 (0, 0))) := ⟨by (with_reducible repeat (first | refine bN_ ?_ _ | refine bD_ ?_ | refine bA_ ?_ _)); refine blk_far ?_ NB253_257.out _; (with_reducible repeat (first | refine bN_ ?_ _ | refine bD_ ?_ | refine bA_ ?_ _)); refine blk_far ?_ NB253_257.out _; (with_reducible repeat (first | refine bN_ ?_ _ | refine bD_ ?_ | refine bA_ ?_ _)); exact BK253.out⟩
      have n3_ : Aside0 (((w66.setCell ⟨gb257, 0, none⟩ (.int .i64 t254)).setCell ⟨gb257, 1, none⟩ (.int .i64 t255)).heap[gb257]? = some (.cells #[.int .i64 t254, .int .i64 t255] 23 (0, 0))) := ⟨by (with_reducible repeat (first | refine bN_ ?_ _ | refine bD_ ?_ | refine bA_ ?_ _)); refine blk_put (cs := #[.int .i64 t254, .int .i64 0]) ?_ 1 _ rfl; (with_reducible repeat (first | refine bN_ ?_ _ | refine bD_ ?_ | refine bA_ ?_ _)); refine blk_put (cs := #[.int .i64 0, .int .i64 0]) ?_ 0 _ rfl; (with_reducible repeat (first | refine bN_ ?_ _ | refine bD_ ?_ | refine bA_ ?_ _)); exact BK257.out⟩
      have n4_ : Aside0 (Below w.heap.size w ((w66.setCell ⟨gb257, 0, none⟩ (.int .i64 t254)).setCell ⟨gb257, 1, none⟩ (.int .i64 t255))) := ⟨by repeat (first | (with_reducible first | exact HB.out | apply bB_ | apply wN_ | apply bE_ | refine bS_ ?_ GE246.out | refine bS_ ?_ GE253.out | refine bS_ ?_ GE257.out) | exact HB.out)⟩
      (try clear HO_254001)
      (try clear BK246)
      (try clear BK253)
      (try clear BK257)
      (try clear HB)
      generalize ((w66.setCell ⟨gb257, 0, none⟩ (.int .i64 t254)).setCell ⟨gb257, 1, none⟩ (.int .i64 t255)) = w70 at n0_ n1_ n2_ n3_ n4_ ⊢
      have HO_254001 := n0_
      have BK246 := n1_
      have BK253 := n2_
      have BK257 := n3_
      have HB := n4_
      clear n0_ n1_ n2_ n3_ n4_
      have n0_ := aM_ (kD_ HO_254001.out)
      have n1_ := aM_ (bD_ BK246.out)
      have n2_ := aM_ (bD_ BK253.out)
      have n3_ := aM_ (bD_ BK257.out)
      have n4_ := aM_ (bE_ HB.out)
      clear HO_254001
      clear BK246
      clear BK253
      clear BK257
      clear HB
      have HO_254001 := n0_
      have BK246 := n1_
      have BK253 := n2_
      have BK257 := n3_
      have HB := n4_
      clear n0_ n1_ n2_ n3_ n4_
      refine start_ (n := 6) (S := fun w' => w'.cell? ⟨gb253, 0, none⟩ = some (.bool t247) ∧ w'.cell? ⟨gb253, 1, none⟩ = some (.slice Ao11 t248.length co11) ∧ w'.cell? ⟨gb253, 2, none⟩ = some (.int .i64 t251)) (ds := []) #[false, false, false, false, false, false] (by kernel_rfl) rfl rfl ⟨(bC_ BK253.out 0).trans rfl, (bC_ BK253.out 1).trans rfl, (bC_ BK253.out 2).trans rfl⟩ (fun hHeld => ?_)
      generalize w70.drew = w71 at HO_254001 BK246 BK253 BK257 HB hHeld ⊢
      refine pure_ (i := 1) (N := some 37) (v := ?_) (a' := ?_) #[false, true, false, false, false, false] rfl rfl (by kernel_rfl) (fun _ _ _ h => h) (Or.inl ⟨by rfl, ?_⟩) ?_ ?_
      rotate_left
      ·
       intro w'
       go_simp
       with_reducible rfl
      rotate_left
      ·
       simp only [Act.put, List.setIfInBounds_toArray, List.set_cons_zero, List.set_cons_succ, i64_w, i32_w]
       rfl
      refine take_ (i := 0) (N := some 36) (v := ?_) (a' := ?_) #[true, true, false, false, false, false] rfl rfl (by kernel_rfl) (fun _ _ _ h => h) (Or.inl ⟨by rfl, ?_⟩) hHeld ?_ ?_
      rotate_left
      ·
       rintro w' ⟨s0, s1, s2⟩
       go_simp
       with_reducible rfl
      rotate_left
      ·
       simp only [Act.put, List.setIfInBounds_toArray, List.set_cons_zero, List.set_cons_succ, i64_w, i32_w]
       rfl
      refine join_ (σ := Value × Value × Nat) 1 #[true, true, true, true, true, false] (fun s_ => [(38, .agg #[.bool t258, s_.1, .int .i64 t262]), (39, .agg #[.bool t263, s_.2.1, .int .i64 t267]), (9, .pointer (some ⟨s_.2.2, 0, none⟩))]) (fun s_ w' => (w'.cell? ⟨gb253, 0, none⟩ = some (.bool t247) ∧ w'.cell? ⟨gb253, 1, none⟩ = some (.slice Ao11 t248.length co11) ∧ w'.cell? ⟨gb253, 2, none⟩ = some (.int .i64 t251)) ∧ (Kd.R (Kd.int .i64) 3 w' w.heap.size (fun k_ => some k_ ≠ (s_.2.1 : Value).ownBlock ∧ some k_ ≠ (.slice Ao11 t248.length co11 : Value).ownBlock) s_.1 t259) ∧ (Kd.R (Kd.int .i64) 3 w' w.heap.size (fun k_ => some k_ ≠ (s_.1 : Value).ownBlock ∧ some k_ ≠ (.slice Ao11 t248.length co11 : Value).ownBlock) s_.2.1 t264) ∧ (Kd.R (Kd.int .i64) 3 w' w.heap.size (fun k_ => some k_ ≠ (s_.1 : Value).ownBlock ∧ some k_ ≠ (s_.2.1 : Value).ownBlock) (.slice Ao11 t248.length co11) t248) ∧ (w'.heap[gb246]? = some (.cells #[.int .i64 a0_0, .int .i64 a0_1] 23 (0, 0))) ∧ (w'.heap[gb253]? = some (.cells #[.bool t247, .slice Ao11 t248.length co11, .int .i64 t251] 26 (0, 0))) ∧ (w'.heap[gb257]? = some (.cells #[.int .i64 t254, .int .i64 t255] 23 (0, 0))) ∧ (w'.heap[s_.2.2]? = some (.cells #[.bool false, .slice none 0 0, .int .i64 0] 26 (0, 0))) ∧ (w.heap.size ≤ s_.2.2) ∧ (w.heap.size ≤ s_.2.2) ∧ (gb246 ≠ s_.2.2) ∧ (s_.2.2 ≠ gb246) ∧ (gb253 ≠ s_.2.2) ∧ (s_.2.2 ≠ gb253) ∧ (gb257 ≠ s_.2.2) ∧ (s_.2.2 ≠ gb257) ∧ (Below w.heap.size w w')) ?_ ?_
      rotate_left
      ·
       intro hCont
       refine two_ (i := 2) (j := 4) (Ni := some 38) (Nj := some 9) #[true, true, true, false, false, false] #[true, true, false, false, true, false] rfl rfl rfl rfl (by kernel_rfl) (by decide) (by decide) (fun K hK => ?_) (fun K hK => ?_)
       ·
        skip
        refine goes_ Try.func12 (by kernel_rfl) rfl #[.int .i64 a1, .int .i64 0] (by rfl) rfl rfl (by (try simp only [List.map_toArray, List.map_cons, List.map_nil]); first | done | rfl | (simp only [List.length_drop, List.length_take]; rfl)) ?_
        with_reducible refine (spec_DecimalOf.calls kj3 a1 0 t258 t259 t262 _ A20.out).mono ?_
        rintro e w72 ⟨v260, rfl, ho0, hb⟩
        refine ⟨_, rfl, ?_⟩
        have n0_ := aM_ (Kd.R_elder' (by (with_reducible repeat (first | apply kA_ | apply kN_ | apply kD_)); exact HO_254001.out) (Kd.R_base ho0) hb)
        have n1_ := aM_ (Kd.R_lower (Kd.R_new' ho0 (Kd.R_lt (by (with_reducible repeat (first | apply kA_ | apply kN_ | apply kD_)); exact HO_254001.out))) (below_size (by repeat (first | (with_reducible first | exact HB.out | apply bB_ | apply wN_ | apply bE_ | refine bS_ ?_ GE246.out | refine bS_ ?_ GE253.out | refine bS_ ?_ GE257.out) | exact HB.out))))
        have n2_ := aM_ (blk_below (g := gb246) (o := .cells #[.int .i64 a0_0, .int .i64 a0_1] 23 (0, 0)) (by (with_reducible repeat (first | refine bN_ ?_ _ | refine bD_ ?_ | refine bA_ ?_ _)); exact BK246.out) hb)
        have n3_ := aM_ (blk_below (g := gb253) (o := .cells #[.bool t247, .slice Ao11 t248.length co11, .int .i64 t251] 26 (0, 0)) (by (with_reducible repeat (first | refine bN_ ?_ _ | refine bD_ ?_ | refine bA_ ?_ _)); exact BK253.out) hb)
        have n4_ := aM_ (blk_below (g := gb257) (o := .cells #[.int .i64 t254, .int .i64 t255] 23 (0, 0)) (by (with_reducible repeat (first | refine bN_ ?_ _ | refine bD_ ?_ | refine bA_ ?_ _)); exact BK257.out) hb)
        have n5_ := aM_ (below_step (by repeat (first | (with_reducible first | exact HB.out | apply bB_ | apply wN_ | apply bE_ | refine bS_ ?_ GE246.out | refine bS_ ?_ GE253.out | refine bS_ ?_ GE257.out) | exact HB.out)) hb)
        clear HO_254001
        clear BK246
        clear BK253
        clear BK257
        clear HB
        have HO_254001 := n0_
        have HO261 := n1_
        have BK246 := n2_
        have BK253 := n3_
        have BK257 := n4_
        have HB := n5_
        clear n0_ n1_ n2_ n3_ n4_ n5_
        (try clear hb)
        (try clear hb2)
        (try clear hk)
        (try clear hi)
        (try clear ho0)
        obtain ⟨Ao73, co73, eo73⟩ := Kd.R_slice HO261.out
        (first | subst eo73 | (injection eo73 with f1_ f2_ f3_; have f4_ := f1_.symm; have f5_ := f3_.symm; clear f1_ f2_ f3_; subst f4_; subst f5_))
        refine hK.out _ _ ⟨(bC_ BK253.out 0).trans rfl, (bC_ BK253.out 1).trans rfl, (bC_ BK253.out 2).trans rfl⟩ (fun hHeld => ?_)
        clear hK K
        refine norm_ (a' := ?_) ?_ ?_
        rotate_left
        ·
         show Act.put _ (some 38) _ = _
         simp only [Act.put, List.setIfInBounds_toArray, List.set_cons_zero, List.set_cons_succ, i64_w, i32_w]
         rfl
        refine two_ (i := 3) (j := 4) (Ni := some 39) (Nj := some 9) #[true, true, true, true, false, false] #[true, true, true, false, true, false] rfl rfl rfl rfl (by kernel_rfl) (by decide) (by decide) (fun K hK => ?_) (fun K hK => ?_)
        ·
         skip
         refine goes_ Try.func11 (by kernel_rfl) rfl #[.agg #[.bool t247, .slice Ao11 t248.length co11, .int .i64 t251], .agg #[.bool t258, .slice Ao73 t259.length co73, .int .i64 t262]] (by rfl) rfl rfl (by (try simp only [List.map_toArray, List.map_cons, List.map_nil]); first | done | rfl | (simp only [List.length_drop, List.length_take]; rfl)) ?_
         with_reducible refine (spec_DecimalTimes.calls kj3 t247 _ _ t248 t251 t258 _ _ t259 t262 t263 t264 t267 _ ?side1 ?side2 ?side3 ?side4 A21.out).mono ?_
         (case side1 => repeat (first | exact (Kd.R_reads' HO_254001.out).2.2 | (with_reducible refine Kd.C_alloc ?_ _) | (with_reducible refine Kd.C_drewN ?_ _) | (with_reducible refine Kd.C_drew ?_)))
         (case side2 => exact (Kd.R_reads' HO_254001.out).2.1)
         (case side3 => repeat (first | exact (Kd.R_reads' HO261.out).2.2 | (with_reducible refine Kd.C_alloc ?_ _) | (with_reducible refine Kd.C_drewN ?_ _) | (with_reducible refine Kd.C_drew ?_)))
         (case side4 => exact (Kd.R_reads' HO261.out).2.1)
         rintro e w74 ⟨v265, rfl, ho0, hb⟩
         refine ⟨_, rfl, ?_⟩
         have n0_ := aM_ (Kd.R_elder' (by (with_reducible repeat (first | apply kA_ | apply kN_ | apply kD_)); exact HO_254001.out) (Kd.R_base ho0) hb)
         have n1_ := aM_ (Kd.R_elder' (by (with_reducible repeat (first | apply kA_ | apply kN_ | apply kD_)); exact HO261.out) (Kd.R_base ho0) hb)
         have n2_ := aM_ (Kd.R_lower (Kd.R_new' (Kd.R_new' ho0 (Kd.R_lt (by (with_reducible repeat (first | apply kA_ | apply kN_ | apply kD_)); exact HO_254001.out))) (Kd.R_lt (by (with_reducible repeat (first | apply kA_ | apply kN_ | apply kD_)); exact HO261.out))) (below_size (by repeat (first | (with_reducible first | exact HB.out | apply bB_ | apply wN_ | apply bE_ | refine bS_ ?_ GE246.out | refine bS_ ?_ GE253.out | refine bS_ ?_ GE257.out) | exact HB.out))))
         have n3_ := aM_ (blk_below (g := gb246) (o := .cells #[.int .i64 a0_0, .int .i64 a0_1] 23 (0, 0)) (by (with_reducible repeat (first | refine bN_ ?_ _ | refine bD_ ?_ | refine bA_ ?_ _)); exact BK246.out) hb)
         have n4_ := aM_ (blk_below (g := gb253) (o := .cells #[.bool t247, .slice Ao11 t248.length co11, .int .i64 t251] 26 (0, 0)) (by (with_reducible repeat (first | refine bN_ ?_ _ | refine bD_ ?_ | refine bA_ ?_ _)); exact BK253.out) hb)
         have n5_ := aM_ (blk_below (g := gb257) (o := .cells #[.int .i64 t254, .int .i64 t255] 23 (0, 0)) (by (with_reducible repeat (first | refine bN_ ?_ _ | refine bD_ ?_ | refine bA_ ?_ _)); exact BK257.out) hb)
         have n6_ := aM_ (below_step (by repeat (first | (with_reducible first | exact HB.out | apply bB_ | apply wN_ | apply bE_ | refine bS_ ?_ GE246.out | refine bS_ ?_ GE253.out | refine bS_ ?_ GE257.out) | exact HB.out)) hb)
         clear HO_254001
         clear HO261
         clear BK246
         clear BK253
         clear BK257
         clear HB
         have HO_254001 := n0_
         have HO261 := n1_
         have HO266 := n2_
         have BK246 := n3_
         have BK253 := n4_
         have BK257 := n5_
         have HB := n6_
         clear n0_ n1_ n2_ n3_ n4_ n5_ n6_
         (try clear hb)
         (try clear hb2)
         (try clear hk)
         (try clear hi)
         (try clear ho0)
         refine hK.out _ _ ⟨(bC_ BK253.out 0).trans rfl, (bC_ BK253.out 1).trans rfl, (bC_ BK253.out 2).trans rfl⟩ (fun hHeld => ?_)
         clear hK K
         refine norm_ (a' := ?_) ?_ ?_
         rotate_left
         ·
          show Act.put _ (some 39) _ = _
          simp only [Act.put, List.setIfInBounds_toArray, List.set_cons_zero, List.set_cons_succ, i64_w, i32_w]
          rfl
         refine one_ (i := 4) (N := some 9) #[true, true, true, true, true, false] rfl rfl (by kernel_rfl) (by decide) (fun K hK => ?_)
         refine box_step ?hg (N := 9) ?hd (cs := #[.bool false, .slice none 0 0, .int .i64 0]) (t := 26) ?hr ?_; (case hd => rfl); (case hg => rfl); (case hr => first | (go_simp; done) | (go_simp; rfl))
         intro gb268 hg w75 hbox hb
         have n0_ := aM_ (Kd.R_below (by (with_reducible repeat (first | apply kA_ | apply kN_ | apply kD_)); exact HO_254001.out) hb)
         have n1_ := aM_ (Kd.R_below (by (with_reducible repeat (first | apply kA_ | apply kN_ | apply kD_)); exact HO261.out) hb)
         have n2_ := aM_ (Kd.R_below (by (with_reducible repeat (first | apply kA_ | apply kN_ | apply kD_)); exact HO266.out) hb)
         have n3_ := aM_ (blk_below (g := gb246) (o := .cells #[.int .i64 a0_0, .int .i64 a0_1] 23 (0, 0)) (by (with_reducible repeat (first | refine bN_ ?_ _ | refine bD_ ?_ | refine bA_ ?_ _)); exact BK246.out) hb)
         have n4_ := aM_ (blk_below (g := gb253) (o := .cells #[.bool t247, .slice Ao11 t248.length co11, .int .i64 t251] 26 (0, 0)) (by (with_reducible repeat (first | refine bN_ ?_ _ | refine bD_ ?_ | refine bA_ ?_ _)); exact BK253.out) hb)
         have n5_ := aM_ (blk_below (g := gb257) (o := .cells #[.int .i64 t254, .int .i64 t255] 23 (0, 0)) (by (with_reducible repeat (first | refine bN_ ?_ _ | refine bD_ ?_ | refine bA_ ?_ _)); exact BK257.out) hb)
         have n6_ := aM_ (below_step (by repeat (first | (with_reducible first | exact HB.out | apply bB_ | apply wN_ | apply bE_ | refine bS_ ?_ GE246.out | refine bS_ ?_ GE253.out | refine bS_ ?_ GE257.out) | exact HB.out)) hb)
         have n7_ := aM_ (hbox)
         have n8_ := aM_ ((by rw [hg]; exact (below_size (by repeat (first | (with_reducible first | exact HB.out | apply bB_ | apply wN_ | apply bE_ | refine bS_ ?_ GE246.out | refine bS_ ?_ GE253.out | refine bS_ ?_ GE257.out) | exact HB.out))) : w.heap.size ≤ gb268))
         have n9_ := aM_ ((by rw [hg]; exact (below_size (by repeat (first | (with_reducible first | exact HB.out | apply bB_ | apply wN_ | apply bE_ | refine bS_ ?_ GE246.out | refine bS_ ?_ GE253.out | refine bS_ ?_ GE257.out) | exact HB.out))) : w.heap.size ≤ gb268))
         have n10_ := aM_ ((by rw [hg]; exact Nat.ne_of_lt (blk_lt (g := gb246) (o := .cells #[.int .i64 a0_0, .int .i64 a0_1] 23 (0, 0)) (by (with_reducible repeat (first | refine bN_ ?_ _ | refine bD_ ?_ | refine bA_ ?_ _)); exact BK246.out)) : gb246 ≠ gb268))
         have n11_ := aM_ ((by rw [hg]; exact Nat.ne_of_gt (blk_lt (g := gb246) (o := .cells #[.int .i64 a0_0, .int .i64 a0_1] 23 (0, 0)) (by (with_reducible repeat (first | refine bN_ ?_ _ | refine bD_ ?_ | refine bA_ ?_ _)); exact BK246.out)) : gb268 ≠ gb246))
         have n12_ := aM_ ((by rw [hg]; exact Nat.ne_of_lt (blk_lt (g := gb253) (o := .cells #[.bool t247, .slice Ao11 t248.length co11, .int .i64 t251] 26 (0, 0)) (by (with_reducible repeat (first | refine bN_ ?_ _ | refine bD_ ?_ | refine bA_ ?_ _)); exact BK253.out)) : gb253 ≠ gb268))
         have n13_ := aM_ ((by rw [hg]; exact Nat.ne_of_gt (blk_lt (g := gb253) (o := .cells #[.bool t247, .slice Ao11 t248.length co11, .int .i64 t251] 26 (0, 0)) (by (with_reducible repeat (first | refine bN_ ?_ _ | refine bD_ ?_ | refine bA_ ?_ _)); exact BK253.out)) : gb268 ≠ gb253))
         have n14_ := aM_ ((by rw [hg]; exact Nat.ne_of_lt (blk_lt (g := gb257) (o := .cells #[.int .i64 t254, .int .i64 t255] 23 (0, 0)) (by (with_reducible repeat (first | refine bN_ ?_ _ | refine bD_ ?_ | refine bA_ ?_ _)); exact BK257.out)) : gb257 ≠ gb268))
         have n15_ := aM_ ((by rw [hg]; exact Nat.ne_of_gt (blk_lt (g := gb257) (o := .cells #[.int .i64 t254, .int .i64 t255] 23 (0, 0)) (by (with_reducible repeat (first | refine bN_ ?_ _ | refine bD_ ?_ | refine bA_ ?_ _)); exact BK257.out)) : gb268 ≠ gb257))
         clear HO_254001
         clear HO261
         clear HO266
         clear BK246
         clear BK253
         clear BK257
         clear HB
         have HO_254001 := n0_
         have HO261 := n1_
         have HO266 := n2_
         have BK246 := n3_
         have BK253 := n4_
         have BK257 := n5_
         have HB := n6_
         have BK268 := n7_
         have GW268 := n8_
         have GE268 := n9_
         have NB246_268 := n10_
         have NB268_246 := n11_
         have NB253_268 := n12_
         have NB268_253 := n13_
         have NB257_268 := n14_
         have NB268_257 := n15_
         clear n0_ n1_ n2_ n3_ n4_ n5_ n6_ n7_ n8_ n9_ n10_ n11_ n12_ n13_ n14_ n15_
         clear hb hbox hg
         refine hK.out _ _ ⟨(bC_ BK253.out 0).trans rfl, (bC_ BK253.out 1).trans rfl, (bC_ BK253.out 2).trans rfl⟩ (fun hHeld => ?_)
         clear hK K
         refine norm_ (a' := ?_) ?_ ?_
         rotate_left
         ·
          show Act.put _ (some 9) _ = _
          simp only [Act.put, List.setIfInBounds_toArray, List.set_cons_zero, List.set_cons_succ, i64_w, i32_w]
          rfl
         exact norm_ (by simp only [putAll, Act.put, List.setIfInBounds_toArray, List.set_cons_zero, List.set_cons_succ]) (hCont (.slice Ao73 t259.length co73, v265, gb268) _ ⟨hHeld, (by (with_reducible repeat (first | apply kA_ | apply kN_ | apply kD_)); exact Kd.R_mono HO261.out (fun _ hk => ⟨hk.2, hk.1.2⟩)), (by (with_reducible repeat (first | apply kA_ | apply kN_ | apply kD_)); exact Kd.R_mono HO266.out (fun _ hk => ⟨hk.2, hk.1.2⟩)), (by (with_reducible repeat (first | apply kA_ | apply kN_ | apply kD_)); exact Kd.R_mono HO_254001.out (fun _ hk => ⟨hk.1.2, hk.2⟩)), (by (with_reducible repeat (first | refine bN_ ?_ _ | refine bD_ ?_ | refine bA_ ?_ _)); exact BK246.out), (by (with_reducible repeat (first | refine bN_ ?_ _ | refine bD_ ?_ | refine bA_ ?_ _)); exact BK253.out), (by (with_reducible repeat (first | refine bN_ ?_ _ | refine bD_ ?_ | refine bA_ ?_ _)); exact BK257.out), (by (with_reducible repeat (first | refine bN_ ?_ _ | refine bD_ ?_ | refine bA_ ?_ _)); exact BK268.out), GW268.out, GE268.out, NB246_268.out, NB268_246.out, NB253_268.out, NB268_253.out, NB257_268.out, NB268_257.out, (by repeat (first | (with_reducible first | exact HB.out | apply bB_ | apply wN_ | apply bE_ | refine bS_ ?_ GE246.out | refine bS_ ?_ GE253.out | refine bS_ ?_ GE257.out | refine bS_ ?_ GE268.out) | exact HB.out))⟩)
        ·
         skip
         refine box_step ?hg (N := 9) ?hd (cs := #[.bool false, .slice none 0 0, .int .i64 0]) (t := 26) ?hr ?_; (case hd => rfl); (case hg => rfl); (case hr => first | (go_simp; done) | (go_simp; rfl))
         intro gb268 hg w73 hbox hb
         have n0_ := aM_ (Kd.R_below (by (with_reducible repeat (first | apply kA_ | apply kN_ | apply kD_)); exact HO_254001.out) hb)
         have n1_ := aM_ (Kd.R_below (by (with_reducible repeat (first | apply kA_ | apply kN_ | apply kD_)); exact HO261.out) hb)
         have n2_ := aM_ (blk_below (g := gb246) (o := .cells #[.int .i64 a0_0, .int .i64 a0_1] 23 (0, 0)) (by (with_reducible repeat (first | refine bN_ ?_ _ | refine bD_ ?_ | refine bA_ ?_ _)); exact BK246.out) hb)
         have n3_ := aM_ (blk_below (g := gb253) (o := .cells #[.bool t247, .slice Ao11 t248.length co11, .int .i64 t251] 26 (0, 0)) (by (with_reducible repeat (first | refine bN_ ?_ _ | refine bD_ ?_ | refine bA_ ?_ _)); exact BK253.out) hb)
         have n4_ := aM_ (blk_below (g := gb257) (o := .cells #[.int .i64 t254, .int .i64 t255] 23 (0, 0)) (by (with_reducible repeat (first | refine bN_ ?_ _ | refine bD_ ?_ | refine bA_ ?_ _)); exact BK257.out) hb)
         have n5_ := aM_ (below_step (by repeat (first | (with_reducible first | exact HB.out | apply bB_ | apply wN_ | apply bE_ | refine bS_ ?_ GE246.out | refine bS_ ?_ GE253.out | refine bS_ ?_ GE257.out) | exact HB.out)) hb)
         have n6_ := aM_ (hbox)
         have n7_ := aM_ ((by rw [hg]; exact (below_size (by repeat (first | (with_reducible first | exact HB.out | apply bB_ | apply wN_ | apply bE_ | refine bS_ ?_ GE246.out | refine bS_ ?_ GE253.out | refine bS_ ?_ GE257.out) | exact HB.out))) : w.heap.size ≤ gb268))
         have n8_ := aM_ ((by rw [hg]; exact (below_size (by repeat (first | (with_reducible first | exact HB.out | apply bB_ | apply wN_ | apply bE_ | refine bS_ ?_ GE246.out | refine bS_ ?_ GE253.out | refine bS_ ?_ GE257.out) | exact HB.out))) : w.heap.size ≤ gb268))
         have n9_ := aM_ ((by rw [hg]; exact Nat.ne_of_lt (blk_lt (g := gb246) (o := .cells #[.int .i64 a0_0, .int .i64 a0_1] 23 (0, 0)) (by (with_reducible repeat (first | refine bN_ ?_ _ | refine bD_ ?_ | refine bA_ ?_ _)); exact BK246.out)) : gb246 ≠ gb268))
         have n10_ := aM_ ((by rw [hg]; exact Nat.ne_of_gt (blk_lt (g := gb246) (o := .cells #[.int .i64 a0_0, .int .i64 a0_1] 23 (0, 0)) (by (with_reducible repeat (first | refine bN_ ?_ _ | refine bD_ ?_ | refine bA_ ?_ _)); exact BK246.out)) : gb268 ≠ gb246))
         have n11_ := aM_ ((by rw [hg]; exact Nat.ne_of_lt (blk_lt (g := gb253) (o := .cells #[.bool t247, .slice Ao11 t248.length co11, .int .i64 t251] 26 (0, 0)) (by (with_reducible repeat (first | refine bN_ ?_ _ | refine bD_ ?_ | refine bA_ ?_ _)); exact BK253.out)) : gb253 ≠ gb268))
         have n12_ := aM_ ((by rw [hg]; exact Nat.ne_of_gt (blk_lt (g := gb253) (o := .cells #[.bool t247, .slice Ao11 t248.length co11, .int .i64 t251] 26 (0, 0)) (by (with_reducible repeat (first | refine bN_ ?_ _ | refine bD_ ?_ | refine bA_ ?_ _)); exact BK253.out)) : gb268 ≠ gb253))
         have n13_ := aM_ ((by rw [hg]; exact Nat.ne_of_lt (blk_lt (g := gb257) (o := .cells #[.int .i64 t254, .int .i64 t255] 23 (0, 0)) (by (with_reducible repeat (first | refine bN_ ?_ _ | refine bD_ ?_ | refine bA_ ?_ _)); exact BK257.out)) : gb257 ≠ gb268))
         have n14_ := aM_ ((by rw [hg]; exact Nat.ne_of_gt (blk_lt (g := gb257) (o := .cells #[.int .i64 t254, .int .i64 t255] 23 (0, 0)) (by (with_reducible repeat (first | refine bN_ ?_ _ | refine bD_ ?_ | refine bA_ ?_ _)); exact BK257.out)) : gb268 ≠ gb257))
         clear HO_254001
         clear HO261
         clear BK246
         clear BK253
         clear BK257
         clear HB
         have HO_254001 := n0_
         have HO261 := n1_
         have BK246 := n2_
         have BK253 := n3_
         have BK257 := n4_
         have HB := n5_
         have BK268 := n6_
         have GW268 := n7_
         have GE268 := n8_
         have NB246_268 := n9_
         have NB268_246 := n10_
         have NB253_268 := n11_
         have NB268_253 := n12_
         have NB257_268 := n13_
         have NB268_257 := n14_
         clear n0_ n1_ n2_ n3_ n4_ n5_ n6_ n7_ n8_ n9_ n10_ n11_ n12_ n13_ n14_
         clear hb hbox hg
         obtain ⟨Ao74, co74, eo74⟩ := Kd.R_slice HO261.out
         (first | subst eo74 | (injection eo74 with f1_ f2_ f3_; have f4_ := f1_.symm; have f5_ := f3_.symm; clear f1_ f2_ f3_; subst f4_; subst f5_))
         refine hK.out _ _ ⟨(bC_ BK253.out 0).trans rfl, (bC_ BK253.out 1).trans rfl, (bC_ BK253.out 2).trans rfl⟩ (fun hHeld => ?_)
         clear hK K
         refine norm_ (a' := ?_) ?_ ?_
         rotate_left
         ·
          show Act.put _ (some 9) _ = _
          simp only [Act.put, List.setIfInBounds_toArray, List.set_cons_zero, List.set_cons_succ, i64_w, i32_w]
          rfl
         refine one_ (i := 3) (N := some 39) #[true, true, true, true, true, false] rfl rfl (by kernel_rfl) (by decide) (fun K hK => ?_)
         refine goes_ Try.func11 (by kernel_rfl) rfl #[.agg #[.bool t247, .slice Ao11 t248.length co11, .int .i64 t251], .agg #[.bool t258, .slice Ao74 t259.length co74, .int .i64 t262]] (by rfl) rfl rfl (by (try simp only [List.map_toArray, List.map_cons, List.map_nil]); first | done | rfl | (simp only [List.length_drop, List.length_take]; rfl)) ?_
         with_reducible refine (spec_DecimalTimes.calls kj3 t247 _ _ t248 t251 t258 _ _ t259 t262 t263 t264 t267 _ ?side1 ?side2 ?side3 ?side4 A21.out).mono ?_
         (case side1 => repeat (first | exact (Kd.R_reads' HO_254001.out).2.2 | (with_reducible refine Kd.C_alloc ?_ _) | (with_reducible refine Kd.C_drewN ?_ _) | (with_reducible refine Kd.C_drew ?_)))
         (case side2 => exact (Kd.R_reads' HO_254001.out).2.1)
         (case side3 => repeat (first | exact (Kd.R_reads' HO261.out).2.2 | (with_reducible refine Kd.C_alloc ?_ _) | (with_reducible refine Kd.C_drewN ?_ _) | (with_reducible refine Kd.C_drew ?_)))
         (case side4 => exact (Kd.R_reads' HO261.out).2.1)
         rintro e w75 ⟨v265, rfl, ho0, hb⟩
         refine ⟨_, rfl, ?_⟩
         have n0_ := aM_ (Kd.R_elder' (by (with_reducible repeat (first | apply kA_ | apply kN_ | apply kD_)); exact HO_254001.out) (Kd.R_base ho0) hb)
         have n1_ := aM_ (Kd.R_elder' (by (with_reducible repeat (first | apply kA_ | apply kN_ | apply kD_)); exact HO261.out) (Kd.R_base ho0) hb)
         have n2_ := aM_ (Kd.R_lower (Kd.R_new' (Kd.R_new' ho0 (Kd.R_lt (by (with_reducible repeat (first | apply kA_ | apply kN_ | apply kD_)); exact HO_254001.out))) (Kd.R_lt (by (with_reducible repeat (first | apply kA_ | apply kN_ | apply kD_)); exact HO261.out))) (below_size (by repeat (first | (with_reducible first | exact HB.out | apply bB_ | apply wN_ | apply bE_ | refine bS_ ?_ GE246.out | refine bS_ ?_ GE253.out | refine bS_ ?_ GE257.out | refine bS_ ?_ GE268.out) | exact HB.out))))
         have n3_ := aM_ (blk_below (g := gb246) (o := .cells #[.int .i64 a0_0, .int .i64 a0_1] 23 (0, 0)) (by (with_reducible repeat (first | refine bN_ ?_ _ | refine bD_ ?_ | refine bA_ ?_ _)); exact BK246.out) hb)
         have n4_ := aM_ (blk_below (g := gb253) (o := .cells #[.bool t247, .slice Ao11 t248.length co11, .int .i64 t251] 26 (0, 0)) (by (with_reducible repeat (first | refine bN_ ?_ _ | refine bD_ ?_ | refine bA_ ?_ _)); exact BK253.out) hb)
         have n5_ := aM_ (blk_below (g := gb257) (o := .cells #[.int .i64 t254, .int .i64 t255] 23 (0, 0)) (by (with_reducible repeat (first | refine bN_ ?_ _ | refine bD_ ?_ | refine bA_ ?_ _)); exact BK257.out) hb)
         have n6_ := aM_ (blk_below (g := gb268) (o := .cells #[.bool false, .slice none 0 0, .int .i64 0] 26 (0, 0)) (by (with_reducible repeat (first | refine bN_ ?_ _ | refine bD_ ?_ | refine bA_ ?_ _)); exact BK268.out) hb)
         have n7_ := aM_ (below_step (by repeat (first | (with_reducible first | exact HB.out | apply bB_ | apply wN_ | apply bE_ | refine bS_ ?_ GE246.out | refine bS_ ?_ GE253.out | refine bS_ ?_ GE257.out | refine bS_ ?_ GE268.out) | exact HB.out)) hb)
         clear HO_254001
         clear HO261
         clear BK246
         clear BK253
         clear BK257
         clear BK268
         clear HB
         have HO_254001 := n0_
         have HO261 := n1_
         have HO266 := n2_
         have BK246 := n3_
         have BK253 := n4_
         have BK257 := n5_
         have BK268 := n6_
         have HB := n7_
         clear n0_ n1_ n2_ n3_ n4_ n5_ n6_ n7_
         (try clear hb)
         (try clear hb2)
         (try clear hk)
         (try clear hi)
         (try clear ho0)
         refine hK.out _ _ ⟨(bC_ BK253.out 0).trans rfl, (bC_ BK253.out 1).trans rfl, (bC_ BK253.out 2).trans rfl⟩ (fun hHeld => ?_)
         clear hK K
         refine norm_ (a' := ?_) ?_ ?_
         rotate_left
         ·
          show Act.put _ (some 39) _ = _
          simp only [Act.put, List.setIfInBounds_toArray, List.set_cons_zero, List.set_cons_succ, i64_w, i32_w]
          rfl
         exact norm_ (by simp only [putAll, Act.put, List.setIfInBounds_toArray, List.set_cons_zero, List.set_cons_succ]) (hCont (.slice Ao74 t259.length co74, v265, gb268) _ ⟨hHeld, (by (with_reducible repeat (first | apply kA_ | apply kN_ | apply kD_)); exact Kd.R_mono HO261.out (fun _ hk => ⟨hk.2, hk.1.2⟩)), (by (with_reducible repeat (first | apply kA_ | apply kN_ | apply kD_)); exact Kd.R_mono HO266.out (fun _ hk => ⟨hk.2, hk.1.2⟩)), (by (with_reducible repeat (first | apply kA_ | apply kN_ | apply kD_)); exact Kd.R_mono HO_254001.out (fun _ hk => ⟨hk.1.2, hk.2⟩)), (by (with_reducible repeat (first | refine bN_ ?_ _ | refine bD_ ?_ | refine bA_ ?_ _)); exact BK246.out), (by (with_reducible repeat (first | refine bN_ ?_ _ | refine bD_ ?_ | refine bA_ ?_ _)); exact BK253.out), (by (with_reducible repeat (first | refine bN_ ?_ _ | refine bD_ ?_ | refine bA_ ?_ _)); exact BK257.out), (by (with_reducible repeat (first | refine bN_ ?_ _ | refine bD_ ?_ | refine bA_ ?_ _)); exact BK268.out), GW268.out, GE268.out, NB246_268.out, NB268_246.out, NB253_268.out, NB268_253.out, NB257_268.out, NB268_257.out, (by repeat (first | (with_reducible first | exact HB.out | apply bB_ | apply wN_ | apply bE_ | refine bS_ ?_ GE246.out | refine bS_ ?_ GE253.out | refine bS_ ?_ GE257.out | refine bS_ ?_ GE268.out) | exact HB.out))⟩)
       ·
        skip
        refine box_step ?hg (N := 9) ?hd (cs := #[.bool false, .slice none 0 0, .int .i64 0]) (t := 26) ?hr ?_; (case hd => rfl); (case hg => rfl); (case hr => first | (go_simp; done) | (go_simp; rfl))
        intro gb268 hg w72 hbox hb
        have n0_ := aM_ (Kd.R_below (by (with_reducible repeat (first | apply kA_ | apply kN_ | apply kD_)); exact HO_254001.out) hb)
        have n1_ := aM_ (blk_below (g := gb246) (o := .cells #[.int .i64 a0_0, .int .i64 a0_1] 23 (0, 0)) (by (with_reducible repeat (first | refine bN_ ?_ _ | refine bD_ ?_ | refine bA_ ?_ _)); exact BK246.out) hb)
        have n2_ := aM_ (blk_below (g := gb253) (o := .cells #[.bool t247, .slice Ao11 t248.length co11, .int .i64 t251] 26 (0, 0)) (by (with_reducible repeat (first | refine bN_ ?_ _ | refine bD_ ?_ | refine bA_ ?_ _)); exact BK253.out) hb)
        have n3_ := aM_ (blk_below (g := gb257) (o := .cells #[.int .i64 t254, .int .i64 t255] 23 (0, 0)) (by (with_reducible repeat (first | refine bN_ ?_ _ | refine bD_ ?_ | refine bA_ ?_ _)); exact BK257.out) hb)
        have n4_ := aM_ (below_step (by repeat (first | (with_reducible first | exact HB.out | apply bB_ | apply wN_ | apply bE_ | refine bS_ ?_ GE246.out | refine bS_ ?_ GE253.out | refine bS_ ?_ GE257.out) | exact HB.out)) hb)
        have n5_ := aM_ (hbox)
        have n6_ := aM_ ((by rw [hg]; exact (below_size (by repeat (first | (with_reducible first | exact HB.out | apply bB_ | apply wN_ | apply bE_ | refine bS_ ?_ GE246.out | refine bS_ ?_ GE253.out | refine bS_ ?_ GE257.out) | exact HB.out))) : w.heap.size ≤ gb268))
        have n7_ := aM_ ((by rw [hg]; exact (below_size (by repeat (first | (with_reducible first | exact HB.out | apply bB_ | apply wN_ | apply bE_ | refine bS_ ?_ GE246.out | refine bS_ ?_ GE253.out | refine bS_ ?_ GE257.out) | exact HB.out))) : w.heap.size ≤ gb268))
        have n8_ := aM_ ((by rw [hg]; exact Nat.ne_of_lt (blk_lt (g := gb246) (o := .cells #[.int .i64 a0_0, .int .i64 a0_1] 23 (0, 0)) (by (with_reducible repeat (first | refine bN_ ?_ _ | refine bD_ ?_ | refine bA_ ?_ _)); exact BK246.out)) : gb246 ≠ gb268))
        have n9_ := aM_ ((by rw [hg]; exact Nat.ne_of_gt (blk_lt (g := gb246) (o := .cells #[.int .i64 a0_0, .int .i64 a0_1] 23 (0, 0)) (by (with_reducible repeat (first | refine bN_ ?_ _ | refine bD_ ?_ | refine bA_ ?_ _)); exact BK246.out)) : gb268 ≠ gb246))
        have n10_ := aM_ ((by rw [hg]; exact Nat.ne_of_lt (blk_lt (g := gb253) (o := .cells #[.bool t247, .slice Ao11 t248.length co11, .int .i64 t251] 26 (0, 0)) (by (with_reducible repeat (first | refine bN_ ?_ _ | refine bD_ ?_ | refine bA_ ?_ _)); exact BK253.out)) : gb253 ≠ gb268))
        have n11_ := aM_ ((by rw [hg]; exact Nat.ne_of_gt (blk_lt (g := gb253) (o := .cells #[.bool t247, .slice Ao11 t248.length co11, .int .i64 t251] 26 (0, 0)) (by (with_reducible repeat (first | refine bN_ ?_ _ | refine bD_ ?_ | refine bA_ ?_ _)); exact BK253.out)) : gb268 ≠ gb253))
        have n12_ := aM_ ((by rw [hg]; exact Nat.ne_of_lt (blk_lt (g := gb257) (o := .cells #[.int .i64 t254, .int .i64 t255] 23 (0, 0)) (by (with_reducible repeat (first | refine bN_ ?_ _ | refine bD_ ?_ | refine bA_ ?_ _)); exact BK257.out)) : gb257 ≠ gb268))
        have n13_ := aM_ ((by rw [hg]; exact Nat.ne_of_gt (blk_lt (g := gb257) (o := .cells #[.int .i64 t254, .int .i64 t255] 23 (0, 0)) (by (with_reducible repeat (first | refine bN_ ?_ _ | refine bD_ ?_ | refine bA_ ?_ _)); exact BK257.out)) : gb268 ≠ gb257))
        clear HO_254001
        clear BK246
        clear BK253
        clear BK257
        clear HB
        have HO_254001 := n0_
        have BK246 := n1_
        have BK253 := n2_
        have BK257 := n3_
        have HB := n4_
        have BK268 := n5_
        have GW268 := n6_
        have GE268 := n7_
        have NB246_268 := n8_
        have NB268_246 := n9_
        have NB253_268 := n10_
        have NB268_253 := n11_
        have NB257_268 := n12_
        have NB268_257 := n13_
        clear n0_ n1_ n2_ n3_ n4_ n5_ n6_ n7_ n8_ n9_ n10_ n11_ n12_ n13_
        clear hb hbox hg
        refine hK.out _ _ ⟨(bC_ BK253.out 0).trans rfl, (bC_ BK253.out 1).trans rfl, (bC_ BK253.out 2).trans rfl⟩ (fun hHeld => ?_)
        clear hK K
        refine norm_ (a' := ?_) ?_ ?_
        rotate_left
        ·
         show Act.put _ (some 9) _ = _
         simp only [Act.put, List.setIfInBounds_toArray, List.set_cons_zero, List.set_cons_succ, i64_w, i32_w]
         rfl
        refine one_ (i := 2) (N := some 38) #[true, true, true, false, true, false] rfl rfl (by kernel_rfl) (by decide) (fun K hK => ?_)
        refine goes_ Try.func12 (by kernel_rfl) rfl #[.int .i64 a1, .int .i64 0] (by rfl) rfl rfl (by (try simp only [List.map_toArray, List.map_cons, List.map_nil]); first | done | rfl | (simp only [List.length_drop, List.length_take]; rfl)) ?_
        with_reducible refine (spec_DecimalOf.calls kj3 a1 0 t258 t259 t262 _ A20.out).mono ?_
        rintro e w73 ⟨v260, rfl, ho0, hb⟩
        refine ⟨_, rfl, ?_⟩
        have n0_ := aM_ (Kd.R_elder' (by (with_reducible repeat (first | apply kA_ | apply kN_ | apply kD_)); exact HO_254001.out) (Kd.R_base ho0) hb)
        have n1_ := aM_ (Kd.R_lower (Kd.R_new' ho0 (Kd.R_lt (by (with_reducible repeat (first | apply kA_ | apply kN_ | apply kD_)); exact HO_254001.out))) (below_size (by repeat (first | (with_reducible first | exact HB.out | apply bB_ | apply wN_ | apply bE_ | refine bS_ ?_ GE246.out | refine bS_ ?_ GE253.out | refine bS_ ?_ GE257.out | refine bS_ ?_ GE268.out) | exact HB.out))))
        have n2_ := aM_ (blk_below (g := gb246) (o := .cells #[.int .i64 a0_0, .int .i64 a0_1] 23 (0, 0)) (by (with_reducible repeat (first | refine bN_ ?_ _ | refine bD_ ?_ | refine bA_ ?_ _)); exact BK246.out) hb)
        have n3_ := aM_ (blk_below (g := gb253) (o := .cells #[.bool t247, .slice Ao11 t248.length co11, .int .i64 t251] 26 (0, 0)) (by (with_reducible repeat (first | refine bN_ ?_ _ | refine bD_ ?_ | refine bA_ ?_ _)); exact BK253.out) hb)
        have n4_ := aM_ (blk_below (g := gb257) (o := .cells #[.int .i64 t254, .int .i64 t255] 23 (0, 0)) (by (with_reducible repeat (first | refine bN_ ?_ _ | refine bD_ ?_ | refine bA_ ?_ _)); exact BK257.out) hb)
        have n5_ := aM_ (blk_below (g := gb268) (o := .cells #[.bool false, .slice none 0 0, .int .i64 0] 26 (0, 0)) (by (with_reducible repeat (first | refine bN_ ?_ _ | refine bD_ ?_ | refine bA_ ?_ _)); exact BK268.out) hb)
        have n6_ := aM_ (below_step (by repeat (first | (with_reducible first | exact HB.out | apply bB_ | apply wN_ | apply bE_ | refine bS_ ?_ GE246.out | refine bS_ ?_ GE253.out | refine bS_ ?_ GE257.out | refine bS_ ?_ GE268.out) | exact HB.out)) hb)
        clear HO_254001
        clear BK246
        clear BK253
        clear BK257
        clear BK268
        clear HB
        have HO_254001 := n0_
        have HO261 := n1_
        have BK246 := n2_
        have BK253 := n3_
        have BK257 := n4_
        have BK268 := n5_
        have HB := n6_
        clear n0_ n1_ n2_ n3_ n4_ n5_ n6_
        (try clear hb)
        (try clear hb2)
        (try clear hk)
        (try clear hi)
        (try clear ho0)
        obtain ⟨Ao74, co74, eo74⟩ := Kd.R_slice HO261.out
        (first | subst eo74 | (injection eo74 with f1_ f2_ f3_; have f4_ := f1_.symm; have f5_ := f3_.symm; clear f1_ f2_ f3_; subst f4_; subst f5_))
        refine hK.out _ _ ⟨(bC_ BK253.out 0).trans rfl, (bC_ BK253.out 1).trans rfl, (bC_ BK253.out 2).trans rfl⟩ (fun hHeld => ?_)
        clear hK K
        refine norm_ (a' := ?_) ?_ ?_
        rotate_left
        ·
         show Act.put _ (some 38) _ = _
         simp only [Act.put, List.setIfInBounds_toArray, List.set_cons_zero, List.set_cons_succ, i64_w, i32_w]
         rfl
        refine one_ (i := 3) (N := some 39) #[true, true, true, true, true, false] rfl rfl (by kernel_rfl) (by decide) (fun K hK => ?_)
        refine goes_ Try.func11 (by kernel_rfl) rfl #[.agg #[.bool t247, .slice Ao11 t248.length co11, .int .i64 t251], .agg #[.bool t258, .slice Ao74 t259.length co74, .int .i64 t262]] (by rfl) rfl rfl (by (try simp only [List.map_toArray, List.map_cons, List.map_nil]); first | done | rfl | (simp only [List.length_drop, List.length_take]; rfl)) ?_
        with_reducible refine (spec_DecimalTimes.calls kj3 t247 _ _ t248 t251 t258 _ _ t259 t262 t263 t264 t267 _ ?side1 ?side2 ?side3 ?side4 A21.out).mono ?_
        (case side1 => repeat (first | exact (Kd.R_reads' HO_254001.out).2.2 | (with_reducible refine Kd.C_alloc ?_ _) | (with_reducible refine Kd.C_drewN ?_ _) | (with_reducible refine Kd.C_drew ?_)))
        (case side2 => exact (Kd.R_reads' HO_254001.out).2.1)
        (case side3 => repeat (first | exact (Kd.R_reads' HO261.out).2.2 | (with_reducible refine Kd.C_alloc ?_ _) | (with_reducible refine Kd.C_drewN ?_ _) | (with_reducible refine Kd.C_drew ?_)))
        (case side4 => exact (Kd.R_reads' HO261.out).2.1)
        rintro e w75 ⟨v265, rfl, ho0, hb⟩
        refine ⟨_, rfl, ?_⟩
        have n0_ := aM_ (Kd.R_elder' (by (with_reducible repeat (first | apply kA_ | apply kN_ | apply kD_)); exact HO_254001.out) (Kd.R_base ho0) hb)
        have n1_ := aM_ (Kd.R_elder' (by (with_reducible repeat (first | apply kA_ | apply kN_ | apply kD_)); exact HO261.out) (Kd.R_base ho0) hb)
        have n2_ := aM_ (Kd.R_lower (Kd.R_new' (Kd.R_new' ho0 (Kd.R_lt (by (with_reducible repeat (first | apply kA_ | apply kN_ | apply kD_)); exact HO_254001.out))) (Kd.R_lt (by (with_reducible repeat (first | apply kA_ | apply kN_ | apply kD_)); exact HO261.out))) (below_size (by repeat (first | (with_reducible first | exact HB.out | apply bB_ | apply wN_ | apply bE_ | refine bS_ ?_ GE246.out | refine bS_ ?_ GE253.out | refine bS_ ?_ GE257.out | refine bS_ ?_ GE268.out) | exact HB.out))))
        have n3_ := aM_ (blk_below (g := gb246) (o := .cells #[.int .i64 a0_0, .int .i64 a0_1] 23 (0, 0)) (by (with_reducible repeat (first | refine bN_ ?_ _ | refine bD_ ?_ | refine bA_ ?_ _)); exact BK246.out) hb)
        have n4_ := aM_ (blk_below (g := gb253) (o := .cells #[.bool t247, .slice Ao11 t248.length co11, .int .i64 t251] 26 (0, 0)) (by (with_reducible repeat (first | refine bN_ ?_ _ | refine bD_ ?_ | refine bA_ ?_ _)); exact BK253.out) hb)
        have n5_ := aM_ (blk_below (g := gb257) (o := .cells #[.int .i64 t254, .int .i64 t255] 23 (0, 0)) (by (with_reducible repeat (first | refine bN_ ?_ _ | refine bD_ ?_ | refine bA_ ?_ _)); exact BK257.out) hb)
        have n6_ := aM_ (blk_below (g := gb268) (o := .cells #[.bool false, .slice none 0 0, .int .i64 0] 26 (0, 0)) (by (with_reducible repeat (first | refine bN_ ?_ _ | refine bD_ ?_ | refine bA_ ?_ _)); exact BK268.out) hb)
        have n7_ := aM_ (below_step (by repeat (first | (with_reducible first | exact HB.out | apply bB_ | apply wN_ | apply bE_ | refine bS_ ?_ GE246.out | refine bS_ ?_ GE253.out | refine bS_ ?_ GE257.out | refine bS_ ?_ GE268.out) | exact HB.out)) hb)
        clear HO_254001
        clear HO261
        clear BK246
        clear BK253
        clear BK257
        clear BK268
        clear HB
        have HO_254001 := n0_
        have HO261 := n1_
        have HO266 := n2_
        have BK246 := n3_
        have BK253 := n4_
        have BK257 := n5_
        have BK268 := n6_
        have HB := n7_
        clear n0_ n1_ n2_ n3_ n4_ n5_ n6_ n7_
        (try clear hb)
        (try clear hb2)
        (try clear hk)
        (try clear hi)
        (try clear ho0)
        refine hK.out _ _ ⟨(bC_ BK253.out 0).trans rfl, (bC_ BK253.out 1).trans rfl, (bC_ BK253.out 2).trans rfl⟩ (fun hHeld => ?_)
        clear hK K
        refine norm_ (a' := ?_) ?_ ?_
        rotate_left
        ·
         show Act.put _ (some 39) _ = _
         simp only [Act.put, List.setIfInBounds_toArray, List.set_cons_zero, List.set_cons_succ, i64_w, i32_w]
         rfl
        exact norm_ (by simp only [putAll, Act.put, List.setIfInBounds_toArray, List.set_cons_zero, List.set_cons_succ]) (hCont (.slice Ao74 t259.length co74, v265, gb268) _ ⟨hHeld, (by (with_reducible repeat (first | apply kA_ | apply kN_ | apply kD_)); exact Kd.R_mono HO261.out (fun _ hk => ⟨hk.2, hk.1.2⟩)), (by (with_reducible repeat (first | apply kA_ | apply kN_ | apply kD_)); exact Kd.R_mono HO266.out (fun _ hk => ⟨hk.2, hk.1.2⟩)), (by (with_reducible repeat (first | apply kA_ | apply kN_ | apply kD_)); exact Kd.R_mono HO_254001.out (fun _ hk => ⟨hk.1.2, hk.2⟩)), (by (with_reducible repeat (first | refine bN_ ?_ _ | refine bD_ ?_ | refine bA_ ?_ _)); exact BK246.out), (by (with_reducible repeat (first | refine bN_ ?_ _ | refine bD_ ?_ | refine bA_ ?_ _)); exact BK253.out), (by (with_reducible repeat (first | refine bN_ ?_ _ | refine bD_ ?_ | refine bA_ ?_ _)); exact BK257.out), (by (with_reducible repeat (first | refine bN_ ?_ _ | refine bD_ ?_ | refine bA_ ?_ _)); exact BK268.out), GW268.out, GE268.out, NB246_268.out, NB268_246.out, NB253_268.out, NB268_253.out, NB257_268.out, NB268_257.out, (by repeat (first | (with_reducible first | exact HB.out | apply bB_ | apply wN_ | apply bE_ | refine bS_ ?_ GE246.out | refine bS_ ?_ GE253.out | refine bS_ ?_ GE257.out | refine bS_ ?_ GE268.out) | exact HB.out))⟩)
      rintro ⟨v260, v265, gb268⟩ w76 ⟨hS_, h0_, h1_, h2_, h3_, h4_, h5_, h6_, h7_, h8_, h9_, h10_, h11_, h12_, h13_, h14_, h15_⟩
      have n0_ : Aside0 (Kd.R (Kd.int .i64) 3 w76 w.heap.size (fun k_ => some k_ ≠ (v265 : Value).ownBlock ∧ some k_ ≠ (.slice Ao11 t248.length co11 : Value).ownBlock) v260 t259) := ⟨h0_⟩
      have n1_ : Aside0 (Kd.R (Kd.int .i64) 3 w76 w.heap.size (fun k_ => some k_ ≠ (v260 : Value).ownBlock ∧ some k_ ≠ (.slice Ao11 t248.length co11 : Value).ownBlock) v265 t264) := ⟨h1_⟩
      have n2_ : Aside0 (Kd.R (Kd.int .i64) 3 w76 w.heap.size (fun k_ => some k_ ≠ (v260 : Value).ownBlock ∧ some k_ ≠ (v265 : Value).ownBlock) (.slice Ao11 t248.length co11) t248) := ⟨h2_⟩
      have n3_ : Aside0 (w76.heap[gb246]? = some (.cells #[.int .i64 a0_0, .int .i64 a0_1] 23 (0, 0))) := ⟨h3_⟩
      have n4_ : Aside0 (w76.heap[gb253]? = some (.cells #[.bool t247, .slice Ao11 t248.length co11, .int .i64 t251] 26 (0, 0))) := ⟨h4_⟩
      have n5_ : Aside0 (w76.heap[gb257]? = some (.cells #[.int .i64 t254, .int .i64 t255] 23 (0, 0))) := ⟨h5_⟩
      have n6_ : Aside0 (w76.heap[gb268]? = some (.cells #[.bool false, .slice none 0 0, .int .i64 0] 26 (0, 0))) := ⟨h6_⟩
      have n7_ : Aside0 (w.heap.size ≤ gb268) := ⟨h7_⟩
      have n8_ : Aside0 (w.heap.size ≤ gb268) := ⟨h8_⟩
      have n9_ : Aside0 (gb246 ≠ gb268) := ⟨h9_⟩
      have n10_ : Aside0 (gb268 ≠ gb246) := ⟨h10_⟩
      have n11_ : Aside0 (gb253 ≠ gb268) := ⟨h11_⟩
      have n12_ : Aside0 (gb268 ≠ gb253) := ⟨h12_⟩
      have n13_ : Aside0 (gb257 ≠ gb268) := ⟨h13_⟩
      have n14_ : Aside0 (gb268 ≠ gb257) := ⟨h14_⟩
      have n15_ : Aside0 (Below w.heap.size w w76) := ⟨h15_⟩
      clear HO_254001
      clear BK246
      clear BK253
      clear BK257
      clear HB
      clear h0_ h1_ h2_ h3_ h4_ h5_ h6_ h7_ h8_ h9_ h10_ h11_ h12_ h13_ h14_ h15_
      have HO261 := n0_
      have HO266 := n1_
      have HO_254001 := n2_
      have BK246 := n3_
      have BK253 := n4_
      have BK257 := n5_
      have BK268 := n6_
      have GW268 := n7_
      have GE268 := n8_
      have NB246_268 := n9_
      have NB268_246 := n10_
      have NB253_268 := n11_
      have NB268_253 := n12_
      have NB257_268 := n13_
      have NB268_257 := n14_
      have HB := n15_
      clear n0_ n1_ n2_ n3_ n4_ n5_ n6_ n7_ n8_ n9_ n10_ n11_ n12_ n13_ n14_ n15_
      have hHeld : w76.cell? ⟨gb253, 0, none⟩ = some (.bool t247) ∧ w76.cell? ⟨gb253, 1, none⟩ = some (.slice Ao11 t248.length co11) ∧ w76.cell? ⟨gb253, 2, none⟩ = some (.int .i64 t251) := hS_
      obtain ⟨Ao78, co78, eo78⟩ := Kd.R_slice HO266.out
      (first | subst eo78 | (injection eo78 with f1_ f2_ f3_; have f4_ := f1_.symm; have f5_ := f3_.symm; clear f1_ f2_ f3_; subst f4_; subst f5_))
      refine norm_ (a' := ?_) ?_ ?_
      rotate_left
      ·
       simp only [putAll, Act.put, List.setIfInBounds_toArray, List.set_cons_zero, List.set_cons_succ]
       rfl
      refine one_ (i := 5) (N := none) #[true, true, true, true, true, true] rfl rfl (by kernel_rfl) (by decide) (fun K hK => ?_)
      have hs77 : w76.cell? ⟨gb268, 0, none⟩ = some (.bool false) := (bC_ BK268.out 0).trans rfl
      have hfs77 := bF_ BK268.out 0
      have hns77_0 := NB246_268.out
      have hns77_1 := NB253_268.out
      have hns77_2 := NB257_268.out
      have hms77_0 := NB268_246.out
      have hms77_1 := NB268_253.out
      have hms77_2 := NB268_257.out
      have hs79 : w76.cell? ⟨gb268, 1, none⟩ = some (.slice none 0 0) := (bC_ BK268.out 1).trans rfl
      have hfs79 := bF_ BK268.out 1
      have hns79_0 := NB246_268.out
      have hns79_1 := NB253_268.out
      have hns79_2 := NB257_268.out
      have hms79_0 := NB268_246.out
      have hms79_1 := NB268_253.out
      have hms79_2 := NB268_257.out
      have hs80 : w76.cell? ⟨gb268, 2, none⟩ = some (.int .i64 0) := (bC_ BK268.out 2).trans rfl
      have hfs80 := bF_ BK268.out 2
      have hns80_0 := NB246_268.out
      have hns80_1 := NB253_268.out
      have hns80_2 := NB257_268.out
      have hms80_0 := NB268_246.out
      have hms80_1 := NB268_253.out
      have hms80_2 := NB268_257.out
      refine skip_ (w1 := ?_) (by rfl) rfl ?_ ?_
      rotate_left
      ·
       go_simp
       rfl
      refine hK.out _ _ ⟨((cell_far (p := ⟨gb268, _, none⟩) NB253_268.out _).trans (((cell_far (p := ⟨gb268, _, none⟩) NB253_268.out _).trans (((cell_far (p := ⟨gb268, _, none⟩) NB253_268.out _).trans (hHeld.1)))))), ((cell_far (p := ⟨gb268, _, none⟩) NB253_268.out _).trans (((cell_far (p := ⟨gb268, _, none⟩) NB253_268.out _).trans (((cell_far (p := ⟨gb268, _, none⟩) NB253_268.out _).trans (hHeld.2.1)))))), ((cell_far (p := ⟨gb268, _, none⟩) NB253_268.out _).trans (((cell_far (p := ⟨gb268, _, none⟩) NB253_268.out _).trans (((cell_far (p := ⟨gb268, _, none⟩) NB253_268.out _).trans (hHeld.2.2))))))⟩ (fun hHeld => ?_)
      clear hK K
      refine done_ (by kernel_rfl) ?_
      have hnb81 := NB246_268.out
      have hnc81 := NB268_246.out
      have hcz82_0 : w76.cell? ⟨gb246, 0, none⟩ = some (.int .i64 a0_0) := (bC_ BK246.out 0).trans rfl
      have hcz82_1 : w76.cell? ⟨gb246, 1, none⟩ = some (.int .i64 a0_1) := (bC_ BK246.out 1).trans rfl
      have hfz82_0 := bF_ BK246.out 0
      have hfz82_1 := bF_ BK246.out 1
      try go_wp2_with (first | ((with_reducible refine gate_callee (f := 12) rfl ?_); refine goesL_ (some 43) rfl rfl Try.func12 (by kernel_rfl) rfl #[.int .i64 a0_0, .int .i64 0] rfl (by (try simp only [List.map_toArray, List.map_cons, List.map_nil]); first | done | rfl | (simp only [List.length_drop, List.length_take]; rfl)) ?_; (with_reducible refine (spec_DecimalOf.calls kj3 a0_0 0 t269 t270 t273 _ A22.out).mono ?_); rintro e w83 ⟨v271, rfl, ho0, hb⟩; refine ⟨_, rfl, ?_⟩; have n0_ := aM_ (Kd.R_elder' (by (with_reducible repeat (first | apply kA_ | apply kN_ | apply kD_)); exact (Kd.R_mono (Kd.R_far (p := ⟨gb268, 2, none⟩) (Kd.R_far (p := ⟨gb268, 1, none⟩) (Kd.R_far (p := ⟨gb268, 0, none⟩) (Kd.R_types HO_254001.out BK268.out (by decide)) (fun _ hk => hk.2) (.bool t263)) (fun _ hk => hk.2) (.slice Ao78 t264.length co78)) (fun _ hk => hk.2) (.int .i64 t267)) (fun _ h_ => h_.1))) (Kd.R_base ho0) hb); have n1_ := aM_ (Kd.R_elder' (by (with_reducible repeat (first | apply kA_ | apply kN_ | apply kD_)); exact (Kd.R_mono (Kd.R_far (p := ⟨gb268, 2, none⟩) (Kd.R_far (p := ⟨gb268, 1, none⟩) (Kd.R_far (p := ⟨gb268, 0, none⟩) (Kd.R_types HO261.out BK268.out (by decide)) (fun _ hk => hk.2) (.bool t263)) (fun _ hk => hk.2) (.slice Ao78 t264.length co78)) (fun _ hk => hk.2) (.int .i64 t267)) (fun _ h_ => h_.1))) (Kd.R_base ho0) hb); have n2_ := aM_ (Kd.R_elder' (by (with_reducible repeat (first | apply kA_ | apply kN_ | apply kD_)); exact (Kd.R_mono (Kd.R_far (p := ⟨gb268, 2, none⟩) (Kd.R_far (p := ⟨gb268, 1, none⟩) (Kd.R_far (p := ⟨gb268, 0, none⟩) (Kd.R_types HO266.out BK268.out (by decide)) (fun _ hk => hk.2) (.bool t263)) (fun _ hk => hk.2) (.slice Ao78 t264.length co78)) (fun _ hk => hk.2) (.int .i64 t267)) (fun _ h_ => h_.1))) (Kd.R_base ho0) hb); have n3_ := aM_ (Kd.R_lower (Kd.R_new' (Kd.R_new' (Kd.R_new' ho0 (Kd.R_lt (by (with_reducible repeat (first | apply kA_ | apply kN_ | apply kD_)); exact (Kd.R_mono (Kd.R_far (p := ⟨gb268, 2, none⟩) (Kd.R_far (p := ⟨gb268, 1, none⟩) (Kd.R_far (p := ⟨gb268, 0, none⟩) (Kd.R_types HO_254001.out BK268.out (by decide)) (fun _ hk => hk.2) (.bool t263)) (fun _ hk => hk.2) (.slice Ao78 t264.length co78)) (fun _ hk => hk.2) (.int .i64 t267)) (fun _ h_ => h_.1))))) (Kd.R_lt (by (with_reducible repeat (first | apply kA_ | apply kN_ | apply kD_)); exact (Kd.R_mono (Kd.R_far (p := ⟨gb268, 2, none⟩) (Kd.R_far (p := ⟨gb268, 1, none⟩) (Kd.R_far (p := ⟨gb268, 0, none⟩) (Kd.R_types HO261.out BK268.out (by decide)) (fun _ hk => hk.2) (.bool t263)) (fun _ hk => hk.2) (.slice Ao78 t264.length co78)) (fun _ hk => hk.2) (.int .i64 t267)) (fun _ h_ => h_.1))))) (Kd.R_lt (by (with_reducible repeat (first | apply kA_ | apply kN_ | apply kD_)); exact (Kd.R_mono (Kd.R_far (p := ⟨gb268, 2, none⟩) (Kd.R_far (p := ⟨gb268, 1, none⟩) (Kd.R_far (p := ⟨gb268, 0, none⟩) (Kd.R_types HO266.out BK268.out (by decide)) (fun _ hk => hk.2) (.bool t263)) (fun _ hk => hk.2) (.slice Ao78 t264.length co78)) (fun _ hk => hk.2) (.int .i64 t267)) (fun _ h_ => h_.1))))) (below_size (by repeat (first | (with_reducible first | exact HB.out | apply bB_ | apply wN_ | apply bE_ | refine bS_ ?_ GE246.out | refine bS_ ?_ GE253.out | refine bS_ ?_ GE257.out | refine bS_ ?_ GE268.out) | exact HB.out)))); have n4_ := aM_ (blk_below (g := gb246) (o := .cells #[.int .i64 a0_0, .int .i64 a0_1] 23 (0, 0)) (by (with_reducible repeat (first | refine bN_ ?_ _ | refine bD_ ?_ | refine bA_ ?_ _)); refine blk_far ?_ NB246_268.out _; (with_reducible repeat (first | refine bN_ ?_ _ | refine bD_ ?_ | refine bA_ ?_ _)); refine blk_far ?_ NB246_268.out _; (with_reducible repeat (first | refine bN_ ?_ _ | refine bD_ ?_ | refine bA_ ?_ _)); refine blk_far ?_ NB246_268.out _; (with_reducible repeat (first | refine bN_ ?_ _ | refine bD_ ?_ | refine bA_ ?_ _)); exact BK246.out) hb); have n5_ := aM_ (blk_below (g := gb253) (o := .cells #[.bool t247, .slice Ao11 t248.length co11, .int .i64 t251] 26 (0, 0)) (by (with_reducible repeat (first | refine bN_ ?_ _ | refine bD_ ?_ | refine bA_ ?_ _)); refine blk_far ?_ NB253_268.out _; (with_reducible repeat (first | refine bN_ ?_ _ | refine bD_ ?_ | refine bA_ ?_ _)); refine blk_far ?_ NB253_268.out _; (with_reducible repeat (first | refine bN_ ?_ _ | refine bD_ ?_ | refine bA_ ?_ _)); refine blk_far ?_ NB253_268.out _; (with_reducible repeat (first | refine bN_ ?_ _ | refine bD_ ?_ | refine bA_ ?_ _)); exact BK253.out) hb); have n6_ := aM_ (blk_below (g := gb257) (o := .cells #[.int .i64 t254, .int .i64 t255] 23 (0, 0)) (by (with_reducible repeat (first | refine bN_ ?_ _ | refine bD_ ?_ | refine bA_ ?_ _)); refine blk_far ?_ NB257_268.out _; (with_reducible repeat (first | refine bN_ ?_ _ | refine bD_ ?_ | refine bA_ ?_ _)); refine blk_far ?_ NB257_268.out _; (with_reducible repeat (first | refine bN_ ?_ _ | refine bD_ ?_ | refine bA_ ?_ _)); refine blk_far ?_ NB257_268.out _; (with_reducible repeat (first | refine bN_ ?_ _ | refine bD_ ?_ | refine bA_ ?_ _)); exact BK257.out) hb); have n7_ := aM_ (blk_below (g := gb268) (o := .cells #[.bool t263, .slice Ao78 t264.length co78, .int .i64 t267] 26 (0, 0)) (by (with_reducible repeat (first | refine bN_ ?_ _ | refine bD_ ?_ | refine bA_ ?_ _)); refine blk_put (cs := #[.bool t263, .slice Ao78 t264.length co78, .int .i64 0]) ?_ 2 _ rfl; (with_reducible repeat (first | refine bN_ ?_ _ | refine bD_ ?_ | refine bA_ ?_ _)); refine blk_put (cs := #[.bool t263, .slice none 0 0, .int .i64 0]) ?_ 1 _ rfl; (with_reducible repeat (first | refine bN_ ?_ _ | refine bD_ ?_ | refine bA_ ?_ _)); refine blk_put (cs := #[.bool false, .slice none 0 0, .int .i64 0]) ?_ 0 _ rfl; (with_reducible repeat (first | refine bN_ ?_ _ | refine bD_ ?_ | refine bA_ ?_ _)); exact BK268.out) hb); have n8_ := aM_ (below_step (by repeat (first | (with_reducible first | exact HB.out | apply bB_ | apply wN_ | apply bE_ | refine bS_ ?_ GE246.out | refine bS_ ?_ GE253.out | refine bS_ ?_ GE257.out | refine bS_ ?_ GE268.out) | exact HB.out)) hb); clear HO_254001; clear HO261; clear HO266; clear BK246; clear BK253; clear BK257; clear BK268; clear HB; have HO_254001 := n0_; have HO261 := n1_; have HO266 := n2_; have HO272 := n3_; have BK246 := n4_; have BK253 := n5_; have BK257 := n6_; have BK268 := n7_; have HB := n8_; clear n0_ n1_ n2_ n3_ n4_ n5_ n6_ n7_ n8_; (try clear hb); (try clear hb2); (try clear hk); (try clear hi); (try clear ho0)) | ((with_reducible refine gate_callee (f := 12) rfl ?_); refine goesL_ (some 45) rfl rfl Try.func12 (by kernel_rfl) rfl #[.int .i64 a1, .int .i64 0] rfl (by (try simp only [List.map_toArray, List.map_cons, List.map_nil]); first | done | rfl | (simp only [List.length_drop, List.length_take]; rfl)) ?_; (with_reducible refine (spec_DecimalOf.calls kj3 a1 0 t274 t275 t278 _ A23.out).mono ?_); rintro e w84 ⟨v276, rfl, ho0, hb⟩; refine ⟨_, rfl, ?_⟩; have n0_ := aM_ (Kd.R_elder' (by (with_reducible repeat (first | apply kA_ | apply kN_ | apply kD_)); exact HO_254001.out) (Kd.R_base ho0) hb); have n1_ := aM_ (Kd.R_elder' (by (with_reducible repeat (first | apply kA_ | apply kN_ | apply kD_)); exact HO261.out) (Kd.R_base ho0) hb); have n2_ := aM_ (Kd.R_elder' (by (with_reducible repeat (first | apply kA_ | apply kN_ | apply kD_)); exact HO266.out) (Kd.R_base ho0) hb); have n3_ := aM_ (Kd.R_elder' (by (with_reducible repeat (first | apply kA_ | apply kN_ | apply kD_)); exact HO272.out) (Kd.R_base ho0) hb); have n4_ := aM_ (Kd.R_lower (Kd.R_new' (Kd.R_new' (Kd.R_new' (Kd.R_new' ho0 (Kd.R_lt (by (with_reducible repeat (first | apply kA_ | apply kN_ | apply kD_)); exact HO_254001.out))) (Kd.R_lt (by (with_reducible repeat (first | apply kA_ | apply kN_ | apply kD_)); exact HO261.out))) (Kd.R_lt (by (with_reducible repeat (first | apply kA_ | apply kN_ | apply kD_)); exact HO266.out))) (Kd.R_lt (by (with_reducible repeat (first | apply kA_ | apply kN_ | apply kD_)); exact HO272.out))) (below_size (by repeat (first | (with_reducible first | exact HB.out | apply bB_ | apply wN_ | apply bE_ | refine bS_ ?_ GE246.out | refine bS_ ?_ GE253.out | refine bS_ ?_ GE257.out | refine bS_ ?_ GE268.out) | exact HB.out)))); have n5_ := aM_ (blk_below (g := gb246) (o := .cells #[.int .i64 a0_0, .int .i64 a0_1] 23 (0, 0)) (by (with_reducible repeat (first | refine bN_ ?_ _ | refine bD_ ?_ | refine bA_ ?_ _)); exact BK246.out) hb); have n6_ := aM_ (blk_below (g := gb253) (o := .cells #[.bool t247, .slice Ao11 t248.length co11, .int .i64 t251] 26 (0, 0)) (by (with_reducible repeat (first | refine bN_ ?_ _ | refine bD_ ?_ | refine bA_ ?_ _)); exact BK253.out) hb); have n7_ := aM_ (blk_below (g := gb257) (o := .cells #[.int .i64 t254, .int .i64 t255] 23 (0, 0)) (by (with_reducible repeat (first | refine bN_ ?_ _ | refine bD_ ?_ | refine bA_ ?_ _)); exact BK257.out) hb); have n8_ := aM_ (blk_below (g := gb268) (o := .cells #[.bool t263, .slice Ao78 t264.length co78, .int .i64 t267] 26 (0, 0)) (by (with_reducible repeat (first | refine bN_ ?_ _ | refine bD_ ?_ | refine bA_ ?_ _)); exact BK268.out) hb); have n9_ := aM_ (below_step (by repeat (first | (with_reducible first | exact HB.out | apply bB_ | apply wN_ | apply bE_ | refine bS_ ?_ GE246.out | refine bS_ ?_ GE253.out | refine bS_ ?_ GE257.out | refine bS_ ?_ GE268.out) | exact HB.out)) hb); clear HO_254001; clear HO261; clear HO266; clear HO272; clear BK246; clear BK253; clear BK257; clear BK268; clear HB; have HO_254001 := n0_; have HO261 := n1_; have HO266 := n2_; have HO272 := n3_; have HO277 := n4_; have BK246 := n5_; have BK253 := n6_; have BK257 := n7_; have BK268 := n8_; have HB := n9_; clear n0_ n1_ n2_ n3_ n4_ n5_ n6_ n7_ n8_ n9_; (try clear hb); (try clear hb2); (try clear hk); (try clear hi); (try clear ho0); obtain ⟨Ao85, co85, eo85⟩ := Kd.R_slice HO272.out; subst eo85; obtain ⟨Ao86, co86, eo86⟩ := Kd.R_slice HO277.out; subst eo86) | ((with_reducible refine gate_callee (f := 11) rfl ?_); refine goesL_ (some 46) rfl rfl Try.func11 (by kernel_rfl) rfl #[.agg #[.bool t269, .slice Ao85 t270.length co85, .int .i64 t273], .agg #[.bool t274, .slice Ao86 t275.length co86, .int .i64 t278]] rfl (by (try simp only [List.map_toArray, List.map_cons, List.map_nil]); first | done | rfl | (simp only [List.length_drop, List.length_take]; rfl)) ?_; (with_reducible refine (spec_DecimalTimes.calls kj3 t269 _ _ t270 t273 t274 _ _ t275 t278 t279 t280 t283 _ ?side1 ?side2 ?side3 ?side4 A24.out).mono ?_); (case side1 => repeat (first | exact (Kd.R_reads' HO272.out).2.2 | (with_reducible refine Kd.C_alloc ?_ _) | (with_reducible refine Kd.C_drewN ?_ _) | (with_reducible refine Kd.C_drew ?_))); (case side2 => exact (Kd.R_reads' HO272.out).2.1); (case side3 => repeat (first | exact (Kd.R_reads' HO277.out).2.2 | (with_reducible refine Kd.C_alloc ?_ _) | (with_reducible refine Kd.C_drewN ?_ _) | (with_reducible refine Kd.C_drew ?_))); (case side4 => exact (Kd.R_reads' HO277.out).2.1); rintro e w87 ⟨v281, rfl, ho0, hb⟩; refine ⟨_, rfl, ?_⟩; have n0_ := aM_ (Kd.R_elder' (by (with_reducible repeat (first | apply kA_ | apply kN_ | apply kD_)); exact HO_254001.out) (Kd.R_base ho0) hb); have n1_ := aM_ (Kd.R_elder' (by (with_reducible repeat (first | apply kA_ | apply kN_ | apply kD_)); exact HO261.out) (Kd.R_base ho0) hb); have n2_ := aM_ (Kd.R_elder' (by (with_reducible repeat (first | apply kA_ | apply kN_ | apply kD_)); exact HO266.out) (Kd.R_base ho0) hb); have n3_ := aM_ (Kd.R_elder' (by (with_reducible repeat (first | apply kA_ | apply kN_ | apply kD_)); exact HO272.out) (Kd.R_base ho0) hb); have n4_ := aM_ (Kd.R_elder' (by (with_reducible repeat (first | apply kA_ | apply kN_ | apply kD_)); exact HO277.out) (Kd.R_base ho0) hb); have n5_ := aM_ (Kd.R_lower (Kd.R_new' (Kd.R_new' (Kd.R_new' (Kd.R_new' (Kd.R_new' ho0 (Kd.R_lt (by (with_reducible repeat (first | apply kA_ | apply kN_ | apply kD_)); exact HO_254001.out))) (Kd.R_lt (by (with_reducible repeat (first | apply kA_ | apply kN_ | apply kD_)); exact HO261.out))) (Kd.R_lt (by (with_reducible repeat (first | apply kA_ | apply kN_ | apply kD_)); exact HO266.out))) (Kd.R_lt (by (with_reducible repeat (first | apply kA_ | apply kN_ | apply kD_)); exact HO272.out))) (Kd.R_lt (by (with_reducible repeat (first | apply kA_ | apply kN_ | apply kD_)); exact HO277.out))) (below_size (by repeat (first | (with_reducible first | exact HB.out | apply bB_ | apply wN_ | apply bE_ | refine bS_ ?_ GE246.out | refine bS_ ?_ GE253.out | refine bS_ ?_ GE257.out | refine bS_ ?_ GE268.out) | exact HB.out)))); have n6_ := aM_ (blk_below (g := gb246) (o := .cells #[.int .i64 a0_0, .int .i64 a0_1] 23 (0, 0)) (by (with_reducible repeat (first | refine bN_ ?_ _ | refine bD_ ?_ | refine bA_ ?_ _)); exact BK246.out) hb); have n7_ := aM_ (blk_below (g := gb253) (o := .cells #[.bool t247, .slice Ao11 t248.length co11, .int .i64 t251] 26 (0, 0)) (by (with_reducible repeat (first | refine bN_ ?_ _ | refine bD_ ?_ | refine bA_ ?_ _)); exact BK253.out) hb); have n8_ := aM_ (blk_below (g := gb257) (o := .cells #[.int .i64 t254, .int .i64 t255] 23 (0, 0)) (by (with_reducible repeat (first | refine bN_ ?_ _ | refine bD_ ?_ | refine bA_ ?_ _)); exact BK257.out) hb); have n9_ := aM_ (blk_below (g := gb268) (o := .cells #[.bool t263, .slice Ao78 t264.length co78, .int .i64 t267] 26 (0, 0)) (by (with_reducible repeat (first | refine bN_ ?_ _ | refine bD_ ?_ | refine bA_ ?_ _)); exact BK268.out) hb); have n10_ := aM_ (below_step (by repeat (first | (with_reducible first | exact HB.out | apply bB_ | apply wN_ | apply bE_ | refine bS_ ?_ GE246.out | refine bS_ ?_ GE253.out | refine bS_ ?_ GE257.out | refine bS_ ?_ GE268.out) | exact HB.out)) hb); clear HO_254001; clear HO261; clear HO266; clear HO272; clear HO277; clear BK246; clear BK253; clear BK257; clear BK268; clear HB; have HO_254001 := n0_; have HO261 := n1_; have HO266 := n2_; have HO272 := n3_; have HO277 := n4_; have HO282 := n5_; have BK246 := n6_; have BK253 := n7_; have BK257 := n8_; have BK268 := n9_; have HB := n10_; clear n0_ n1_ n2_ n3_ n4_ n5_ n6_ n7_ n8_ n9_ n10_; (try clear hb); (try clear hb2); (try clear hk); (try clear hi); (try clear ho0); obtain ⟨Ao88, co88, eo88⟩ := Kd.R_slice HO282.out; subst eo88) | ((with_reducible refine gate_callee (f := 10) rfl ?_); refine goesL_ (some 47) rfl rfl Try.func10 (by kernel_rfl) rfl #[.agg #[.bool t279, .slice Ao88 t280.length co88, .int .i64 t283]] rfl (by (try simp only [List.map_toArray, List.map_cons, List.map_nil]); first | done | rfl | (simp only [List.length_drop, List.length_take]; rfl)) ?_; (with_reducible refine (spec_DecimalInt.calls kj3 t279 _ _ t280 t283 t284 t285 _ ?side1 ?side2 A25.out).mono ?_); (case side1 => repeat (first | exact (Kd.R_reads' HO282.out).2.2 | (with_reducible refine Kd.C_alloc ?_ _) | (with_reducible refine Kd.C_drewN ?_ _) | (with_reducible refine Kd.C_drew ?_))); (case side2 => exact (Kd.R_reads' HO282.out).2.1); rintro e w89 ⟨rfl, hb⟩; refine ⟨_, rfl, ?_⟩; have n0_ := aM_ (Kd.R_below (by (with_reducible repeat (first | apply kA_ | apply kN_ | apply kD_)); exact HO_254001.out) hb); have n1_ := aM_ (Kd.R_below (by (with_reducible repeat (first | apply kA_ | apply kN_ | apply kD_)); exact HO261.out) hb); have n2_ := aM_ (Kd.R_below (by (with_reducible repeat (first | apply kA_ | apply kN_ | apply kD_)); exact HO266.out) hb); have n3_ := aM_ (Kd.R_below (by (with_reducible repeat (first | apply kA_ | apply kN_ | apply kD_)); exact HO272.out) hb); have n4_ := aM_ (Kd.R_below (by (with_reducible repeat (first | apply kA_ | apply kN_ | apply kD_)); exact HO277.out) hb); have n5_ := aM_ (Kd.R_below (by (with_reducible repeat (first | apply kA_ | apply kN_ | apply kD_)); exact HO282.out) hb); have n6_ := aM_ (blk_below (g := gb246) (o := .cells #[.int .i64 a0_0, .int .i64 a0_1] 23 (0, 0)) (by (with_reducible repeat (first | refine bN_ ?_ _ | refine bD_ ?_ | refine bA_ ?_ _)); exact BK246.out) hb); have n7_ := aM_ (blk_below (g := gb253) (o := .cells #[.bool t247, .slice Ao11 t248.length co11, .int .i64 t251] 26 (0, 0)) (by (with_reducible repeat (first | refine bN_ ?_ _ | refine bD_ ?_ | refine bA_ ?_ _)); exact BK253.out) hb); have n8_ := aM_ (blk_below (g := gb257) (o := .cells #[.int .i64 t254, .int .i64 t255] 23 (0, 0)) (by (with_reducible repeat (first | refine bN_ ?_ _ | refine bD_ ?_ | refine bA_ ?_ _)); exact BK257.out) hb); have n9_ := aM_ (blk_below (g := gb268) (o := .cells #[.bool t263, .slice Ao78 t264.length co78, .int .i64 t267] 26 (0, 0)) (by (with_reducible repeat (first | refine bN_ ?_ _ | refine bD_ ?_ | refine bA_ ?_ _)); exact BK268.out) hb); have n10_ := aM_ (below_step (by repeat (first | (with_reducible first | exact HB.out | apply bB_ | apply wN_ | apply bE_ | refine bS_ ?_ GE246.out | refine bS_ ?_ GE253.out | refine bS_ ?_ GE257.out | refine bS_ ?_ GE268.out) | exact HB.out)) hb); clear HO_254001; clear HO261; clear HO266; clear HO272; clear HO277; clear HO282; clear BK246; clear BK253; clear BK257; clear BK268; clear HB; have HO_254001 := n0_; have HO261 := n1_; have HO266 := n2_; have HO272 := n3_; have HO277 := n4_; have HO282 := n5_; have BK246 := n6_; have BK253 := n7_; have BK257 := n8_; have BK268 := n9_; have HB := n10_; clear n0_ n1_ n2_ n3_ n4_ n5_ n6_ n7_ n8_ n9_ n10_; (try clear hb); (try clear hb2); (try clear hk); (try clear hi); have hnb90 := NB257_268.out; have hnc90 := NB268_257.out; have hcz91_0 : w89.cell? ⟨gb257, 0, none⟩ = some (.int .i64 t254) := (bC_ BK257.out 0).trans rfl; have hcz91_1 : w89.cell? ⟨gb257, 1, none⟩ = some (.int .i64 t255) := (bC_ BK257.out 1).trans rfl; have hfz91_0 := bF_ BK257.out 0; have hfz91_1 := bF_ BK257.out 1; have hnb92 := NB268_253.out; have hnc92 := NB253_268.out; have hcz93_0 : w89.cell? ⟨gb268, 0, none⟩ = some (.bool t263) := (bC_ BK268.out 0).trans rfl; have hcz93_1 : w89.cell? ⟨gb268, 1, none⟩ = some (.slice Ao78 t264.length co78) := (bC_ BK268.out 1).trans rfl; have hcz93_2 : w89.cell? ⟨gb268, 2, none⟩ = some (.int .i64 t267) := (bC_ BK268.out 2).trans rfl; have hfz93_0 := bF_ BK268.out 0; have hfz93_1 := bF_ BK268.out 1; have hfz93_2 := bF_ BK268.out 2) | ((with_reducible refine gate_callee (f := 9) rfl ?_); refine goesL_ (some 53) rfl rfl Try.func9 (by kernel_rfl) rfl #[.agg #[.int .i64 t254, .int .i64 t255], .agg #[.bool t263, .slice Ao78 t264.length co78, .int .i64 t267]] rfl (by (try simp only [List.map_toArray, List.map_cons, List.map_nil]); first | done | rfl | (simp only [List.length_drop, List.length_take]; rfl)) ?_; (with_reducible refine (laws_amountIs.calls kj3 t254 t255 t263 _ _ t264 t267 false _ ?side1 ?side2 A27.out).mono ?_); (case side1 => repeat (first | exact (Kd.R_reads' HO266.out).2.2 | (with_reducible refine Kd.C_alloc ?_ _) | (with_reducible refine Kd.C_drewN ?_ _) | (with_reducible refine Kd.C_drew ?_))); (case side2 => exact (Kd.R_reads' HO266.out).2.1); rintro e w94 ⟨rfl, hb⟩; refine ⟨_, rfl, ?_⟩; have n0_ := aM_ (Kd.R_below (by (with_reducible repeat (first | apply kA_ | apply kN_ | apply kD_)); exact HO_254001.out) hb); have n1_ := aM_ (Kd.R_below (by (with_reducible repeat (first | apply kA_ | apply kN_ | apply kD_)); exact HO261.out) hb); have n2_ := aM_ (Kd.R_below (by (with_reducible repeat (first | apply kA_ | apply kN_ | apply kD_)); exact HO266.out) hb); have n3_ := aM_ (Kd.R_below (by (with_reducible repeat (first | apply kA_ | apply kN_ | apply kD_)); exact HO272.out) hb); have n4_ := aM_ (Kd.R_below (by (with_reducible repeat (first | apply kA_ | apply kN_ | apply kD_)); exact HO277.out) hb); have n5_ := aM_ (Kd.R_below (by (with_reducible repeat (first | apply kA_ | apply kN_ | apply kD_)); exact HO282.out) hb); have n6_ := aM_ (blk_below (g := gb246) (o := .cells #[.int .i64 a0_0, .int .i64 a0_1] 23 (0, 0)) (by (with_reducible repeat (first | refine bN_ ?_ _ | refine bD_ ?_ | refine bA_ ?_ _)); exact BK246.out) hb); have n7_ := aM_ (blk_below (g := gb253) (o := .cells #[.bool t247, .slice Ao11 t248.length co11, .int .i64 t251] 26 (0, 0)) (by (with_reducible repeat (first | refine bN_ ?_ _ | refine bD_ ?_ | refine bA_ ?_ _)); exact BK253.out) hb); have n8_ := aM_ (blk_below (g := gb257) (o := .cells #[.int .i64 t254, .int .i64 t255] 23 (0, 0)) (by (with_reducible repeat (first | refine bN_ ?_ _ | refine bD_ ?_ | refine bA_ ?_ _)); exact BK257.out) hb); have n9_ := aM_ (blk_below (g := gb268) (o := .cells #[.bool t263, .slice Ao78 t264.length co78, .int .i64 t267] 26 (0, 0)) (by (with_reducible repeat (first | refine bN_ ?_ _ | refine bD_ ?_ | refine bA_ ?_ _)); exact BK268.out) hb); have n10_ := aM_ (below_step (by repeat (first | (with_reducible first | exact HB.out | apply bB_ | apply wN_ | apply bE_ | refine bS_ ?_ GE246.out | refine bS_ ?_ GE253.out | refine bS_ ?_ GE257.out | refine bS_ ?_ GE268.out) | exact HB.out)) hb); clear HO_254001; clear HO261; clear HO266; clear HO272; clear HO277; clear HO282; clear BK246; clear BK253; clear BK257; clear BK268; clear HB; have HO_254001 := n0_; have HO261 := n1_; have HO266 := n2_; have HO272 := n3_; have HO277 := n4_; have HO282 := n5_; have BK246 := n6_; have BK253 := n7_; have BK257 := n8_; have BK268 := n9_; have HB := n10_; clear n0_ n1_ n2_ n3_ n4_ n5_ n6_ n7_ n8_ n9_ n10_; (try clear hb); (try clear hb2); (try clear hk); (try clear hi)))
      go_ret
      exact ⟨by first | rfl | (simp [errW_none, errW_some] <;> rfl) | (simp [*, errW_none, errW_some] <;> rfl) | (exfalso; contradiction), by repeat (first | (with_reducible first | exact HB.out | apply bB_ | apply wN_ | apply bE_ | refine bS_ ?_ GE246.out | refine bS_ ?_ GE253.out | refine bS_ ?_ GE257.out | refine bS_ ?_ GE268.out) | exact HB.out)⟩
    ·
     replace c26 := Bool.eq_false_iff.mpr c26
     subst c26
     have H1 : ((spec_DecimalInt.f kj3 t263 t264 t267).bind fun bt288 => (if t285 = true then (if bt288.2 = true then (laws_FnAmountMul.j1 kj3 false) else ((laws_amountAwake.f kj3).bind fun t290 => (laws_FnAmountMul.j1 kj3 t290))) else ((laws_amountAwake.f kj3).bind fun t291 => (laws_FnAmountMul.j1 kj3 t291)))) = some r := by rw [if_neg (show ¬ (false = true) by decide)] at H; exact H
     clear H
     have H := H1
     clear H1
     replace H := Option.bind_eq_some_iff.mp H
     obtain ⟨⟨t288, t289⟩, A950, H⟩ := H
     replace H : (if t285 = true then (if t289 = true then (laws_FnAmountMul.j1 kj3 false) else ((laws_amountAwake.f kj3).bind fun t290 => (laws_FnAmountMul.j1 kj3 t290))) else ((laws_amountAwake.f kj3).bind fun t291 => (laws_FnAmountMul.j1 kj3 t291))) = some r := H
     have A95 := aM_ A950
     clear A950
     have HC96 := aM_ H
     clear H
     have hnb97 := NB246_253.out
     have hnc97 := NB253_246.out
     have hcz98_0 : wc.cell? ⟨gb246, 0, none⟩ = some (.int .i64 a0_0) := (bC_ BK246.out 0).trans rfl
     have hcz98_1 : wc.cell? ⟨gb246, 1, none⟩ = some (.int .i64 a0_1) := (bC_ BK246.out 1).trans rfl
     have hfz98_0 := bF_ BK246.out 0
     have hfz98_1 := bF_ BK246.out 1
     try go_wp2_with (first | ((with_reducible refine gate_callee (f := 17) rfl ?_); refine goesL_ (some 33) rfl rfl Try.func17 (by kernel_rfl) rfl #[.agg #[.int .i64 a0_0, .int .i64 a0_1], .int .i64 a1] rfl (by (try simp only [List.map_toArray, List.map_cons, List.map_nil]); first | done | rfl | (simp only [List.length_drop, List.length_take]; rfl)) ?_; (with_reducible refine (impl_AmountMul.calls kj3 a0_0 a0_1 a1 t254 t255 false _ A19.out).mono ?_); rintro e w99 ⟨rfl, hb⟩; refine ⟨_, rfl, ?_⟩; have n0_ := aM_ (Kd.R_below (by (with_reducible repeat (first | apply kA_ | apply kN_ | apply kD_)); exact HO_254001.out) hb); have n1_ := aM_ (blk_below (g := gb246) (o := .cells #[.int .i64 a0_0, .int .i64 a0_1] 23 (0, 0)) (by (with_reducible repeat (first | refine bN_ ?_ _ | refine bD_ ?_ | refine bA_ ?_ _)); exact BK246.out) hb); have n2_ := aM_ (blk_below (g := gb253) (o := .cells #[.bool t247, .slice Ao11 t248.length co11, .int .i64 t251] 26 (0, 0)) (by (with_reducible repeat (first | refine bN_ ?_ _ | refine bD_ ?_ | refine bA_ ?_ _)); exact BK253.out) hb); have n3_ := aM_ (below_step (by repeat (first | (with_reducible first | exact HB.out | apply bB_ | apply wN_ | apply bE_ | refine bS_ ?_ GE246.out | refine bS_ ?_ GE253.out) | exact HB.out)) hb); clear HO_254001; clear BK246; clear BK253; clear HB; have HO_254001 := n0_; have BK246 := n1_; have BK253 := n2_; have HB := n3_; clear n0_ n1_ n2_ n3_; (try clear hb); (try clear hb2); (try clear hk); (try clear hi)) | ((with_reducible refine gate_dst (N := 7) rfl ?_); refine box_event ?hg (N := 7) ?hd (cs := #[.int .i64 0, .int .i64 0]) (t := 23) ?hr ?_; (case hd => rfl); (case hg => rfl); (case hr => first | (go_simp; done) | (go_simp; rfl)); intro gb257 hg w100 hbox hb; have n0_ := aM_ (Kd.R_below (by (with_reducible repeat (first | apply kA_ | apply kN_ | apply kD_)); exact HO_254001.out) hb); have n1_ := aM_ (blk_below (g := gb246) (o := .cells #[.int .i64 a0_0, .int .i64 a0_1] 23 (0, 0)) (by (with_reducible repeat (first | refine bN_ ?_ _ | refine bD_ ?_ | refine bA_ ?_ _)); exact BK246.out) hb); have n2_ := aM_ (blk_below (g := gb253) (o := .cells #[.bool t247, .slice Ao11 t248.length co11, .int .i64 t251] 26 (0, 0)) (by (with_reducible repeat (first | refine bN_ ?_ _ | refine bD_ ?_ | refine bA_ ?_ _)); exact BK253.out) hb); have n3_ := aM_ (below_step (by repeat (first | (with_reducible first | exact HB.out | apply bB_ | apply wN_ | apply bE_ | refine bS_ ?_ GE246.out | refine bS_ ?_ GE253.out) | exact HB.out)) hb); have n4_ := aM_ (hbox); have n5_ := aM_ ((by rw [hg]; exact (below_size (by repeat (first | (with_reducible first | exact HB.out | apply bB_ | apply wN_ | apply bE_ | refine bS_ ?_ GE246.out | refine bS_ ?_ GE253.out) | exact HB.out))) : w.heap.size ≤ gb257)); have n6_ := aM_ ((by rw [hg]; exact (below_size (by repeat (first | (with_reducible first | exact HB.out | apply bB_ | apply wN_ | apply bE_ | refine bS_ ?_ GE246.out | refine bS_ ?_ GE253.out) | exact HB.out))) : w.heap.size ≤ gb257)); have n7_ := aM_ ((by rw [hg]; exact Nat.ne_of_lt (blk_lt (g := gb246) (o := .cells #[.int .i64 a0_0, .int .i64 a0_1] 23 (0, 0)) (by (with_reducible repeat (first | refine bN_ ?_ _ | refine bD_ ?_ | refine bA_ ?_ _)); exact BK246.out)) : gb246 ≠ gb257)); have n8_ := aM_ ((by rw [hg]; exact Nat.ne_of_gt (blk_lt (g := gb246) (o := .cells #[.int .i64 a0_0, .int .i64 a0_1] 23 (0, 0)) (by (with_reducible repeat (first | refine bN_ ?_ _ | refine bD_ ?_ | refine bA_ ?_ _)); exact BK246.out)) : gb257 ≠ gb246)); have n9_ := aM_ ((by rw [hg]; exact Nat.ne_of_lt (blk_lt (g := gb253) (o := .cells #[.bool t247, .slice Ao11 t248.length co11, .int .i64 t251] 26 (0, 0)) (by (with_reducible repeat (first | refine bN_ ?_ _ | refine bD_ ?_ | refine bA_ ?_ _)); exact BK253.out)) : gb253 ≠ gb257)); have n10_ := aM_ ((by rw [hg]; exact Nat.ne_of_gt (blk_lt (g := gb253) (o := .cells #[.bool t247, .slice Ao11 t248.length co11, .int .i64 t251] 26 (0, 0)) (by (with_reducible repeat (first | refine bN_ ?_ _ | refine bD_ ?_ | refine bA_ ?_ _)); exact BK253.out)) : gb257 ≠ gb253)); clear HO_254001; clear BK246; clear BK253; clear HB; have HO_254001 := n0_; have BK246 := n1_; have BK253 := n2_; have HB := n3_; have BK257 := n4_; have GW257 := n5_; have GE257 := n6_; have NB246_257 := n7_; have NB257_246 := n8_; have NB253_257 := n9_; have NB257_253 := n10_; clear n0_ n1_ n2_ n3_ n4_ n5_ n6_ n7_ n8_ n9_ n10_; clear hb hbox hg; have hnb101 := NB257_246.out; have hnc101 := NB246_257.out; have hnb102 := NB257_253.out; have hnc102 := NB253_257.out; have hcz103_0 : w100.cell? ⟨gb257, 0, none⟩ = some (.int .i64 0) := (bC_ BK257.out 0).trans rfl; have hcz103_1 : w100.cell? ⟨gb257, 1, none⟩ = some (.int .i64 0) := (bC_ BK257.out 1).trans rfl; have hfz103_0 := bF_ BK257.out 0; have hfz103_1 := bF_ BK257.out 1))
     have n0_ : Aside0 (Kd.R (Kd.int .i64) 3 ((w100.setCell ⟨gb257, 0, none⟩ (.int .i64 t254)).setCell ⟨gb257, 1, none⟩ (.int .i64 t255)) w.heap.size (fun _ => True) (.slice Ao11 t248.length co11) t248) := ⟨by (with_reducible repeat (first | apply kA_ | apply kN_ | apply kD_)); exact Kd.R_mono (Kd.R_far (p := ⟨gb257, 1, none⟩) (Kd.R_far (p := ⟨gb257, 0, none⟩) (Kd.R_types HO_254001.out BK257.out (by decide)) (fun _ hk => hk.2) (.int .i64 t254)) (fun _ hk => hk.2) (.int .i64 t255)) (fun _ hk => trivial)⟩
     have n1_ : Aside0 (((w100.setCell ⟨gb257, 0, none⟩ (.int .i64 t254)).setCell ⟨gb257, 1, none⟩ (.int .i64 t255)).heap[gb246]? = some (.cells #[.int .i64 a0_0, .int .i64 a0_1] 23 (0, 0))) := ⟨by (with_reducible repeat (first | refine bN_ ?_ _ | refine bD_ ?_ | refine bA_ ?_ _)); refine blk_far ?_ NB246_257.out _; (with_reducible repeat (first | refine bN_ ?_ _ | refine bD_ ?_ | refine bA_ ?_ _)); refine blk_far ?_ NB246_257.out _; (with_reducible repeat (first | refine bN_ ?_ _ | refine bD_ ?_ | refine bA_ ?_ _)); exact BK246.out⟩
     have n2_ : Aside0 (((w100.setCell ⟨gb257, 0, none⟩ (.int .i64 t254)).setCell ⟨gb257, 1, none⟩ (.int .i64 t255)).heap[gb253]? = some (.cells #[.bool t247, .slice Ao11 t248.length co11, .int .i64 t251] 26 (0, 0))) := ⟨by (with_reducible repeat (first | refine bN_ ?_ _ | refine bD_ ?_ | refine bA_ ?_ _)); refine blk_far ?_ NB253_257.out _; (with_reducible repeat (first | refine bN_ ?_ _ | refine bD_ ?_ | refine bA_ ?_ _)); refine blk_far ?_ NB253_257.out _; (with_reducible repeat (first | refine bN_ ?_ _ | refine bD_ ?_ | refine bA_ ?_ _)); exact BK253.out⟩
     have n3_ : Aside0 (((w100.setCell ⟨gb257, 0, none⟩ (.int .i64 t254)).setCell ⟨gb257, 1, none⟩ (.int .i64 t255)).heap[gb257]? = some (.cells #[.int .i64 t254, .int .i64 t255] 23 (0, 0))) := ⟨by (with_reducible repeat (first | refine bN_ ?_ _ | refine bD_ ?_ | refine bA_ ?_ _)); refine blk_put (cs := #[.int .i64 t254, .int .i64 0]) ?_ 1 _ rfl; (with_reducible repeat (first | refine bN_ ?_ _ | refine bD_ ?_ | refine bA_ ?_ _)); refine blk_put (cs := #[.int .i64 0, .int .i64 0]) ?_ 0 _ rfl; (with_reducible repeat (first | refine bN_ ?_ _ | refine bD_ ?_ | refine bA_ ?_ _)); exact BK257.out⟩
     have n4_ : Aside0 (Below w.heap.size w ((w100.setCell ⟨gb257, 0, none⟩ (.int .i64 t254)).setCell ⟨gb257, 1, none⟩ (.int .i64 t255))) := ⟨by repeat (first | (with_reducible first | exact HB.out | apply bB_ | apply wN_ | apply bE_ | refine bS_ ?_ GE246.out | refine bS_ ?_ GE253.out | refine bS_ ?_ GE257.out) | exact HB.out)⟩
     (try clear HO_254001)
     (try clear BK246)
     (try clear BK253)
     (try clear BK257)
     (try clear HB)
     generalize ((w100.setCell ⟨gb257, 0, none⟩ (.int .i64 t254)).setCell ⟨gb257, 1, none⟩ (.int .i64 t255)) = w104 at n0_ n1_ n2_ n3_ n4_ ⊢
     have HO_254001 := n0_
     have BK246 := n1_
     have BK253 := n2_
     have BK257 := n3_
     have HB := n4_
     clear n0_ n1_ n2_ n3_ n4_
     have n0_ := aM_ (kD_ HO_254001.out)
     have n1_ := aM_ (bD_ BK246.out)
     have n2_ := aM_ (bD_ BK253.out)
     have n3_ := aM_ (bD_ BK257.out)
     have n4_ := aM_ (bE_ HB.out)
     clear HO_254001
     clear BK246
     clear BK253
     clear BK257
     clear HB
     have HO_254001 := n0_
     have BK246 := n1_
     have BK253 := n2_
     have BK257 := n3_
     have HB := n4_
     clear n0_ n1_ n2_ n3_ n4_
     refine start_ (n := 6) (S := fun w' => w'.cell? ⟨gb253, 0, none⟩ = some (.bool t247) ∧ w'.cell? ⟨gb253, 1, none⟩ = some (.slice Ao11 t248.length co11) ∧ w'.cell? ⟨gb253, 2, none⟩ = some (.int .i64 t251)) (ds := []) #[false, false, false, false, false, false] (by kernel_rfl) rfl rfl ⟨(bC_ BK253.out 0).trans rfl, (bC_ BK253.out 1).trans rfl, (bC_ BK253.out 2).trans rfl⟩ (fun hHeld => ?_)
     generalize w104.drew = w105 at HO_254001 BK246 BK253 BK257 HB hHeld ⊢
     refine pure_ (i := 1) (N := some 37) (v := ?_) (a' := ?_) #[false, true, false, false, false, false] rfl rfl (by kernel_rfl) (fun _ _ _ h => h) (Or.inl ⟨by rfl, ?_⟩) ?_ ?_
     rotate_left
     ·
      intro w'
      go_simp
      with_reducible rfl
     rotate_left
     ·
      simp only [Act.put, List.setIfInBounds_toArray, List.set_cons_zero, List.set_cons_succ, i64_w, i32_w]
      rfl
     refine take_ (i := 0) (N := some 36) (v := ?_) (a' := ?_) #[true, true, false, false, false, false] rfl rfl (by kernel_rfl) (fun _ _ _ h => h) (Or.inl ⟨by rfl, ?_⟩) hHeld ?_ ?_
     rotate_left
     ·
      rintro w' ⟨s0, s1, s2⟩
      go_simp
      with_reducible rfl
     rotate_left
     ·
      simp only [Act.put, List.setIfInBounds_toArray, List.set_cons_zero, List.set_cons_succ, i64_w, i32_w]
      rfl
     refine join_ (σ := Value × Value × Nat) 1 #[true, true, true, true, true, false] (fun s_ => [(38, .agg #[.bool t258, s_.1, .int .i64 t262]), (39, .agg #[.bool t263, s_.2.1, .int .i64 t267]), (9, .pointer (some ⟨s_.2.2, 0, none⟩))]) (fun s_ w' => (w'.cell? ⟨gb253, 0, none⟩ = some (.bool t247) ∧ w'.cell? ⟨gb253, 1, none⟩ = some (.slice Ao11 t248.length co11) ∧ w'.cell? ⟨gb253, 2, none⟩ = some (.int .i64 t251)) ∧ (Kd.R (Kd.int .i64) 3 w' w.heap.size (fun k_ => some k_ ≠ (s_.2.1 : Value).ownBlock ∧ some k_ ≠ (.slice Ao11 t248.length co11 : Value).ownBlock) s_.1 t259) ∧ (Kd.R (Kd.int .i64) 3 w' w.heap.size (fun k_ => some k_ ≠ (s_.1 : Value).ownBlock ∧ some k_ ≠ (.slice Ao11 t248.length co11 : Value).ownBlock) s_.2.1 t264) ∧ (Kd.R (Kd.int .i64) 3 w' w.heap.size (fun k_ => some k_ ≠ (s_.1 : Value).ownBlock ∧ some k_ ≠ (s_.2.1 : Value).ownBlock) (.slice Ao11 t248.length co11) t248) ∧ (w'.heap[gb246]? = some (.cells #[.int .i64 a0_0, .int .i64 a0_1] 23 (0, 0))) ∧ (w'.heap[gb253]? = some (.cells #[.bool t247, .slice Ao11 t248.length co11, .int .i64 t251] 26 (0, 0))) ∧ (w'.heap[gb257]? = some (.cells #[.int .i64 t254, .int .i64 t255] 23 (0, 0))) ∧ (w'.heap[s_.2.2]? = some (.cells #[.bool false, .slice none 0 0, .int .i64 0] 26 (0, 0))) ∧ (w.heap.size ≤ s_.2.2) ∧ (w.heap.size ≤ s_.2.2) ∧ (gb246 ≠ s_.2.2) ∧ (s_.2.2 ≠ gb246) ∧ (gb253 ≠ s_.2.2) ∧ (s_.2.2 ≠ gb253) ∧ (gb257 ≠ s_.2.2) ∧ (s_.2.2 ≠ gb257) ∧ (Below w.heap.size w w')) ?_ ?_
     rotate_left
     ·
      intro hCont
      refine two_ (i := 2) (j := 4) (Ni := some 38) (Nj := some 9) #[true, true, true, false, false, false] #[true, true, false, false, true, false] rfl rfl rfl rfl (by kernel_rfl) (by decide) (by decide) (fun K hK => ?_) (fun K hK => ?_)
      ·
       skip
       refine goes_ Try.func12 (by kernel_rfl) rfl #[.int .i64 a1, .int .i64 0] (by rfl) rfl rfl (by (try simp only [List.map_toArray, List.map_cons, List.map_nil]); first | done | rfl | (simp only [List.length_drop, List.length_take]; rfl)) ?_
       with_reducible refine (spec_DecimalOf.calls kj3 a1 0 t258 t259 t262 _ A20.out).mono ?_
       rintro e w106 ⟨v260, rfl, ho0, hb⟩
       refine ⟨_, rfl, ?_⟩
       have n0_ := aM_ (Kd.R_elder' (by (with_reducible repeat (first | apply kA_ | apply kN_ | apply kD_)); exact HO_254001.out) (Kd.R_base ho0) hb)
       have n1_ := aM_ (Kd.R_lower (Kd.R_new' ho0 (Kd.R_lt (by (with_reducible repeat (first | apply kA_ | apply kN_ | apply kD_)); exact HO_254001.out))) (below_size (by repeat (first | (with_reducible first | exact HB.out | apply bB_ | apply wN_ | apply bE_ | refine bS_ ?_ GE246.out | refine bS_ ?_ GE253.out | refine bS_ ?_ GE257.out) | exact HB.out))))
       have n2_ := aM_ (blk_below (g := gb246) (o := .cells #[.int .i64 a0_0, .int .i64 a0_1] 23 (0, 0)) (by (with_reducible repeat (first | refine bN_ ?_ _ | refine bD_ ?_ | refine bA_ ?_ _)); exact BK246.out) hb)
       have n3_ := aM_ (blk_below (g := gb253) (o := .cells #[.bool t247, .slice Ao11 t248.length co11, .int .i64 t251] 26 (0, 0)) (by (with_reducible repeat (first | refine bN_ ?_ _ | refine bD_ ?_ | refine bA_ ?_ _)); exact BK253.out) hb)
       have n4_ := aM_ (blk_below (g := gb257) (o := .cells #[.int .i64 t254, .int .i64 t255] 23 (0, 0)) (by (with_reducible repeat (first | refine bN_ ?_ _ | refine bD_ ?_ | refine bA_ ?_ _)); exact BK257.out) hb)
       have n5_ := aM_ (below_step (by repeat (first | (with_reducible first | exact HB.out | apply bB_ | apply wN_ | apply bE_ | refine bS_ ?_ GE246.out | refine bS_ ?_ GE253.out | refine bS_ ?_ GE257.out) | exact HB.out)) hb)
       clear HO_254001
       clear BK246
       clear BK253
       clear BK257
       clear HB
       have HO_254001 := n0_
       have HO261 := n1_
       have BK246 := n2_
       have BK253 := n3_
       have BK257 := n4_
       have HB := n5_
       clear n0_ n1_ n2_ n3_ n4_ n5_
       (try clear hb)
       (try clear hb2)
       (try clear hk)
       (try clear hi)
       (try clear ho0)
       obtain ⟨Ao107, co107, eo107⟩ := Kd.R_slice HO261.out
       (first | subst eo107 | (injection eo107 with f1_ f2_ f3_; have f4_ := f1_.symm; have f5_ := f3_.symm; clear f1_ f2_ f3_; subst f4_; subst f5_))
       refine hK.out _ _ ⟨(bC_ BK253.out 0).trans rfl, (bC_ BK253.out 1).trans rfl, (bC_ BK253.out 2).trans rfl⟩ (fun hHeld => ?_)
       clear hK K
       refine norm_ (a' := ?_) ?_ ?_
       rotate_left
       ·
        show Act.put _ (some 38) _ = _
        simp only [Act.put, List.setIfInBounds_toArray, List.set_cons_zero, List.set_cons_succ, i64_w, i32_w]
        rfl
       refine two_ (i := 3) (j := 4) (Ni := some 39) (Nj := some 9) #[true, true, true, true, false, false] #[true, true, true, false, true, false] rfl rfl rfl rfl (by kernel_rfl) (by decide) (by decide) (fun K hK => ?_) (fun K hK => ?_)
       ·
        skip
        refine goes_ Try.func11 (by kernel_rfl) rfl #[.agg #[.bool t247, .slice Ao11 t248.length co11, .int .i64 t251], .agg #[.bool t258, .slice Ao107 t259.length co107, .int .i64 t262]] (by rfl) rfl rfl (by (try simp only [List.map_toArray, List.map_cons, List.map_nil]); first | done | rfl | (simp only [List.length_drop, List.length_take]; rfl)) ?_
        with_reducible refine (spec_DecimalTimes.calls kj3 t247 _ _ t248 t251 t258 _ _ t259 t262 t263 t264 t267 _ ?side1 ?side2 ?side3 ?side4 A21.out).mono ?_
        (case side1 => repeat (first | exact (Kd.R_reads' HO_254001.out).2.2 | (with_reducible refine Kd.C_alloc ?_ _) | (with_reducible refine Kd.C_drewN ?_ _) | (with_reducible refine Kd.C_drew ?_)))
        (case side2 => exact (Kd.R_reads' HO_254001.out).2.1)
        (case side3 => repeat (first | exact (Kd.R_reads' HO261.out).2.2 | (with_reducible refine Kd.C_alloc ?_ _) | (with_reducible refine Kd.C_drewN ?_ _) | (with_reducible refine Kd.C_drew ?_)))
        (case side4 => exact (Kd.R_reads' HO261.out).2.1)
        rintro e w108 ⟨v265, rfl, ho0, hb⟩
        refine ⟨_, rfl, ?_⟩
        have n0_ := aM_ (Kd.R_elder' (by (with_reducible repeat (first | apply kA_ | apply kN_ | apply kD_)); exact HO_254001.out) (Kd.R_base ho0) hb)
        have n1_ := aM_ (Kd.R_elder' (by (with_reducible repeat (first | apply kA_ | apply kN_ | apply kD_)); exact HO261.out) (Kd.R_base ho0) hb)
        have n2_ := aM_ (Kd.R_lower (Kd.R_new' (Kd.R_new' ho0 (Kd.R_lt (by (with_reducible repeat (first | apply kA_ | apply kN_ | apply kD_)); exact HO_254001.out))) (Kd.R_lt (by (with_reducible repeat (first | apply kA_ | apply kN_ | apply kD_)); exact HO261.out))) (below_size (by repeat (first | (with_reducible first | exact HB.out | apply bB_ | apply wN_ | apply bE_ | refine bS_ ?_ GE246.out | refine bS_ ?_ GE253.out | refine bS_ ?_ GE257.out) | exact HB.out))))
        have n3_ := aM_ (blk_below (g := gb246) (o := .cells #[.int .i64 a0_0, .int .i64 a0_1] 23 (0, 0)) (by (with_reducible repeat (first | refine bN_ ?_ _ | refine bD_ ?_ | refine bA_ ?_ _)); exact BK246.out) hb)
        have n4_ := aM_ (blk_below (g := gb253) (o := .cells #[.bool t247, .slice Ao11 t248.length co11, .int .i64 t251] 26 (0, 0)) (by (with_reducible repeat (first | refine bN_ ?_ _ | refine bD_ ?_ | refine bA_ ?_ _)); exact BK253.out) hb)
        have n5_ := aM_ (blk_below (g := gb257) (o := .cells #[.int .i64 t254, .int .i64 t255] 23 (0, 0)) (by (with_reducible repeat (first | refine bN_ ?_ _ | refine bD_ ?_ | refine bA_ ?_ _)); exact BK257.out) hb)
        have n6_ := aM_ (below_step (by repeat (first | (with_reducible first | exact HB.out | apply bB_ | apply wN_ | apply bE_ | refine bS_ ?_ GE246.out | refine bS_ ?_ GE253.out | refine bS_ ?_ GE257.out) | exact HB.out)) hb)
        clear HO_254001
        clear HO261
        clear BK246
        clear BK253
        clear BK257
        clear HB
        have HO_254001 := n0_
        have HO261 := n1_
        have HO266 := n2_
        have BK246 := n3_
        have BK253 := n4_
        have BK257 := n5_
        have HB := n6_
        clear n0_ n1_ n2_ n3_ n4_ n5_ n6_
        (try clear hb)
        (try clear hb2)
        (try clear hk)
        (try clear hi)
        (try clear ho0)
        refine hK.out _ _ ⟨(bC_ BK253.out 0).trans rfl, (bC_ BK253.out 1).trans rfl, (bC_ BK253.out 2).trans rfl⟩ (fun hHeld => ?_)
        clear hK K
        refine norm_ (a' := ?_) ?_ ?_
        rotate_left
        ·
         show Act.put _ (some 39) _ = _
         simp only [Act.put, List.setIfInBounds_toArray, List.set_cons_zero, List.set_cons_succ, i64_w, i32_w]
         rfl
        refine one_ (i := 4) (N := some 9) #[true, true, true, true, true, false] rfl rfl (by kernel_rfl) (by decide) (fun K hK => ?_)
        refine box_step ?hg (N := 9) ?hd (cs := #[.bool false, .slice none 0 0, .int .i64 0]) (t := 26) ?hr ?_; (case hd => rfl); (case hg => rfl); (case hr => first | (go_simp; done) | (go_simp; rfl))
        intro gb268 hg w109 hbox hb
        have n0_ := aM_ (Kd.R_below (by (with_reducible repeat (first | apply kA_ | apply kN_ | apply kD_)); exact HO_254001.out) hb)
        have n1_ := aM_ (Kd.R_below (by (with_reducible repeat (first | apply kA_ | apply kN_ | apply kD_)); exact HO261.out) hb)
        have n2_ := aM_ (Kd.R_below (by (with_reducible repeat (first | apply kA_ | apply kN_ | apply kD_)); exact HO266.out) hb)
        have n3_ := aM_ (blk_below (g := gb246) (o := .cells #[.int .i64 a0_0, .int .i64 a0_1] 23 (0, 0)) (by (with_reducible repeat (first | refine bN_ ?_ _ | refine bD_ ?_ | refine bA_ ?_ _)); exact BK246.out) hb)
        have n4_ := aM_ (blk_below (g := gb253) (o := .cells #[.bool t247, .slice Ao11 t248.length co11, .int .i64 t251] 26 (0, 0)) (by (with_reducible repeat (first | refine bN_ ?_ _ | refine bD_ ?_ | refine bA_ ?_ _)); exact BK253.out) hb)
        have n5_ := aM_ (blk_below (g := gb257) (o := .cells #[.int .i64 t254, .int .i64 t255] 23 (0, 0)) (by (with_reducible repeat (first | refine bN_ ?_ _ | refine bD_ ?_ | refine bA_ ?_ _)); exact BK257.out) hb)
        have n6_ := aM_ (below_step (by repeat (first | (with_reducible first | exact HB.out | apply bB_ | apply wN_ | apply bE_ | refine bS_ ?_ GE246.out | refine bS_ ?_ GE253.out | refine bS_ ?_ GE257.out) | exact HB.out)) hb)
        have n7_ := aM_ (hbox)
        have n8_ := aM_ ((by rw [hg]; exact (below_size (by repeat (first | (with_reducible first | exact HB.out | apply bB_ | apply wN_ | apply bE_ | refine bS_ ?_ GE246.out | refine bS_ ?_ GE253.out | refine bS_ ?_ GE257.out) | exact HB.out))) : w.heap.size ≤ gb268))
        have n9_ := aM_ ((by rw [hg]; exact (below_size (by repeat (first | (with_reducible first | exact HB.out | apply bB_ | apply wN_ | apply bE_ | refine bS_ ?_ GE246.out | refine bS_ ?_ GE253.out | refine bS_ ?_ GE257.out) | exact HB.out))) : w.heap.size ≤ gb268))
        have n10_ := aM_ ((by rw [hg]; exact Nat.ne_of_lt (blk_lt (g := gb246) (o := .cells #[.int .i64 a0_0, .int .i64 a0_1] 23 (0, 0)) (by (with_reducible repeat (first | refine bN_ ?_ _ | refine bD_ ?_ | refine bA_ ?_ _)); exact BK246.out)) : gb246 ≠ gb268))
        have n11_ := aM_ ((by rw [hg]; exact Nat.ne_of_gt (blk_lt (g := gb246) (o := .cells #[.int .i64 a0_0, .int .i64 a0_1] 23 (0, 0)) (by (with_reducible repeat (first | refine bN_ ?_ _ | refine bD_ ?_ | refine bA_ ?_ _)); exact BK246.out)) : gb268 ≠ gb246))
        have n12_ := aM_ ((by rw [hg]; exact Nat.ne_of_lt (blk_lt (g := gb253) (o := .cells #[.bool t247, .slice Ao11 t248.length co11, .int .i64 t251] 26 (0, 0)) (by (with_reducible repeat (first | refine bN_ ?_ _ | refine bD_ ?_ | refine bA_ ?_ _)); exact BK253.out)) : gb253 ≠ gb268))
        have n13_ := aM_ ((by rw [hg]; exact Nat.ne_of_gt (blk_lt (g := gb253) (o := .cells #[.bool t247, .slice Ao11 t248.length co11, .int .i64 t251] 26 (0, 0)) (by (with_reducible repeat (first | refine bN_ ?_ _ | refine bD_ ?_ | refine bA_ ?_ _)); exact BK253.out)) : gb268 ≠ gb253))
        have n14_ := aM_ ((by rw [hg]; exact Nat.ne_of_lt (blk_lt (g := gb257) (o := .cells #[.int .i64 t254, .int .i64 t255] 23 (0, 0)) (by (with_reducible repeat (first | refine bN_ ?_ _ | refine bD_ ?_ | refine bA_ ?_ _)); exact BK257.out)) : gb257 ≠ gb268))
        have n15_ := aM_ ((by rw [hg]; exact Nat.ne_of_gt (blk_lt (g := gb257) (o := .cells #[.int .i64 t254, .int .i64 t255] 23 (0, 0)) (by (with_reducible repeat (first | refine bN_ ?_ _ | refine bD_ ?_ | refine bA_ ?_ _)); exact BK257.out)) : gb268 ≠ gb257))
        clear HO_254001
        clear HO261
        clear HO266
        clear BK246
        clear BK253
        clear BK257
        clear HB
        have HO_254001 := n0_
        have HO261 := n1_
        have HO266 := n2_
        have BK246 := n3_
        have BK253 := n4_
        have BK257 := n5_
        have HB := n6_
        have BK268 := n7_
        have GW268 := n8_
        have GE268 := n9_
        have NB246_268 := n10_
        have NB268_246 := n11_
        have NB253_268 := n12_
        have NB268_253 := n13_
        have NB257_268 := n14_
        have NB268_257 := n15_
        clear n0_ n1_ n2_ n3_ n4_ n5_ n6_ n7_ n8_ n9_ n10_ n11_ n12_ n13_ n14_ n15_
        clear hb hbox hg
        refine hK.out _ _ ⟨(bC_ BK253.out 0).trans rfl, (bC_ BK253.out 1).trans rfl, (bC_ BK253.out 2).trans rfl⟩ (fun hHeld => ?_)
        clear hK K
        refine norm_ (a' := ?_) ?_ ?_
        rotate_left
        ·
         show Act.put _ (some 9) _ = _
         simp only [Act.put, List.setIfInBounds_toArray, List.set_cons_zero, List.set_cons_succ, i64_w, i32_w]
         rfl
        exact norm_ (by simp only [putAll, Act.put, List.setIfInBounds_toArray, List.set_cons_zero, List.set_cons_succ]) (hCont (.slice Ao107 t259.length co107, v265, gb268) _ ⟨hHeld, (by (with_reducible repeat (first | apply kA_ | apply kN_ | apply kD_)); exact Kd.R_mono HO261.out (fun _ hk => ⟨hk.2, hk.1.2⟩)), (by (with_reducible repeat (first | apply kA_ | apply kN_ | apply kD_)); exact Kd.R_mono HO266.out (fun _ hk => ⟨hk.2, hk.1.2⟩)), (by (with_reducible repeat (first | apply kA_ | apply kN_ | apply kD_)); exact Kd.R_mono HO_254001.out (fun _ hk => ⟨hk.1.2, hk.2⟩)), (by (with_reducible repeat (first | refine bN_ ?_ _ | refine bD_ ?_ | refine bA_ ?_ _)); exact BK246.out), (by (with_reducible repeat (first | refine bN_ ?_ _ | refine bD_ ?_ | refine bA_ ?_ _)); exact BK253.out), (by (with_reducible repeat (first | refine bN_ ?_ _ | refine bD_ ?_ | refine bA_ ?_ _)); exact BK257.out), (by (with_reducible repeat (first | refine bN_ ?_ _ | refine bD_ ?_ | refine bA_ ?_ _)); exact BK268.out), GW268.out, GE268.out, NB246_268.out, NB268_246.out, NB253_268.out, NB268_253.out, NB257_268.out, NB268_257.out, (by repeat (first | (with_reducible first | exact HB.out | apply bB_ | apply wN_ | apply bE_ | refine bS_ ?_ GE246.out | refine bS_ ?_ GE253.out | refine bS_ ?_ GE257.out | refine bS_ ?_ GE268.out) | exact HB.out))⟩)
       ·
        skip
        refine box_step ?hg (N := 9) ?hd (cs := #[.bool false, .slice none 0 0, .int .i64 0]) (t := 26) ?hr ?_; (case hd => rfl); (case hg => rfl); (case hr => first | (go_simp; done) | (go_simp; rfl))
        intro gb268 hg w107 hbox hb
        have n0_ := aM_ (Kd.R_below (by (with_reducible repeat (first | apply kA_ | apply kN_ | apply kD_)); exact HO_254001.out) hb)
        have n1_ := aM_ (Kd.R_below (by (with_reducible repeat (first | apply kA_ | apply kN_ | apply kD_)); exact HO261.out) hb)
        have n2_ := aM_ (blk_below (g := gb246) (o := .cells #[.int .i64 a0_0, .int .i64 a0_1] 23 (0, 0)) (by (with_reducible repeat (first | refine bN_ ?_ _ | refine bD_ ?_ | refine bA_ ?_ _)); exact BK246.out) hb)
        have n3_ := aM_ (blk_below (g := gb253) (o := .cells #[.bool t247, .slice Ao11 t248.length co11, .int .i64 t251] 26 (0, 0)) (by (with_reducible repeat (first | refine bN_ ?_ _ | refine bD_ ?_ | refine bA_ ?_ _)); exact BK253.out) hb)
        have n4_ := aM_ (blk_below (g := gb257) (o := .cells #[.int .i64 t254, .int .i64 t255] 23 (0, 0)) (by (with_reducible repeat (first | refine bN_ ?_ _ | refine bD_ ?_ | refine bA_ ?_ _)); exact BK257.out) hb)
        have n5_ := aM_ (below_step (by repeat (first | (with_reducible first | exact HB.out | apply bB_ | apply wN_ | apply bE_ | refine bS_ ?_ GE246.out | refine bS_ ?_ GE253.out | refine bS_ ?_ GE257.out) | exact HB.out)) hb)
        have n6_ := aM_ (hbox)
        have n7_ := aM_ ((by rw [hg]; exact (below_size (by repeat (first | (with_reducible first | exact HB.out | apply bB_ | apply wN_ | apply bE_ | refine bS_ ?_ GE246.out | refine bS_ ?_ GE253.out | refine bS_ ?_ GE257.out) | exact HB.out))) : w.heap.size ≤ gb268))
        have n8_ := aM_ ((by rw [hg]; exact (below_size (by repeat (first | (with_reducible first | exact HB.out | apply bB_ | apply wN_ | apply bE_ | refine bS_ ?_ GE246.out | refine bS_ ?_ GE253.out | refine bS_ ?_ GE257.out) | exact HB.out))) : w.heap.size ≤ gb268))
        have n9_ := aM_ ((by rw [hg]; exact Nat.ne_of_lt (blk_lt (g := gb246) (o := .cells #[.int .i64 a0_0, .int .i64 a0_1] 23 (0, 0)) (by (with_reducible repeat (first | refine bN_ ?_ _ | refine bD_ ?_ | refine bA_ ?_ _)); exact BK246.out)) : gb246 ≠ gb268))
        have n10_ := aM_ ((by rw [hg]; exact Nat.ne_of_gt (blk_lt (g := gb246) (o := .cells #[.int .i64 a0_0, .int .i64 a0_1] 23 (0, 0)) (by (with_reducible repeat (first | refine bN_ ?_ _ | refine bD_ ?_ | refine bA_ ?_ _)); exact BK246.out)) : gb268 ≠ gb246))
        have n11_ := aM_ ((by rw [hg]; exact Nat.ne_of_lt (blk_lt (g := gb253) (o := .cells #[.bool t247, .slice Ao11 t248.length co11, .int .i64 t251] 26 (0, 0)) (by (with_reducible repeat (first | refine bN_ ?_ _ | refine bD_ ?_ | refine bA_ ?_ _)); exact BK253.out)) : gb253 ≠ gb268))
        have n12_ := aM_ ((by rw [hg]; exact Nat.ne_of_gt (blk_lt (g := gb253) (o := .cells #[.bool t247, .slice Ao11 t248.length co11, .int .i64 t251] 26 (0, 0)) (by (with_reducible repeat (first | refine bN_ ?_ _ | refine bD_ ?_ | refine bA_ ?_ _)); exact BK253.out)) : gb268 ≠ gb253))
        have n13_ := aM_ ((by rw [hg]; exact Nat.ne_of_lt (blk_lt (g := gb257) (o := .cells #[.int .i64 t254, .int .i64 t255] 23 (0, 0)) (by (with_reducible repeat (first | refine bN_ ?_ _ | refine bD_ ?_ | refine bA_ ?_ _)); exact BK257.out)) : gb257 ≠ gb268))
        have n14_ := aM_ ((by rw [hg]; exact Nat.ne_of_gt (blk_lt (g := gb257) (o := .cells #[.int .i64 t254, .int .i64 t255] 23 (0, 0)) (by (with_reducible repeat (first | refine bN_ ?_ _ | refine bD_ ?_ | refine bA_ ?_ _)); exact BK257.out)) : gb268 ≠ gb257))
        clear HO_254001
        clear HO261
        clear BK246
        clear BK253
        clear BK257
        clear HB
        have HO_254001 := n0_
        have HO261 := n1_
        have BK246 := n2_
        have BK253 := n3_
        have BK257 := n4_
        have HB := n5_
        have BK268 := n6_
        have GW268 := n7_
        have GE268 := n8_
        have NB246_268 := n9_
        have NB268_246 := n10_
        have NB253_268 := n11_
        have NB268_253 := n12_
        have NB257_268 := n13_
        have NB268_257 := n14_
        clear n0_ n1_ n2_ n3_ n4_ n5_ n6_ n7_ n8_ n9_ n10_ n11_ n12_ n13_ n14_
        clear hb hbox hg
        obtain ⟨Ao108, co108, eo108⟩ := Kd.R_slice HO261.out
        (first | subst eo108 | (injection eo108 with f1_ f2_ f3_; have f4_ := f1_.symm; have f5_ := f3_.symm; clear f1_ f2_ f3_; subst f4_; subst f5_))
        refine hK.out _ _ ⟨(bC_ BK253.out 0).trans rfl, (bC_ BK253.out 1).trans rfl, (bC_ BK253.out 2).trans rfl⟩ (fun hHeld => ?_)
        clear hK K
        refine norm_ (a' := ?_) ?_ ?_
        rotate_left
        ·
         show Act.put _ (some 9) _ = _
         simp only [Act.put, List.setIfInBounds_toArray, List.set_cons_zero, List.set_cons_succ, i64_w, i32_w]
         rfl
        refine one_ (i := 3) (N := some 39) #[true, true, true, true, true, false] rfl rfl (by kernel_rfl) (by decide) (fun K hK => ?_)
        refine goes_ Try.func11 (by kernel_rfl) rfl #[.agg #[.bool t247, .slice Ao11 t248.length co11, .int .i64 t251], .agg #[.bool t258, .slice Ao108 t259.length co108, .int .i64 t262]] (by rfl) rfl rfl (by (try simp only [List.map_toArray, List.map_cons, List.map_nil]); first | done | rfl | (simp only [List.length_drop, List.length_take]; rfl)) ?_
        with_reducible refine (spec_DecimalTimes.calls kj3 t247 _ _ t248 t251 t258 _ _ t259 t262 t263 t264 t267 _ ?side1 ?side2 ?side3 ?side4 A21.out).mono ?_
        (case side1 => repeat (first | exact (Kd.R_reads' HO_254001.out).2.2 | (with_reducible refine Kd.C_alloc ?_ _) | (with_reducible refine Kd.C_drewN ?_ _) | (with_reducible refine Kd.C_drew ?_)))
        (case side2 => exact (Kd.R_reads' HO_254001.out).2.1)
        (case side3 => repeat (first | exact (Kd.R_reads' HO261.out).2.2 | (with_reducible refine Kd.C_alloc ?_ _) | (with_reducible refine Kd.C_drewN ?_ _) | (with_reducible refine Kd.C_drew ?_)))
        (case side4 => exact (Kd.R_reads' HO261.out).2.1)
        rintro e w109 ⟨v265, rfl, ho0, hb⟩
        refine ⟨_, rfl, ?_⟩
        have n0_ := aM_ (Kd.R_elder' (by (with_reducible repeat (first | apply kA_ | apply kN_ | apply kD_)); exact HO_254001.out) (Kd.R_base ho0) hb)
        have n1_ := aM_ (Kd.R_elder' (by (with_reducible repeat (first | apply kA_ | apply kN_ | apply kD_)); exact HO261.out) (Kd.R_base ho0) hb)
        have n2_ := aM_ (Kd.R_lower (Kd.R_new' (Kd.R_new' ho0 (Kd.R_lt (by (with_reducible repeat (first | apply kA_ | apply kN_ | apply kD_)); exact HO_254001.out))) (Kd.R_lt (by (with_reducible repeat (first | apply kA_ | apply kN_ | apply kD_)); exact HO261.out))) (below_size (by repeat (first | (with_reducible first | exact HB.out | apply bB_ | apply wN_ | apply bE_ | refine bS_ ?_ GE246.out | refine bS_ ?_ GE253.out | refine bS_ ?_ GE257.out | refine bS_ ?_ GE268.out) | exact HB.out))))
        have n3_ := aM_ (blk_below (g := gb246) (o := .cells #[.int .i64 a0_0, .int .i64 a0_1] 23 (0, 0)) (by (with_reducible repeat (first | refine bN_ ?_ _ | refine bD_ ?_ | refine bA_ ?_ _)); exact BK246.out) hb)
        have n4_ := aM_ (blk_below (g := gb253) (o := .cells #[.bool t247, .slice Ao11 t248.length co11, .int .i64 t251] 26 (0, 0)) (by (with_reducible repeat (first | refine bN_ ?_ _ | refine bD_ ?_ | refine bA_ ?_ _)); exact BK253.out) hb)
        have n5_ := aM_ (blk_below (g := gb257) (o := .cells #[.int .i64 t254, .int .i64 t255] 23 (0, 0)) (by (with_reducible repeat (first | refine bN_ ?_ _ | refine bD_ ?_ | refine bA_ ?_ _)); exact BK257.out) hb)
        have n6_ := aM_ (blk_below (g := gb268) (o := .cells #[.bool false, .slice none 0 0, .int .i64 0] 26 (0, 0)) (by (with_reducible repeat (first | refine bN_ ?_ _ | refine bD_ ?_ | refine bA_ ?_ _)); exact BK268.out) hb)
        have n7_ := aM_ (below_step (by repeat (first | (with_reducible first | exact HB.out | apply bB_ | apply wN_ | apply bE_ | refine bS_ ?_ GE246.out | refine bS_ ?_ GE253.out | refine bS_ ?_ GE257.out | refine bS_ ?_ GE268.out) | exact HB.out)) hb)
        clear HO_254001
        clear HO261
        clear BK246
        clear BK253
        clear BK257
        clear BK268
        clear HB
        have HO_254001 := n0_
        have HO261 := n1_
        have HO266 := n2_
        have BK246 := n3_
        have BK253 := n4_
        have BK257 := n5_
        have BK268 := n6_
        have HB := n7_
        clear n0_ n1_ n2_ n3_ n4_ n5_ n6_ n7_
        (try clear hb)
        (try clear hb2)
        (try clear hk)
        (try clear hi)
        (try clear ho0)
        refine hK.out _ _ ⟨(bC_ BK253.out 0).trans rfl, (bC_ BK253.out 1).trans rfl, (bC_ BK253.out 2).trans rfl⟩ (fun hHeld => ?_)
        clear hK K
        refine norm_ (a' := ?_) ?_ ?_
        rotate_left
        ·
         show Act.put _ (some 39) _ = _
         simp only [Act.put, List.setIfInBounds_toArray, List.set_cons_zero, List.set_cons_succ, i64_w, i32_w]
         rfl
        exact norm_ (by simp only [putAll, Act.put, List.setIfInBounds_toArray, List.set_cons_zero, List.set_cons_succ]) (hCont (.slice Ao108 t259.length co108, v265, gb268) _ ⟨hHeld, (by (with_reducible repeat (first | apply kA_ | apply kN_ | apply kD_)); exact Kd.R_mono HO261.out (fun _ hk => ⟨hk.2, hk.1.2⟩)), (by (with_reducible repeat (first | apply kA_ | apply kN_ | apply kD_)); exact Kd.R_mono HO266.out (fun _ hk => ⟨hk.2, hk.1.2⟩)), (by (with_reducible repeat (first | apply kA_ | apply kN_ | apply kD_)); exact Kd.R_mono HO_254001.out (fun _ hk => ⟨hk.1.2, hk.2⟩)), (by (with_reducible repeat (first | refine bN_ ?_ _ | refine bD_ ?_ | refine bA_ ?_ _)); exact BK246.out), (by (with_reducible repeat (first | refine bN_ ?_ _ | refine bD_ ?_ | refine bA_ ?_ _)); exact BK253.out), (by (with_reducible repeat (first | refine bN_ ?_ _ | refine bD_ ?_ | refine bA_ ?_ _)); exact BK257.out), (by (with_reducible repeat (first | refine bN_ ?_ _ | refine bD_ ?_ | refine bA_ ?_ _)); exact BK268.out), GW268.out, GE268.out, NB246_268.out, NB268_246.out, NB253_268.out, NB268_253.out, NB257_268.out, NB268_257.out, (by repeat (first | (with_reducible first | exact HB.out | apply bB_ | apply wN_ | apply bE_ | refine bS_ ?_ GE246.out | refine bS_ ?_ GE253.out | refine bS_ ?_ GE257.out | refine bS_ ?_ GE268.out) | exact HB.out))⟩)
      ·
       skip
       refine box_step ?hg (N := 9) ?hd (cs := #[.bool false, .slice none 0 0, .int .i64 0]) (t := 26) ?hr ?_; (case hd => rfl); (case hg => rfl); (case hr => first | (go_simp; done) | (go_simp; rfl))
       intro gb268 hg w106 hbox hb
       have n0_ := aM_ (Kd.R_below (by (with_reducible repeat (first | apply kA_ | apply kN_ | apply kD_)); exact HO_254001.out) hb)
       have n1_ := aM_ (blk_below (g := gb246) (o := .cells #[.int .i64 a0_0, .int .i64 a0_1] 23 (0, 0)) (by (with_reducible repeat (first | refine bN_ ?_ _ | refine bD_ ?_ | refine bA_ ?_ _)); exact BK246.out) hb)
       have n2_ := aM_ (blk_below (g := gb253) (o := .cells #[.bool t247, .slice Ao11 t248.length co11, .int .i64 t251] 26 (0, 0)) (by (with_reducible repeat (first | refine bN_ ?_ _ | refine bD_ ?_ | refine bA_ ?_ _)); exact BK253.out) hb)
       have n3_ := aM_ (blk_below (g := gb257) (o := .cells #[.int .i64 t254, .int .i64 t255] 23 (0, 0)) (by (with_reducible repeat (first | refine bN_ ?_ _ | refine bD_ ?_ | refine bA_ ?_ _)); exact BK257.out) hb)
       have n4_ := aM_ (below_step (by repeat (first | (with_reducible first | exact HB.out | apply bB_ | apply wN_ | apply bE_ | refine bS_ ?_ GE246.out | refine bS_ ?_ GE253.out | refine bS_ ?_ GE257.out) | exact HB.out)) hb)
       have n5_ := aM_ (hbox)
       have n6_ := aM_ ((by rw [hg]; exact (below_size (by repeat (first | (with_reducible first | exact HB.out | apply bB_ | apply wN_ | apply bE_ | refine bS_ ?_ GE246.out | refine bS_ ?_ GE253.out | refine bS_ ?_ GE257.out) | exact HB.out))) : w.heap.size ≤ gb268))
       have n7_ := aM_ ((by rw [hg]; exact (below_size (by repeat (first | (with_reducible first | exact HB.out | apply bB_ | apply wN_ | apply bE_ | refine bS_ ?_ GE246.out | refine bS_ ?_ GE253.out | refine bS_ ?_ GE257.out) | exact HB.out))) : w.heap.size ≤ gb268))
       have n8_ := aM_ ((by rw [hg]; exact Nat.ne_of_lt (blk_lt (g := gb246) (o := .cells #[.int .i64 a0_0, .int .i64 a0_1] 23 (0, 0)) (by (with_reducible repeat (first | refine bN_ ?_ _ | refine bD_ ?_ | refine bA_ ?_ _)); exact BK246.out)) : gb246 ≠ gb268))
       have n9_ := aM_ ((by rw [hg]; exact Nat.ne_of_gt (blk_lt (g := gb246) (o := .cells #[.int .i64 a0_0, .int .i64 a0_1] 23 (0, 0)) (by (with_reducible repeat (first | refine bN_ ?_ _ | refine bD_ ?_ | refine bA_ ?_ _)); exact BK246.out)) : gb268 ≠ gb246))
       have n10_ := aM_ ((by rw [hg]; exact Nat.ne_of_lt (blk_lt (g := gb253) (o := .cells #[.bool t247, .slice Ao11 t248.length co11, .int .i64 t251] 26 (0, 0)) (by (with_reducible repeat (first | refine bN_ ?_ _ | refine bD_ ?_ | refine bA_ ?_ _)); exact BK253.out)) : gb253 ≠ gb268))
       have n11_ := aM_ ((by rw [hg]; exact Nat.ne_of_gt (blk_lt (g := gb253) (o := .cells #[.bool t247, .slice Ao11 t248.length co11, .int .i64 t251] 26 (0, 0)) (by (with_reducible repeat (first | refine bN_ ?_ _ | refine bD_ ?_ | refine bA_ ?_ _)); exact BK253.out)) : gb268 ≠ gb253))
       have n12_ := aM_ ((by rw [hg]; exact Nat.ne_of_lt (blk_lt (g := gb257) (o := .cells #[.int .i64 t254, .int .i64 t255] 23 (0, 0)) (by (with_reducible repeat (first | refine bN_ ?_ _ | refine bD_ ?_ | refine bA_ ?_ _)); exact BK257.out)) : gb257 ≠ gb268))
       have n13_ := aM_ ((by rw [hg]; exact Nat.ne_of_gt (blk_lt (g := gb257) (o := .cells #[.int .i64 t254, .int .i64 t255] 23 (0, 0)) (by (with_reducible repeat (first | refine bN_ ?_ _ | refine bD_ ?_ | refine bA_ ?_ _)); exact BK257.out)) : gb268 ≠ gb257))
       clear HO_254001
       clear BK246
       clear BK253
       clear BK257
       clear HB
       have HO_254001 := n0_
       have BK246 := n1_
       have BK253 := n2_
       have BK257 := n3_
       have HB := n4_
       have BK268 := n5_
       have GW268 := n6_
       have GE268 := n7_
       have NB246_268 := n8_
       have NB268_246 := n9_
       have NB253_268 := n10_
       have NB268_253 := n11_
       have NB257_268 := n12_
       have NB268_257 := n13_
       clear n0_ n1_ n2_ n3_ n4_ n5_ n6_ n7_ n8_ n9_ n10_ n11_ n12_ n13_
       clear hb hbox hg
       refine hK.out _ _ ⟨(bC_ BK253.out 0).trans rfl, (bC_ BK253.out 1).trans rfl, (bC_ BK253.out 2).trans rfl⟩ (fun hHeld => ?_)
       clear hK K
       refine norm_ (a' := ?_) ?_ ?_
       rotate_left
       ·
        show Act.put _ (some 9) _ = _
        simp only [Act.put, List.setIfInBounds_toArray, List.set_cons_zero, List.set_cons_succ, i64_w, i32_w]
        rfl
       refine one_ (i := 2) (N := some 38) #[true, true, true, false, true, false] rfl rfl (by kernel_rfl) (by decide) (fun K hK => ?_)
       refine goes_ Try.func12 (by kernel_rfl) rfl #[.int .i64 a1, .int .i64 0] (by rfl) rfl rfl (by (try simp only [List.map_toArray, List.map_cons, List.map_nil]); first | done | rfl | (simp only [List.length_drop, List.length_take]; rfl)) ?_
       with_reducible refine (spec_DecimalOf.calls kj3 a1 0 t258 t259 t262 _ A20.out).mono ?_
       rintro e w107 ⟨v260, rfl, ho0, hb⟩
       refine ⟨_, rfl, ?_⟩
       have n0_ := aM_ (Kd.R_elder' (by (with_reducible repeat (first | apply kA_ | apply kN_ | apply kD_)); exact HO_254001.out) (Kd.R_base ho0) hb)
       have n1_ := aM_ (Kd.R_lower (Kd.R_new' ho0 (Kd.R_lt (by (with_reducible repeat (first | apply kA_ | apply kN_ | apply kD_)); exact HO_254001.out))) (below_size (by repeat (first | (with_reducible first | exact HB.out | apply bB_ | apply wN_ | apply bE_ | refine bS_ ?_ GE246.out | refine bS_ ?_ GE253.out | refine bS_ ?_ GE257.out | refine bS_ ?_ GE268.out) | exact HB.out))))
       have n2_ := aM_ (blk_below (g := gb246) (o := .cells #[.int .i64 a0_0, .int .i64 a0_1] 23 (0, 0)) (by (with_reducible repeat (first | refine bN_ ?_ _ | refine bD_ ?_ | refine bA_ ?_ _)); exact BK246.out) hb)
       have n3_ := aM_ (blk_below (g := gb253) (o := .cells #[.bool t247, .slice Ao11 t248.length co11, .int .i64 t251] 26 (0, 0)) (by (with_reducible repeat (first | refine bN_ ?_ _ | refine bD_ ?_ | refine bA_ ?_ _)); exact BK253.out) hb)
       have n4_ := aM_ (blk_below (g := gb257) (o := .cells #[.int .i64 t254, .int .i64 t255] 23 (0, 0)) (by (with_reducible repeat (first | refine bN_ ?_ _ | refine bD_ ?_ | refine bA_ ?_ _)); exact BK257.out) hb)
       have n5_ := aM_ (blk_below (g := gb268) (o := .cells #[.bool false, .slice none 0 0, .int .i64 0] 26 (0, 0)) (by (with_reducible repeat (first | refine bN_ ?_ _ | refine bD_ ?_ | refine bA_ ?_ _)); exact BK268.out) hb)
       have n6_ := aM_ (below_step (by repeat (first | (with_reducible first | exact HB.out | apply bB_ | apply wN_ | apply bE_ | refine bS_ ?_ GE246.out | refine bS_ ?_ GE253.out | refine bS_ ?_ GE257.out | refine bS_ ?_ GE268.out) | exact HB.out)) hb)
       clear HO_254001
       clear BK246
       clear BK253
       clear BK257
       clear BK268
       clear HB
       have HO_254001 := n0_
       have HO261 := n1_
       have BK246 := n2_
       have BK253 := n3_
       have BK257 := n4_
       have BK268 := n5_
       have HB := n6_
       clear n0_ n1_ n2_ n3_ n4_ n5_ n6_
       (try clear hb)
       (try clear hb2)
       (try clear hk)
       (try clear hi)
       (try clear ho0)
       obtain ⟨Ao108, co108, eo108⟩ := Kd.R_slice HO261.out
       (first | subst eo108 | (injection eo108 with f1_ f2_ f3_; have f4_ := f1_.symm; have f5_ := f3_.symm; clear f1_ f2_ f3_; subst f4_; subst f5_))
       refine hK.out _ _ ⟨(bC_ BK253.out 0).trans rfl, (bC_ BK253.out 1).trans rfl, (bC_ BK253.out 2).trans rfl⟩ (fun hHeld => ?_)
       clear hK K
       refine norm_ (a' := ?_) ?_ ?_
       rotate_left
       ·
        show Act.put _ (some 38) _ = _
        simp only [Act.put, List.setIfInBounds_toArray, List.set_cons_zero, List.set_cons_succ, i64_w, i32_w]
        rfl
       refine one_ (i := 3) (N := some 39) #[true, true, true, true, true, false] rfl rfl (by kernel_rfl) (by decide) (fun K hK => ?_)
       refine goes_ Try.func11 (by kernel_rfl) rfl #[.agg #[.bool t247, .slice Ao11 t248.length co11, .int .i64 t251], .agg #[.bool t258, .slice Ao108 t259.length co108, .int .i64 t262]] (by rfl) rfl rfl (by (try simp only [List.map_toArray, List.map_cons, List.map_nil]); first | done | rfl | (simp only [List.length_drop, List.length_take]; rfl)) ?_
       with_reducible refine (spec_DecimalTimes.calls kj3 t247 _ _ t248 t251 t258 _ _ t259 t262 t263 t264 t267 _ ?side1 ?side2 ?side3 ?side4 A21.out).mono ?_
       (case side1 => repeat (first | exact (Kd.R_reads' HO_254001.out).2.2 | (with_reducible refine Kd.C_alloc ?_ _) | (with_reducible refine Kd.C_drewN ?_ _) | (with_reducible refine Kd.C_drew ?_)))
       (case side2 => exact (Kd.R_reads' HO_254001.out).2.1)
       (case side3 => repeat (first | exact (Kd.R_reads' HO261.out).2.2 | (with_reducible refine Kd.C_alloc ?_ _) | (with_reducible refine Kd.C_drewN ?_ _) | (with_reducible refine Kd.C_drew ?_)))
       (case side4 => exact (Kd.R_reads' HO261.out).2.1)
       rintro e w109 ⟨v265, rfl, ho0, hb⟩
       refine ⟨_, rfl, ?_⟩
       have n0_ := aM_ (Kd.R_elder' (by (with_reducible repeat (first | apply kA_ | apply kN_ | apply kD_)); exact HO_254001.out) (Kd.R_base ho0) hb)
       have n1_ := aM_ (Kd.R_elder' (by (with_reducible repeat (first | apply kA_ | apply kN_ | apply kD_)); exact HO261.out) (Kd.R_base ho0) hb)
       have n2_ := aM_ (Kd.R_lower (Kd.R_new' (Kd.R_new' ho0 (Kd.R_lt (by (with_reducible repeat (first | apply kA_ | apply kN_ | apply kD_)); exact HO_254001.out))) (Kd.R_lt (by (with_reducible repeat (first | apply kA_ | apply kN_ | apply kD_)); exact HO261.out))) (below_size (by repeat (first | (with_reducible first | exact HB.out | apply bB_ | apply wN_ | apply bE_ | refine bS_ ?_ GE246.out | refine bS_ ?_ GE253.out | refine bS_ ?_ GE257.out | refine bS_ ?_ GE268.out) | exact HB.out))))
       have n3_ := aM_ (blk_below (g := gb246) (o := .cells #[.int .i64 a0_0, .int .i64 a0_1] 23 (0, 0)) (by (with_reducible repeat (first | refine bN_ ?_ _ | refine bD_ ?_ | refine bA_ ?_ _)); exact BK246.out) hb)
       have n4_ := aM_ (blk_below (g := gb253) (o := .cells #[.bool t247, .slice Ao11 t248.length co11, .int .i64 t251] 26 (0, 0)) (by (with_reducible repeat (first | refine bN_ ?_ _ | refine bD_ ?_ | refine bA_ ?_ _)); exact BK253.out) hb)
       have n5_ := aM_ (blk_below (g := gb257) (o := .cells #[.int .i64 t254, .int .i64 t255] 23 (0, 0)) (by (with_reducible repeat (first | refine bN_ ?_ _ | refine bD_ ?_ | refine bA_ ?_ _)); exact BK257.out) hb)
       have n6_ := aM_ (blk_below (g := gb268) (o := .cells #[.bool false, .slice none 0 0, .int .i64 0] 26 (0, 0)) (by (with_reducible repeat (first | refine bN_ ?_ _ | refine bD_ ?_ | refine bA_ ?_ _)); exact BK268.out) hb)
       have n7_ := aM_ (below_step (by repeat (first | (with_reducible first | exact HB.out | apply bB_ | apply wN_ | apply bE_ | refine bS_ ?_ GE246.out | refine bS_ ?_ GE253.out | refine bS_ ?_ GE257.out | refine bS_ ?_ GE268.out) | exact HB.out)) hb)
       clear HO_254001
       clear HO261
       clear BK246
       clear BK253
       clear BK257
       clear BK268
       clear HB
       have HO_254001 := n0_
       have HO261 := n1_
       have HO266 := n2_
       have BK246 := n3_
       have BK253 := n4_
       have BK257 := n5_
       have BK268 := n6_
       have HB := n7_
       clear n0_ n1_ n2_ n3_ n4_ n5_ n6_ n7_
       (try clear hb)
       (try clear hb2)
       (try clear hk)
       (try clear hi)
       (try clear ho0)
       refine hK.out _ _ ⟨(bC_ BK253.out 0).trans rfl, (bC_ BK253.out 1).trans rfl, (bC_ BK253.out 2).trans rfl⟩ (fun hHeld => ?_)
       clear hK K
       refine norm_ (a' := ?_) ?_ ?_
       rotate_left
       ·
        show Act.put _ (some 39) _ = _
        simp only [Act.put, List.setIfInBounds_toArray, List.set_cons_zero, List.set_cons_succ, i64_w, i32_w]
        rfl
       exact norm_ (by simp only [putAll, Act.put, List.setIfInBounds_toArray, List.set_cons_zero, List.set_cons_succ]) (hCont (.slice Ao108 t259.length co108, v265, gb268) _ ⟨hHeld, (by (with_reducible repeat (first | apply kA_ | apply kN_ | apply kD_)); exact Kd.R_mono HO261.out (fun _ hk => ⟨hk.2, hk.1.2⟩)), (by (with_reducible repeat (first | apply kA_ | apply kN_ | apply kD_)); exact Kd.R_mono HO266.out (fun _ hk => ⟨hk.2, hk.1.2⟩)), (by (with_reducible repeat (first | apply kA_ | apply kN_ | apply kD_)); exact Kd.R_mono HO_254001.out (fun _ hk => ⟨hk.1.2, hk.2⟩)), (by (with_reducible repeat (first | refine bN_ ?_ _ | refine bD_ ?_ | refine bA_ ?_ _)); exact BK246.out), (by (with_reducible repeat (first | refine bN_ ?_ _ | refine bD_ ?_ | refine bA_ ?_ _)); exact BK253.out), (by (with_reducible repeat (first | refine bN_ ?_ _ | refine bD_ ?_ | refine bA_ ?_ _)); exact BK257.out), (by (with_reducible repeat (first | refine bN_ ?_ _ | refine bD_ ?_ | refine bA_ ?_ _)); exact BK268.out), GW268.out, GE268.out, NB246_268.out, NB268_246.out, NB253_268.out, NB268_253.out, NB257_268.out, NB268_257.out, (by repeat (first | (with_reducible first | exact HB.out | apply bB_ | apply wN_ | apply bE_ | refine bS_ ?_ GE246.out | refine bS_ ?_ GE253.out | refine bS_ ?_ GE257.out | refine bS_ ?_ GE268.out) | exact HB.out))⟩)
     rintro ⟨v260, v265, gb268⟩ w110 ⟨hS_, h0_, h1_, h2_, h3_, h4_, h5_, h6_, h7_, h8_, h9_, h10_, h11_, h12_, h13_, h14_, h15_⟩
     have n0_ : Aside0 (Kd.R (Kd.int .i64) 3 w110 w.heap.size (fun k_ => some k_ ≠ (v265 : Value).ownBlock ∧ some k_ ≠ (.slice Ao11 t248.length co11 : Value).ownBlock) v260 t259) := ⟨h0_⟩
     have n1_ : Aside0 (Kd.R (Kd.int .i64) 3 w110 w.heap.size (fun k_ => some k_ ≠ (v260 : Value).ownBlock ∧ some k_ ≠ (.slice Ao11 t248.length co11 : Value).ownBlock) v265 t264) := ⟨h1_⟩
     have n2_ : Aside0 (Kd.R (Kd.int .i64) 3 w110 w.heap.size (fun k_ => some k_ ≠ (v260 : Value).ownBlock ∧ some k_ ≠ (v265 : Value).ownBlock) (.slice Ao11 t248.length co11) t248) := ⟨h2_⟩
     have n3_ : Aside0 (w110.heap[gb246]? = some (.cells #[.int .i64 a0_0, .int .i64 a0_1] 23 (0, 0))) := ⟨h3_⟩
     have n4_ : Aside0 (w110.heap[gb253]? = some (.cells #[.bool t247, .slice Ao11 t248.length co11, .int .i64 t251] 26 (0, 0))) := ⟨h4_⟩
     have n5_ : Aside0 (w110.heap[gb257]? = some (.cells #[.int .i64 t254, .int .i64 t255] 23 (0, 0))) := ⟨h5_⟩
     have n6_ : Aside0 (w110.heap[gb268]? = some (.cells #[.bool false, .slice none 0 0, .int .i64 0] 26 (0, 0))) := ⟨h6_⟩
     have n7_ : Aside0 (w.heap.size ≤ gb268) := ⟨h7_⟩
     have n8_ : Aside0 (w.heap.size ≤ gb268) := ⟨h8_⟩
     have n9_ : Aside0 (gb246 ≠ gb268) := ⟨h9_⟩
     have n10_ : Aside0 (gb268 ≠ gb246) := ⟨h10_⟩
     have n11_ : Aside0 (gb253 ≠ gb268) := ⟨h11_⟩
     have n12_ : Aside0 (gb268 ≠ gb253) := ⟨h12_⟩
     have n13_ : Aside0 (gb257 ≠ gb268) := ⟨h13_⟩
     have n14_ : Aside0 (gb268 ≠ gb257) := ⟨h14_⟩
     have n15_ : Aside0 (Below w.heap.size w w110) := ⟨h15_⟩
     clear HO_254001
     clear BK246
     clear BK253
     clear BK257
     clear HB
     clear h0_ h1_ h2_ h3_ h4_ h5_ h6_ h7_ h8_ h9_ h10_ h11_ h12_ h13_ h14_ h15_
     have HO261 := n0_
     have HO266 := n1_
     have HO_254001 := n2_
     have BK246 := n3_
     have BK253 := n4_
     have BK257 := n5_
     have BK268 := n6_
     have GW268 := n7_
     have GE268 := n8_
     have NB246_268 := n9_
     have NB268_246 := n10_
     have NB253_268 := n11_
     have NB268_253 := n12_
     have NB257_268 := n13_
     have NB268_257 := n14_
     have HB := n15_
     clear n0_ n1_ n2_ n3_ n4_ n5_ n6_ n7_ n8_ n9_ n10_ n11_ n12_ n13_ n14_ n15_
     have hHeld : w110.cell? ⟨gb253, 0, none⟩ = some (.bool t247) ∧ w110.cell? ⟨gb253, 1, none⟩ = some (.slice Ao11 t248.length co11) ∧ w110.cell? ⟨gb253, 2, none⟩ = some (.int .i64 t251) := hS_
     obtain ⟨Ao112, co112, eo112⟩ := Kd.R_slice HO266.out
     (first | subst eo112 | (injection eo112 with f1_ f2_ f3_; have f4_ := f1_.symm; have f5_ := f3_.symm; clear f1_ f2_ f3_; subst f4_; subst f5_))
     refine norm_ (a' := ?_) ?_ ?_
     rotate_left
     ·
      simp only [putAll, Act.put, List.setIfInBounds_toArray, List.set_cons_zero, List.set_cons_succ]
      rfl
     refine one_ (i := 5) (N := none) #[true, true, true, true, true, true] rfl rfl (by kernel_rfl) (by decide) (fun K hK => ?_)
     have hs111 : w110.cell? ⟨gb268, 0, none⟩ = some (.bool false) := (bC_ BK268.out 0).trans rfl
     have hfs111 := bF_ BK268.out 0
     have hns111_0 := NB246_268.out
     have hns111_1 := NB253_268.out
     have hns111_2 := NB257_268.out
     have hms111_0 := NB268_246.out
     have hms111_1 := NB268_253.out
     have hms111_2 := NB268_257.out
     have hs113 : w110.cell? ⟨gb268, 1, none⟩ = some (.slice none 0 0) := (bC_ BK268.out 1).trans rfl
     have hfs113 := bF_ BK268.out 1
     have hns113_0 := NB246_268.out
     have hns113_1 := NB253_268.out
     have hns113_2 := NB257_268.out
     have hms113_0 := NB268_246.out
     have hms113_1 := NB268_253.out
     have hms113_2 := NB268_257.out
     have hs114 : w110.cell? ⟨gb268, 2, none⟩ = some (.int .i64 0) := (bC_ BK268.out 2).trans rfl
     have hfs114 := bF_ BK268.out 2
     have hns114_0 := NB246_268.out
     have hns114_1 := NB253_268.out
     have hns114_2 := NB257_268.out
     have hms114_0 := NB268_246.out
     have hms114_1 := NB268_253.out
     have hms114_2 := NB268_257.out
     refine skip_ (w1 := ?_) (by rfl) rfl ?_ ?_
     rotate_left
     ·
      go_simp
      rfl
     refine hK.out _ _ ⟨((cell_far (p := ⟨gb268, _, none⟩) NB253_268.out _).trans (((cell_far (p := ⟨gb268, _, none⟩) NB253_268.out _).trans (((cell_far (p := ⟨gb268, _, none⟩) NB253_268.out _).trans (hHeld.1)))))), ((cell_far (p := ⟨gb268, _, none⟩) NB253_268.out _).trans (((cell_far (p := ⟨gb268, _, none⟩) NB253_268.out _).trans (((cell_far (p := ⟨gb268, _, none⟩) NB253_268.out _).trans (hHeld.2.1)))))), ((cell_far (p := ⟨gb268, _, none⟩) NB253_268.out _).trans (((cell_far (p := ⟨gb268, _, none⟩) NB253_268.out _).trans (((cell_far (p := ⟨gb268, _, none⟩) NB253_268.out _).trans (hHeld.2.2))))))⟩ (fun hHeld => ?_)
     clear hK K
     refine done_ (by kernel_rfl) ?_
     have hnb115 := NB246_268.out
     have hnc115 := NB268_246.out
     have hcz116_0 : w110.cell? ⟨gb246, 0, none⟩ = some (.int .i64 a0_0) := (bC_ BK246.out 0).trans rfl
     have hcz116_1 : w110.cell? ⟨gb246, 1, none⟩ = some (.int .i64 a0_1) := (bC_ BK246.out 1).trans rfl
     have hfz116_0 := bF_ BK246.out 0
     have hfz116_1 := bF_ BK246.out 1
     go_upto_region 10 with (first | ((with_reducible refine gate_callee (f := 12) rfl ?_); refine goesL_ (some 43) rfl rfl Try.func12 (by kernel_rfl) rfl #[.int .i64 a0_0, .int .i64 0] rfl (by (try simp only [List.map_toArray, List.map_cons, List.map_nil]); first | done | rfl | (simp only [List.length_drop, List.length_take]; rfl)) ?_; (with_reducible refine (spec_DecimalOf.calls kj3 a0_0 0 t269 t270 t273 _ A22.out).mono ?_); rintro e w117 ⟨v271, rfl, ho0, hb⟩; refine ⟨_, rfl, ?_⟩; have n0_ := aM_ (Kd.R_elder' (by (with_reducible repeat (first | apply kA_ | apply kN_ | apply kD_)); exact (Kd.R_mono (Kd.R_far (p := ⟨gb268, 2, none⟩) (Kd.R_far (p := ⟨gb268, 1, none⟩) (Kd.R_far (p := ⟨gb268, 0, none⟩) (Kd.R_types HO_254001.out BK268.out (by decide)) (fun _ hk => hk.2) (.bool t263)) (fun _ hk => hk.2) (.slice Ao112 t264.length co112)) (fun _ hk => hk.2) (.int .i64 t267)) (fun _ h_ => h_.1))) (Kd.R_base ho0) hb); have n1_ := aM_ (Kd.R_elder' (by (with_reducible repeat (first | apply kA_ | apply kN_ | apply kD_)); exact (Kd.R_mono (Kd.R_far (p := ⟨gb268, 2, none⟩) (Kd.R_far (p := ⟨gb268, 1, none⟩) (Kd.R_far (p := ⟨gb268, 0, none⟩) (Kd.R_types HO261.out BK268.out (by decide)) (fun _ hk => hk.2) (.bool t263)) (fun _ hk => hk.2) (.slice Ao112 t264.length co112)) (fun _ hk => hk.2) (.int .i64 t267)) (fun _ h_ => h_.1))) (Kd.R_base ho0) hb); have n2_ := aM_ (Kd.R_elder' (by (with_reducible repeat (first | apply kA_ | apply kN_ | apply kD_)); exact (Kd.R_mono (Kd.R_far (p := ⟨gb268, 2, none⟩) (Kd.R_far (p := ⟨gb268, 1, none⟩) (Kd.R_far (p := ⟨gb268, 0, none⟩) (Kd.R_types HO266.out BK268.out (by decide)) (fun _ hk => hk.2) (.bool t263)) (fun _ hk => hk.2) (.slice Ao112 t264.length co112)) (fun _ hk => hk.2) (.int .i64 t267)) (fun _ h_ => h_.1))) (Kd.R_base ho0) hb); have n3_ := aM_ (Kd.R_lower (Kd.R_new' (Kd.R_new' (Kd.R_new' ho0 (Kd.R_lt (by (with_reducible repeat (first | apply kA_ | apply kN_ | apply kD_)); exact (Kd.R_mono (Kd.R_far (p := ⟨gb268, 2, none⟩) (Kd.R_far (p := ⟨gb268, 1, none⟩) (Kd.R_far (p := ⟨gb268, 0, none⟩) (Kd.R_types HO_254001.out BK268.out (by decide)) (fun _ hk => hk.2) (.bool t263)) (fun _ hk => hk.2) (.slice Ao112 t264.length co112)) (fun _ hk => hk.2) (.int .i64 t267)) (fun _ h_ => h_.1))))) (Kd.R_lt (by (with_reducible repeat (first | apply kA_ | apply kN_ | apply kD_)); exact (Kd.R_mono (Kd.R_far (p := ⟨gb268, 2, none⟩) (Kd.R_far (p := ⟨gb268, 1, none⟩) (Kd.R_far (p := ⟨gb268, 0, none⟩) (Kd.R_types HO261.out BK268.out (by decide)) (fun _ hk => hk.2) (.bool t263)) (fun _ hk => hk.2) (.slice Ao112 t264.length co112)) (fun _ hk => hk.2) (.int .i64 t267)) (fun _ h_ => h_.1))))) (Kd.R_lt (by (with_reducible repeat (first | apply kA_ | apply kN_ | apply kD_)); exact (Kd.R_mono (Kd.R_far (p := ⟨gb268, 2, none⟩) (Kd.R_far (p := ⟨gb268, 1, none⟩) (Kd.R_far (p := ⟨gb268, 0, none⟩) (Kd.R_types HO266.out BK268.out (by decide)) (fun _ hk => hk.2) (.bool t263)) (fun _ hk => hk.2) (.slice Ao112 t264.length co112)) (fun _ hk => hk.2) (.int .i64 t267)) (fun _ h_ => h_.1))))) (below_size (by repeat (first | (with_reducible first | exact HB.out | apply bB_ | apply wN_ | apply bE_ | refine bS_ ?_ GE246.out | refine bS_ ?_ GE253.out | refine bS_ ?_ GE257.out | refine bS_ ?_ GE268.out) | exact HB.out)))); have n4_ := aM_ (blk_below (g := gb246) (o := .cells #[.int .i64 a0_0, .int .i64 a0_1] 23 (0, 0)) (by (with_reducible repeat (first | refine bN_ ?_ _ | refine bD_ ?_ | refine bA_ ?_ _)); refine blk_far ?_ NB246_268.out _; (with_reducible repeat (first | refine bN_ ?_ _ | refine bD_ ?_ | refine bA_ ?_ _)); refine blk_far ?_ NB246_268.out _; (with_reducible repeat (first | refine bN_ ?_ _ | refine bD_ ?_ | refine bA_ ?_ _)); refine blk_far ?_ NB246_268.out _; (with_reducible repeat (first | refine bN_ ?_ _ | refine bD_ ?_ | refine bA_ ?_ _)); exact BK246.out) hb); have n5_ := aM_ (blk_below (g := gb253) (o := .cells #[.bool t247, .slice Ao11 t248.length co11, .int .i64 t251] 26 (0, 0)) (by (with_reducible repeat (first | refine bN_ ?_ _ | refine bD_ ?_ | refine bA_ ?_ _)); refine blk_far ?_ NB253_268.out _; (with_reducible repeat (first | refine bN_ ?_ _ | refine bD_ ?_ | refine bA_ ?_ _)); refine blk_far ?_ NB253_268.out _; (with_reducible repeat (first | refine bN_ ?_ _ | refine bD_ ?_ | refine bA_ ?_ _)); refine blk_far ?_ NB253_268.out _; (with_reducible repeat (first | refine bN_ ?_ _ | refine bD_ ?_ | refine bA_ ?_ _)); exact BK253.out) hb); have n6_ := aM_ (blk_below (g := gb257) (o := .cells #[.int .i64 t254, .int .i64 t255] 23 (0, 0)) (by (with_reducible repeat (first | refine bN_ ?_ _ | refine bD_ ?_ | refine bA_ ?_ _)); refine blk_far ?_ NB257_268.out _; (with_reducible repeat (first | refine bN_ ?_ _ | refine bD_ ?_ | refine bA_ ?_ _)); refine blk_far ?_ NB257_268.out _; (with_reducible repeat (first | refine bN_ ?_ _ | refine bD_ ?_ | refine bA_ ?_ _)); refine blk_far ?_ NB257_268.out _; (with_reducible repeat (first | refine bN_ ?_ _ | refine bD_ ?_ | refine bA_ ?_ _)); exact BK257.out) hb); have n7_ := aM_ (blk_below (g := gb268) (o := .cells #[.bool t263, .slice Ao112 t264.length co112, .int .i64 t267] 26 (0, 0)) (by (with_reducible repeat (first | refine bN_ ?_ _ | refine bD_ ?_ | refine bA_ ?_ _)); refine blk_put (cs := #[.bool t263, .slice Ao112 t264.length co112, .int .i64 0]) ?_ 2 _ rfl; (with_reducible repeat (first | refine bN_ ?_ _ | refine bD_ ?_ | refine bA_ ?_ _)); refine blk_put (cs := #[.bool t263, .slice none 0 0, .int .i64 0]) ?_ 1 _ rfl; (with_reducible repeat (first | refine bN_ ?_ _ | refine bD_ ?_ | refine bA_ ?_ _)); refine blk_put (cs := #[.bool false, .slice none 0 0, .int .i64 0]) ?_ 0 _ rfl; (with_reducible repeat (first | refine bN_ ?_ _ | refine bD_ ?_ | refine bA_ ?_ _)); exact BK268.out) hb); have n8_ := aM_ (below_step (by repeat (first | (with_reducible first | exact HB.out | apply bB_ | apply wN_ | apply bE_ | refine bS_ ?_ GE246.out | refine bS_ ?_ GE253.out | refine bS_ ?_ GE257.out | refine bS_ ?_ GE268.out) | exact HB.out)) hb); clear HO_254001; clear HO261; clear HO266; clear BK246; clear BK253; clear BK257; clear BK268; clear HB; have HO_254001 := n0_; have HO261 := n1_; have HO266 := n2_; have HO272 := n3_; have BK246 := n4_; have BK253 := n5_; have BK257 := n6_; have BK268 := n7_; have HB := n8_; clear n0_ n1_ n2_ n3_ n4_ n5_ n6_ n7_ n8_; (try clear hb); (try clear hb2); (try clear hk); (try clear hi); (try clear ho0)) | ((with_reducible refine gate_callee (f := 12) rfl ?_); refine goesL_ (some 45) rfl rfl Try.func12 (by kernel_rfl) rfl #[.int .i64 a1, .int .i64 0] rfl (by (try simp only [List.map_toArray, List.map_cons, List.map_nil]); first | done | rfl | (simp only [List.length_drop, List.length_take]; rfl)) ?_; (with_reducible refine (spec_DecimalOf.calls kj3 a1 0 t274 t275 t278 _ A23.out).mono ?_); rintro e w118 ⟨v276, rfl, ho0, hb⟩; refine ⟨_, rfl, ?_⟩; have n0_ := aM_ (Kd.R_elder' (by (with_reducible repeat (first | apply kA_ | apply kN_ | apply kD_)); exact HO_254001.out) (Kd.R_base ho0) hb); have n1_ := aM_ (Kd.R_elder' (by (with_reducible repeat (first | apply kA_ | apply kN_ | apply kD_)); exact HO261.out) (Kd.R_base ho0) hb); have n2_ := aM_ (Kd.R_elder' (by (with_reducible repeat (first | apply kA_ | apply kN_ | apply kD_)); exact HO266.out) (Kd.R_base ho0) hb); have n3_ := aM_ (Kd.R_elder' (by (with_reducible repeat (first | apply kA_ | apply kN_ | apply kD_)); exact HO272.out) (Kd.R_base ho0) hb); have n4_ := aM_ (Kd.R_lower (Kd.R_new' (Kd.R_new' (Kd.R_new' (Kd.R_new' ho0 (Kd.R_lt (by (with_reducible repeat (first | apply kA_ | apply kN_ | apply kD_)); exact HO_254001.out))) (Kd.R_lt (by (with_reducible repeat (first | apply kA_ | apply kN_ | apply kD_)); exact HO261.out))) (Kd.R_lt (by (with_reducible repeat (first | apply kA_ | apply kN_ | apply kD_)); exact HO266.out))) (Kd.R_lt (by (with_reducible repeat (first | apply kA_ | apply kN_ | apply kD_)); exact HO272.out))) (below_size (by repeat (first | (with_reducible first | exact HB.out | apply bB_ | apply wN_ | apply bE_ | refine bS_ ?_ GE246.out | refine bS_ ?_ GE253.out | refine bS_ ?_ GE257.out | refine bS_ ?_ GE268.out) | exact HB.out)))); have n5_ := aM_ (blk_below (g := gb246) (o := .cells #[.int .i64 a0_0, .int .i64 a0_1] 23 (0, 0)) (by (with_reducible repeat (first | refine bN_ ?_ _ | refine bD_ ?_ | refine bA_ ?_ _)); exact BK246.out) hb); have n6_ := aM_ (blk_below (g := gb253) (o := .cells #[.bool t247, .slice Ao11 t248.length co11, .int .i64 t251] 26 (0, 0)) (by (with_reducible repeat (first | refine bN_ ?_ _ | refine bD_ ?_ | refine bA_ ?_ _)); exact BK253.out) hb); have n7_ := aM_ (blk_below (g := gb257) (o := .cells #[.int .i64 t254, .int .i64 t255] 23 (0, 0)) (by (with_reducible repeat (first | refine bN_ ?_ _ | refine bD_ ?_ | refine bA_ ?_ _)); exact BK257.out) hb); have n8_ := aM_ (blk_below (g := gb268) (o := .cells #[.bool t263, .slice Ao112 t264.length co112, .int .i64 t267] 26 (0, 0)) (by (with_reducible repeat (first | refine bN_ ?_ _ | refine bD_ ?_ | refine bA_ ?_ _)); exact BK268.out) hb); have n9_ := aM_ (below_step (by repeat (first | (with_reducible first | exact HB.out | apply bB_ | apply wN_ | apply bE_ | refine bS_ ?_ GE246.out | refine bS_ ?_ GE253.out | refine bS_ ?_ GE257.out | refine bS_ ?_ GE268.out) | exact HB.out)) hb); clear HO_254001; clear HO261; clear HO266; clear HO272; clear BK246; clear BK253; clear BK257; clear BK268; clear HB; have HO_254001 := n0_; have HO261 := n1_; have HO266 := n2_; have HO272 := n3_; have HO277 := n4_; have BK246 := n5_; have BK253 := n6_; have BK257 := n7_; have BK268 := n8_; have HB := n9_; clear n0_ n1_ n2_ n3_ n4_ n5_ n6_ n7_ n8_ n9_; (try clear hb); (try clear hb2); (try clear hk); (try clear hi); (try clear ho0); obtain ⟨Ao119, co119, eo119⟩ := Kd.R_slice HO272.out; subst eo119; obtain ⟨Ao120, co120, eo120⟩ := Kd.R_slice HO277.out; subst eo120) | ((with_reducible refine gate_callee (f := 11) rfl ?_); refine goesL_ (some 46) rfl rfl Try.func11 (by kernel_rfl) rfl #[.agg #[.bool t269, .slice Ao119 t270.length co119, .int .i64 t273], .agg #[.bool t274, .slice Ao120 t275.length co120, .int .i64 t278]] rfl (by (try simp only [List.map_toArray, List.map_cons, List.map_nil]); first | done | rfl | (simp only [List.length_drop, List.length_take]; rfl)) ?_; (with_reducible refine (spec_DecimalTimes.calls kj3 t269 _ _ t270 t273 t274 _ _ t275 t278 t279 t280 t283 _ ?side1 ?side2 ?side3 ?side4 A24.out).mono ?_); (case side1 => repeat (first | exact (Kd.R_reads' HO272.out).2.2 | (with_reducible refine Kd.C_alloc ?_ _) | (with_reducible refine Kd.C_drewN ?_ _) | (with_reducible refine Kd.C_drew ?_))); (case side2 => exact (Kd.R_reads' HO272.out).2.1); (case side3 => repeat (first | exact (Kd.R_reads' HO277.out).2.2 | (with_reducible refine Kd.C_alloc ?_ _) | (with_reducible refine Kd.C_drewN ?_ _) | (with_reducible refine Kd.C_drew ?_))); (case side4 => exact (Kd.R_reads' HO277.out).2.1); rintro e w121 ⟨v281, rfl, ho0, hb⟩; refine ⟨_, rfl, ?_⟩; have n0_ := aM_ (Kd.R_elder' (by (with_reducible repeat (first | apply kA_ | apply kN_ | apply kD_)); exact HO_254001.out) (Kd.R_base ho0) hb); have n1_ := aM_ (Kd.R_elder' (by (with_reducible repeat (first | apply kA_ | apply kN_ | apply kD_)); exact HO261.out) (Kd.R_base ho0) hb); have n2_ := aM_ (Kd.R_elder' (by (with_reducible repeat (first | apply kA_ | apply kN_ | apply kD_)); exact HO266.out) (Kd.R_base ho0) hb); have n3_ := aM_ (Kd.R_elder' (by (with_reducible repeat (first | apply kA_ | apply kN_ | apply kD_)); exact HO272.out) (Kd.R_base ho0) hb); have n4_ := aM_ (Kd.R_elder' (by (with_reducible repeat (first | apply kA_ | apply kN_ | apply kD_)); exact HO277.out) (Kd.R_base ho0) hb); have n5_ := aM_ (Kd.R_lower (Kd.R_new' (Kd.R_new' (Kd.R_new' (Kd.R_new' (Kd.R_new' ho0 (Kd.R_lt (by (with_reducible repeat (first | apply kA_ | apply kN_ | apply kD_)); exact HO_254001.out))) (Kd.R_lt (by (with_reducible repeat (first | apply kA_ | apply kN_ | apply kD_)); exact HO261.out))) (Kd.R_lt (by (with_reducible repeat (first | apply kA_ | apply kN_ | apply kD_)); exact HO266.out))) (Kd.R_lt (by (with_reducible repeat (first | apply kA_ | apply kN_ | apply kD_)); exact HO272.out))) (Kd.R_lt (by (with_reducible repeat (first | apply kA_ | apply kN_ | apply kD_)); exact HO277.out))) (below_size (by repeat (first | (with_reducible first | exact HB.out | apply bB_ | apply wN_ | apply bE_ | refine bS_ ?_ GE246.out | refine bS_ ?_ GE253.out | refine bS_ ?_ GE257.out | refine bS_ ?_ GE268.out) | exact HB.out)))); have n6_ := aM_ (blk_below (g := gb246) (o := .cells #[.int .i64 a0_0, .int .i64 a0_1] 23 (0, 0)) (by (with_reducible repeat (first | refine bN_ ?_ _ | refine bD_ ?_ | refine bA_ ?_ _)); exact BK246.out) hb); have n7_ := aM_ (blk_below (g := gb253) (o := .cells #[.bool t247, .slice Ao11 t248.length co11, .int .i64 t251] 26 (0, 0)) (by (with_reducible repeat (first | refine bN_ ?_ _ | refine bD_ ?_ | refine bA_ ?_ _)); exact BK253.out) hb); have n8_ := aM_ (blk_below (g := gb257) (o := .cells #[.int .i64 t254, .int .i64 t255] 23 (0, 0)) (by (with_reducible repeat (first | refine bN_ ?_ _ | refine bD_ ?_ | refine bA_ ?_ _)); exact BK257.out) hb); have n9_ := aM_ (blk_below (g := gb268) (o := .cells #[.bool t263, .slice Ao112 t264.length co112, .int .i64 t267] 26 (0, 0)) (by (with_reducible repeat (first | refine bN_ ?_ _ | refine bD_ ?_ | refine bA_ ?_ _)); exact BK268.out) hb); have n10_ := aM_ (below_step (by repeat (first | (with_reducible first | exact HB.out | apply bB_ | apply wN_ | apply bE_ | refine bS_ ?_ GE246.out | refine bS_ ?_ GE253.out | refine bS_ ?_ GE257.out | refine bS_ ?_ GE268.out) | exact HB.out)) hb); clear HO_254001; clear HO261; clear HO266; clear HO272; clear HO277; clear BK246; clear BK253; clear BK257; clear BK268; clear HB; have HO_254001 := n0_; have HO261 := n1_; have HO266 := n2_; have HO272 := n3_; have HO277 := n4_; have HO282 := n5_; have BK246 := n6_; have BK253 := n7_; have BK257 := n8_; have BK268 := n9_; have HB := n10_; clear n0_ n1_ n2_ n3_ n4_ n5_ n6_ n7_ n8_ n9_ n10_; (try clear hb); (try clear hb2); (try clear hk); (try clear hi); (try clear ho0); obtain ⟨Ao122, co122, eo122⟩ := Kd.R_slice HO282.out; subst eo122) | ((with_reducible refine gate_callee (f := 10) rfl ?_); refine goesL_ (some 47) rfl rfl Try.func10 (by kernel_rfl) rfl #[.agg #[.bool t279, .slice Ao122 t280.length co122, .int .i64 t283]] rfl (by (try simp only [List.map_toArray, List.map_cons, List.map_nil]); first | done | rfl | (simp only [List.length_drop, List.length_take]; rfl)) ?_; (with_reducible refine (spec_DecimalInt.calls kj3 t279 _ _ t280 t283 t284 t285 _ ?side1 ?side2 A25.out).mono ?_); (case side1 => repeat (first | exact (Kd.R_reads' HO282.out).2.2 | (with_reducible refine Kd.C_alloc ?_ _) | (with_reducible refine Kd.C_drewN ?_ _) | (with_reducible refine Kd.C_drew ?_))); (case side2 => exact (Kd.R_reads' HO282.out).2.1); rintro e w123 ⟨rfl, hb⟩; refine ⟨_, rfl, ?_⟩; have n0_ := aM_ (Kd.R_below (by (with_reducible repeat (first | apply kA_ | apply kN_ | apply kD_)); exact HO_254001.out) hb); have n1_ := aM_ (Kd.R_below (by (with_reducible repeat (first | apply kA_ | apply kN_ | apply kD_)); exact HO261.out) hb); have n2_ := aM_ (Kd.R_below (by (with_reducible repeat (first | apply kA_ | apply kN_ | apply kD_)); exact HO266.out) hb); have n3_ := aM_ (Kd.R_below (by (with_reducible repeat (first | apply kA_ | apply kN_ | apply kD_)); exact HO272.out) hb); have n4_ := aM_ (Kd.R_below (by (with_reducible repeat (first | apply kA_ | apply kN_ | apply kD_)); exact HO277.out) hb); have n5_ := aM_ (Kd.R_below (by (with_reducible repeat (first | apply kA_ | apply kN_ | apply kD_)); exact HO282.out) hb); have n6_ := aM_ (blk_below (g := gb246) (o := .cells #[.int .i64 a0_0, .int .i64 a0_1] 23 (0, 0)) (by (with_reducible repeat (first | refine bN_ ?_ _ | refine bD_ ?_ | refine bA_ ?_ _)); exact BK246.out) hb); have n7_ := aM_ (blk_below (g := gb253) (o := .cells #[.bool t247, .slice Ao11 t248.length co11, .int .i64 t251] 26 (0, 0)) (by (with_reducible repeat (first | refine bN_ ?_ _ | refine bD_ ?_ | refine bA_ ?_ _)); exact BK253.out) hb); have n8_ := aM_ (blk_below (g := gb257) (o := .cells #[.int .i64 t254, .int .i64 t255] 23 (0, 0)) (by (with_reducible repeat (first | refine bN_ ?_ _ | refine bD_ ?_ | refine bA_ ?_ _)); exact BK257.out) hb); have n9_ := aM_ (blk_below (g := gb268) (o := .cells #[.bool t263, .slice Ao112 t264.length co112, .int .i64 t267] 26 (0, 0)) (by (with_reducible repeat (first | refine bN_ ?_ _ | refine bD_ ?_ | refine bA_ ?_ _)); exact BK268.out) hb); have n10_ := aM_ (below_step (by repeat (first | (with_reducible first | exact HB.out | apply bB_ | apply wN_ | apply bE_ | refine bS_ ?_ GE246.out | refine bS_ ?_ GE253.out | refine bS_ ?_ GE257.out | refine bS_ ?_ GE268.out) | exact HB.out)) hb); clear HO_254001; clear HO261; clear HO266; clear HO272; clear HO277; clear HO282; clear BK246; clear BK253; clear BK257; clear BK268; clear HB; have HO_254001 := n0_; have HO261 := n1_; have HO266 := n2_; have HO272 := n3_; have HO277 := n4_; have HO282 := n5_; have BK246 := n6_; have BK253 := n7_; have BK257 := n8_; have BK268 := n9_; have HB := n10_; clear n0_ n1_ n2_ n3_ n4_ n5_ n6_ n7_ n8_ n9_ n10_; (try clear hb); (try clear hb2); (try clear hk); (try clear hi); have hnb124 := NB268_253.out; have hnc124 := NB253_268.out; have hnb125 := NB268_257.out; have hnc125 := NB257_268.out; have hcz126_0 : w123.cell? ⟨gb268, 0, none⟩ = some (.bool t263) := (bC_ BK268.out 0).trans rfl; have hcz126_1 : w123.cell? ⟨gb268, 1, none⟩ = some (.slice Ao112 t264.length co112) := (bC_ BK268.out 1).trans rfl; have hcz126_2 : w123.cell? ⟨gb268, 2, none⟩ = some (.int .i64 t267) := (bC_ BK268.out 2).trans rfl; have hfz126_0 := bF_ BK268.out 0; have hfz126_1 := bF_ BK268.out 1; have hfz126_2 := bF_ BK268.out 2) | ((with_reducible refine gate_callee (f := 10) rfl ?_); refine goesL_ (some 59) rfl rfl Try.func10 (by kernel_rfl) rfl #[.agg #[.bool t263, .slice Ao112 t264.length co112, .int .i64 t267]] rfl (by (try simp only [List.map_toArray, List.map_cons, List.map_nil]); first | done | rfl | (simp only [List.length_drop, List.length_take]; rfl)) ?_; (with_reducible refine (spec_DecimalInt.calls kj3 t263 _ _ t264 t267 t288 t289 _ ?side1 ?side2 A95.out).mono ?_); (case side1 => repeat (first | exact (Kd.R_reads' HO266.out).2.2 | (with_reducible refine Kd.C_alloc ?_ _) | (with_reducible refine Kd.C_drewN ?_ _) | (with_reducible refine Kd.C_drew ?_))); (case side2 => exact (Kd.R_reads' HO266.out).2.1); rintro e w127 ⟨rfl, hb⟩; refine ⟨_, rfl, ?_⟩; have n0_ := aM_ (Kd.R_below (by (with_reducible repeat (first | apply kA_ | apply kN_ | apply kD_)); exact HO_254001.out) hb); have n1_ := aM_ (Kd.R_below (by (with_reducible repeat (first | apply kA_ | apply kN_ | apply kD_)); exact HO261.out) hb); have n2_ := aM_ (Kd.R_below (by (with_reducible repeat (first | apply kA_ | apply kN_ | apply kD_)); exact HO266.out) hb); have n3_ := aM_ (Kd.R_below (by (with_reducible repeat (first | apply kA_ | apply kN_ | apply kD_)); exact HO272.out) hb); have n4_ := aM_ (Kd.R_below (by (with_reducible repeat (first | apply kA_ | apply kN_ | apply kD_)); exact HO277.out) hb); have n5_ := aM_ (Kd.R_below (by (with_reducible repeat (first | apply kA_ | apply kN_ | apply kD_)); exact HO282.out) hb); have n6_ := aM_ (blk_below (g := gb246) (o := .cells #[.int .i64 a0_0, .int .i64 a0_1] 23 (0, 0)) (by (with_reducible repeat (first | refine bN_ ?_ _ | refine bD_ ?_ | refine bA_ ?_ _)); exact BK246.out) hb); have n7_ := aM_ (blk_below (g := gb253) (o := .cells #[.bool t247, .slice Ao11 t248.length co11, .int .i64 t251] 26 (0, 0)) (by (with_reducible repeat (first | refine bN_ ?_ _ | refine bD_ ?_ | refine bA_ ?_ _)); exact BK253.out) hb); have n8_ := aM_ (blk_below (g := gb257) (o := .cells #[.int .i64 t254, .int .i64 t255] 23 (0, 0)) (by (with_reducible repeat (first | refine bN_ ?_ _ | refine bD_ ?_ | refine bA_ ?_ _)); exact BK257.out) hb); have n9_ := aM_ (blk_below (g := gb268) (o := .cells #[.bool t263, .slice Ao112 t264.length co112, .int .i64 t267] 26 (0, 0)) (by (with_reducible repeat (first | refine bN_ ?_ _ | refine bD_ ?_ | refine bA_ ?_ _)); exact BK268.out) hb); have n10_ := aM_ (below_step (by repeat (first | (with_reducible first | exact HB.out | apply bB_ | apply wN_ | apply bE_ | refine bS_ ?_ GE246.out | refine bS_ ?_ GE253.out | refine bS_ ?_ GE257.out | refine bS_ ?_ GE268.out) | exact HB.out)) hb); clear HO_254001; clear HO261; clear HO266; clear HO272; clear HO277; clear HO282; clear BK246; clear BK253; clear BK257; clear BK268; clear HB; have HO_254001 := n0_; have HO261 := n1_; have HO266 := n2_; have HO272 := n3_; have HO277 := n4_; have HO282 := n5_; have BK246 := n6_; have BK253 := n7_; have BK257 := n8_; have BK268 := n9_; have HB := n10_; clear n0_ n1_ n2_ n3_ n4_ n5_ n6_ n7_ n8_ n9_ n10_; (try clear hb); (try clear hb2); (try clear hk); (try clear hi)))
     (try simp only [Act.put, List.setIfInBounds_toArray, List.set_cons_zero, List.set_cons_succ])
     go_cut [4] (fun v4 wc => ∃ (kq : Nat) (x4_95 : Bool), v4 = .bool x4_95 ∧ Aside0 (laws_FnAmountMul.j1 kq x4_95 = some r) ∧ Aside0 (kq ≤ kj3) ∧ Aside0 (Kd.R (Kd.int .i64) 3 wc w.heap.size (fun k_ => some k_ ≠ ((.slice Ao112 t264.length co112) : Value).ownBlock) (.slice Ao11 t248.length co11) t248) ∧ Aside0 (Kd.R (Kd.int .i64) 3 wc w.heap.size (fun k_ => some k_ ≠ ((.slice Ao11 t248.length co11) : Value).ownBlock) (.slice Ao112 t264.length co112) t264) ∧ Aside0 (wc.heap[gb246]? = some (.cells #[.int .i64 a0_0, .int .i64 a0_1] 23 (0, 0))) ∧ Aside0 (wc.heap[gb253]? = some (.cells #[.bool t247, (.slice Ao11 t248.length co11), .int .i64 t251] 26 (0, 0))) ∧ Aside0 (wc.heap[gb257]? = some (.cells #[.int .i64 t254, .int .i64 t255] 23 (0, 0))) ∧ Aside0 (wc.heap[gb268]? = some (.cells #[.bool t263, (.slice Ao112 t264.length co112), .int .i64 t267] 26 (0, 0))) ∧ Aside0 (Below w.heap.size w wc))
     case first =>
      have H := HC96.out
      clear HC96
      by_cases c128 : t285 = true
      ·
       subst c128
       have H1 : (if t289 = true then (laws_FnAmountMul.j1 kj3 false) else ((laws_amountAwake.f kj3).bind fun t290 => (laws_FnAmountMul.j1 kj3 t290))) = some r := by rw [if_pos rfl] at H; exact H
       clear H
       have H := H1
       clear H1
       by_cases c129 : t289 = true
       ·
        subst c129
        have H1 : (laws_FnAmountMul.j1 kj3 false) = some r := by rw [if_pos rfl] at H; exact H
        clear H
        have H := H1
        clear H1
        have H' := aM_ H
        clear H
        go_wp2
        go_meet
        case rel => exact ⟨_, (false), (by first | rfl | (simp; done) | (simp [*]; done)), H', ⟨by have := HJ3.out; first | omega | exact Nat.le_refl _⟩, ⟨by (with_reducible repeat (first | apply kA_ | apply kN_ | apply kD_)); exact Kd.R_mono HO_254001.out (fun _ hk => hk.1.1.1.2)⟩, ⟨by (with_reducible repeat (first | apply kA_ | apply kN_ | apply kD_)); exact Kd.R_mono HO266.out (fun _ hk => hk.1.1.1.2)⟩, ⟨by (with_reducible repeat (first | refine bN_ ?_ _ | refine bD_ ?_ | refine bA_ ?_ _)); exact BK246.out⟩, ⟨by (with_reducible repeat (first | refine bN_ ?_ _ | refine bD_ ?_ | refine bA_ ?_ _)); exact BK253.out⟩, ⟨by (with_reducible repeat (first | refine bN_ ?_ _ | refine bD_ ?_ | refine bA_ ?_ _)); exact BK257.out⟩, ⟨by (with_reducible repeat (first | refine bN_ ?_ _ | refine bD_ ?_ | refine bA_ ?_ _)); exact BK268.out⟩, ⟨by repeat (first | (with_reducible first | exact HB.out | apply bB_ | apply wN_ | apply bE_ | refine bS_ ?_ GE246.out | refine bS_ ?_ GE253.out | refine bS_ ?_ GE257.out | refine bS_ ?_ GE268.out) | exact HB.out)⟩⟩
       ·
        replace c129 := Bool.eq_false_iff.mpr c129
        subst c129
        have H1 : ((laws_amountAwake.f kj3).bind fun t290 => (laws_FnAmountMul.j1 kj3 t290)) = some r := by rw [if_neg (show ¬ (false = true) by decide)] at H; exact H
        clear H
        have H := H1
        clear H1
        replace H := Option.bind_eq_some_iff.mp H
        obtain ⟨t290, A1300, H⟩ := H
        replace H : (laws_FnAmountMul.j1 kj3 t290) = some r := H
        have A130 := aM_ A1300
        clear A1300
        have H' := aM_ H
        clear H
        go_wp2_with (first | (go_at_call 13; (with_reducible refine (laws_amountAwake.calls kj3  t290 _ A130.out).mono ?_); rintro e w131 ⟨rfl, hb⟩; have n0_ := aM_ (Kd.R_below (by (with_reducible repeat (first | apply kA_ | apply kN_ | apply kD_)); exact HO_254001.out) hb); have n1_ := aM_ (Kd.R_below (by (with_reducible repeat (first | apply kA_ | apply kN_ | apply kD_)); exact HO261.out) hb); have n2_ := aM_ (Kd.R_below (by (with_reducible repeat (first | apply kA_ | apply kN_ | apply kD_)); exact HO266.out) hb); have n3_ := aM_ (Kd.R_below (by (with_reducible repeat (first | apply kA_ | apply kN_ | apply kD_)); exact HO272.out) hb); have n4_ := aM_ (Kd.R_below (by (with_reducible repeat (first | apply kA_ | apply kN_ | apply kD_)); exact HO277.out) hb); have n5_ := aM_ (Kd.R_below (by (with_reducible repeat (first | apply kA_ | apply kN_ | apply kD_)); exact HO282.out) hb); have n6_ := aM_ (blk_below (g := gb246) (o := .cells #[.int .i64 a0_0, .int .i64 a0_1] 23 (0, 0)) (by (with_reducible repeat (first | refine bN_ ?_ _ | refine bD_ ?_ | refine bA_ ?_ _)); exact BK246.out) hb); have n7_ := aM_ (blk_below (g := gb253) (o := .cells #[.bool t247, .slice Ao11 t248.length co11, .int .i64 t251] 26 (0, 0)) (by (with_reducible repeat (first | refine bN_ ?_ _ | refine bD_ ?_ | refine bA_ ?_ _)); exact BK253.out) hb); have n8_ := aM_ (blk_below (g := gb257) (o := .cells #[.int .i64 t254, .int .i64 t255] 23 (0, 0)) (by (with_reducible repeat (first | refine bN_ ?_ _ | refine bD_ ?_ | refine bA_ ?_ _)); exact BK257.out) hb); have n9_ := aM_ (blk_below (g := gb268) (o := .cells #[.bool t263, .slice Ao112 t264.length co112, .int .i64 t267] 26 (0, 0)) (by (with_reducible repeat (first | refine bN_ ?_ _ | refine bD_ ?_ | refine bA_ ?_ _)); exact BK268.out) hb); have n10_ := aM_ (below_step (by repeat (first | (with_reducible first | exact HB.out | apply bB_ | apply wN_ | apply bE_ | refine bS_ ?_ GE246.out | refine bS_ ?_ GE253.out | refine bS_ ?_ GE257.out | refine bS_ ?_ GE268.out) | exact HB.out)) hb); clear HO_254001; clear HO261; clear HO266; clear HO272; clear HO277; clear HO282; clear BK246; clear BK253; clear BK257; clear BK268; clear HB; have HO_254001 := n0_; have HO261 := n1_; have HO266 := n2_; have HO272 := n3_; have HO277 := n4_; have HO282 := n5_; have BK246 := n6_; have BK253 := n7_; have BK257 := n8_; have BK268 := n9_; have HB := n10_; clear n0_ n1_ n2_ n3_ n4_ n5_ n6_ n7_ n8_ n9_ n10_; (try clear hb); (try clear hb2); (try clear hk); (try clear hi)))
        go_meet
        case rel => exact ⟨_, (t290), (by first | rfl | (simp; done) | (simp [*]; done)), H', ⟨by have := HJ3.out; first | omega | exact Nat.le_refl _⟩, ⟨by (with_reducible repeat (first | apply kA_ | apply kN_ | apply kD_)); exact Kd.R_mono HO_254001.out (fun _ hk => hk.1.1.1.2)⟩, ⟨by (with_reducible repeat (first | apply kA_ | apply kN_ | apply kD_)); exact Kd.R_mono HO266.out (fun _ hk => hk.1.1.1.2)⟩, ⟨by (with_reducible repeat (first | refine bN_ ?_ _ | refine bD_ ?_ | refine bA_ ?_ _)); exact BK246.out⟩, ⟨by (with_reducible repeat (first | refine bN_ ?_ _ | refine bD_ ?_ | refine bA_ ?_ _)); exact BK253.out⟩, ⟨by (with_reducible repeat (first | refine bN_ ?_ _ | refine bD_ ?_ | refine bA_ ?_ _)); exact BK257.out⟩, ⟨by (with_reducible repeat (first | refine bN_ ?_ _ | refine bD_ ?_ | refine bA_ ?_ _)); exact BK268.out⟩, ⟨by repeat (first | (with_reducible first | exact HB.out | apply bB_ | apply wN_ | apply bE_ | refine bS_ ?_ GE246.out | refine bS_ ?_ GE253.out | refine bS_ ?_ GE257.out | refine bS_ ?_ GE268.out) | exact HB.out)⟩⟩
      ·
       replace c128 := Bool.eq_false_iff.mpr c128
       subst c128
       have H1 : ((laws_amountAwake.f kj3).bind fun t291 => (laws_FnAmountMul.j1 kj3 t291)) = some r := by rw [if_neg (show ¬ (false = true) by decide)] at H; exact H
       clear H
       have H := H1
       clear H1
       replace H := Option.bind_eq_some_iff.mp H
       obtain ⟨t291, A1320, H⟩ := H
       replace H : (laws_FnAmountMul.j1 kj3 t291) = some r := H
       have A132 := aM_ A1320
       clear A1320
       have H' := aM_ H
       clear H
       go_wp2_with (first | (go_at_call 13; (with_reducible refine (laws_amountAwake.calls kj3  t291 _ A132.out).mono ?_); rintro e w133 ⟨rfl, hb⟩; have n0_ := aM_ (Kd.R_below (by (with_reducible repeat (first | apply kA_ | apply kN_ | apply kD_)); exact HO_254001.out) hb); have n1_ := aM_ (Kd.R_below (by (with_reducible repeat (first | apply kA_ | apply kN_ | apply kD_)); exact HO261.out) hb); have n2_ := aM_ (Kd.R_below (by (with_reducible repeat (first | apply kA_ | apply kN_ | apply kD_)); exact HO266.out) hb); have n3_ := aM_ (Kd.R_below (by (with_reducible repeat (first | apply kA_ | apply kN_ | apply kD_)); exact HO272.out) hb); have n4_ := aM_ (Kd.R_below (by (with_reducible repeat (first | apply kA_ | apply kN_ | apply kD_)); exact HO277.out) hb); have n5_ := aM_ (Kd.R_below (by (with_reducible repeat (first | apply kA_ | apply kN_ | apply kD_)); exact HO282.out) hb); have n6_ := aM_ (blk_below (g := gb246) (o := .cells #[.int .i64 a0_0, .int .i64 a0_1] 23 (0, 0)) (by (with_reducible repeat (first | refine bN_ ?_ _ | refine bD_ ?_ | refine bA_ ?_ _)); exact BK246.out) hb); have n7_ := aM_ (blk_below (g := gb253) (o := .cells #[.bool t247, .slice Ao11 t248.length co11, .int .i64 t251] 26 (0, 0)) (by (with_reducible repeat (first | refine bN_ ?_ _ | refine bD_ ?_ | refine bA_ ?_ _)); exact BK253.out) hb); have n8_ := aM_ (blk_below (g := gb257) (o := .cells #[.int .i64 t254, .int .i64 t255] 23 (0, 0)) (by (with_reducible repeat (first | refine bN_ ?_ _ | refine bD_ ?_ | refine bA_ ?_ _)); exact BK257.out) hb); have n9_ := aM_ (blk_below (g := gb268) (o := .cells #[.bool t263, .slice Ao112 t264.length co112, .int .i64 t267] 26 (0, 0)) (by (with_reducible repeat (first | refine bN_ ?_ _ | refine bD_ ?_ | refine bA_ ?_ _)); exact BK268.out) hb); have n10_ := aM_ (below_step (by repeat (first | (with_reducible first | exact HB.out | apply bB_ | apply wN_ | apply bE_ | refine bS_ ?_ GE246.out | refine bS_ ?_ GE253.out | refine bS_ ?_ GE257.out | refine bS_ ?_ GE268.out) | exact HB.out)) hb); clear HO_254001; clear HO261; clear HO266; clear HO272; clear HO277; clear HO282; clear BK246; clear BK253; clear BK257; clear BK268; clear HB; have HO_254001 := n0_; have HO261 := n1_; have HO266 := n2_; have HO272 := n3_; have HO277 := n4_; have HO282 := n5_; have BK246 := n6_; have BK253 := n7_; have BK257 := n8_; have BK268 := n9_; have HB := n10_; clear n0_ n1_ n2_ n3_ n4_ n5_ n6_ n7_ n8_ n9_ n10_; (try clear hb); (try clear hb2); (try clear hk); (try clear hi)))
       go_meet
       case rel => exact ⟨_, (t291), (by first | rfl | (simp; done) | (simp [*]; done)), H', ⟨by have := HJ3.out; first | omega | exact Nat.le_refl _⟩, ⟨by (with_reducible repeat (first | apply kA_ | apply kN_ | apply kD_)); exact Kd.R_mono HO_254001.out (fun _ hk => hk.1.1.1.2)⟩, ⟨by (with_reducible repeat (first | apply kA_ | apply kN_ | apply kD_)); exact Kd.R_mono HO266.out (fun _ hk => hk.1.1.1.2)⟩, ⟨by (with_reducible repeat (first | refine bN_ ?_ _ | refine bD_ ?_ | refine bA_ ?_ _)); exact BK246.out⟩, ⟨by (with_reducible repeat (first | refine bN_ ?_ _ | refine bD_ ?_ | refine bA_ ?_ _)); exact BK253.out⟩, ⟨by (with_reducible repeat (first | refine bN_ ?_ _ | refine bD_ ?_ | refine bA_ ?_ _)); exact BK257.out⟩, ⟨by (with_reducible repeat (first | refine bN_ ?_ _ | refine bD_ ?_ | refine bA_ ?_ _)); exact BK268.out⟩, ⟨by repeat (first | (with_reducible first | exact HB.out | apply bB_ | apply wN_ | apply bE_ | refine bS_ ?_ GE246.out | refine bS_ ?_ GE253.out | refine bS_ ?_ GE257.out | refine bS_ ?_ GE268.out) | exact HB.out)⟩⟩
     case rest =>
      clear HC96
      try clear c1
      try clear c2
      try clear p2
      try clear c8
      try clear c9
      try clear c10
      try clear c11
      try clear c12
      try clear c17
      try clear c26
      try clear c81
      try clear c90
      try clear c92
      try clear c97
      try clear c101
      try clear c102
      try clear c115
      try clear c124
      try clear c125
      try clear c128
      try clear c129
      try clear hcz103_0
      try clear hcz103_1
      try clear hcz116_0
      try clear hcz116_1
      try clear hcz126_0
      try clear hcz126_1
      try clear hcz126_2
      try clear hcz82_0
      try clear hcz82_1
      try clear hcz91_0
      try clear hcz91_1
      try clear hcz93_0
      try clear hcz93_1
      try clear hcz93_2
      try clear hcz98_0
      try clear hcz98_1
      try clear hfz103_0
      try clear hfz103_1
      try clear hfz116_0
      try clear hfz116_1
      try clear hfz126_0
      try clear hfz126_1
      try clear hfz126_2
      try clear hfz82_0
      try clear hfz82_1
      try clear hfz91_0
      try clear hfz91_1
      try clear hfz93_0
      try clear hfz93_1
      try clear hfz93_2
      try clear hfz98_0
      try clear hfz98_1
      obtain ⟨kq, x4_95, rfl, HA, HJ95, HO_254001, HO_269001, BK246, BK253, BK257, BK268, HB⟩ := hcut
      cases kq with
      | zero => exact absurd HA.out (by simp [laws_FnAmountMul.j1])
      | succ kj95 =>
       have H := HA.out
       clear HA
       simp only [laws_FnAmountMul.j1] at H
       obtain rfl := Option.some.inj H
       go_wp2
       go_ret
       exact ⟨by first | rfl | (simp [errW_none, errW_some] <;> rfl) | (simp [*, errW_none, errW_some] <;> rfl) | (exfalso; contradiction), by repeat (first | (with_reducible first | exact HB.out | apply bB_ | apply wN_ | apply bE_ | refine bS_ ?_ GE246.out | refine bS_ ?_ GE253.out | refine bS_ ?_ GE257.out | refine bS_ ?_ GE268.out) | exact HB.out)⟩

/-- THE ONE PURE STATEMENT of laws_FnAmountMul: yours. -/
def laws_FnAmountMul.Pure : Prop := ∀ (a0_0 : Int) (a0_1 : Int) (a1 : Int), (Lit.int .i64 a0_0).wf = true → (Lit.int .i64 a0_1).wf = true → (Lit.int .i64 a1).wf = true → ∃ k, laws_FnAmountMul.f k a0_0 a0_1 a1 = some true
theorem laws_FnAmountMul.walk (P : laws_FnAmountMul.Pure) (a0_0 : Int) (a0_1 : Int) (a1 : Int) (w : World)  (w0_0 : (Lit.int .i64 a0_0).wf = true) (w0_1 : (Lit.int .i64 a0_1).wf = true) (w1 : (Lit.int .i64 a1).wf = true) :
  Calls Try.prog 5 #[.agg #[.int .i64 a0_0, .int .i64 a0_1], .int .i64 a1] w fun e w' => e = .returned (.bool true) ∧ Below w.heap.size w w' := by
 obtain ⟨k, h⟩ := P a0_0 a0_1 a1 w0_0 w0_1 w1
 refine (laws_FnAmountMul.calls k a0_0 a0_1 a1 true w h).mono ?_
 rintro e w' ⟨rfl, hd⟩
 exact ⟨rfl, hd⟩

end Go.Proofs.Ytdhooibmibkbeaa.PFnAmountMul
