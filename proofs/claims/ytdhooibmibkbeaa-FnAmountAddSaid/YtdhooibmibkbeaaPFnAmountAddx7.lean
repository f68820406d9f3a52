/- Functions of the program as plain Lean functions, and that the machine's calls do what these say: written for this claim by wip/myprint.py over the kit's print.py. -/
import Derived.Test.YtdhooibmibkbeaaPFnAmountAddx0
import Derived.Test.YtdhooibmibkbeaaPFnAmountAddx2
import Derived.Test.YtdhooibmibkbeaaPFnAmountAddx4
import Derived.Test.YtdhooibmibkbeaaPFnAmountAddx5
namespace Go.Proofs.Ytdhooibmibkbeaa.PFnAmountAdd
open Go.RowKit Go.Proofs.YtdhooibmibkbeaaW.PrintWords Go.Proofs.YtdhooibmibkbeaaW.PrintLast Go.Proofs.YtdhooibmibkbeaaW.PrintMore
attribute [local go_sem] max2_int min2_int max_two min_two max_three min_three max_four min_four   -- for this text's walks alone
set_option linter.unusedVariables false
set_option linter.unusedSimpArgs false

/-! ### spec_DecimalSign: function 26 -/
def spec_DecimalSign.f (a0_0 : Bool) (l0_1 : List Int) (a0_2 : Int) : Option (Int) := if (l0_1.length : Int) = 0 then (some 0) else (if a0_0 = true then (some (-1)) else (some 1))
set_option maxHeartbeats 8000000 in
set_option maxRecDepth 100000 in
theorem spec_DecimalSign.calls (a0_0 : Bool) (A0_1 : Option Addr) (c0_1 : Nat) (l0_1 : List Int) (a0_2 : Int) (r : Int) (w : World) (hr0_1 : Kd.C (Kd.int .i64) w A0_1 l0_1.length l0_1) (hc0_1 : l0_1.length ≤ c0_1) (h : spec_DecimalSign.f a0_0 l0_1 a0_2 = some r) :
  Calls Try.prog 26 #[.agg #[.bool a0_0, .slice A0_1 l0_1.length c0_1, .int .i64 a0_2]] w fun e w' => e = .returned (.int .i64 r) ∧ Below w.heap.size w w' := by
 have hu26 := Try.underlying26
 have HR0_1 := aM_ hr0_1
 have HC0_1 := aM_ hc0_1
 clear hr0_1 hc0_1
 have HB := aM_ (Below.refl w.heap.size w)
 have H : (if (l0_1.length : Int) = 0 then (some 0) else (if a0_0 = true then (some (-1)) else (some 1))) = some r := h
 clear h
 by_cases c2 : (l0_1.length : Int) = 0
 ·
  rw [if_pos c2] at H
  have c2b0 : ((l0_1.length : Int) == 0) = true := beq_iff_eq.mpr c2
  have c2b1 : ((l0_1.length : Int) != 0) = false := bne_eq_false_iff_eq.mpr c2
  clear c2
  obtain rfl := Option.some.inj H
  go_enter Try.func26, Try.ntmps26
  go_wp2_with (first | ((with_reducible refine gate_dst (N := 1) rfl ?_); refine box_event ?hg (N := 1) ?hd (cs := #[.bool a0_0, .slice A0_1 l0_1.length c0_1, .int .i64 a0_2]) (t := 26) ?hr ?_; (case hd => rfl); (case hg => rfl); (case hr => first | (go_simp; done) | (go_simp; rfl)); intro gb226 hg w3 hbox hb; have n0_ := aM_ (below_step (by repeat (first | (with_reducible first | exact HB.out | apply bB_ | apply wN_ | apply bE_) | exact HB.out)) hb); have n1_ := aM_ (hbox); have n2_ := aM_ ((by rw [hg]; exact (below_size (by repeat (first | (with_reducible first | exact HB.out | apply bB_ | apply wN_ | apply bE_) | exact HB.out))) : w.heap.size ≤ gb226)); have n3_ := aM_ ((by rw [hg]; exact (below_size (by repeat (first | (with_reducible first | exact HB.out | apply bB_ | apply wN_ | apply bE_) | exact HB.out))) : w.heap.size ≤ gb226)); clear HB; have HB := n0_; have BK226 := n1_; have GW226 := n2_; have GE226 := n3_; clear n0_ n1_ n2_ n3_; clear hb hbox hg; have hcz4_0 : w3.cell? ⟨gb226, 0, none⟩ = some (.bool a0_0) := (bC_ BK226.out 0).trans rfl; have hcz4_1 : w3.cell? ⟨gb226, 1, none⟩ = some (.slice A0_1 l0_1.length c0_1) := (bC_ BK226.out 1).trans rfl; have hcz4_2 : w3.cell? ⟨gb226, 2, none⟩ = some (.int .i64 a0_2) := (bC_ BK226.out 2).trans rfl; have hfz4_0 := bF_ BK226.out 0; have hfz4_1 := bF_ BK226.out 1; have hfz4_2 := bF_ BK226.out 2))
  go_ret
  exact ⟨by first | rfl | (simp [errW_none, errW_some] <;> rfl) | (simp [*, errW_none, errW_some] <;> rfl) | (exfalso; contradiction), by repeat (first | (with_reducible first | exact HB.out | apply bB_ | apply wN_ | apply bE_ | refine bS_ ?_ GE226.out) | exact HB.out)⟩
 ·
  rw [if_neg c2] at H
  have c2b0 : ((l0_1.length : Int) == 0) = false := beq_eq_false_iff_ne.mpr c2
  have c2b1 : ((l0_1.length : Int) != 0) = true := bne_iff_ne.mpr c2
  have c2b2 : ¬ (l0_1 = []) := fun h_ => c2 (by rw [h_]; rfl)
  by_cases c5 : a0_0 = true
  ·
   subst c5
   have H1 : (some (-1)) = some r := by rw [if_pos rfl] at H; exact H
   clear H
   have H := H1
   clear H1
   obtain rfl := Option.some.inj H
   go_enter Try.func26, Try.ntmps26
   go_wp2_with (first | ((with_reducible refine gate_dst (N := 1) rfl ?_); refine box_event ?hg (N := 1) ?hd (cs := #[.bool true, .slice A0_1 l0_1.length c0_1, .int .i64 a0_2]) (t := 26) ?hr ?_; (case hd => rfl); (case hg => rfl); (case hr => first | (go_simp; done) | (go_simp; rfl)); intro gb226 hg w6 hbox hb; have n0_ := aM_ (below_step (by repeat (first | (with_reducible first | exact HB.out | apply bB_ | apply wN_ | apply bE_) | exact HB.out)) hb); have n1_ := aM_ (hbox); have n2_ := aM_ ((by rw [hg]; exact (below_size (by repeat (first | (with_reducible first | exact HB.out | apply bB_ | apply wN_ | apply bE_) | exact HB.out))) : w.heap.size ≤ gb226)); have n3_ := aM_ ((by rw [hg]; exact (below_size (by repeat (first | (with_reducible first | exact HB.out | apply bB_ | apply wN_ | apply bE_) | exact HB.out))) : w.heap.size ≤ gb226)); clear HB; have HB := n0_; have BK226 := n1_; have GW226 := n2_; have GE226 := n3_; clear n0_ n1_ n2_ n3_; clear hb hbox hg; have hcz7_0 : w6.cell? ⟨gb226, 0, none⟩ = some (.bool true) := (bC_ BK226.out 0).trans rfl; have hcz7_1 : w6.cell? ⟨gb226, 1, none⟩ = some (.slice A0_1 l0_1.length c0_1) := (bC_ BK226.out 1).trans rfl; have hcz7_2 : w6.cell? ⟨gb226, 2, none⟩ = some (.int .i64 a0_2) := (bC_ BK226.out 2).trans rfl; have hfz7_0 := bF_ BK226.out 0; have hfz7_1 := bF_ BK226.out 1; have hfz7_2 := bF_ BK226.out 2))
   go_ret
   exact ⟨by first | rfl | (simp [errW_none, errW_some] <;> rfl) | (simp [*, errW_none, errW_some] <;> rfl) | (exfalso; contradiction), by repeat (first | (with_reducible first | exact HB.out | apply bB_ | apply wN_ | apply bE_ | refine bS_ ?_ GE226.out) | exact HB.out)⟩
  ·
   replace c5 := Bool.eq_false_iff.mpr c5
   subst c5
   have H1 : (some 1) = some r := by rw [if_neg (show ¬ (false = true) by decide)] at H; exact H
   clear H
   have H := H1
   clear H1
   obtain rfl := Option.some.inj H
   go_enter Try.func26, Try.ntmps26
   go_wp2_with (first | ((with_reducible refine gate_dst (N := 1) rfl ?_); refine box_event ?hg (N := 1) ?hd (cs := #[.bool false, .slice A0_1 l0_1.length c0_1, .int .i64 a0_2]) (t := 26) ?hr ?_; (case hd => rfl); (case hg => rfl); (case hr => first | (go_simp; done) | (go_simp; rfl)); intro gb226 hg w8 hbox hb; have n0_ := aM_ (below_step (by repeat (first | (with_reducible first | exact HB.out | apply bB_ | apply wN_ | apply bE_) | exact HB.out)) hb); have n1_ := aM_ (hbox); have n2_ := aM_ ((by rw [hg]; exact (below_size (by repeat (first | (with_reducible first | exact HB.out | apply bB_ | apply wN_ | apply bE_) | exact HB.out))) : w.heap.size ≤ gb226)); have n3_ := aM_ ((by rw [hg]; exact (below_size (by repeat (first | (with_reducible first | exact HB.out | apply bB_ | apply wN_ | apply bE_) | exact HB.out))) : w.heap.size ≤ gb226)); clear HB; have HB := n0_; have BK226 := n1_; have GW226 := n2_; have GE226 := n3_; clear n0_ n1_ n2_ n3_; clear hb hbox hg; have hcz9_0 : w8.cell? ⟨gb226, 0, none⟩ = some (.bool false) := (bC_ BK226.out 0).trans rfl; have hcz9_1 : w8.cell? ⟨gb226, 1, none⟩ = some (.slice A0_1 l0_1.length c0_1) := (bC_ BK226.out 1).trans rfl; have hcz9_2 : w8.cell? ⟨gb226, 2, none⟩ = some (.int .i64 a0_2) := (bC_ BK226.out 2).trans rfl; have hfz9_0 := bF_ BK226.out 0; have hfz9_1 := bF_ BK226.out 1; have hfz9_2 := bF_ BK226.out 2))
   go_ret
   exact ⟨by first | rfl | (simp [errW_none, errW_some] <;> rfl) | (simp [*, errW_none, errW_some] <;> rfl) | (exfalso; contradiction), by repeat (first | (with_reducible first | exact HB.out | apply bB_ | apply wN_ | apply bE_ | refine bS_ ?_ GE226.out) | exact HB.out)⟩

/-! ### spec_DecimalCmp: function 16 -/
def spec_DecimalCmp.j0 : Nat → Int → Int → Bool → Bool → List Int → Int → Bool → List Int → Int → Option (Int)
 | 0, _, _, _, _, _, _, _, _, _ => none
 | k + 1, x5, x6, x11, x228000, x228001, x228002, x229000, x229001, x229002 => if x11 = true then (some (-1)) else (if x5 = x6 then (if x5 < 0 then ((spec_larger.f k x228000 x228001 x228002 x229000 x229001 x229002).bind fun t231 => (some (wrap64 (-t231)))) else (if x5 > 0 then ((spec_larger.f k x228000 x228001 x228002 x229000 x229001 x229002).bind fun t232 => (some t232)) else (some 0))) else (some 1))
def spec_DecimalCmp.f (k : Nat) (a0_0 : Bool) (l0_1 : List Int) (a0_2 : Int) (a1_0 : Bool) (l1_1 : List Int) (a1_2 : Int) : Option (Int) := (spec_DecimalSign.f a0_0 l0_1 a0_2).bind fun t229 => ((spec_DecimalSign.f a1_0 l1_1 a1_2).bind fun t230 => (if t229 = t230 then (spec_DecimalCmp.j0 k t229 t230 false a0_0 l0_1 a0_2 a1_0 l1_1 a1_2) else (spec_DecimalCmp.j0 k t229 t230 (decide (t229 < t230)) a0_0 l0_1 a0_2 a1_0 l1_1 a1_2)))
theorem spec_DecimalCmp.mono_l : ∀ k, (∀ y0 y1 y2 y3 y4 y5 y6 y7 y8, LeO (spec_DecimalCmp.j0 k y0 y1 y2 y3 y4 y5 y6 y7 y8) (spec_DecimalCmp.j0 (k + 1) y0 y1 y2 y3 y4 y5 y6 y7 y8))
 | 0 => fun _ _ _ _ _ _ _ _ _ r h => by simp [spec_DecimalCmp.j0] at h
 | k + 1 => by
  have ih0 := spec_DecimalCmp.mono_l k
  ·
   intro y0 y1 y2 y3 y4 y5 y6 y7 y8
   unfold spec_DecimalCmp.j0
   repeat' first
   | (with_reducible exact ih0 _ _ _ _ _ _ _ _ _)
   | (with_reducible exact spec_larger.mono _ _ _ _ _ _ _)
   | (with_reducible exact LeO.refl _)
   | (with_reducible exact LeO.none _)
   | (with_reducible refine LeO.ite ?_ ?_)
   | (with_reducible refine LeO.bind ?_ (fun _ => ?_))
   | exact ih0 _ _ _ _ _ _ _ _ _
   | exact spec_larger.mono _ _ _ _ _ _ _
   | exact LeO.none _
   | refine LeO.ite ?_ ?_
   | refine LeO.bind ?_ (fun _ => ?_)
theorem spec_DecimalCmp.mono : ∀ a0 a1 a2 a3 a4 a5 k, LeO (spec_DecimalCmp.f k a0 a1 a2 a3 a4 a5) (spec_DecimalCmp.f (k + 1) a0 a1 a2 a3 a4 a5) := by
 intro a0 a1 a2 a3 a4 a5 k
 have ih0 := spec_DecimalCmp.mono_l k
 unfold spec_DecimalCmp.f
 repeat' first
   | (with_reducible exact ih0 _ _ _ _ _ _ _ _ _)
   | (with_reducible exact spec_larger.mono _ _ _ _ _ _ _)
   | (with_reducible exact LeO.refl _)
   | (with_reducible exact LeO.none _)
   | (with_reducible refine LeO.ite ?_ ?_)
   | (with_reducible refine LeO.bind ?_ (fun _ => ?_))
   | exact ih0 _ _ _ _ _ _ _ _ _
   | exact spec_larger.mono _ _ _ _ _ _ _
   | exact LeO.none _
   | refine LeO.ite ?_ ?_
   | refine LeO.bind ?_ (fun _ => ?_)
set_option maxHeartbeats 8000000 in
set_option maxRecDepth 100000 in
theorem spec_DecimalCmp.calls (k : Nat) (a0_0 : Bool) (A0_1 : Option Addr) (c0_1 : Nat) (l0_1 : List Int) (a0_2 : Int) (a1_0 : Bool) (A1_1 : Option Addr) (c1_1 : Nat) (l1_1 : List Int) (a1_2 : Int) (r : Int) (w : World) (hr0_1 : Kd.C (Kd.int .i64) w A0_1 l0_1.length l0_1) (hc0_1 : l0_1.length ≤ c0_1) (hr1_1 : Kd.C (Kd.int .i64) w A1_1 l1_1.length l1_1) (hc1_1 : l1_1.length ≤ c1_1) (h : spec_DecimalCmp.f k a0_0 l0_1 a0_2 a1_0 l1_1 a1_2 = some r) :
  Calls Try.prog 16 #[.agg #[.bool a0_0, .slice A0_1 l0_1.length c0_1, .int .i64 a0_2], .agg #[.bool a1_0, .slice A1_1 l1_1.length c1_1, .int .i64 a1_2]] w fun e w' => e = .returned (.int .i64 r) ∧ Below w.heap.size w w' := by
 have hu26 := Try.underlying26
 have HR0_1 := aM_ hr0_1
 have HC0_1 := aM_ hc0_1
 clear hr0_1 hc0_1
 have HR1_1 := aM_ hr1_1
 have HC1_1 := aM_ hc1_1
 clear hr1_1 hc1_1
 have HB := aM_ (Below.refl w.heap.size w)
 have H : ((spec_DecimalSign.f a0_0 l0_1 a0_2).bind fun t229 => ((spec_DecimalSign.f a1_0 l1_1 a1_2).bind fun t230 => (if t229 = t230 then (spec_DecimalCmp.j0 k t229 t230 false a0_0 l0_1 a0_2 a1_0 l1_1 a1_2) else (spec_DecimalCmp.j0 k t229 t230 (decide (t229 < t230)) a0_0 l0_1 a0_2 a1_0 l1_1 a1_2)))) = some r := h
 clear h
 replace H := Option.bind_eq_some_iff.mp H
 obtain ⟨t229, A30, H⟩ := H
 replace H : ((spec_DecimalSign.f a1_0 l1_1 a1_2).bind fun t230 => (if t229 = t230 then (spec_DecimalCmp.j0 k t229 t230 false a0_0 l0_1 a0_2 a1_0 l1_1 a1_2) else (spec_DecimalCmp.j0 k t229 t230 (decide (t229 < t230)) a0_0 l0_1 a0_2 a1_0 l1_1 a1_2))) = some r := H
 have A3 := aM_ A30
 clear A30
 replace H := Option.bind_eq_some_iff.mp H
 obtain ⟨t230, A40, H⟩ := H
 replace H : (if t229 = t230 then (spec_DecimalCmp.j0 k t229 t230 false a0_0 l0_1 a0_2 a1_0 l1_1 a1_2) else (spec_DecimalCmp.j0 k t229 t230 (decide (t229 < t230)) a0_0 l0_1 a0_2 a1_0 l1_1 a1_2)) = some r := H
 have A4 := aM_ A40
 clear A40
 have HC5 := aM_ H
 clear H
 go_enter Try.func16, Try.ntmps16
 try go_wp2_with (first | ((with_reducible refine gate_dst (N := 2) rfl ?_); refine box_event ?hg (N := 2) ?hd (cs := #[.bool a0_0, .slice A0_1 l0_1.length c0_1, .int .i64 a0_2]) (t := 26) ?hr ?_; (case hd => rfl); (case hg => rfl); (case hr => first | (go_simp; done) | (go_simp; rfl)); intro gb227 hg w6 hbox hb; have n0_ := aM_ (below_step (by repeat (first | (with_reducible first | exact HB.out | apply bB_ | apply wN_ | apply bE_) | exact HB.out)) hb); have n1_ := aM_ (hbox); have n2_ := aM_ ((by rw [hg]; exact (below_size (by repeat (first | (with_reducible first | exact HB.out | apply bB_ | apply wN_ | apply bE_) | exact HB.out))) : w.heap.size ≤ gb227)); have n3_ := aM_ ((by rw [hg]; exact (below_size (by repeat (first | (with_reducible first | exact HB.out | apply bB_ | apply wN_ | apply bE_) | exact HB.out))) : w.heap.size ≤ gb227)); clear HB; have HB := n0_; have BK227 := n1_; have GW227 := n2_; have GE227 := n3_; clear n0_ n1_ n2_ n3_; clear hb hbox hg) | ((with_reducible refine gate_dst (N := 3) rfl ?_); refine box_event ?hg (N := 3) ?hd (cs := #[.bool a1_0, .slice A1_1 l1_1.length c1_1, .int .i64 a1_2]) (t := 26) ?hr ?_; (case hd => rfl); (case hg => rfl); (case hr => first | (go_simp; done) | (go_simp; rfl)); intro gb228 hg w7 hbox hb; have n0_ := aM_ (blk_below (g := gb227) (o := .cells #[.bool a0_0, .slice A0_1 l0_1.length c0_1, .int .i64 a0_2] 26 (0, 0)) (by (with_reducible repeat (first | refine bN_ ?_ _ | refine bD_ ?_ | refine bA_ ?_ _)); exact BK227.out) hb); have n1_ := aM_ (below_step (by repeat (first | (with_reducible first | exact HB.out | apply bB_ | apply wN_ | apply bE_ | refine bS_ ?_ GE227.out) | exact HB.out)) hb); have n2_ := aM_ (hbox); have n3_ := aM_ ((by rw [hg]; exact (below_size (by repeat (first | (with_reducible first | exact HB.out | apply bB_ | apply wN_ | apply bE_ | refine bS_ ?_ GE227.out) | exact HB.out))) : w.heap.size ≤ gb228)); have n4_ := aM_ ((by rw [hg]; exact (below_size (by repeat (first | (with_reducible first | exact HB.out | apply bB_ | apply wN_ | apply bE_ | refine bS_ ?_ GE227.out) | exact HB.out))) : w.heap.size ≤ gb228)); have n5_ := aM_ ((by rw [hg]; exact Nat.ne_of_lt (blk_lt (g := gb227) (o := .cells #[.bool a0_0, .slice A0_1 l0_1.length c0_1, .int .i64 a0_2] 26 (0, 0)) (by (with_reducible repeat (first | refine bN_ ?_ _ | refine bD_ ?_ | refine bA_ ?_ _)); exact BK227.out)) : gb227 ≠ gb228)); have n6_ := aM_ ((by rw [hg]; exact Nat.ne_of_gt (blk_lt (g := gb227) (o := .cells #[.bool a0_0, .slice A0_1 l0_1.length c0_1, .int .i64 a0_2] 26 (0, 0)) (by (with_reducible repeat (first | refine bN_ ?_ _ | refine bD_ ?_ | refine bA_ ?_ _)); exact BK227.out)) : gb228 ≠ gb227)); clear BK227; clear HB; have BK227 := n0_; have HB := n1_; have BK228 := n2_; have GW228 := n3_; have GE228 := n4_; have NB227_228 := n5_; have NB228_227 := n6_; clear n0_ n1_ n2_ n3_ n4_ n5_ n6_; clear hb hbox hg))
 have n0_ := aM_ (bD_ BK227.out)
 have n1_ := aM_ (bD_ BK228.out)
 have n2_ := aM_ (bE_ HB.out)
 clear BK227
 clear BK228
 clear HB
 have BK227 := n0_
 have BK228 := n1_
 have HB := n2_
 clear n0_ n1_ n2_
 refine start_ (n := 6) (S := fun w' => w'.cell? ⟨gb227, 0, none⟩ = some (.bool a0_0) ∧ w'.cell? ⟨gb227, 1, none⟩ = some (.slice A0_1 l0_1.length c0_1) ∧ w'.cell? ⟨gb227, 2, none⟩ = some (.int .i64 a0_2) ∧ w'.cell? ⟨gb228, 0, none⟩ = some (.bool a1_0) ∧ w'.cell? ⟨gb228, 1, none⟩ = some (.slice A1_1 l1_1.length c1_1) ∧ w'.cell? ⟨gb228, 2, none⟩ = some (.int .i64 a1_2)) (ds := []) #[false, false, false, false, false, false] (by kernel_rfl) rfl rfl ⟨(bC_ BK227.out 0).trans rfl, (bC_ BK227.out 1).trans rfl, (bC_ BK227.out 2).trans rfl, (bC_ BK228.out 0).trans rfl, (bC_ BK228.out 1).trans rfl, (bC_ BK228.out 2).trans rfl⟩ (fun hHeld => ?_)
 generalize w7.drew = w8 at BK227 BK228 HB hHeld ⊢
 refine take_ (i := 0) (N := some 7) (v := ?_) (a' := ?_) #[true, false, false, false, false, false] rfl rfl (by kernel_rfl) (fun _ _ _ h => h) (Or.inl ⟨by rfl, ?_⟩) hHeld ?_ ?_
 rotate_left
 ·
  rintro w' ⟨s0, s1, s2, s3, s4, s5⟩
  go_simp
  with_reducible rfl
 rotate_left
 ·
  simp only [Act.put, List.setIfInBounds_toArray, List.set_cons_zero, List.set_cons_succ, i64_w, i32_w]
  rfl
 refine take_ (i := 2) (N := some 9) (v := ?_) (a' := ?_) #[true, false, true, false, false, false] rfl rfl (by kernel_rfl) (fun _ _ _ h => h) (Or.inl ⟨by rfl, ?_⟩) hHeld ?_ ?_
 rotate_left
 ·
  rintro w' ⟨s0, s1, s2, s3, s4, s5⟩
  go_simp
  with_reducible rfl
 rotate_left
 ·
  simp only [Act.put, List.setIfInBounds_toArray, List.set_cons_zero, List.set_cons_succ, i64_w, i32_w]
  rfl
 refine one_ (i := 1) (N := some 8) #[true, true, true, false, false, false] rfl rfl (by kernel_rfl) (by decide) (fun K hK => ?_)
 refine goes_ Try.func26 (by kernel_rfl) rfl #[.agg #[.bool a0_0, .slice A0_1 l0_1.length c0_1, .int .i64 a0_2]] (by rfl) rfl rfl (by (try simp only [List.map_toArray, List.map_cons, List.map_nil]); first | done | rfl | (simp only [List.length_drop, List.length_take]; rfl)) ?_
 with_reducible refine (spec_DecimalSign.calls a0_0 _ _ l0_1 a0_2 t229 _ ?side1 ?side2 A3.out).mono ?_
 (case side1 => repeat (first | exact (Kd.C_below HR0_1.out HB.out) | (with_reducible refine Kd.C_alloc ?_ _) | (with_reducible refine Kd.C_drewN ?_ _) | (with_reducible refine Kd.C_drew ?_)))
 (case side2 => exact HC0_1.out)
 rintro e w9 ⟨rfl, hb⟩
 refine ⟨_, rfl, ?_⟩
 have n0_ := aM_ (blk_below (g := gb227) (o := .cells #[.bool a0_0, .slice A0_1 l0_1.length c0_1, .int .i64 a0_2] 26 (0, 0)) (by (with_reducible repeat (first | refine bN_ ?_ _ | refine bD_ ?_ | refine bA_ ?_ _)); exact BK227.out) hb)
 have n1_ := aM_ (blk_below (g := gb228) (o := .cells #[.bool a1_0, .slice A1_1 l1_1.length c1_1, .int .i64 a1_2] 26 (0, 0)) (by (with_reducible repeat (first | refine bN_ ?_ _ | refine bD_ ?_ | refine bA_ ?_ _)); exact BK228.out) hb)
 have n2_ := aM_ (below_step (by repeat (first | (with_reducible first | exact HB.out | apply bB_ | apply wN_ | apply bE_ | refine bS_ ?_ GE227.out | refine bS_ ?_ GE228.out) | exact HB.out)) hb)
 clear BK227
 clear BK228
 clear HB
 have BK227 := n0_
 have BK228 := n1_
 have HB := n2_
 clear n0_ n1_ n2_
 (try clear hb)
 (try clear hb2)
 (try clear hk)
 (try clear hi)
 refine hK.out _ _ ⟨(bC_ BK227.out 0).trans rfl, (bC_ BK227.out 1).trans rfl, (bC_ BK227.out 2).trans rfl, (bC_ BK228.out 0).trans rfl, (bC_ BK228.out 1).trans rfl, (bC_ BK228.out 2).trans rfl⟩ (fun hHeld => ?_)
 clear hK K
 refine norm_ (a' := ?_) ?_ ?_
 rotate_left
 ·
  show Act.put _ (some 8) _ = _
  simp only [Act.put, List.setIfInBounds_toArray, List.set_cons_zero, List.set_cons_succ, i64_w, i32_w]
  rfl
 refine one_ (i := 3) (N := some 10) #[true, true, true, true, false, false] rfl rfl (by kernel_rfl) (by decide) (fun K hK => ?_)
 refine goes_ Try.func26 (by kernel_rfl) rfl #[.agg #[.bool a1_0, .slice A1_1 l1_1.length c1_1, .int .i64 a1_2]] (by rfl) rfl rfl (by (try simp only [List.map_toArray, List.map_cons, List.map_nil]); first | done | rfl | (simp only [List.length_drop, List.length_take]; rfl)) ?_
 with_reducible refine (spec_DecimalSign.calls a1_0 _ _ l1_1 a1_2 t230 _ ?side1 ?side2 A4.out).mono ?_
 (case side1 => repeat (first | exact (Kd.C_below HR1_1.out HB.out) | (with_reducible refine Kd.C_alloc ?_ _) | (with_reducible refine Kd.C_drewN ?_ _) | (with_reducible refine Kd.C_drew ?_)))
 (case side2 => exact HC1_1.out)
 rintro e w10 ⟨rfl, hb⟩
 refine ⟨_, rfl, ?_⟩
 have n0_ := aM_ (blk_below (g := gb227) (o := .cells #[.bool a0_0, .slice A0_1 l0_1.length c0_1, .int .i64 a0_2] 26 (0, 0)) (by (with_reducible repeat (first | refine bN_ ?_ _ | refine bD_ ?_ | refine bA_ ?_ _)); exact BK227.out) hb)
 have n1_ := aM_ (blk_below (g := gb228) (o := .cells #[.bool a1_0, .slice A1_1 l1_1.length c1_1, .int .i64 a1_2] 26 (0, 0)) (by (with_reducible repeat (first | refine bN_ ?_ _ | refine bD_ ?_ | refine bA_ ?_ _)); exact BK228.out) hb)
 have n2_ := aM_ (below_step (by repeat (first | (with_reducible first | exact HB.out | apply bB_ | apply wN_ | apply bE_ | refine bS_ ?_ GE227.out | refine bS_ ?_ GE228.out) | exact HB.out)) hb)
 clear BK227
 clear BK228
 clear HB
 have BK227 := n0_
 have BK228 := n1_
 have HB := n2_
 clear n0_ n1_ n2_
 (try clear hb)
 (try clear hb2)
 (try clear hk)
 (try clear hi)
 refine hK.out _ _ ⟨(bC_ BK227.out 0).trans rfl, (bC_ BK227.out 1).trans rfl, (bC_ BK227.out 2).trans rfl, (bC_ BK228.out 0).trans rfl, (bC_ BK228.out 1).trans rfl, (bC_ BK228.out 2).trans rfl⟩ (fun hHeld => ?_)
 clear hK K
 refine norm_ (a' := ?_) ?_ ?_
 rotate_left
 ·
  show Act.put _ (some 10) _ = _
  simp only [Act.put, List.setIfInBounds_toArray, List.set_cons_zero, List.set_cons_succ, i64_w, i32_w]
  rfl
 refine pure_ (i := 4) (N := some 5) (v := ?_) (a' := ?_) #[true, true, true, true, true, false] rfl rfl (by kernel_rfl) (fun _ _ _ h => h) (Or.inl ⟨by rfl, ?_⟩) ?_ ?_
 rotate_left
 ·
  intro w'
  go_simp
  with_reducible rfl
 rotate_left
 ·
  simp only [Act.put, List.setIfInBounds_toArray, List.set_cons_zero, List.set_cons_succ, i64_w, i32_w]
  rfl
 refine pure_ (i := 5) (N := some 6) (v := ?_) (a' := ?_) #[true, true, true, true, true, true] rfl rfl (by kernel_rfl) (fun _ _ _ h => h) (Or.inl ⟨by rfl, ?_⟩) ?_ ?_
 rotate_left
 ·
  intro w'
  go_simp
  with_reducible rfl
 rotate_left
 ·
  simp only [Act.put, List.setIfInBounds_toArray, List.set_cons_zero, List.set_cons_succ, i64_w, i32_w]
  rfl
 refine done_ (by kernel_rfl) ?_
 go_upto_region 2 with (fail)
 go_cut [11] (fun v11 wc => ∃ (kq : Nat) (x11_4 : Bool), v11 = .bool x11_4 ∧ Aside0 (spec_DecimalCmp.j0 kq t229 t230 x11_4 a0_0 l0_1 a0_2 a1_0 l1_1 a1_2 = some r) ∧ Aside0 (kq ≤ k) ∧ Aside0 (wc.heap[gb227]? = some (.cells #[.bool a0_0, (.slice A0_1 l0_1.length c0_1), .int .i64 a0_2] 26 (0, 0))) ∧ Aside0 (wc.heap[gb228]? = some (.cells #[.bool a1_0, (.slice A1_1 l1_1.length c1_1), .int .i64 a1_2] 26 (0, 0))) ∧ Aside0 (Below w.heap.size w wc))
 case first =>
  have H := HC5.out
  clear HC5
  by_cases c11 : t229 = t230
  ·
   rw [if_pos c11] at H
   have c11b0 : (t229 == t230) = true := beq_iff_eq.mpr c11
   have c11b1 : (t229 != t230) = false := bne_eq_false_iff_eq.mpr c11
   clear c11
   (first | rw [c11b0] | (simp only [i64_w, i32_w]; rw [c11b0]) | skip)
   have H' := aM_ H
   clear H
   go_wp2
   go_meet
   case rel => exact ⟨_, (false), (by first | rfl | (simp; done) | (simp [*]; done)), H', ⟨by first | omega | exact Nat.le_refl _⟩, ⟨by (with_reducible repeat (first | refine bN_ ?_ _ | refine bD_ ?_ | refine bA_ ?_ _)); exact BK227.out⟩, ⟨by (with_reducible repeat (first | refine bN_ ?_ _ | refine bD_ ?_ | refine bA_ ?_ _)); exact BK228.out⟩, ⟨by repeat (first | (with_reducible first | exact HB.out | apply bB_ | apply wN_ | apply bE_ | refine bS_ ?_ GE227.out | refine bS_ ?_ GE228.out) | exact HB.out)⟩⟩
  ·
   rw [if_neg c11] at H
   have c11b0 : (t229 == t230) = false := beq_eq_false_iff_ne.mpr c11
   have c11b1 : (t229 != t230) = true := bne_iff_ne.mpr c11
   (first | rw [c11b0] | (simp only [i64_w, i32_w]; rw [c11b0]) | skip)
   have H' := aM_ H
   clear H
   go_wp2
   go_meet
   case rel => exact ⟨_, (decide (t229 < t230)), (by first | rfl | (simp; done) | (simp [*]; done)), H', ⟨by first | omega | exact Nat.le_refl _⟩, ⟨by (with_reducible repeat (first | refine bN_ ?_ _ | refine bD_ ?_ | refine bA_ ?_ _)); exact BK227.out⟩, ⟨by (with_reducible repeat (first | refine bN_ ?_ _ | refine bD_ ?_ | refine bA_ ?_ _)); exact BK228.out⟩, ⟨by repeat (first | (with_reducible first | exact HB.out | apply bB_ | apply wN_ | apply bE_ | refine bS_ ?_ GE227.out | refine bS_ ?_ GE228.out) | exact HB.out)⟩⟩
 case rest =>
  clear HC5
  try clear c1
  try clear c2
  try clear p2
  try clear c11
  try clear c11b0
  try clear c11b1
  obtain ⟨kq, x11_4, rfl, HA, HJ4, BK227, BK228, HB⟩ := hcut
  cases kq with
  | zero => exact absurd HA.out (by simp [spec_DecimalCmp.j0])
  | succ kj4 =>
   have H := HA.out
   clear HA
   simp only [spec_DecimalCmp.j0] at H
   by_cases c12 : x11_4 = true
   ·
    subst c12
    have H1 : (some (-1)) = some r := by rw [if_pos rfl] at H; exact H
    clear H
    have H := H1
    clear H1
    obtain rfl := Option.some.inj H
    go_wp2
    go_ret
    exact ⟨by first | rfl | (simp [errW_none, errW_some] <;> rfl) | (simp [*, errW_none, errW_some] <;> rfl) | (exfalso; contradiction), by repeat (first | (with_reducible first | exact HB.out | apply bB_ | apply wN_ | apply bE_ | refine bS_ ?_ GE227.out | refine bS_ ?_ GE228.out) | exact HB.out)⟩
   ·
    replace c12 := Bool.eq_false_iff.mpr c12
    subst c12
    have H1 : (if t229 = t230 then (if t229 < 0 then ((spec_larger.f kj4 a0_0 l0_1 a0_2 a1_0 l1_1 a1_2).bind fun t231 => (some (wrap64 (-t231)))) else (if t229 > 0 then ((spec_larger.f kj4 a0_0 l0_1 a0_2 a1_0 l1_1 a1_2).bind fun t232 => (some t232)) else (some 0))) else (some 1)) = some r := by rw [if_neg (show ¬ (false = true) by decide)] at H; exact H
    clear H
    have H := H1
    clear H1
    by_cases c13 : t229 = t230
    ·
     rw [if_pos c13] at H
     have c13b0 : (t229 == t230) = true := beq_iff_eq.mpr c13
     have c13b1 : (t229 != t230) = false := bne_eq_false_iff_eq.mpr c13
     clear c13
     by_cases c14 : t229 < 0
     ·
      rw [if_pos c14] at H
      have c14b0 : decide (t229 < 0) = true := decide_eq_true c14
      clear c14
      replace H := Option.bind_eq_some_iff.mp H
      obtain ⟨t231, A150, H⟩ := H
      replace H : (some (wrap64 (-t231))) = some r := H
      have A15 := aM_ A150
      clear A150
      obtain rfl := Option.some.inj H
      have hnb16 := NB227_228.out
      have hnc16 := NB228_227.out
      have hcz17_0 : wc.cell? ⟨gb227, 0, none⟩ = some (.bool a0_0) := (bC_ BK227.out 0).trans rfl
      have hcz17_1 : wc.cell? ⟨gb227, 1, none⟩ = some (.slice A0_1 l0_1.length c0_1) := (bC_ BK227.out 1).trans rfl
      have hcz17_2 : wc.cell? ⟨gb227, 2, none⟩ = some (.int .i64 a0_2) := (bC_ BK227.out 2).trans rfl
      have hfz17_0 := bF_ BK227.out 0
      have hfz17_1 := bF_ BK227.out 1
      have hfz17_2 := bF_ BK227.out 2
      have hcz18_0 : wc.cell? ⟨gb228, 0, none⟩ = some (.bool a1_0) := (bC_ BK228.out 0).trans rfl
      have hcz18_1 : wc.cell? ⟨gb228, 1, none⟩ = some (.slice A1_1 l1_1.length c1_1) := (bC_ BK228.out 1).trans rfl
      have hcz18_2 : wc.cell? ⟨gb228, 2, none⟩ = some (.int .i64 a1_2) := (bC_ BK228.out 2).trans rfl
      have hfz18_0 := bF_ BK228.out 0
      have hfz18_1 := bF_ BK228.out 1
      have hfz18_2 := bF_ BK228.out 2
      go_wp2_with (first | ((with_reducible refine gate_callee (f := 21) rfl ?_); refine goesL_ (some 29) rfl rfl Try.func21 (by kernel_rfl) rfl #[.agg #[.bool a0_0, .slice A0_1 l0_1.length c0_1, .int .i64 a0_2], .agg #[.bool a1_0, .slice A1_1 l1_1.length c1_1, .int .i64 a1_2]] rfl (by (try simp only [List.map_toArray, List.map_cons, List.map_nil]); first | done | rfl | (simp only [List.length_drop, List.length_take]; rfl)) ?_; (with_reducible refine (spec_larger.calls kj4 a0_0 _ _ l0_1 a0_2 a1_0 _ _ l1_1 a1_2 t231 _ ?side1 ?side2 ?side3 ?side4 A15.out).mono ?_); (case side1 => repeat (first | exact (Kd.C_below HR0_1.out HB.out) | (with_reducible refine Kd.C_alloc ?_ _) | (with_reducible refine Kd.C_drewN ?_ _) | (with_reducible refine Kd.C_drew ?_))); (case side2 => exact HC0_1.out); (case side3 => repeat (first | exact (Kd.C_below HR1_1.out HB.out) | (with_reducible refine Kd.C_alloc ?_ _) | (with_reducible refine Kd.C_drewN ?_ _) | (with_reducible refine Kd.C_drew ?_))); (case side4 => exact HC1_1.out); rintro e w19 ⟨rfl, hb⟩; refine ⟨_, rfl, ?_⟩; have n0_ := aM_ (blk_below (g := gb227) (o := .cells #[.bool a0_0, .slice A0_1 l0_1.length c0_1, .int .i64 a0_2] 26 (0, 0)) (by (with_reducible repeat (first | refine bN_ ?_ _ | refine bD_ ?_ | refine bA_ ?_ _)); exact BK227.out) hb); have n1_ := aM_ (blk_below (g := gb228) (o := .cells #[.bool a1_0, .slice A1_1 l1_1.length c1_1, .int .i64 a1_2] 26 (0, 0)) (by (with_reducible repeat (first | refine bN_ ?_ _ | refine bD_ ?_ | refine bA_ ?_ _)); exact BK228.out) hb); have n2_ := aM_ (below_step (by repeat (first | (with_reducible first | exact HB.out | apply bB_ | apply wN_ | apply bE_ | refine bS_ ?_ GE227.out | refine bS_ ?_ GE228.out) | exact HB.out)) hb); clear BK227; clear BK228; clear HB; have BK227 := n0_; have BK228 := n1_; have HB := n2_; clear n0_ n1_ n2_; (try clear hb); (try clear hb2); (try clear hk); (try clear hi)))
      go_ret
      exact ⟨by first | rfl | (simp [errW_none, errW_some] <;> rfl) | (simp [*, errW_none, errW_some] <;> rfl) | (exfalso; contradiction), by repeat (first | (with_reducible first | exact HB.out | apply bB_ | apply wN_ | apply bE_ | refine bS_ ?_ GE227.out | refine bS_ ?_ GE228.out) | exact HB.out)⟩
     ·
      rw [if_neg c14] at H
      have c14b0 : decide (t229 < 0) = false := decide_eq_false c14
      clear c14
      by_cases c20 : t229 > 0
      ·
       rw [if_pos c20] at H
       have c20b0 : decide (0 < t229) = true := decide_eq_true c20
       clear c20
       replace H := Option.bind_eq_some_iff.mp H
       obtain ⟨t232, A210, H⟩ := H
       replace H : (some t232) = some r := H
       have A21 := aM_ A210
       clear A210
       obtain rfl := Option.some.inj H
       have hnb22 := NB227_228.out
       have hnc22 := NB228_227.out
       have hcz23_0 : wc.cell? ⟨gb227, 0, none⟩ = some (.bool a0_0) := (bC_ BK227.out 0).trans rfl
       have hcz23_1 : wc.cell? ⟨gb227, 1, none⟩ = some (.slice A0_1 l0_1.length c0_1) := (bC_ BK227.out 1).trans rfl
       have hcz23_2 : wc.cell? ⟨gb227, 2, none⟩ = some (.int .i64 a0_2) := (bC_ BK227.out 2).trans rfl
       have hfz23_0 := bF_ BK227.out 0
       have hfz23_1 := bF_ BK227.out 1
       have hfz23_2 := bF_ BK227.out 2
       have hcz24_0 : wc.cell? ⟨gb228, 0, none⟩ = some (.bool a1_0) := (bC_ BK228.out 0).trans rfl
       have hcz24_1 : wc.cell? ⟨gb228, 1, none⟩ = some (.slice A1_1 l1_1.length c1_1) := (bC_ BK228.out 1).trans rfl
       have hcz24_2 : wc.cell? ⟨gb228, 2, none⟩ = some (.int .i64 a1_2) := (bC_ BK228.out 2).trans rfl
       have hfz24_0 := bF_ BK228.out 0
       have hfz24_1 := bF_ BK228.out 1
       have hfz24_2 := bF_ BK228.out 2
       go_wp2_with (first | ((with_reducible refine gate_callee (f := 21) rfl ?_); refine goesL_ (some 36) rfl rfl Try.func21 (by kernel_rfl) rfl #[.agg #[.bool a0_0, .slice A0_1 l0_1.length c0_1, .int .i64 a0_2], .agg #[.bool a1_0, .slice A1_1 l1_1.length c1_1, .int .i64 a1_2]] rfl (by (try simp only [List.map_toArray, List.map_cons, List.map_nil]); first | done | rfl | (simp only [List.length_drop, List.length_take]; rfl)) ?_; (with_reducible refine (spec_larger.calls kj4 a0_0 _ _ l0_1 a0_2 a1_0 _ _ l1_1 a1_2 t232 _ ?side1 ?side2 ?side3 ?side4 A21.out).mono ?_); (case side1 => repeat (first | exact (Kd.C_below HR0_1.out HB.out) | (with_reducible refine Kd.C_alloc ?_ _) | (with_reducible refine Kd.C_drewN ?_ _) | (with_reducible refine Kd.C_drew ?_))); (case side2 => exact HC0_1.out); (case side3 => repeat (first | exact (Kd.C_below HR1_1.out HB.out) | (with_reducible refine Kd.C_alloc ?_ _) | (with_reducible refine Kd.C_drewN ?_ _) | (with_reducible refine Kd.C_drew ?_))); (case side4 => exact HC1_1.out); rintro e w25 ⟨rfl, hb⟩; refine ⟨_, rfl, ?_⟩; have n0_ := aM_ (blk_below (g := gb227) (o := .cells #[.bool a0_0, .slice A0_1 l0_1.length c0_1, .int .i64 a0_2] 26 (0, 0)) (by (with_reducible repeat (first | refine bN_ ?_ _ | refine bD_ ?_ | refine bA_ ?_ _)); exact BK227.out) hb); have n1_ := aM_ (blk_below (g := gb228) (o := .cells #[.bool a1_0, .slice A1_1 l1_1.length c1_1, .int .i64 a1_2] 26 (0, 0)) (by (with_reducible repeat (first | refine bN_ ?_ _ | refine bD_ ?_ | refine bA_ ?_ _)); exact BK228.out) hb); have n2_ := aM_ (below_step (by repeat (first | (with_reducible first | exact HB.out | apply bB_ | apply wN_ | apply bE_ | refine bS_ ?_ GE227.out | refine bS_ ?_ GE228.out) | exact HB.out)) hb); clear BK227; clear BK228; clear HB; have BK227 := n0_; have BK228 := n1_; have HB := n2_; clear n0_ n1_ n2_; (try clear hb); (try clear hb2); (try clear hk); (try clear hi)))
       go_ret
       exact ⟨by first | rfl | (simp [errW_none, errW_some] <;> rfl) | (simp [*, errW_none, errW_some] <;> rfl) | (exfalso; contradiction), by repeat (first | (with_reducible first | exact HB.out | apply bB_ | apply wN_ | apply bE_ | refine bS_ ?_ GE227.out | refine bS_ ?_ GE228.out) | exact HB.out)⟩
      ·
       rw [if_neg c20] at H
       have c20b0 : decide (0 < t229) = false := decide_eq_false c20
       clear c20
       obtain rfl := Option.some.inj H
       go_wp2
       go_ret
       exact ⟨by first | rfl | (simp [errW_none, errW_some] <;> rfl) | (simp [*, errW_none, errW_some] <;> rfl) | (exfalso; contradiction), by repeat (first | (with_reducible first | exact HB.out | apply bB_ | apply wN_ | apply bE_ | refine bS_ ?_ GE227.out | refine bS_ ?_ GE228.out) | exact HB.out)⟩
    ·
     rw [if_neg c13] at H
     have c13b0 : (t229 == t230) = false := beq_eq_false_iff_ne.mpr c13
     have c13b1 : (t229 != t230) = true := bne_iff_ne.mpr c13
     obtain rfl := Option.some.inj H
     go_wp2
     go_ret
     exact ⟨by first | rfl | (simp [errW_none, errW_some] <;> rfl) | (simp [*, errW_none, errW_some] <;> rfl) | (exfalso; contradiction), by repeat (first | (with_reducible first | exact HB.out | apply bB_ | apply wN_ | apply bE_ | refine bS_ ?_ GE227.out | refine bS_ ?_ GE228.out) | exact HB.out)⟩

/-! ### laws_amountIs: function 9 -/
def laws_amountIs.f (k : Nat) (a0_0 : Int) (a0_1 : Int) (a1_0 : Bool) (l1_1 : List Int) (a1_2 : Int) : Option (Bool) := (laws_amountOf.f k a0_0 a0_1).bind fun bt235 => (if bt235.2.2.2 = true then ((spec_DecimalCmp.f k bt235.1 bt235.2.1 bt235.2.2.1 a1_0 l1_1 a1_2).bind fun t242 => (some (t242 == 0))) else (some false))
theorem laws_amountIs.mono : ∀ a0 a1 a2 a3 a4 k, LeO (laws_amountIs.f k a0 a1 a2 a3 a4) (laws_amountIs.f (k + 1) a0 a1 a2 a3 a4) := by
 intro a0 a1 a2 a3 a4 k
 unfold laws_amountIs.f
 repeat' first
   | (with_reducible exact laws_amountOf.mono _ _ _)
   | (with_reducible exact spec_DecimalCmp.mono _ _ _ _ _ _ _)
   | (with_reducible exact LeO.refl _)
   | (with_reducible exact LeO.none _)
   | (with_reducible refine LeO.ite ?_ ?_)
   | (with_reducible refine LeO.bind ?_ (fun _ => ?_))
   | exact laws_amountOf.mono _ _ _
   | exact spec_DecimalCmp.mono _ _ _ _ _ _ _
   | exact LeO.none _
   | refine LeO.ite ?_ ?_
   | refine LeO.bind ?_ (fun _ => ?_)
set_option maxHeartbeats 8000000 in
set_option maxRecDepth 100000 in
theorem laws_amountIs.calls (k : Nat) (a0_0 : Int) (a0_1 : Int) (a1_0 : Bool) (A1_1 : Option Addr) (c1_1 : Nat) (l1_1 : List Int) (a1_2 : Int) (r : Bool) (w : World) (hr1_1 : Kd.C (Kd.int .i64) w A1_1 l1_1.length l1_1) (hc1_1 : l1_1.length ≤ c1_1) (h : laws_amountIs.f k a0_0 a0_1 a1_0 l1_1 a1_2 = some r) :
  Calls Try.prog 9 #[.agg #[.int .i64 a0_0, .int .i64 a0_1], .agg #[.bool a1_0, .slice A1_1 l1_1.length c1_1, .int .i64 a1_2]] w fun e w' => e = .returned (.bool r) ∧ Below w.heap.size w w' := by
 have hu23 := Try.underlying23
 have hu26 := Try.underlying26
 have HR1_1 := aM_ hr1_1
 have HC1_1 := aM_ hc1_1
 clear hr1_1 hc1_1
 have HB := aM_ (Below.refl w.heap.size w)
 have H : ((laws_amountOf.f k a0_0 a0_1).bind fun bt235 => (if bt235.2.2.2 = true then ((spec_DecimalCmp.f k bt235.1 bt235.2.1 bt235.2.2.1 a1_0 l1_1 a1_2).bind fun t242 => (some (t242 == 0))) else (some false))) = some r := h
 clear h
 replace H := Option.bind_eq_some_iff.mp H
 obtain ⟨⟨t235, t236, t239, t240⟩, A30, H⟩ := H
 replace H : (if t240 = true then ((spec_DecimalCmp.f k t235 t236 t239 a1_0 l1_1 a1_2).bind fun t242 => (some (t242 == 0))) else (some false)) = some r := H
 have A3 := aM_ A30
 clear A30
 by_cases c4 : t240 = true
 ·
  subst c4
  have H1 : ((spec_DecimalCmp.f k t235 t236 t239 a1_0 l1_1 a1_2).bind fun t242 => (some (t242 == 0))) = some r := by rw [if_pos rfl] at H; exact H
  clear H
  have H := H1
  clear H1
  replace H := Option.bind_eq_some_iff.mp H
  obtain ⟨t242, A50, H⟩ := H
  replace H : (some (t242 == 0)) = some r := H
  have A5 := aM_ A50
  clear A50
  obtain rfl := Option.some.inj H
  go_enter Try.func9, Try.ntmps9
  go_wp2_with (first | ((with_reducible refine gate_dst (N := 2) rfl ?_); refine box_event ?hg (N := 2) ?hd (cs := #[.int .i64 a0_0, .int .i64 a0_1]) (t := 23) ?hr ?_; (case hd => rfl); (case hg => rfl); (case hr => first | (go_simp; done) | (go_simp; rfl)); intro gb233 hg w6 hbox hb; have n0_ := aM_ (below_step (by repeat (first | (with_reducible first | exact HB.out | apply bB_ | apply wN_ | apply bE_) | exact HB.out)) hb); have n1_ := aM_ (hbox); have n2_ := aM_ ((by rw [hg]; exact (below_size (by repeat (first | (with_reducible first | exact HB.out | apply bB_ | apply wN_ | apply bE_) | exact HB.out))) : w.heap.size ≤ gb233)); have n3_ := aM_ ((by rw [hg]; exact (below_size (by repeat (first | (with_reducible first | exact HB.out | apply bB_ | apply wN_ | apply bE_) | exact HB.out))) : w.heap.size ≤ gb233)); clear HB; have HB := n0_; have BK233 := n1_; have GW233 := n2_; have GE233 := n3_; clear n0_ n1_ n2_ n3_; clear hb hbox hg) | ((with_reducible refine gate_dst (N := 3) rfl ?_); refine box_event ?hg (N := 3) ?hd (cs := #[.bool a1_0, .slice A1_1 l1_1.length c1_1, .int .i64 a1_2]) (t := 26) ?hr ?_; (case hd => rfl); (case hg => rfl); (case hr => first | (go_simp; done) | (go_simp; rfl)); intro gb234 hg w7 hbox hb; have n0_ := aM_ (blk_below (g := gb233) (o := .cells #[.int .i64 a0_0, .int .i64 a0_1] 23 (0, 0)) (by (with_reducible repeat (first | refine bN_ ?_ _ | refine bD_ ?_ | refine bA_ ?_ _)); exact BK233.out) hb); have n1_ := aM_ (below_step (by repeat (first | (with_reducible first | exact HB.out | apply bB_ | apply wN_ | apply bE_ | refine bS_ ?_ GE233.out) | exact HB.out)) hb); have n2_ := aM_ (hbox); have n3_ := aM_ ((by rw [hg]; exact (below_size (by repeat (first | (with_reducible first | exact HB.out | apply bB_ | apply wN_ | apply bE_ | refine bS_ ?_ GE233.out) | exact HB.out))) : w.heap.size ≤ gb234)); have n4_ := aM_ ((by rw [hg]; exact (below_size (by repeat (first | (with_reducible first | exact HB.out | apply bB_ | apply wN_ | apply bE_ | refine bS_ ?_ GE233.out) | exact HB.out))) : w.heap.size ≤ gb234)); have n5_ := aM_ ((by rw [hg]; exact Nat.ne_of_lt (blk_lt (g := gb233) (o := .cells #[.int .i64 a0_0, .int .i64 a0_1] 23 (0, 0)) (by (with_reducible repeat (first | refine bN_ ?_ _ | refine bD_ ?_ | refine bA_ ?_ _)); exact BK233.out)) : gb233 ≠ gb234)); have n6_ := aM_ ((by rw [hg]; exact Nat.ne_of_gt (blk_lt (g := gb233) (o := .cells #[.int .i64 a0_0, .int .i64 a0_1] 23 (0, 0)) (by (with_reducible repeat (first | refine bN_ ?_ _ | refine bD_ ?_ | refine bA_ ?_ _)); exact BK233.out)) : gb234 ≠ gb233)); clear BK233; clear HB; have BK233 := n0_; have HB := n1_; have BK234 := n2_; have GW234 := n3_; have GE234 := n4_; have NB233_234 := n5_; have NB234_233 := n6_; clear n0_ n1_ n2_ n3_ n4_ n5_ n6_; clear hb hbox hg; have hnb8 := NB233_234.out; have hnc8 := NB234_233.out; have hcz9_0 : w7.cell? ⟨gb233, 0, none⟩ = some (.int .i64 a0_0) := (bC_ BK233.out 0).trans rfl; have hcz9_1 : w7.cell? ⟨gb233, 1, none⟩ = some (.int .i64 a0_1) := (bC_ BK233.out 1).trans rfl; have hfz9_0 := bF_ BK233.out 0; have hfz9_1 := bF_ BK233.out 1) | ((with_reducible refine gate_callee (f := 6) rfl ?_); refine goesL_ (some 9) rfl rfl Try.func6 (by kernel_rfl) rfl #[.agg #[.int .i64 a0_0, .int .i64 a0_1]] rfl (by (try simp only [List.map_toArray, List.map_cons, List.map_nil]); first | done | rfl | (simp only [List.length_drop, List.length_take]; rfl)) ?_; (with_reducible refine (laws_amountOf.calls k a0_0 a0_1 t235 t236 t239 true _ A3.out).mono ?_); rintro e w10 ⟨v237, rfl, ho0, hb⟩; refine ⟨_, rfl, ?_⟩; have n0_ := aM_ (Kd.R_lower ho0 (below_size (by repeat (first | (with_reducible first | exact HB.out | apply bB_ | apply wN_ | apply bE_ | refine bS_ ?_ GE233.out | refine bS_ ?_ GE234.out) | exact HB.out)))); have n1_ := aM_ (blk_below (g := gb233) (o := .cells #[.int .i64 a0_0, .int .i64 a0_1] 23 (0, 0)) (by (with_reducible repeat (first | refine bN_ ?_ _ | refine bD_ ?_ | refine bA_ ?_ _)); exact BK233.out) hb); have n2_ := aM_ (blk_below (g := gb234) (o := .cells #[.bool a1_0, .slice A1_1 l1_1.length c1_1, .int .i64 a1_2] 26 (0, 0)) (by (with_reducible repeat (first | refine bN_ ?_ _ | refine bD_ ?_ | refine bA_ ?_ _)); exact BK234.out) hb); have n3_ := aM_ (below_step (by repeat (first | (with_reducible first | exact HB.out | apply bB_ | apply wN_ | apply bE_ | refine bS_ ?_ GE233.out | refine bS_ ?_ GE234.out) | exact HB.out)) hb); clear BK233; clear BK234; clear HB; have HO238 := n0_; have BK233 := n1_; have BK234 := n2_; have HB := n3_; clear n0_ n1_ n2_ n3_; (try clear hb); (try clear hb2); (try clear hk); (try clear hi); (try clear ho0)) | ((with_reducible refine gate_dst (N := 5) rfl ?_); refine box_event ?hg (N := 5) ?hd (cs := #[.bool false, .slice none 0 0, .int .i64 0]) (t := 26) ?hr ?_; (case hd => rfl); (case hg => rfl); (case hr => first | (go_simp; done) | (go_simp; rfl)); intro gb241 hg w11 hbox hb; have n0_ := aM_ (Kd.R_below (by (with_reducible repeat (first | apply kA_ | apply kN_ | apply kD_)); exact HO238.out) hb); have n1_ := aM_ (blk_below (g := gb233) (o := .cells #[.int .i64 a0_0, .int .i64 a0_1] 23 (0, 0)) (by (with_reducible repeat (first | refine bN_ ?_ _ | refine bD_ ?_ | refine bA_ ?_ _)); exact BK233.out) hb); have n2_ := aM_ (blk_below (g := gb234) (o := .cells #[.bool a1_0, .slice A1_1 l1_1.length c1_1, .int .i64 a1_2] 26 (0, 0)) (by (with_reducible repeat (first | refine bN_ ?_ _ | refine bD_ ?_ | refine bA_ ?_ _)); exact BK234.out) hb); have n3_ := aM_ (below_step (by repeat (first | (with_reducible first | exact HB.out | apply bB_ | apply wN_ | apply bE_ | refine bS_ ?_ GE233.out | refine bS_ ?_ GE234.out) | exact HB.out)) hb); have n4_ := aM_ (hbox); have n5_ := aM_ ((by rw [hg]; exact (below_size (by repeat (first | (with_reducible first | exact HB.out | apply bB_ | apply wN_ | apply bE_ | refine bS_ ?_ GE233.out | refine bS_ ?_ GE234.out) | exact HB.out))) : w.heap.size ≤ gb241)); have n6_ := aM_ ((by rw [hg]; exact (below_size (by repeat (first | (with_reducible first | exact HB.out | apply bB_ | apply wN_ | apply bE_ | refine bS_ ?_ GE233.out | refine bS_ ?_ GE234.out) | exact HB.out))) : w.heap.size ≤ gb241)); have n7_ := aM_ ((by rw [hg]; exact Nat.ne_of_lt (blk_lt (g := gb233) (o := .cells #[.int .i64 a0_0, .int .i64 a0_1] 23 (0, 0)) (by (with_reducible repeat (first | refine bN_ ?_ _ | refine bD_ ?_ | refine bA_ ?_ _)); exact BK233.out)) : gb233 ≠ gb241)); have n8_ := aM_ ((by rw [hg]; exact Nat.ne_of_gt (blk_lt (g := gb233) (o := .cells #[.int .i64 a0_0, .int .i64 a0_1] 23 (0, 0)) (by (with_reducible repeat (first | refine bN_ ?_ _ | refine bD_ ?_ | refine bA_ ?_ _)); exact BK233.out)) : gb241 ≠ gb233)); have n9_ := aM_ ((by rw [hg]; exact Nat.ne_of_lt (blk_lt (g := gb234) (o := .cells #[.bool a1_0, .slice A1_1 l1_1.length c1_1, .int .i64 a1_2] 26 (0, 0)) (by (with_reducible repeat (first | refine bN_ ?_ _ | refine bD_ ?_ | refine bA_ ?_ _)); exact BK234.out)) : gb234 ≠ gb241)); have n10_ := aM_ ((by rw [hg]; exact Nat.ne_of_gt (blk_lt (g := gb234) (o := .cells #[.bool a1_0, .slice A1_1 l1_1.length c1_1, .int .i64 a1_2] 26 (0, 0)) (by (with_reducible repeat (first | refine bN_ ?_ _ | refine bD_ ?_ | refine bA_ ?_ _)); exact BK234.out)) : gb241 ≠ gb234)); clear HO238; clear BK233; clear BK234; clear HB; have HO238 := n0_; have BK233 := n1_; have BK234 := n2_; have HB := n3_; have BK241 := n4_; have GW241 := n5_; have GE241 := n6_; have NB233_241 := n7_; have NB241_233 := n8_; have NB234_241 := n9_; have NB241_234 := n10_; clear n0_ n1_ n2_ n3_ n4_ n5_ n6_ n7_ n8_ n9_ n10_; clear hb hbox hg; have hnb12 := NB241_233.out; have hnc12 := NB233_241.out; have hnb13 := NB241_234.out; have hnc13 := NB234_241.out; have hcz14_0 : w11.cell? ⟨gb241, 0, none⟩ = some (.bool false) := (bC_ BK241.out 0).trans rfl; have hcz14_1 : w11.cell? ⟨gb241, 1, none⟩ = some (.slice none 0 0) := (bC_ BK241.out 1).trans rfl; have hcz14_2 : w11.cell? ⟨gb241, 2, none⟩ = some (.int .i64 0) := (bC_ BK241.out 2).trans rfl; have hfz14_0 := bF_ BK241.out 0; have hfz14_1 := bF_ BK241.out 1; have hfz14_2 := bF_ BK241.out 2; obtain ⟨Ao15, co15, eo15⟩ := Kd.R_slice HO238.out; subst eo15; have hcz16_0 : w11.cell? ⟨gb234, 0, none⟩ = some (.bool a1_0) := (bC_ BK234.out 0).trans rfl; have hcz16_1 : w11.cell? ⟨gb234, 1, none⟩ = some (.slice A1_1 l1_1.length c1_1) := (bC_ BK234.out 1).trans rfl; have hcz16_2 : w11.cell? ⟨gb234, 2, none⟩ = some (.int .i64 a1_2) := (bC_ BK234.out 2).trans rfl; have hfz16_0 := bF_ BK234.out 0; have hfz16_1 := bF_ BK234.out 1; have hfz16_2 := bF_ BK234.out 2) | (go_at_call 16; (with_reducible refine (spec_DecimalCmp.calls k t235 _ _ t236 t239 a1_0 _ _ l1_1 a1_2 t242 _ ?side1 ?side2 ?side3 ?side4 A5.out).mono ?_); (case side1 => refine (Kd.R_reads' (e := 3) (base := w.heap.size) (ok := fun k_ => True) (n := t236.length) (c := co15) ?_).2.2; exact (by (with_reducible repeat (first | apply kA_ | apply kN_ | apply kD_)); exact (Kd.R_mono (Kd.R_far (p := ⟨gb241, 2, none⟩) (Kd.R_far (p := ⟨gb241, 1, none⟩) (Kd.R_far (p := ⟨gb241, 0, none⟩) (Kd.R_types HO238.out BK241.out (by decide)) (fun _ hk => hk.2) (.bool t235)) (fun _ hk => hk.2) (.slice Ao15 t236.length co15)) (fun _ hk => hk.2) (.int .i64 t239)) (fun _ h_ => h_.1)))); (case side2 => exact (Kd.R_reads' HO238.out).2.1); (case side3 => exact Kd.C_below HR1_1.out (by repeat (first | (with_reducible first | exact HB.out | apply bB_ | apply wN_ | apply bE_ | refine bS_ ?_ GE233.out | refine bS_ ?_ GE234.out | refine bS_ ?_ GE241.out) | exact HB.out))); (case side4 => exact HC1_1.out); rintro e w17 ⟨rfl, hb⟩; have n0_ := aM_ (Kd.R_below (by (with_reducible repeat (first | apply kA_ | apply kN_ | apply kD_)); exact (Kd.R_mono (Kd.R_far (p := ⟨gb241, 2, none⟩) (Kd.R_far (p := ⟨gb241, 1, none⟩) (Kd.R_far (p := ⟨gb241, 0, none⟩) (Kd.R_types HO238.out BK241.out (by decide)) (fun _ hk => hk.2) (.bool t235)) (fun _ hk => hk.2) (.slice Ao15 t236.length co15)) (fun _ hk => hk.2) (.int .i64 t239)) (fun _ h_ => h_.1))) hb); have n1_ := aM_ (blk_below (g := gb233) (o := .cells #[.int .i64 a0_0, .int .i64 a0_1] 23 (0, 0)) (by (with_reducible repeat (first | refine bN_ ?_ _ | refine bD_ ?_ | refine bA_ ?_ _)); refine blk_far ?_ NB233_241.out _; (with_reducible repeat (first | refine bN_ ?_ _ | refine bD_ ?_ | refine bA_ ?_ _)); refine blk_far ?_ NB233_241.out _; (with_reducible repeat (first | refine bN_ ?_ _ | refine bD_ ?_ | refine bA_ ?_ _)); refine blk_far ?_ NB233_241.out _; (with_reducible repeat (first | refine bN_ ?_ _ | refine bD_ ?_ | refine bA_ ?_ _)); exact BK233.out) hb); have n2_ := aM_ (blk_below (g := gb234) (o := .cells #[.bool a1_0, .slice A1_1 l1_1.length c1_1, .int .i64 a1_2] 26 (0, 0)) (by (with_reducible repeat (first | refine bN_ ?_ _ | refine bD_ ?_ | refine bA_ ?_ _)); refine blk_far ?_ NB234_241.out _; (with_reducible repeat (first | refine bN_ ?_ _ | refine bD_ ?_ | refine bA_ ?_ _)); refine blk_far ?_ NB234_241.out _; (with_reducible repeat (first | refine bN_ ?_ _ | refine bD_ ?_ | refine bA_ ?_ _)); refine blk_far ?_ NB234_241.out _; (with_reducible repeat (first | refine bN_ ?_ _ | refine bD_ ?_ | refine bA_ ?_ _)); exact BK234.out) hb); have n3_ := aM_ (blk_below (g := gb241) (o := .cells #[.bool t235, .slice Ao15 t236.length co15, .int .i64 t239] 26 (0, 0)) (by (with_reducible repeat (first | refine bN_ ?_ _ | refine bD_ ?_ | refine bA_ ?_ _)); refine blk_put (cs := #[.bool t235, .slice Ao15 t236.length co15, .int .i64 0]) ?_ 2 _ rfl; (with_reducible repeat (first | refine bN_ ?_ _ | refine bD_ ?_ | refine bA_ ?_ _)); refine blk_put (cs := #[.bool t235, .slice none 0 0, .int .i64 0]) ?_ 1 _ rfl; (with_reducible repeat (first | refine bN_ ?_ _ | refine bD_ ?_ | refine bA_ ?_ _)); refine blk_put (cs := #[.bool false, .slice none 0 0, .int .i64 0]) ?_ 0 _ rfl; (with_reducible repeat (first | refine bN_ ?_ _ | refine bD_ ?_ | refine bA_ ?_ _)); exact BK241.out) hb); have n4_ := aM_ (below_step (by repeat (first | (with_reducible first | exact HB.out | apply bB_ | apply wN_ | apply bE_ | refine bS_ ?_ GE233.out | refine bS_ ?_ GE234.out | refine bS_ ?_ GE241.out) | exact HB.out)) hb); clear HO238; clear BK233; clear BK234; clear BK241; clear HB; have HO238 := n0_; have BK233 := n1_; have BK234 := n2_; have BK241 := n3_; have HB := n4_; clear n0_ n1_ n2_ n3_ n4_; (try clear hb); (try clear hb2); (try clear hk); (try clear hi)))
  go_ret
  exact ⟨by first | rfl | (simp [errW_none, errW_some] <;> rfl) | (simp [*, errW_none, errW_some] <;> rfl) | (exfalso; contradiction), by repeat (first | (with_reducible first | exact HB.out | apply bB_ | apply wN_ | apply bE_ | refine bS_ ?_ GE233.out | refine bS_ ?_ GE234.out | refine bS_ ?_ GE241.out) | exact HB.out)⟩
 ·
  replace c4 := Bool.eq_false_iff.mpr c4
  subst c4
  have H1 : (some false) = some r := by rw [if_neg (show ¬ (false = true) by decide)] at H; exact H
  clear H
  have H := H1
  clear H1
  obtain rfl := Option.some.inj H
  go_enter Try.func9, Try.ntmps9
  go_wp2_with (first | ((with_reducible refine gate_dst (N := 2) rfl ?_); refine box_event ?hg (N := 2) ?hd (cs := #[.int .i64 a0_0, .int .i64 a0_1]) (t := 23) ?hr ?_; (case hd => rfl); (case hg => rfl); (case hr => first | (go_simp; done) | (go_simp; rfl)); intro gb233 hg w18 hbox hb; have n0_ := aM_ (below_step (by repeat (first | (with_reducible first | exact HB.out | apply bB_ | apply wN_ | apply bE_) | exact HB.out)) hb); have n1_ := aM_ (hbox); have n2_ := aM_ ((by rw [hg]; exact (below_size (by repeat (first | (with_reducible first | exact HB.out | apply bB_ | apply wN_ | apply bE_) | exact HB.out))) : w.heap.size ≤ gb233)); have n3_ := aM_ ((by rw [hg]; exact (below_size (by repeat (first | (with_reducible first | exact HB.out | apply bB_ | apply wN_ | apply bE_) | exact HB.out))) : w.heap.size ≤ gb233)); clear HB; have HB := n0_; have BK233 := n1_; have GW233 := n2_; have GE233 := n3_; clear n0_ n1_ n2_ n3_; clear hb hbox hg) | ((with_reducible refine gate_dst (N := 3) rfl ?_); refine box_event ?hg (N := 3) ?hd (cs := #[.bool a1_0, .slice A1_1 l1_1.length c1_1, .int .i64 a1_2]) (t := 26) ?hr ?_; (case hd => rfl); (case hg => rfl); (case hr => first | (go_simp; done) | (go_simp; rfl)); intro gb234 hg w19 hbox hb; have n0_ := aM_ (blk_below (g := gb233) (o := .cells #[.int .i64 a0_0, .int .i64 a0_1] 23 (0, 0)) (by (with_reducible repeat (first | refine bN_ ?_ _ | refine bD_ ?_ | refine bA_ ?_ _)); exact BK233.out) hb); have n1_ := aM_ (below_step (by repeat (first | (with_reducible first | exact HB.out | apply bB_ | apply wN_ | apply bE_ | refine bS_ ?_ GE233.out) | exact HB.out)) hb); have n2_ := aM_ (hbox); have n3_ := aM_ ((by rw [hg]; exact (below_size (by repeat (first | (with_reducible first | exact HB.out | apply bB_ | apply wN_ | apply bE_ | refine bS_ ?_ GE233.out) | exact HB.out))) : w.heap.size ≤ gb234)); have n4_ := aM_ ((by rw [hg]; exact (below_size (by repeat (first | (with_reducible first | exact HB.out | apply bB_ | apply wN_ | apply bE_ | refine bS_ ?_ GE233.out) | exact HB.out))) : w.heap.size ≤ gb234)); have n5_ := aM_ ((by rw [hg]; exact Nat.ne_of_lt (blk_lt (g := gb233) (o := .cells #[.int .i64 a0_0, .int .i64 a0_1] 23 (0, 0)) (by (with_reducible repeat (first | refine bN_ ?_ _ | refine bD_ ?_ | refine bA_ ?_ _)); exact BK233.out)) : gb233 ≠ gb234)); have n6_ := aM_ ((by rw [hg]; exact Nat.ne_of_gt (blk_lt (g := gb233) (o := .cells #[.int .i64 a0_0, .int .i64 a0_1] 23 (0, 0)) (by (with_reducible repeat (first | refine bN_ ?_ _ | refine bD_ ?_ | refine bA_ ?_ _)); exact BK233.out)) : gb234 ≠ gb233)); clear BK233; clear HB; have BK233 := n0_; have HB := n1_; have BK234 := n2_; have GW234 := n3_; have GE234 := n4_; have NB233_234 := n5_; have NB234_233 := n6_; clear n0_ n1_ n2_ n3_ n4_ n5_ n6_; clear hb hbox hg; have hnb20 := NB233_234.out; have hnc20 := NB234_233.out; have hcz21_0 : w19.cell? ⟨gb233, 0, none⟩ = some (.int .i64 a0_0) := (bC_ BK233.out 0).trans rfl; have hcz21_1 : w19.cell? ⟨gb233, 1, none⟩ = some (.int .i64 a0_1) := (bC_ BK233.out 1).trans rfl; have hfz21_0 := bF_ BK233.out 0; have hfz21_1 := bF_ BK233.out 1) | ((with_reducible refine gate_callee (f := 6) rfl ?_); refine goesL_ (some 9) rfl rfl Try.func6 (by kernel_rfl) rfl #[.agg #[.int .i64 a0_0, .int .i64 a0_1]] rfl (by (try simp only [List.map_toArray, List.map_cons, List.map_nil]); first | done | rfl | (simp only [List.length_drop, List.length_take]; rfl)) ?_; (with_reducible refine (laws_amountOf.calls k a0_0 a0_1 t235 t236 t239 false _ A3.out).mono ?_); rintro e w22 ⟨v237, rfl, ho0, hb⟩; refine ⟨_, rfl, ?_⟩; have n0_ := aM_ (Kd.R_lower ho0 (below_size (by repeat (first | (with_reducible first | exact HB.out | apply bB_ | apply wN_ | apply bE_ | refine bS_ ?_ GE233.out | refine bS_ ?_ GE234.out) | exact HB.out)))); have n1_ := aM_ (blk_below (g := gb233) (o := .cells #[.int .i64 a0_0, .int .i64 a0_1] 23 (0, 0)) (by (with_reducible repeat (first | refine bN_ ?_ _ | refine bD_ ?_ | refine bA_ ?_ _)); exact BK233.out) hb); have n2_ := aM_ (blk_below (g := gb234) (o := .cells #[.bool a1_0, .slice A1_1 l1_1.length c1_1, .int .i64 a1_2] 26 (0, 0)) (by (with_reducible repeat (first | refine bN_ ?_ _ | refine bD_ ?_ | refine bA_ ?_ _)); exact BK234.out) hb); have n3_ := aM_ (below_step (by repeat (first | (with_reducible first | exact HB.out | apply bB_ | apply wN_ | apply bE_ | refine bS_ ?_ GE233.out | refine bS_ ?_ GE234.out) | exact HB.out)) hb); clear BK233; clear BK234; clear HB; have HO238 := n0_; have BK233 := n1_; have BK234 := n2_; have HB := n3_; clear n0_ n1_ n2_ n3_; (try clear hb); (try clear hb2); (try clear hk); (try clear hi); (try clear ho0)) | ((with_reducible refine gate_dst (N := 5) rfl ?_); refine box_event ?hg (N := 5) ?hd (cs := #[.bool false, .slice none 0 0, .int .i64 0]) (t := 26) ?hr ?_; (case hd => rfl); (case hg => rfl); (case hr => first | (go_simp; done) | (go_simp; rfl)); intro gb241 hg w23 hbox hb; have n0_ := aM_ (Kd.R_below (by (with_reducible repeat (first | apply kA_ | apply kN_ | apply kD_)); exact HO238.out) hb); have n1_ := aM_ (blk_below (g := gb233) (o := .cells #[.int .i64 a0_0, .int .i64 a0_1] 23 (0, 0)) (by (with_reducible repeat (first | refine bN_ ?_ _ | refine bD_ ?_ | refine bA_ ?_ _)); exact BK233.out) hb); have n2_ := aM_ (blk_below (g := gb234) (o := .cells #[.bool a1_0, .slice A1_1 l1_1.length c1_1, .int .i64 a1_2] 26 (0, 0)) (by (with_reducible repeat (first | refine bN_ ?_ _ | refine bD_ ?_ | refine bA_ ?_ _)); exact BK234.out) hb); have n3_ := aM_ (below_step (by repeat (first | (with_reducible first | exact HB.out | apply bB_ | apply wN_ | apply bE_ | refine bS_ ?_ GE233.out | refine bS_ ?_ GE234.out) | exact HB.out)) hb); have n4_ := aM_ (hbox); have n5_ := aM_ ((by rw [hg]; exact (below_size (by repeat (first | (with_reducible first | exact HB.out | apply bB_ | apply wN_ | apply bE_ | refine bS_ ?_ GE233.out | refine bS_ ?_ GE234.out) | exact HB.out))) : w.heap.size ≤ gb241)); have n6_ := aM_ ((by rw [hg]; exact (below_size (by repeat (first | (with_reducible first | exact HB.out | apply bB_ | apply wN_ | apply bE_ | refine bS_ ?_ GE233.out | refine bS_ ?_ GE234.out) | exact HB.out))) : w.heap.size ≤ gb241)); have n7_ := aM_ ((by rw [hg]; exact Nat.ne_of_lt (blk_lt (g := gb233) (o := .cells #[.int .i64 a0_0, .int .i64 a0_1] 23 (0, 0)) (by (with_reducible repeat (first | refine bN_ ?_ _ | refine bD_ ?_ | refine bA_ ?_ _)); exact BK233.out)) : gb233 ≠ gb241)); have n8_ := aM_ ((by rw [hg]; exact Nat.ne_of_gt (blk_lt (g := gb233) (o := .cells #[.int .i64 a0_0, .int .i64 a0_1] 23 (0, 0)) (by (with_reducible repeat (first | refine bN_ ?_ _ | refine bD_ ?_ | refine bA_ ?_ _)); exact BK233.out)) : gb241 ≠ gb233)); have n9_ := aM_ ((by rw [hg]; exact Nat.ne_of_lt (blk_lt (g := gb234) (o := .cells #[.bool a1_0, .slice A1_1 l1_1.length c1_1, .int .i64 a1_2] 26 (0, 0)) (by (with_reducible repeat (first | refine bN_ ?_ _ | refine bD_ ?_ | refine bA_ ?_ _)); exact BK234.out)) : gb234 ≠ gb241)); have n10_ := aM_ ((by rw [hg]; exact Nat.ne_of_gt (blk_lt (g := gb234) (o := .cells #[.bool a1_0, .slice A1_1 l1_1.length c1_1, .int .i64 a1_2] 26 (0, 0)) (by (with_reducible repeat (first | refine bN_ ?_ _ | refine bD_ ?_ | refine bA_ ?_ _)); exact BK234.out)) : gb241 ≠ gb234)); clear HO238; clear BK233; clear BK234; clear HB; have HO238 := n0_; have BK233 := n1_; have BK234 := n2_; have HB := n3_; have BK241 := n4_; have GW241 := n5_; have GE241 := n6_; have NB233_241 := n7_; have NB241_233 := n8_; have NB234_241 := n9_; have NB241_234 := n10_; clear n0_ n1_ n2_ n3_ n4_ n5_ n6_ n7_ n8_ n9_ n10_; clear hb hbox hg; have hnb24 := NB241_233.out; have hnc24 := NB233_241.out; have hnb25 := NB241_234.out; have hnc25 := NB234_241.out; have hcz26_0 : w23.cell? ⟨gb241, 0, none⟩ = some (.bool false) := (bC_ BK241.out 0).trans rfl; have hcz26_1 : w23.cell? ⟨gb241, 1, none⟩ = some (.slice none 0 0) := (bC_ BK241.out 1).trans rfl; have hcz26_2 : w23.cell? ⟨gb241, 2, none⟩ = some (.int .i64 0) := (bC_ BK241.out 2).trans rfl; have hfz26_0 := bF_ BK241.out 0; have hfz26_1 := bF_ BK241.out 1; have hfz26_2 := bF_ BK241.out 2; obtain ⟨Ao27, co27, eo27⟩ := Kd.R_slice HO238.out; subst eo27))
  go_ret
  exact ⟨by first | rfl | (simp [errW_none, errW_some] <;> rfl) | (simp [*, errW_none, errW_some] <;> rfl) | (exfalso; contradiction), by repeat (first | (with_reducible first | exact HB.out | apply bB_ | apply wN_ | apply bE_ | refine bS_ ?_ GE233.out | refine bS_ ?_ GE234.out | refine bS_ ?_ GE241.out) | exact HB.out)⟩

/-! ### spec_DecimalInt: function 10 -/
mutual
def spec_DecimalInt.j0 : Nat → Bool → Bool → List Int → Int → Option (Int × Bool)
 | 0, _, _, _, _ => none
 | k + 1, x24, x244000, x244001, x244002 => if x24 = true then (some (0, false)) else ((spec_wide.f k x244000 x244001 x244002 0).bind fun t244 => (spec_DecimalInt.l0 k 0 t244 (t244.length : Int) 0 x244000 x244001 x244002))
def spec_DecimalInt.l0 : Nat → Int → List Int → Int → Int → Bool → List Int → Int → Option (Int × Bool)
 | 0, _, _, _, _, _, _, _ => none
 | k + 1, x4, x26, x27, x28, x244000, x244001, x244002 => if x28 < x27 then (if 0 ≤ x28 then (if x28 < (x26.length : Int) then (spec_DecimalInt.l0 k (IntKind.u64.wrap ((IntKind.u64.wrap (10 * x4)) + (IntKind.u64.wrap (rd x26 x28)))) x26 x27 (wrap64 (x28 + 1)) x244000 x244001 x244002) else (none)) else (none)) else (if x244000 = true then (some (wrap64 (IntKind.u64.wrap (-x4)), decide (x4 ≤ 9223372036854775808))) else (some (wrap64 (x4), decide (x4 < 9223372036854775808))))
end
def spec_DecimalInt.f (k : Nat) (a0_0 : Bool) (l0_1 : List Int) (a0_2 : Int) : Option (Int × Bool) := if (l0_1.length : Int) > 0 then (if a0_2 < 0 then (spec_DecimalInt.j0 k true a0_0 l0_1 a0_2) else (spec_DecimalInt.j0 k (decide ((wrap64 ((l0_1.length : Int) + a0_2)) > 19)) a0_0 l0_1 a0_2)) else (spec_DecimalInt.j0 k false a0_0 l0_1 a0_2)
theorem spec_DecimalInt.mono_l : ∀ k, (∀ y0 y1 y2 y3, LeO (spec_DecimalInt.j0 k y0 y1 y2 y3) (spec_DecimalInt.j0 (k + 1) y0 y1 y2 y3)) ∧ (∀ y0 y1 y2 y3 y4 y5 y6, LeO (spec_DecimalInt.l0 k y0 y1 y2 y3 y4 y5 y6) (spec_DecimalInt.l0 (k + 1) y0 y1 y2 y3 y4 y5 y6))
 | 0 => ⟨fun _ _ _ _ r h => by simp [spec_DecimalInt.j0] at h, fun _ _ _ _ _ _ _ r h => by simp [spec_DecimalInt.l0] at h⟩
 | k + 1 => by
  obtain ⟨ih0, ih1⟩ := spec_DecimalInt.mono_l k
  refine ⟨?_, ?_⟩
  ·
   intro y0 y1 y2 y3
   unfold spec_DecimalInt.j0
   repeat' first
   | (with_reducible exact ih0 _ _ _ _)
   | (with_reducible exact ih1 _ _ _ _ _ _ _)
   | (with_reducible exact spec_wide.mono _ _ _ _ _)
   | (with_reducible exact LeO.refl _)
   | (with_reducible exact LeO.none _)
   | (with_reducible refine LeO.ite ?_ ?_)
   | (with_reducible refine LeO.bind ?_ (fun _ => ?_))
   | exact ih0 _ _ _ _
   | exact ih1 _ _ _ _ _ _ _
   | exact spec_wide.mono _ _ _ _ _
   | exact LeO.none _
   | refine LeO.ite ?_ ?_
   | refine LeO.bind ?_ (fun _ => ?_)
  ·
   intro y0 y1 y2 y3 y4 y5 y6
   unfold spec_DecimalInt.l0
   repeat' first
   | (with_reducible exact ih0 _ _ _ _)
   | (with_reducible exact ih1 _ _ _ _ _ _ _)
   | (with_reducible exact spec_wide.mono _ _ _ _ _)
   | (with_reducible exact LeO.refl _)
   | (with_reducible exact LeO.none _)
   | (with_reducible refine LeO.ite ?_ ?_)
   | (with_reducible refine LeO.bind ?_ (fun _ => ?_))
   | exact ih0 _ _ _ _
   | exact ih1 _ _ _ _ _ _ _
   | exact spec_wide.mono _ _ _ _ _
   | exact LeO.none _
   | refine LeO.ite ?_ ?_
   | refine LeO.bind ?_ (fun _ => ?_)
theorem spec_DecimalInt.mono : ∀ a0 a1 a2 k, LeO (spec_DecimalInt.f k a0 a1 a2) (spec_DecimalInt.f (k + 1) a0 a1 a2) := by
 intro a0 a1 a2 k
 obtain ⟨ih0, ih1⟩ := spec_DecimalInt.mono_l k
 unfold spec_DecimalInt.f
 repeat' first
   | (with_reducible exact ih0 _ _ _ _)
   | (with_reducible exact ih1 _ _ _ _ _ _ _)
   | (with_reducible exact spec_wide.mono _ _ _ _ _)
   | (with_reducible exact LeO.refl _)
   | (with_reducible exact LeO.none _)
   | (with_reducible refine LeO.ite ?_ ?_)
   | (with_reducible refine LeO.bind ?_ (fun _ => ?_))
   | exact ih0 _ _ _ _
   | exact ih1 _ _ _ _ _ _ _
   | exact spec_wide.mono _ _ _ _ _
   | exact LeO.none _
   | refine LeO.ite ?_ ?_
   | refine LeO.bind ?_ (fun _ => ?_)
set_option maxHeartbeats 8000000 in
set_option maxRecDepth 100000 in
theorem spec_DecimalInt.calls (k : Nat) (a0_0 : Bool) (A0_1 : Option Addr) (c0_1 : Nat) (l0_1 : List Int) (a0_2 : Int) (r1 : Int) (r2 : Bool) (w : World) (hr0_1 : Kd.C (Kd.int .i64) w A0_1 l0_1.length l0_1) (hc0_1 : l0_1.length ≤ c0_1) (h : spec_DecimalInt.f k a0_0 l0_1 a0_2 = some (r1, r2)) :
  Calls Try.prog 10 #[.agg #[.bool a0_0, .slice A0_1 l0_1.length c0_1, .int .i64 a0_2]] w fun e w' => e = .returned (.tuple #[.int .i64 r1, .bool r2]) ∧ Below w.heap.size w w' := by
 have hu26 := Try.underlying26
 have HR0_1 := aM_ hr0_1
 have HC0_1 := aM_ hc0_1
 clear hr0_1 hc0_1
 have HB := aM_ (Below.refl w.heap.size w)
 have H : (if (l0_1.length : Int) > 0 then (if a0_2 < 0 then (spec_DecimalInt.j0 k true a0_0 l0_1 a0_2) else (spec_DecimalInt.j0 k (decide ((wrap64 ((l0_1.length : Int) + a0_2)) > 19)) a0_0 l0_1 a0_2)) else (spec_DecimalInt.j0 k false a0_0 l0_1 a0_2)) = some (r1, r2) := h
 clear h
 have HC2 := aM_ H
 clear H
 go_enter Try.func10, Try.ntmps10
 go_upto_region 1 with (first | ((with_reducible refine gate_dst (N := 1) rfl ?_); (try (refine gate_guard (by rfl) ?_; dsimp only)); refine box_event ?hg (N := 1) ?hd (cs := #[.bool a0_0, .slice A0_1 l0_1.length c0_1, .int .i64 a0_2]) (t := 26) ?hr ?_; (case hd => rfl); (case hg => rfl); (case hr => first | (go_simp; done) | (go_simp; rfl)); intro gb243 hg w3 hbox hb; have n0_ := aM_ (below_step (by repeat (first | (with_reducible first | exact HB.out | apply bB_ | apply wN_ | apply bE_) | exact HB.out)) hb); have n1_ := aM_ (hbox); have n2_ := aM_ ((by rw [hg]; exact (below_size (by repeat (first | (with_reducible first | exact HB.out | apply bB_ | apply wN_ | apply bE_) | exact HB.out))) : w.heap.size ≤ gb243)); have n3_ := aM_ ((by rw [hg]; exact (below_size (by repeat (first | (with_reducible first | exact HB.out | apply bB_ | apply wN_ | apply bE_) | exact HB.out))) : w.heap.size ≤ gb243)); clear HB; have HB := n0_; have BK243 := n1_; have GW243 := n2_; have GE243 := n3_; clear n0_ n1_ n2_ n3_; clear hb hbox hg))
 (try simp only [Act.put, List.setIfInBounds_toArray, List.set_cons_zero, List.set_cons_succ])
 go_cut [24] (fun v24 wc => ∃ (kq : Nat) (x24_1 : Bool), v24 = .bool x24_1 ∧ Aside0 (spec_DecimalInt.j0 kq x24_1 a0_0 l0_1 a0_2 = some (r1, r2)) ∧ Aside0 (kq ≤ k) ∧ Aside0 (wc.heap[gb243]? = some (.cells #[.bool a0_0, (.slice A0_1 l0_1.length c0_1), .int .i64 a0_2] 26 (0, 0))) ∧ Aside0 (Below w.heap.size w wc))
 case first =>
  have H := HC2.out
  clear HC2
  by_cases c4 : (l0_1.length : Int) > 0
  ·
   rw [if_pos c4] at H
   have c4b0 : decide (0 < (l0_1.length : Int)) = true := decide_eq_true c4
   have c4b1 : decide (0 < l0_1.length) = true := decide_eq_true (by omega)
   clear c4
   (first | rw [c4b0] | (simp only [i64_w, i32_w]; rw [c4b0]) | skip)
   by_cases c5 : a0_2 < 0
   ·
    rw [if_pos c5] at H
    have c5b0 : decide (a0_2 < 0) = true := decide_eq_true c5
    clear c5
    have H' := aM_ H
    clear H
    have hcz6_0 : w3.cell? ⟨gb243, 0, none⟩ = some (.bool a0_0) := (bC_ BK243.out 0).trans rfl
    have hcz6_1 : w3.cell? ⟨gb243, 1, none⟩ = some (.slice A0_1 l0_1.length c0_1) := (bC_ BK243.out 1).trans rfl
    have hcz6_2 : w3.cell? ⟨gb243, 2, none⟩ = some (.int .i64 a0_2) := (bC_ BK243.out 2).trans rfl
    have hfz6_0 := bF_ BK243.out 0
    have hfz6_1 := bF_ BK243.out 1
    have hfz6_2 := bF_ BK243.out 2
    go_wp2
    go_meet
    case rel => exact ⟨_, (true), (by first | rfl | (simp; done) | (simp [*]; done)), H', ⟨by first | omega | exact Nat.le_refl _⟩, ⟨by (with_reducible repeat (first | refine bN_ ?_ _ | refine bD_ ?_ | refine bA_ ?_ _)); exact BK243.out⟩, ⟨by repeat (first | (with_reducible first | exact HB.out | apply bB_ | apply wN_ | apply bE_ | refine bS_ ?_ GE243.out) | exact HB.out)⟩⟩
   ·
    rw [if_neg c5] at H
    have c5b0 : decide (a0_2 < 0) = false := decide_eq_false c5
    clear c5
    have H' := aM_ H
    clear H
    have hcz7_0 : w3.cell? ⟨gb243, 0, none⟩ = some (.bool a0_0) := (bC_ BK243.out 0).trans rfl
    have hcz7_1 : w3.cell? ⟨gb243, 1, none⟩ = some (.slice A0_1 l0_1.length c0_1) := (bC_ BK243.out 1).trans rfl
    have hcz7_2 : w3.cell? ⟨gb243, 2, none⟩ = some (.int .i64 a0_2) := (bC_ BK243.out 2).trans rfl
    have hfz7_0 := bF_ BK243.out 0
    have hfz7_1 := bF_ BK243.out 1
    have hfz7_2 := bF_ BK243.out 2
    go_wp2
    go_meet
    case rel => exact ⟨_, (decide ((wrap64 ((l0_1.length : Int) + a0_2)) > 19)), (by first | rfl | (simp; done) | (simp [*]; done)), H', ⟨by first | omega | exact Nat.le_refl _⟩, ⟨by (with_reducible repeat (first | refine bN_ ?_ _ | refine bD_ ?_ | refine bA_ ?_ _)); exact BK243.out⟩, ⟨by repeat (first | (with_reducible first | exact HB.out | apply bB_ | apply wN_ | apply bE_ | refine bS_ ?_ GE243.out) | exact HB.out)⟩⟩
  ·
   rw [if_neg c4] at H
   have c4b0 : decide (0 < (l0_1.length : Int)) = false := decide_eq_false c4
   have c4b1 : decide (0 < l0_1.length) = false := decide_eq_false (by omega)
   clear c4
   (first | rw [c4b0] | (simp only [i64_w, i32_w]; rw [c4b0]) | skip)
   have H' := aM_ H
   clear H
   have hcz8_0 : w3.cell? ⟨gb243, 0, none⟩ = some (.bool a0_0) := (bC_ BK243.out 0).trans rfl
   have hcz8_1 : w3.cell? ⟨gb243, 1, none⟩ = some (.slice A0_1 l0_1.length c0_1) := (bC_ BK243.out 1).trans rfl
   have hcz8_2 : w3.cell? ⟨gb243, 2, none⟩ = some (.int .i64 a0_2) := (bC_ BK243.out 2).trans rfl
   have hfz8_0 := bF_ BK243.out 0
   have hfz8_1 := bF_ BK243.out 1
   have hfz8_2 := bF_ BK243.out 2
   go_wp2
   go_meet
   case rel => exact ⟨_, (false), (by first | rfl | (simp; done) | (simp [*]; done)), H', ⟨by first | omega | exact Nat.le_refl _⟩, ⟨by (with_reducible repeat (first | refine bN_ ?_ _ | refine bD_ ?_ | refine bA_ ?_ _)); exact BK243.out⟩, ⟨by repeat (first | (with_reducible first | exact HB.out | apply bB_ | apply wN_ | apply bE_ | refine bS_ ?_ GE243.out) | exact HB.out)⟩⟩
 case rest =>
  clear HC2
  try clear c1
  try clear p2
  try clear c4
  try clear c4b0
  try clear c4b1
  try clear c5
  try clear c5b0
  try clear p6
  try clear hcz6_0
  try clear hcz6_1
  try clear hcz6_2
  try clear hcz7_0
  try clear hcz7_1
  try clear hcz7_2
  try clear hcz8_0
  try clear hcz8_1
  try clear hcz8_2
  try clear hfz6_0
  try clear hfz6_1
  try clear hfz6_2
  try clear hfz7_0
  try clear hfz7_1
  try clear hfz7_2
  try clear hfz8_0
  try clear hfz8_1
  try clear hfz8_2
  obtain ⟨kq, x24_1, rfl, HA, HJ1, BK243, HB⟩ := hcut
  cases kq with
  | zero => exact absurd HA.out (by simp [spec_DecimalInt.j0])
  | succ kj1 =>
   have H := HA.out
   clear HA
   simp only [spec_DecimalInt.j0] at H
   by_cases c9 : x24_1 = true
   ·
    subst c9
    have H1 : (some (0, false)) = some (r1, r2) := by rw [if_pos rfl] at H; exact H
    clear H
    have H := H1
    clear H1
    simp only [Option.some.injEq, Prod.mk.injEq] at H
    obtain ⟨rfl, rfl⟩ := H
    go_wp2
    go_ret2
    exact ⟨by first | rfl | (simp [errW_none, errW_some] <;> rfl) | (simp [*, errW_none, errW_some] <;> rfl) | (exfalso; contradiction), by repeat (first | (with_reducible first | exact HB.out | apply bB_ | apply wN_ | apply bE_ | refine bS_ ?_ GE243.out) | exact HB.out)⟩
   ·
    replace c9 := Bool.eq_false_iff.mpr c9
    subst c9
    have H1 : ((spec_wide.f kj1 a0_0 l0_1 a0_2 0).bind fun t244 => (spec_DecimalInt.l0 kj1 0 t244 (t244.length : Int) 0 a0_0 l0_1 a0_2)) = some (r1, r2) := by rw [if_neg (show ¬ (false = true) by decide)] at H; exact H
    clear H
    have H := H1
    clear H1
    replace H := Option.bind_eq_some_iff.mp H
    obtain ⟨t244, A100, H⟩ := H
    replace H : (spec_DecimalInt.l0 kj1 0 t244 (t244.length : Int) 0 a0_0 l0_1 a0_2) = some (r1, r2) := H
    have A10 := aM_ A100
    clear A100
    have H' := aM_ H
    clear H
    have hcz11_0 : wc.cell? ⟨gb243, 0, none⟩ = some (.bool a0_0) := (bC_ BK243.out 0).trans rfl
    have hcz11_1 : wc.cell? ⟨gb243, 1, none⟩ = some (.slice A0_1 l0_1.length c0_1) := (bC_ BK243.out 1).trans rfl
    have hcz11_2 : wc.cell? ⟨gb243, 2, none⟩ = some (.int .i64 a0_2) := (bC_ BK243.out 2).trans rfl
    have hfz11_0 := bF_ BK243.out 0
    have hfz11_1 := bF_ BK243.out 1
    have hfz11_2 := bF_ BK243.out 2
    go_wp2_with (first | ((with_reducible refine gate_callee (f := 23) rfl ?_); refine goesL_ (some 26) rfl rfl Try.func23 (by kernel_rfl) rfl #[.agg #[.bool a0_0, .slice A0_1 l0_1.length c0_1, .int .i64 a0_2], .int .i64 0] rfl (by (try simp only [List.map_toArray, List.map_cons, List.map_nil]); first | done | rfl | (simp only [List.length_drop, List.length_take]; rfl)) ?_; (with_reducible refine (spec_wide.calls kj1 a0_0 _ _ l0_1 a0_2 0 t244 _ ?side1 ?side2 A10.out).mono ?_); (case side1 => repeat (first | exact (Kd.C_below HR0_1.out HB.out) | (with_reducible refine Kd.C_alloc ?_ _) | (with_reducible refine Kd.C_drewN ?_ _) | (with_reducible refine Kd.C_drew ?_))); (case side2 => exact HC0_1.out); rintro e w12 ⟨v245, rfl, ho0, hb⟩; refine ⟨_, rfl, ?_⟩; have n0_ := aM_ (Kd.R_lower ho0 (below_size (by repeat (first | (with_reducible first | exact HB.out | apply bB_ | apply wN_ | apply bE_ | refine bS_ ?_ GE243.out) | exact HB.out)))); have n1_ := aM_ (blk_below (g := gb243) (o := .cells #[.bool a0_0, .slice A0_1 l0_1.length c0_1, .int .i64 a0_2] 26 (0, 0)) (by (with_reducible repeat (first | refine bN_ ?_ _ | refine bD_ ?_ | refine bA_ ?_ _)); exact BK243.out) hb); have n2_ := aM_ (below_step (by repeat (first | (with_reducible first | exact HB.out | apply bB_ | apply wN_ | apply bE_ | refine bS_ ?_ GE243.out) | exact HB.out)) hb); clear BK243; clear HB; have HO246 := n0_; have BK243 := n1_; have HB := n2_; clear n0_ n1_ n2_; (try clear hb); (try clear hb2); (try clear hk); (try clear hi); (try clear ho0); obtain ⟨Ao13, co13, eo13⟩ := Kd.R_slice HO246.out; subst eo13))
    go_loopg [4, 28] kj1 (fun kq v4 v28 w' => ∃ (x4_2 : Int) (x28_2 : Int), v4 = .int .u64 x4_2 ∧ v28 = .int .i64 x28_2 ∧ Aside0 (spec_DecimalInt.l0 kq x4_2 t244 (t244.length : Int) x28_2 a0_0 l0_1 a0_2 = some (r1, r2)) ∧ Aside0 (kq ≤ kj1) ∧ Aside0 (Kd.R (Kd.int .i64) 3 w' w.heap.size (fun _ => True) (.slice Ao13 t244.length co13) t244) ∧ Aside0 (w'.heap[gb243]? = some (.cells #[.bool a0_0, (.slice A0_1 l0_1.length c0_1), .int .i64 a0_2] 26 (0, 0))) ∧ Aside0 (Below w.heap.size w w'))
    case atStart => exact ⟨(0), (0), (by first | rfl | (simp; done) | (simp [*]; done)), (by first | rfl | (simp; done) | (simp [*]; done)), H', ⟨Nat.le_refl _⟩, ⟨by (with_reducible repeat (first | apply kA_ | apply kN_ | apply kD_)); exact HO246.out⟩, ⟨by (with_reducible repeat (first | refine bN_ ?_ _ | refine bD_ ?_ | refine bA_ ?_ _)); exact BK243.out⟩, ⟨by repeat (first | (with_reducible first | exact HB.out | apply bB_ | apply wN_ | apply bE_ | refine bS_ ?_ GE243.out) | exact HB.out)⟩⟩
    case round =>
     clear H'
     try clear c1
     try clear c2
     try clear p2
     try clear c4
     try clear c4b0
     try clear c4b1
     try clear c5
     try clear c5b0
     try clear p6
     try clear c9
     try clear c10
     try clear hcz11_0
     try clear hcz11_1
     try clear hcz11_2
     try clear hcz6_0
     try clear hcz6_1
     try clear hcz6_2
     try clear hcz7_0
     try clear hcz7_1
     try clear hcz7_2
     try clear hcz8_0
     try clear hcz8_1
     try clear hcz8_2
     try clear hfz11_0
     try clear hfz11_1
     try clear hfz11_2
     try clear hfz6_0
     try clear hfz6_1
     try clear hfz6_2
     try clear hfz7_0
     try clear hfz7_1
     try clear hfz7_2
     try clear hfz8_0
     try clear hfz8_1
     try clear hfz8_2
     try clear p2
     try clear p6
     obtain ⟨x4_2, x28_2, rfl, rfl, HA, HK2, HO_26, BK243, HB⟩ := hrel
     cases gk with
     | zero => exact absurd HA.out (by simp [spec_DecimalInt.l0])
     | succ k2 =>
      have H := HA.out
      clear HA
      simp only [spec_DecimalInt.l0] at H
      by_cases c14 : x28_2 < (t244.length : Int)
      ·
       rw [if_pos c14] at H
       have c14b0 : decide (x28_2 < (t244.length : Int)) = true := decide_eq_true c14
       clear c14
       by_cases c15 : 0 ≤ x28_2
       ·
        rw [if_pos c15] at H
        have c15b0 : decide (0 ≤ x28_2) = true := decide_eq_true c15
        clear c15
        by_cases c16 : x28_2 < (t244.length : Int)
        ·
         rw [if_pos c16] at H
         have c16b0 : decide (x28_2 < (t244.length : Int)) = true := decide_eq_true c16
         clear c16
         have H' := aM_ H
         clear H
         have p247 : 0 ≤ (x28_2 : Int) := of_decide_eq_true (by first | (with_reducible assumption) | assumption)
         have q247 : x28_2 < (t244.length : Int) := of_decide_eq_true (by first | (with_reducible assumption) | assumption)
         obtain ⟨ad247, e247, hx247_0⟩ := Kd.at_int (Kd.R_reads' HO_26.out).2.2 x28_2 p247 q247
         cases e247
         replace p247 := eq_true p247
         replace q247 := eq_true q247
         go_wp2
         go_roundg k2
         case measure => have := HJ1.out; have := HK2.out; omega
         case rel => exact ⟨(IntKind.u64.wrap ((IntKind.u64.wrap (10 * x4_2)) + (IntKind.u64.wrap (rd t244 x28_2)))), (wrap64 (x28_2 + 1)), (by first | rfl | (simp; done) | (simp [*]; done)), (by first | rfl | (simp; done) | (simp [*]; done)), H', ⟨by have := HJ1.out; have := HK2.out; omega⟩, ⟨by (with_reducible repeat (first | apply kA_ | apply kN_ | apply kD_)); exact HO_26.out⟩, ⟨by (with_reducible repeat (first | refine bN_ ?_ _ | refine bD_ ?_ | refine bA_ ?_ _)); exact BK243.out⟩, ⟨by repeat (first | (with_reducible first | exact HB.out | apply bB_ | apply wN_ | apply bE_ | refine bS_ ?_ GE243.out) | exact HB.out)⟩⟩
        ·
         rw [if_neg c16] at H
         exact absurd H (by simp)
       ·
        rw [if_neg c15] at H
        exact absurd H (by simp)
      ·
       rw [if_neg c14] at H
       have c14b0 : decide (x28_2 < (t244.length : Int)) = false := decide_eq_false c14
       clear c14
       by_cases c17 : a0_0 = true
       ·
        subst c17
        have H1 : (some (wrap64 (IntKind.u64.wrap (-x4_2)), decide (x4_2 ≤ 9223372036854775808))) = some (r1, r2) := by rw [if_pos rfl] at H; exact H
        clear H
        have H := H1
        clear H1
        simp only [Option.some.injEq, Prod.mk.injEq] at H
        obtain ⟨rfl, rfl⟩ := H
        have hcz18_0 : wr.cell? ⟨gb243, 0, none⟩ = some (.bool true) := (bC_ BK243.out 0).trans rfl
        have hcz18_1 : wr.cell? ⟨gb243, 1, none⟩ = some (.slice A0_1 l0_1.length c0_1) := (bC_ BK243.out 1).trans rfl
        have hcz18_2 : wr.cell? ⟨gb243, 2, none⟩ = some (.int .i64 a0_2) := (bC_ BK243.out 2).trans rfl
        have hfz18_0 := bF_ BK243.out 0
        have hfz18_1 := bF_ BK243.out 1
        have hfz18_2 := bF_ BK243.out 2
        go_wp2
        go_ret2
        exact ⟨by first | rfl | (simp [errW_none, errW_some] <;> rfl) | (simp [*, errW_none, errW_some] <;> rfl) | (exfalso; contradiction), by repeat (first | (with_reducible first | exact HB.out | apply bB_ | apply wN_ | apply bE_ | refine bS_ ?_ GE243.out) | exact HB.out)⟩
       ·
        replace c17 := Bool.eq_false_iff.mpr c17
        subst c17
        have H1 : (some (wrap64 (x4_2), decide (x4_2 < 9223372036854775808))) = some (r1, r2) := by rw [if_neg (show ¬ (false = true) by decide)] at H; exact H
        clear H
        have H := H1
        clear H1
        simp only [Option.some.injEq, Prod.mk.injEq] at H
        obtain ⟨rfl, rfl⟩ := H
        have hcz19_0 : wr.cell? ⟨gb243, 0, none⟩ = some (.bool false) := (bC_ BK243.out 0).trans rfl
        have hcz19_1 : wr.cell? ⟨gb243, 1, none⟩ = some (.slice A0_1 l0_1.length c0_1) := (bC_ BK243.out 1).trans rfl
        have hcz19_2 : wr.cell? ⟨gb243, 2, none⟩ = some (.int .i64 a0_2) := (bC_ BK243.out 2).trans rfl
        have hfz19_0 := bF_ BK243.out 0
        have hfz19_1 := bF_ BK243.out 1
        have hfz19_2 := bF_ BK243.out 2
        go_wp2
        go_ret2
        exact ⟨by first | rfl | (simp [errW_none, errW_some] <;> rfl) | (simp [*, errW_none, errW_some] <;> rfl) | (exfalso; contradiction), by repeat (first | (with_reducible first | exact HB.out | apply bB_ | apply wN_ | apply bE_ | refine bS_ ?_ GE243.out) | exact HB.out)⟩

end Go.Proofs.Ytdhooibmibkbeaa.PFnAmountAdd
