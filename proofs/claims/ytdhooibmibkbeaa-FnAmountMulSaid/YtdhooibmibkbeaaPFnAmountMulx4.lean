/- Functions of the program as plain Lean functions, and that the machine's calls do what these say: written for this claim by wip/myprint.py over the kit's print.py. -/
import Derived.Test.YtdhooibmibkbeaaPFnAmountMulx0
import Derived.Test.YtdhooibmibkbeaaPFnAmountMulx2
import Derived.Test.YtdhooibmibkbeaaPFnAmountMulx3
namespace Go.Proofs.Ytdhooibmibkbeaa.PFnAmountMul
open Go.RowKit Go.Proofs.YtdhooibmibkbeaaW.PrintWords Go.Proofs.YtdhooibmibkbeaaW.PrintLast Go.Proofs.YtdhooibmibkbeaaW.PrintMore
attribute [local go_sem] max2_int min2_int max_two min_two max_three min_three max_four min_four   -- for this text's walks alone
set_option linter.unusedVariables false
set_option linter.unusedSimpArgs false

/-! ### spec_DecimalCmp: function 16 -/
def spec_DecimalCmp.j0 : Nat → Int → Int → Bool → Bool → List Int → Int → Bool → List Int → Int → Option (Int)
 | 0, _, _, _, _, _, _, _, _, _ => none
 | k + 1, x5, x6, x11, x151000, x151001, x151002, x152000, x152001, x152002 => if x11 = true then (some (-1)) else (if x5 = x6 then (if x5 < 0 then ((spec_larger.f k x151000 x151001 x151002 x152000 x152001 x152002).bind fun t154 => (some (wrap64 (-t154)))) else (if x5 > 0 then ((spec_larger.f k x151000 x151001 x151002 x152000 x152001 x152002).bind fun t155 => (some t155)) else (some 0))) else (some 1))
def spec_DecimalCmp.f (k : Nat) (a0_0 : Bool) (l0_1 : List Int) (a0_2 : Int) (a1_0 : Bool) (l1_1 : List Int) (a1_2 : Int) : Option (Int) := (spec_DecimalSign.f a0_0 l0_1 a0_2).bind fun t152 => ((spec_DecimalSign.f a1_0 l1_1 a1_2).bind fun t153 => (if t152 = t153 then (spec_DecimalCmp.j0 k t152 t153 false a0_0 l0_1 a0_2 a1_0 l1_1 a1_2) else (spec_DecimalCmp.j0 k t152 t153 (decide (t152 < t153)) a0_0 l0_1 a0_2 a1_0 l1_1 a1_2)))
theorem spec_DecimalCmp.mono_l : ∀ k, (∀ y0 y1 y2 y3 y4 y5 y6 y7 y8, LeO (spec_DecimalCmp.j0 k y0 y1 y2 y3 y4 y5 y6 y7 y8) (spec_DecimalCmp.j0 (k + 1) y0 y1 y2 y3 y4 y5 y6 y7 y8))
 | 0 => fun _ _ _ _ _ _ _ _ _ r h => by simp [spec_DecimalCmp.j0] at h
 | k + 1 => by
  have ih0 := spec_DecimalCmp.mono_l k
  ·
   intro y0 y1 y2 y3 y4 y5 y6 y7 y8
   unfold spec_DecimalCmp.j0
   repeat' first
   | (with_reducible exact ih0 _ _ _ _ _ _ _ _ _)
   | (with_reducible exact spec_larger.mono _ _ _ _ _ _ _)
   | (with_reducible exact LeO.refl _)
   | (with_reducible exact LeO.none _)
   | (with_reducible refine LeO.ite ?_ ?_)
   | (with_reducible refine LeO.bind ?_ (fun _ => ?_))
   | exact ih0 _ _ _ _ _ _ _ _ _
   | exact spec_larger.mono _ _ _ _ _ _ _
   | exact LeO.none _
   | refine LeO.ite ?_ ?_
   | refine LeO.bind ?_ (fun _ => ?_)
theorem spec_DecimalCmp.mono : ∀ a0 a1 a2 a3 a4 a5 k, LeO (spec_DecimalCmp.f k a0 a1 a2 a3 a4 a5) (spec_DecimalCmp.f (k + 1) a0 a1 a2 a3 a4 a5) := by
 intro a0 a1 a2 a3 a4 a5 k
 have ih0 := spec_DecimalCmp.mono_l k
 unfold spec_DecimalCmp.f
 repeat' first
   | (with_reducible exact ih0 _ _ _ _ _ _ _ _ _)
   | (with_reducible exact spec_larger.mono _ _ _ _ _ _ _)
   | (with_reducible exact LeO.refl _)
   | (with_reducible exact LeO.none _)
   | (with_reducible refine LeO.ite ?_ ?_)
   | (with_reducible refine LeO.bind ?_ (fun _ => ?_))
   | exact ih0 _ _ _ _ _ _ _ _ _
   | exact spec_larger.mono _ _ _ _ _ _ _
   | exact LeO.none _
   | refine LeO.ite ?_ ?_
   | refine LeO.bind ?_ (fun _ => ?_)
set_option maxHeartbeats 8000000 in
set_option maxRecDepth 100000 in
theorem spec_DecimalCmp.calls (k : Nat) (a0_0 : Bool) (A0_1 : Option Addr) (c0_1 : Nat) (l0_1 : List Int) (a0_2 : Int) (a1_0 : Bool) (A1_1 : Option Addr) (c1_1 : Nat) (l1_1 : List Int) (a1_2 : Int) (r : Int) (w : World) (hr0_1 : Kd.C (Kd.int .i64) w A0_1 l0_1.length l0_1) (hc0_1 : l0_1.length ≤ c0_1) (hr1_1 : Kd.C (Kd.int .i64) w A1_1 l1_1.length l1_1) (hc1_1 : l1_1.length ≤ c1_1) (h : spec_DecimalCmp.f k a0_0 l0_1 a0_2 a1_0 l1_1 a1_2 = some r) :
  Calls Try.prog 16 #[.agg #[.bool a0_0, .slice A0_1 l0_1.length c0_1, .int .i64 a0_2], .agg #[.bool a1_0, .slice A1_1 l1_1.length c1_1, .int .i64 a1_2]] w fun e w' => e = .returned (.int .i64 r) ∧ Below w.heap.size w w' := by
 have hu26 := Try.underlying26
 have HR0_1 := aM_ hr0_1
 have HC0_1 := aM_ hc0_1
 clear hr0_1 hc0_1
 have HR1_1 := aM_ hr1_1
 have HC1_1 := aM_ hc1_1
 clear hr1_1 hc1_1
 have HB := aM_ (Below.refl w.heap.size w)
 have H : ((spec_DecimalSign.f a0_0 l0_1 a0_2).bind fun t152 => ((spec_DecimalSign.f a1_0 l1_1 a1_2).bind fun t153 => (if t152 = t153 then (spec_DecimalCmp.j0 k t152 t153 false a0_0 l0_1 a0_2 a1_0 l1_1 a1_2) else (spec_DecimalCmp.j0 k t152 t153 (decide (t152 < t153)) a0_0 l0_1 a0_2 a1_0 l1_1 a1_2)))) = some r := h
 clear h
 replace H := Option.bind_eq_some_iff.mp H
 obtain ⟨t152, A30, H⟩ := H
 replace H : ((spec_DecimalSign.f a1_0 l1_1 a1_2).bind fun t153 => (if t152 = t153 then (spec_DecimalCmp.j0 k t152 t153 false a0_0 l0_1 a0_2 a1_0 l1_1 a1_2) else (spec_DecimalCmp.j0 k t152 t153 (decide (t152 < t153)) a0_0 l0_1 a0_2 a1_0 l1_1 a1_2))) = some r := H
 have A3 := aM_ A30
 clear A30
 replace H := Option.bind_eq_some_iff.mp H
 obtain ⟨t153, A40, H⟩ := H
 replace H : (if t152 = t153 then (spec_DecimalCmp.j0 k t152 t153 false a0_0 l0_1 a0_2 a1_0 l1_1 a1_2) else (spec_DecimalCmp.j0 k t152 t153 (decide (t152 < t153)) a0_0 l0_1 a0_2 a1_0 l1_1 a1_2)) = some r := H
 have A4 := aM_ A40
 clear A40
 have HC5 := aM_ H
 clear H
 go_enter Try.func16, Try.ntmps16
 try go_wp2_with (first | ((with_reducible refine gate_dst (N := 2) rfl ?_); refine box_event ?hg (N := 2) ?hd (cs := #[.bool a0_0, .slice A0_1 l0_1.length c0_1, .int .i64 a0_2]) (t := 26) ?hr ?_; (case hd => rfl); (case hg => rfl); (case hr => first | (go_simp; done) | (go_simp; rfl)); intro gb150 hg w6 hbox hb; have n0_ := aM_ (below_step (by repeat (first | (with_reducible first | exact HB.out | apply bB_ | apply wN_ | apply bE_) | exact HB.out)) hb); have n1_ := aM_ (hbox); have n2_ := aM_ ((by rw [hg]; exact (below_size (by repeat (first | (with_reducible first | exact HB.out | apply bB_ | apply wN_ | apply bE_) | exact HB.out))) : w.heap.size ≤ gb150)); have n3_ := aM_ ((by rw [hg]; exact (below_size (by repeat (first | (with_reducible first | exact HB.out | apply bB_ | apply wN_ | apply bE_) | exact HB.out))) : w.heap.size ≤ gb150)); clear HB; have HB := n0_; have BK150 := n1_; have GW150 := n2_; have GE150 := n3_; clear n0_ n1_ n2_ n3_; clear hb hbox hg) | ((with_reducible refine gate_dst (N := 3) rfl ?_); refine box_event ?hg (N := 3) ?hd (cs := #[.bool a1_0, .slice A1_1 l1_1.length c1_1, .int .i64 a1_2]) (t := 26) ?hr ?_; (case hd => rfl); (case hg => rfl); (case hr => first | (go_simp; done) | (go_simp; rfl)); intro gb151 hg w7 hbox hb; have n0_ := aM_ (blk_below (g := gb150) (o := .cells #[.bool a0_0, .slice A0_1 l0_1.length c0_1, .int .i64 a0_2] 26 (0, 0)) (by (with_reducible repeat (first | refine bN_ ?_ _ | refine bD_ ?_ | refine bA_ ?_ _)); exact BK150.out) hb); have n1_ := aM_ (below_step (by repeat (first | (with_reducible first | exact HB.out | apply bB_ | apply wN_ | apply bE_ | refine bS_ ?_ GE150.out) | exact HB.out)) hb); have n2_ := aM_ (hbox); have n3_ := aM_ ((by rw [hg]; exact (below_size (by repeat (first | (with_reducible first | exact HB.out | apply bB_ | apply wN_ | apply bE_ | refine bS_ ?_ GE150.out) | exact HB.out))) : w.heap.size ≤ gb151)); have n4_ := aM_ ((by rw [hg]; exact (below_size (by repeat (first | (with_reducible first | exact HB.out | apply bB_ | apply wN_ | apply bE_ | refine bS_ ?_ GE150.out) | exact HB.out))) : w.heap.size ≤ gb151)); have n5_ := aM_ ((by rw [hg]; exact Nat.ne_of_lt (blk_lt (g := gb150) (o := .cells #[.bool a0_0, .slice A0_1 l0_1.length c0_1, .int .i64 a0_2] 26 (0, 0)) (by (with_reducible repeat (first | refine bN_ ?_ _ | refine bD_ ?_ | refine bA_ ?_ _)); exact BK150.out)) : gb150 ≠ gb151)); have n6_ := aM_ ((by rw [hg]; exact Nat.ne_of_gt (blk_lt (g := gb150) (o := .cells #[.bool a0_0, .slice A0_1 l0_1.length c0_1, .int .i64 a0_2] 26 (0, 0)) (by (with_reducible repeat (first | refine bN_ ?_ _ | refine bD_ ?_ | refine bA_ ?_ _)); exact BK150.out)) : gb151 ≠ gb150)); clear BK150; clear HB; have BK150 := n0_; have HB := n1_; have BK151 := n2_; have GW151 := n3_; have GE151 := n4_; have NB150_151 := n5_; have NB151_150 := n6_; clear n0_ n1_ n2_ n3_ n4_ n5_ n6_; clear hb hbox hg))
 have n0_ := aM_ (bD_ BK150.out)
 have n1_ := aM_ (bD_ BK151.out)
 have n2_ := aM_ (bE_ HB.out)
 clear BK150
 clear BK151
 clear HB
 have BK150 := n0_
 have BK151 := n1_
 have HB := n2_
 clear n0_ n1_ n2_
 refine start_ (n := 6) (S := fun w' => w'.cell? ⟨gb150, 0, none⟩ = some (.bool a0_0) ∧ w'.cell? ⟨gb150, 1, none⟩ = some (.slice A0_1 l0_1.length c0_1) ∧ w'.cell? ⟨gb150, 2, none⟩ = some (.int .i64 a0_2) ∧ w'.cell? ⟨gb151, 0, none⟩ = some (.bool a1_0) ∧ w'.cell? ⟨gb151, 1, none⟩ = some (.slice A1_1 l1_1.length c1_1) ∧ w'.cell? ⟨gb151, 2, none⟩ = some (.int .i64 a1_2)) (ds := []) #[false, false, false, false, false, false] (by kernel_rfl) rfl rfl ⟨(bC_ BK150.out 0).trans rfl, (bC_ BK150.out 1).trans rfl, (bC_ BK150.out 2).trans rfl, (bC_ BK151.out 0).trans rfl, (bC_ BK151.out 1).trans rfl, (bC_ BK151.out 2).trans rfl⟩ (fun hHeld => ?_)
 generalize w7.drew = w8 at BK150 BK151 HB hHeld ⊢
 refine take_ (i := 0) (N := some 7) (v := ?_) (a' := ?_) #[true, false, false, false, false, false] rfl rfl (by kernel_rfl) (fun _ _ _ h => h) (Or.inl ⟨by rfl, ?_⟩) hHeld ?_ ?_
 rotate_left
 ·
  rintro w' ⟨s0, s1, s2, s3, s4, s5⟩
  go_simp
  with_reducible rfl
 rotate_left
 ·
  simp only [Act.put, List.setIfInBounds_toArray, List.set_cons_zero, List.set_cons_succ, i64_w, i32_w]
  rfl
 refine take_ (i := 2) (N := some 9) (v := ?_) (a' := ?_) #[true, false, true, false, false, false] rfl rfl (by kernel_rfl) (fun _ _ _ h => h) (Or.inl ⟨by rfl, ?_⟩) hHeld ?_ ?_
 rotate_left
 ·
  rintro w' ⟨s0, s1, s2, s3, s4, s5⟩
  go_simp
  with_reducible rfl
 rotate_left
 ·
  simp only [Act.put, List.setIfInBounds_toArray, List.set_cons_zero, List.set_cons_succ, i64_w, i32_w]
  rfl
 refine one_ (i := 1) (N := some 8) #[true, true, true, false, false, false] rfl rfl (by kernel_rfl) (by decide) (fun K hK => ?_)
 refine goes_ Try.func26 (by kernel_rfl) rfl #[.agg #[.bool a0_0, .slice A0_1 l0_1.length c0_1, .int .i64 a0_2]] (by rfl) rfl rfl (by (try simp only [List.map_toArray, List.map_cons, List.map_nil]); first | done | rfl | (simp only [List.length_drop, List.length_take]; rfl)) ?_
 with_reducible refine (spec_DecimalSign.calls a0_0 _ _ l0_1 a0_2 t152 _ ?side1 ?side2 A3.out).mono ?_
 (case side1 => repeat (first | exact (Kd.C_below HR0_1.out HB.out) | (with_reducible refine Kd.C_alloc ?_ _) | (with_reducible refine Kd.C_drewN ?_ _) | (with_reducible refine Kd.C_drew ?_)))
 (case side2 => exact HC0_1.out)
 rintro e w9 ⟨rfl, hb⟩
 refine ⟨_, rfl, ?_⟩
 have n0_ := aM_ (blk_below (g := gb150) (o := .cells #[.bool a0_0, .slice A0_1 l0_1.length c0_1, .int .i64 a0_2] 26 (0, 0)) (by (with_reducible repeat (first | refine bN_ ?_ _ | refine bD_ ?_ | refine bA_ ?_ _)); exact BK150.out) hb)
 have n1_ := aM_ (blk_below (g := gb151) (o := .cells #[.bool a1_0, .slice A1_1 l1_1.length c1_1, .int .i64 a1_2] 26 (0, 0)) (by (with_reducible repeat (first | refine bN_ ?_ _ | refine bD_ ?_ | refine bA_ ?_ _)); exact BK151.out) hb)
 have n2_ := aM_ (below_step (by repeat (first | (with_reducible first | exact HB.out | apply bB_ | apply wN_ | apply bE_ | refine bS_ ?_ GE150.out | refine bS_ ?_ GE151.out) | exact HB.out)) hb)
 clear BK150
 clear BK151
 clear HB
 have BK150 := n0_
 have BK151 := n1_
 have HB := n2_
 clear n0_ n1_ n2_
 (try clear hb)
 (try clear hb2)
 (try clear hk)
 (try clear hi)
 refine hK.out _ _ ⟨(bC_ BK150.out 0).trans rfl, (bC_ BK150.out 1).trans rfl, (bC_ BK150.out 2).trans rfl, (bC_ BK151.out 0).trans rfl, (bC_ BK151.out 1).trans rfl, (bC_ BK151.out 2).trans rfl⟩ (fun hHeld => ?_)
 clear hK K
 refine norm_ (a' := ?_) ?_ ?_
 rotate_left
 ·
  show Act.put _ (some 8) _ = _
  simp only [Act.put, List.setIfInBounds_toArray, List.set_cons_zero, List.set_cons_succ, i64_w, i32_w]
  rfl
 refine one_ (i := 3) (N := some 10) #[true, true, true, true, false, false] rfl rfl (by kernel_rfl) (by decide) (fun K hK => ?_)
 refine goes_ Try.func26 (by kernel_rfl) rfl #[.agg #[.bool a1_0, .slice A1_1 l1_1.length c1_1, .int .i64 a1_2]] (by rfl) rfl rfl (by (try simp only [List.map_toArray, List.map_cons, List.map_nil]); first | done | rfl | (simp only [List.length_drop, List.length_take]; rfl)) ?_
 with_reducible refine (spec_DecimalSign.calls a1_0 _ _ l1_1 a1_2 t153 _ ?side1 ?side2 A4.out).mono ?_
 (case side1 => repeat (first | exact (Kd.C_below HR1_1.out HB.out) | (with_reducible refine Kd.C_alloc ?_ _) | (with_reducible refine Kd.C_drewN ?_ _) | (with_reducible refine Kd.C_drew ?_)))
 (case side2 => exact HC1_1.out)
 rintro e w10 ⟨rfl, hb⟩
 refine ⟨_, rfl, ?_⟩
 have n0_ := aM_ (blk_below (g := gb150) (o := .cells #[.bool a0_0, .slice A0_1 l0_1.length c0_1, .int .i64 a0_2] 26 (0, 0)) (by (with_reducible repeat (first | refine bN_ ?_ _ | refine bD_ ?_ | refine bA_ ?_ _)); exact BK150.out) hb)
 have n1_ := aM_ (blk_below (g := gb151) (o := .cells #[.bool a1_0, .slice A1_1 l1_1.length c1_1, .int .i64 a1_2] 26 (0, 0)) (by (with_reducible repeat (first | refine bN_ ?_ _ | refine bD_ ?_ | refine bA_ ?_ _)); exact BK151.out) hb)
 have n2_ := aM_ (below_step (by repeat (first | (with_reducible first | exact HB.out | apply bB_ | apply wN_ | apply bE_ | refine bS_ ?_ GE150.out | refine bS_ ?_ GE151.out) | exact HB.out)) hb)
 clear BK150
 clear BK151
 clear HB
 have BK150 := n0_
 have BK151 := n1_
 have HB := n2_
 clear n0_ n1_ n2_
 (try clear hb)
 (try clear hb2)
 (try clear hk)
 (try clear hi)
 refine hK.out _ _ ⟨(bC_ BK150.out 0).trans rfl, (bC_ BK150.out 1).trans rfl, (bC_ BK150.out 2).trans rfl, (bC_ BK151.out 0).trans rfl, (bC_ BK151.out 1).trans rfl, (bC_ BK151.out 2).trans rfl⟩ (fun hHeld => ?_)
 clear hK K
 refine norm_ (a' := ?_) ?_ ?_
 rotate_left
 ·
  show Act.put _ (some 10) _ = _
  simp only [Act.put, List.setIfInBounds_toArray, List.set_cons_zero, List.set_cons_succ, i64_w, i32_w]
  rfl
 refine pure_ (i := 4) (N := some 5) (v := ?_) (a' := ?_) #[true, true, true, true, true, false] rfl rfl (by kernel_rfl) (fun _ _ _ h => h) (Or.inl ⟨by rfl, ?_⟩) ?_ ?_
 rotate_left
 ·
  intro w'
  go_simp
  with_reducible rfl
 rotate_left
 ·
  simp only [Act.put, List.setIfInBounds_toArray, List.set_cons_zero, List.set_cons_succ, i64_w, i32_w]
  rfl
 refine pure_ (i := 5) (N := some 6) (v := ?_) (a' := ?_) #[true, true, true, true, true, true] rfl rfl (by kernel_rfl) (fun _ _ _ h => h) (Or.inl ⟨by rfl, ?_⟩) ?_ ?_
 rotate_left
 ·
  intro w'
  go_simp
  with_reducible rfl
 rotate_left
 ·
  simp only [Act.put, List.setIfInBounds_toArray, List.set_cons_zero, List.set_cons_succ, i64_w, i32_w]
  rfl
 refine done_ (by kernel_rfl) ?_
 go_upto_region 2 with (fail)
 go_cut [11] (fun v11 wc => ∃ (kq : Nat) (x11_4 : Bool), v11 = .bool x11_4 ∧ Aside0 (spec_DecimalCmp.j0 kq t152 t153 x11_4 a0_0 l0_1 a0_2 a1_0 l1_1 a1_2 = some r) ∧ Aside0 (kq ≤ k) ∧ Aside0 (wc.heap[gb150]? = some (.cells #[.bool a0_0, (.slice A0_1 l0_1.length c0_1), .int .i64 a0_2] 26 (0, 0))) ∧ Aside0 (wc.heap[gb151]? = some (.cells #[.bool a1_0, (.slice A1_1 l1_1.length c1_1), .int .i64 a1_2] 26 (0, 0))) ∧ Aside0 (Below w.heap.size w wc))
 case first =>
  have H := HC5.out
  clear HC5
  by_cases c11 : t152 = t153
  ·
   rw [if_pos c11] at H
   have c11b0 : (t152 == t153) = true := beq_iff_eq.mpr c11
   have c11b1 : (t152 != t153) = false := bne_eq_false_iff_eq.mpr c11
   clear c11
   (first | rw [c11b0] | (simp only [i64_w, i32_w]; rw [c11b0]) | skip)
   have H' := aM_ H
   clear H
   go_wp2
   go_meet
   case rel => exact ⟨_, (false), (by first | rfl | (simp; done) | (simp [*]; done)), H', ⟨by first | omega | exact Nat.le_refl _⟩, ⟨by (with_reducible repeat (first | refine bN_ ?_ _ | refine bD_ ?_ | refine bA_ ?_ _)); exact BK150.out⟩, ⟨by (with_reducible repeat (first | refine bN_ ?_ _ | refine bD_ ?_ | refine bA_ ?_ _)); exact BK151.out⟩, ⟨by repeat (first | (with_reducible first | exact HB.out | apply bB_ | apply wN_ | apply bE_ | refine bS_ ?_ GE150.out | refine bS_ ?_ GE151.out) | exact HB.out)⟩⟩
  ·
   rw [if_neg c11] at H
   have c11b0 : (t152 == t153) = false := beq_eq_false_iff_ne.mpr c11
   have c11b1 : (t152 != t153) = true := bne_iff_ne.mpr c11
   (first | rw [c11b0] | (simp only [i64_w, i32_w]; rw [c11b0]) | skip)
   have H' := aM_ H
   clear H
   go_wp2
   go_meet
   case rel => exact ⟨_, (decide (t152 < t153)), (by first | rfl | (simp; done) | (simp [*]; done)), H', ⟨by first | omega | exact Nat.le_refl _⟩, ⟨by (with_reducible repeat (first | refine bN_ ?_ _ | refine bD_ ?_ | refine bA_ ?_ _)); exact BK150.out⟩, ⟨by (with_reducible repeat (first | refine bN_ ?_ _ | refine bD_ ?_ | refine bA_ ?_ _)); exact BK151.out⟩, ⟨by repeat (first | (with_reducible first | exact HB.out | apply bB_ | apply wN_ | apply bE_ | refine bS_ ?_ GE150.out | refine bS_ ?_ GE151.out) | exact HB.out)⟩⟩
 case rest =>
  clear HC5
  try clear c1
  try clear c2
  try clear p2
  try clear c11
  try clear c11b0
  try clear c11b1
  obtain ⟨kq, x11_4, rfl, HA, HJ4, BK150, BK151, HB⟩ := hcut
  cases kq with
  | zero => exact absurd HA.out (by simp [spec_DecimalCmp.j0])
  | succ kj4 =>
   have H := HA.out
   clear HA
   simp only [spec_DecimalCmp.j0] at H
   by_cases c12 : x11_4 = true
   ·
    subst c12
    have H1 : (some (-1)) = some r := by rw [if_pos rfl] at H; exact H
    clear H
    have H := H1
    clear H1
    obtain rfl := Option.some.inj H
    go_wp2
    go_ret
    exact ⟨by first | rfl | (simp [errW_none, errW_some] <;> rfl) | (simp [*, errW_none, errW_some] <;> rfl) | (exfalso; contradiction), by repeat (first | (with_reducible first | exact HB.out | apply bB_ | apply wN_ | apply bE_ | refine bS_ ?_ GE150.out | refine bS_ ?_ GE151.out) | exact HB.out)⟩
   ·
    replace c12 := Bool.eq_false_iff.mpr c12
    subst c12
    have H1 : (if t152 = t153 then (if t152 < 0 then ((spec_larger.f kj4 a0_0 l0_1 a0_2 a1_0 l1_1 a1_2).bind fun t154 => (some (wrap64 (-t154)))) else (if t152 > 0 then ((spec_larger.f kj4 a0_0 l0_1 a0_2 a1_0 l1_1 a1_2).bind fun t155 => (some t155)) else (some 0))) else (some 1)) = some r := by rw [if_neg (show ¬ (false = true) by decide)] at H; exact H
    clear H
    have H := H1
    clear H1
    by_cases c13 : t152 = t153
    ·
     rw [if_pos c13] at H
     have c13b0 : (t152 == t153) = true := beq_iff_eq.mpr c13
     have c13b1 : (t152 != t153) = false := bne_eq_false_iff_eq.mpr c13
     clear c13
     by_cases c14 : t152 < 0
     ·
      rw [if_pos c14] at H
      have c14b0 : decide (t152 < 0) = true := decide_eq_true c14
      clear c14
      replace H := Option.bind_eq_some_iff.mp H
      obtain ⟨t154, A150, H⟩ := H
      replace H : (some (wrap64 (-t154))) = some r := H
      have A15 := aM_ A150
      clear A150
      obtain rfl := Option.some.inj H
      have hnb16 := NB150_151.out
      have hnc16 := NB151_150.out
      have hcz17_0 : wc.cell? ⟨gb150, 0, none⟩ = some (.bool a0_0) := (bC_ BK150.out 0).trans rfl
      have hcz17_1 : wc.cell? ⟨gb150, 1, none⟩ = some (.slice A0_1 l0_1.length c0_1) := (bC_ BK150.out 1).trans rfl
      have hcz17_2 : wc.cell? ⟨gb150, 2, none⟩ = some (.int .i64 a0_2) := (bC_ BK150.out 2).trans rfl
      have hfz17_0 := bF_ BK150.out 0
      have hfz17_1 := bF_ BK150.out 1
      have hfz17_2 := bF_ BK150.out 2
      have hcz18_0 : wc.cell? ⟨gb151, 0, none⟩ = some (.bool a1_0) := (bC_ BK151.out 0).trans rfl
      have hcz18_1 : wc.cell? ⟨gb151, 1, none⟩ = some (.slice A1_1 l1_1.length c1_1) := (bC_ BK151.out 1).trans rfl
      have hcz18_2 : wc.cell? ⟨gb151, 2, none⟩ = some (.int .i64 a1_2) := (bC_ BK151.out 2).trans rfl
      have hfz18_0 := bF_ BK151.out 0
      have hfz18_1 := bF_ BK151.out 1
      have hfz18_2 := bF_ BK151.out 2
      go_wp2_with (first | ((with_reducible refine gate_callee (f := 21) rfl ?_); refine goesL_ (some 29) rfl rfl Try.func21 (by kernel_rfl) rfl #[.agg #[.bool a0_0, .slice A0_1 l0_1.length c0_1, .int .i64 a0_2], .agg #[.bool a1_0, .slice A1_1 l1_1.length c1_1, .int .i64 a1_2]] rfl (by (try simp only [List.map_toArray, List.map_cons, List.map_nil]); first | done | rfl | (simp only [List.length_drop, List.length_take]; rfl)) ?_; (with_reducible refine (spec_larger.calls kj4 a0_0 _ _ l0_1 a0_2 a1_0 _ _ l1_1 a1_2 t154 _ ?side1 ?side2 ?side3 ?side4 A15.out).mono ?_); (case side1 => repeat (first | exact (Kd.C_below HR0_1.out HB.out) | (with_reducible refine Kd.C_alloc ?_ _) | (with_reducible refine Kd.C_drewN ?_ _) | (with_reducible refine Kd.C_drew ?_))); (case side2 => exact HC0_1.out); (case side3 => repeat (first | exact (Kd.C_below HR1_1.out HB.out) | (with_reducible refine Kd.C_alloc ?_ _) | (with_reducible refine Kd.C_drewN ?_ _) | (with_reducible refine Kd.C_drew ?_))); (case side4 => exact HC1_1.out); rintro e w19 ⟨rfl, hb⟩; refine ⟨_, rfl, ?_⟩; have n0_ := aM_ (blk_below (g := gb150) (o := .cells #[.bool a0_0, .slice A0_1 l0_1.length c0_1, .int .i64 a0_2] 26 (0, 0)) (by (with_reducible repeat (first | refine bN_ ?_ _ | refine bD_ ?_ | refine bA_ ?_ _)); exact BK150.out) hb); have n1_ := aM_ (blk_below (g := gb151) (o := .cells #[.bool a1_0, .slice A1_1 l1_1.length c1_1, .int .i64 a1_2] 26 (0, 0)) (by (with_reducible repeat (first | refine bN_ ?_ _ | refine bD_ ?_ | refine bA_ ?_ _)); exact BK151.out) hb); have n2_ := aM_ (below_step (by repeat (first | (with_reducible first | exact HB.out | apply bB_ | apply wN_ | apply bE_ | refine bS_ ?_ GE150.out | refine bS_ ?_ GE151.out) | exact HB.out)) hb); clear BK150; clear BK151; clear HB; have BK150 := n0_; have BK151 := n1_; have HB := n2_; clear n0_ n1_ n2_; (try clear hb); (try clear hb2); (try clear hk); (try clear hi)))
      go_ret
      exact ⟨by first | rfl | (simp [errW_none, errW_some] <;> rfl) | (simp [*, errW_none, errW_some] <;> rfl) | (exfalso; contradiction), by repeat (first | (with_reducible first | exact HB.out | apply bB_ | apply wN_ | apply bE_ | refine bS_ ?_ GE150.out | refine bS_ ?_ GE151.out) | exact HB.out)⟩
     ·
      rw [if_neg c14] at H
      have c14b0 : decide (t152 < 0) = false := decide_eq_false c14
      clear c14
      by_cases c20 : t152 > 0
      ·
       rw [if_pos c20] at H
       have c20b0 : decide (0 < t152) = true := decide_eq_true c20
       clear c20
       replace H := Option.bind_eq_some_iff.mp H
       obtain ⟨t155, A210, H⟩ := H
       replace H : (some t155) = some r := H
       have A21 := aM_ A210
       clear A210
       obtain rfl := Option.some.inj H
       have hnb22 := NB150_151.out
       have hnc22 := NB151_150.out
       have hcz23_0 : wc.cell? ⟨gb150, 0, none⟩ = some (.bool a0_0) := (bC_ BK150.out 0).trans rfl
       have hcz23_1 : wc.cell? ⟨gb150, 1, none⟩ = some (.slice A0_1 l0_1.length c0_1) := (bC_ BK150.out 1).trans rfl
       have hcz23_2 : wc.cell? ⟨gb150, 2, none⟩ = some (.int .i64 a0_2) := (bC_ BK150.out 2).trans rfl
       have hfz23_0 := bF_ BK150.out 0
       have hfz23_1 := bF_ BK150.out 1
       have hfz23_2 := bF_ BK150.out 2
       have hcz24_0 : wc.cell? ⟨gb151, 0, none⟩ = some (.bool a1_0) := (bC_ BK151.out 0).trans rfl
       have hcz24_1 : wc.cell? ⟨gb151, 1, none⟩ = some (.slice A1_1 l1_1.length c1_1) := (bC_ BK151.out 1).trans rfl
       have hcz24_2 : wc.cell? ⟨gb151, 2, none⟩ = some (.int .i64 a1_2) := (bC_ BK151.out 2).trans rfl
       have hfz24_0 := bF_ BK151.out 0
       have hfz24_1 := bF_ BK151.out 1
       have hfz24_2 := bF_ BK151.out 2
       go_wp2_with (first | ((with_reducible refine gate_callee (f := 21) rfl ?_); refine goesL_ (some 36) rfl rfl Try.func21 (by kernel_rfl) rfl #[.agg #[.bool a0_0, .slice A0_1 l0_1.length c0_1, .int .i64 a0_2], .agg #[.bool a1_0, .slice A1_1 l1_1.length c1_1, .int .i64 a1_2]] rfl (by (try simp only [List.map_toArray, List.map_cons, List.map_nil]); first | done | rfl | (simp only [List.length_drop, List.length_take]; rfl)) ?_; (with_reducible refine (spec_larger.calls kj4 a0_0 _ _ l0_1 a0_2 a1_0 _ _ l1_1 a1_2 t155 _ ?side1 ?side2 ?side3 ?side4 A21.out).mono ?_); (case side1 => repeat (first | exact (Kd.C_below HR0_1.out HB.out) | (with_reducible refine Kd.C_alloc ?_ _) | (with_reducible refine Kd.C_drewN ?_ _) | (with_reducible refine Kd.C_drew ?_))); (case side2 => exact HC0_1.out); (case side3 => repeat (first | exact (Kd.C_below HR1_1.out HB.out) | (with_reducible refine Kd.C_alloc ?_ _) | (with_reducible refine Kd.C_drewN ?_ _) | (with_reducible refine Kd.C_drew ?_))); (case side4 => exact HC1_1.out); rintro e w25 ⟨rfl, hb⟩; refine ⟨_, rfl, ?_⟩; have n0_ := aM_ (blk_below (g := gb150) (o := .cells #[.bool a0_0, .slice A0_1 l0_1.length c0_1, .int .i64 a0_2] 26 (0, 0)) (by (with_reducible repeat (first | refine bN_ ?_ _ | refine bD_ ?_ | refine bA_ ?_ _)); exact BK150.out) hb); have n1_ := aM_ (blk_below (g := gb151) (o := .cells #[.bool a1_0, .slice A1_1 l1_1.length c1_1, .int .i64 a1_2] 26 (0, 0)) (by (with_reducible repeat (first | refine bN_ ?_ _ | refine bD_ ?_ | refine bA_ ?_ _)); exact BK151.out) hb); have n2_ := aM_ (below_step (by repeat (first | (with_reducible first | exact HB.out | apply bB_ | apply wN_ | apply bE_ | refine bS_ ?_ GE150.out | refine bS_ ?_ GE151.out) | exact HB.out)) hb); clear BK150; clear BK151; clear HB; have BK150 := n0_; have BK151 := n1_; have HB := n2_; clear n0_ n1_ n2_; (try clear hb); (try clear hb2); (try clear hk); (try clear hi)))
       go_ret
       exact ⟨by first | rfl | (simp [errW_none, errW_some] <;> rfl) | (simp [*, errW_none, errW_some] <;> rfl) | (exfalso; contradiction), by repeat (first | (with_reducible first | exact HB.out | apply bB_ | apply wN_ | apply bE_ | refine bS_ ?_ GE150.out | refine bS_ ?_ GE151.out) | exact HB.out)⟩
      ·
       rw [if_neg c20] at H
       have c20b0 : decide (0 < t152) = false := decide_eq_false c20
       clear c20
       obtain rfl := Option.some.inj H
       go_wp2
       go_ret
       exact ⟨by first | rfl | (simp [errW_none, errW_some] <;> rfl) | (simp [*, errW_none, errW_some] <;> rfl) | (exfalso; contradiction), by repeat (first | (with_reducible first | exact HB.out | apply bB_ | apply wN_ | apply bE_ | refine bS_ ?_ GE150.out | refine bS_ ?_ GE151.out) | exact HB.out)⟩
    ·
     rw [if_neg c13] at H
     have c13b0 : (t152 == t153) = false := beq_eq_false_iff_ne.mpr c13
     have c13b1 : (t152 != t153) = true := bne_iff_ne.mpr c13
     obtain rfl := Option.some.inj H
     go_wp2
     go_ret
     exact ⟨by first | rfl | (simp [errW_none, errW_some] <;> rfl) | (simp [*, errW_none, errW_some] <;> rfl) | (exfalso; contradiction), by repeat (first | (with_reducible first | exact HB.out | apply bB_ | apply wN_ | apply bE_ | refine bS_ ?_ GE150.out | refine bS_ ?_ GE151.out) | exact HB.out)⟩

/-! ### laws_amountIs: function 9 -/
def laws_amountIs.f (k : Nat) (a0_0 : Int) (a0_1 : Int) (a1_0 : Bool) (l1_1 : List Int) (a1_2 : Int) : Option (Bool) := (laws_amountOf.f k a0_0 a0_1).bind fun bt158 => (if bt158.2.2.2 = true then ((spec_DecimalCmp.f k bt158.1 bt158.2.1 bt158.2.2.1 a1_0 l1_1 a1_2).bind fun t165 => (some (t165 == 0))) else (some false))
theorem laws_amountIs.mono : ∀ a0 a1 a2 a3 a4 k, LeO (laws_amountIs.f k a0 a1 a2 a3 a4) (laws_amountIs.f (k + 1) a0 a1 a2 a3 a4) := by
 intro a0 a1 a2 a3 a4 k
 unfold laws_amountIs.f
 repeat' first
   | (with_reducible exact laws_amountOf.mono _ _ _)
   | (with_reducible exact spec_DecimalCmp.mono _ _ _ _ _ _ _)
   | (with_reducible exact LeO.refl _)
   | (with_reducible exact LeO.none _)
   | (with_reducible refine LeO.ite ?_ ?_)
   | (with_reducible refine LeO.bind ?_ (fun _ => ?_))
   | exact laws_amountOf.mono _ _ _
   | exact spec_DecimalCmp.mono _ _ _ _ _ _ _
   | exact LeO.none _
   | refine LeO.ite ?_ ?_
   | refine LeO.bind ?_ (fun _ => ?_)
set_option maxHeartbeats 8000000 in
set_option maxRecDepth 100000 in
theorem laws_amountIs.calls (k : Nat) (a0_0 : Int) (a0_1 : Int) (a1_0 : Bool) (A1_1 : Option Addr) (c1_1 : Nat) (l1_1 : List Int) (a1_2 : Int) (r : Bool) (w : World) (hr1_1 : Kd.C (Kd.int .i64) w A1_1 l1_1.length l1_1) (hc1_1 : l1_1.length ≤ c1_1) (h : laws_amountIs.f k a0_0 a0_1 a1_0 l1_1 a1_2 = some r) :
  Calls Try.prog 9 #[.agg #[.int .i64 a0_0, .int .i64 a0_1], .agg #[.bool a1_0, .slice A1_1 l1_1.length c1_1, .int .i64 a1_2]] w fun e w' => e = .returned (.bool r) ∧ Below w.heap.size w w' := by
 have hu23 := Try.underlying23
 have hu26 := Try.underlying26
 have HR1_1 := aM_ hr1_1
 have HC1_1 := aM_ hc1_1
 clear hr1_1 hc1_1
 have HB := aM_ (Below.refl w.heap.size w)
 have H : ((laws_amountOf.f k a0_0 a0_1).bind fun bt158 => (if bt158.2.2.2 = true then ((spec_DecimalCmp.f k bt158.1 bt158.2.1 bt158.2.2.1 a1_0 l1_1 a1_2).bind fun t165 => (some (t165 == 0))) else (some false))) = some r := h
 clear h
 replace H := Option.bind_eq_some_iff.mp H
 obtain ⟨⟨t158, t159, t162, t163⟩, A30, H⟩ := H
 replace H : (if t163 = true then ((spec_DecimalCmp.f k t158 t159 t162 a1_0 l1_1 a1_2).bind fun t165 => (some (t165 == 0))) else (some false)) = some r := H
 have A3 := aM_ A30
 clear A30
 by_cases c4 : t163 = true
 ·
  subst c4
  have H1 : ((spec_DecimalCmp.f k t158 t159 t162 a1_0 l1_1 a1_2).bind fun t165 => (some (t165 == 0))) = some r := by rw [if_pos rfl] at H; exact H
  clear H
  have H := H1
  clear H1
  replace H := Option.bind_eq_some_iff.mp H
  obtain ⟨t165, A50, H⟩ := H
  replace H : (some (t165 == 0)) = some r := H
  have A5 := aM_ A50
  clear A50
  obtain rfl := Option.some.inj H
  go_enter Try.func9, Try.ntmps9
  go_wp2_with (first | ((with_reducible refine gate_dst (N := 2) rfl ?_); refine box_event ?hg (N := 2) ?hd (cs := #[.int .i64 a0_0, .int .i64 a0_1]) (t := 23) ?hr ?_; (case hd => rfl); (case hg => rfl); (case hr => first | (go_simp; done) | (go_simp; rfl)); intro gb156 hg w6 hbox hb; have n0_ := aM_ (below_step (by repeat (first | (with_reducible first | exact HB.out | apply bB_ | apply wN_ | apply bE_) | exact HB.out)) hb); have n1_ := aM_ (hbox); have n2_ := aM_ ((by rw [hg]; exact (below_size (by repeat (first | (with_reducible first | exact HB.out | apply bB_ | apply wN_ | apply bE_) | exact HB.out))) : w.heap.size ≤ gb156)); have n3_ := aM_ ((by rw [hg]; exact (below_size (by repeat (first | (with_reducible first | exact HB.out | apply bB_ | apply wN_ | apply bE_) | exact HB.out))) : w.heap.size ≤ gb156)); clear HB; have HB := n0_; have BK156 := n1_; have GW156 := n2_; have GE156 := n3_; clear n0_ n1_ n2_ n3_; clear hb hbox hg) | ((with_reducible refine gate_dst (N := 3) rfl ?_); refine box_event ?hg (N := 3) ?hd (cs := #[.bool a1_0, .slice A1_1 l1_1.length c1_1, .int .i64 a1_2]) (t := 26) ?hr ?_; (case hd => rfl); (case hg => rfl); (case hr => first | (go_simp; done) | (go_simp; rfl)); intro gb157 hg w7 hbox hb; have n0_ := aM_ (blk_below (g := gb156) (o := .cells #[.int .i64 a0_0, .int .i64 a0_1] 23 (0, 0)) (by (with_reducible repeat (first | refine bN_ ?_ _ | refine bD_ ?_ | refine bA_ ?_ _)); exact BK156.out) hb); have n1_ := aM_ (below_step (by repeat (first | (with_reducible first | exact HB.out | apply bB_ | apply wN_ | apply bE_ | refine bS_ ?_ GE156.out) | exact HB.out)) hb); have n2_ := aM_ (hbox); have n3_ := aM_ ((by rw [hg]; exact (below_size (by repeat (first | (with_reducible first | exact HB.out | apply bB_ | apply wN_ | apply bE_ | refine bS_ ?_ GE156.out) | exact HB.out))) : w.heap.size ≤ gb157)); have n4_ := aM_ ((by rw [hg]; exact (below_size (by repeat (first | (with_reducible first | exact HB.out | apply bB_ | apply wN_ | apply bE_ | refine bS_ ?_ GE156.out) | exact HB.out))) : w.heap.size ≤ gb157)); have n5_ := aM_ ((by rw [hg]; exact Nat.ne_of_lt (blk_lt (g := gb156) (o := .cells #[.int .i64 a0_0, .int .i64 a0_1] 23 (0, 0)) (by (with_reducible repeat (first | refine bN_ ?_ _ | refine bD_ ?_ | refine bA_ ?_ _)); exact BK156.out)) : gb156 ≠ gb157)); have n6_ := aM_ ((by rw [hg]; exact Nat.ne_of_gt (blk_lt (g := gb156) (o := .cells #[.int .i64 a0_0, .int .i64 a0_1] 23 (0, 0)) (by (with_reducible repeat (first | refine bN_ ?_ _ | refine bD_ ?_ | refine bA_ ?_ _)); exact BK156.out)) : gb157 ≠ gb156)); clear BK156; clear HB; have BK156 := n0_; have HB := n1_; have BK157 := n2_; have GW157 := n3_; have GE157 := n4_; have NB156_157 := n5_; have NB157_156 := n6_; clear n0_ n1_ n2_ n3_ n4_ n5_ n6_; clear hb hbox hg; have hnb8 := NB156_157.out; have hnc8 := NB157_156.out; have hcz9_0 : w7.cell? ⟨gb156, 0, none⟩ = some (.int .i64 a0_0) := (bC_ BK156.out 0).trans rfl; have hcz9_1 : w7.cell? ⟨gb156, 1, none⟩ = some (.int .i64 a0_1) := (bC_ BK156.out 1).trans rfl; have hfz9_0 := bF_ BK156.out 0; have hfz9_1 := bF_ BK156.out 1) | ((with_reducible refine gate_callee (f := 6) rfl ?_); refine goesL_ (some 9) rfl rfl Try.func6 (by kernel_rfl) rfl #[.agg #[.int .i64 a0_0, .int .i64 a0_1]] rfl (by (try simp only [List.map_toArray, List.map_cons, List.map_nil]); first | done | rfl | (simp only [List.length_drop, List.length_take]; rfl)) ?_; (with_reducible refine (laws_amountOf.calls k a0_0 a0_1 t158 t159 t162 true _ A3.out).mono ?_); rintro e w10 ⟨v160, rfl, ho0, hb⟩; refine ⟨_, rfl, ?_⟩; have n0_ := aM_ (Kd.R_lower ho0 (below_size (by repeat (first | (with_reducible first | exact HB.out | apply bB_ | apply wN_ | apply bE_ | refine bS_ ?_ GE156.out | refine bS_ ?_ GE157.out) | exact HB.out)))); have n1_ := aM_ (blk_below (g := gb156) (o := .cells #[.int .i64 a0_0, .int .i64 a0_1] 23 (0, 0)) (by (with_reducible repeat (first | refine bN_ ?_ _ | refine bD_ ?_ | refine bA_ ?_ _)); exact BK156.out) hb); have n2_ := aM_ (blk_below (g := gb157) (o := .cells #[.bool a1_0, .slice A1_1 l1_1.length c1_1, .int .i64 a1_2] 26 (0, 0)) (by (with_reducible repeat (first | refine bN_ ?_ _ | refine bD_ ?_ | refine bA_ ?_ _)); exact BK157.out) hb); have n3_ := aM_ (below_step (by repeat (first | (with_reducible first | exact HB.out | apply bB_ | apply wN_ | apply bE_ | refine bS_ ?_ GE156.out | refine bS_ ?_ GE157.out) | exact HB.out)) hb); clear BK156; clear BK157; clear HB; have HO161 := n0_; have BK156 := n1_; have BK157 := n2_; have HB := n3_; clear n0_ n1_ n2_ n3_; (try clear hb); (try clear hb2); (try clear hk); (try clear hi); (try clear ho0)) | ((with_reducible refine gate_dst (N := 5) rfl ?_); refine box_event ?hg (N := 5) ?hd (cs := #[.bool false, .slice none 0 0, .int .i64 0]) (t := 26) ?hr ?_; (case hd => rfl); (case hg => rfl); (case hr => first | (go_simp; done) | (go_simp; rfl)); intro gb164 hg w11 hbox hb; have n0_ := aM_ (Kd.R_below (by (with_reducible repeat (first | apply kA_ | apply kN_ | apply kD_)); exact HO161.out) hb); have n1_ := aM_ (blk_below (g := gb156) (o := .cells #[.int .i64 a0_0, .int .i64 a0_1] 23 (0, 0)) (by (with_reducible repeat (first | refine bN_ ?_ _ | refine bD_ ?_ | refine bA_ ?_ _)); exact BK156.out) hb); have n2_ := aM_ (blk_below (g := gb157) (o := .cells #[.bool a1_0, .slice A1_1 l1_1.length c1_1, .int .i64 a1_2] 26 (0, 0)) (by (with_reducible repeat (first | refine bN_ ?_ _ | refine bD_ ?_ | refine bA_ ?_ _)); exact BK157.out) hb); have n3_ := aM_ (below_step (by repeat (first | (with_reducible first | exact HB.out | apply bB_ | apply wN_ | apply bE_ | refine bS_ ?_ GE156.out | refine bS_ ?_ GE157.out) | exact HB.out)) hb); have n4_ := aM_ (hbox); have n5_ := aM_ ((by rw [hg]; exact (below_size (by repeat (first | (with_reducible first | exact HB.out | apply bB_ | apply wN_ | apply bE_ | refine bS_ ?_ GE156.out | refine bS_ ?_ GE157.out) | exact HB.out))) : w.heap.size ≤ gb164)); have n6_ := aM_ ((by rw [hg]; exact (below_size (by repeat (first | (with_reducible first | exact HB.out | apply bB_ | apply wN_ | apply bE_ | refine bS_ ?_ GE156.out | refine bS_ ?_ GE157.out) | exact HB.out))) : w.heap.size ≤ gb164)); have n7_ := aM_ ((by rw [hg]; exact Nat.ne_of_lt (blk_lt (g := gb156) (o := .cells #[.int .i64 a0_0, .int .i64 a0_1] 23 (0, 0)) (by (with_reducible repeat (first | refine bN_ ?_ _ | refine bD_ ?_ | refine bA_ ?_ _)); exact BK156.out)) : gb156 ≠ gb164)); have n8_ := aM_ ((by rw [hg]; exact Nat.ne_of_gt (blk_lt (g := gb156) (o := .cells #[.int .i64 a0_0, .int .i64 a0_1] 23 (0, 0)) (by (with_reducible repeat (first | refine bN_ ?_ _ | refine bD_ ?_ | refine bA_ ?_ _)); exact BK156.out)) : gb164 ≠ gb156)); have n9_ := aM_ ((by rw [hg]; exact Nat.ne_of_lt (blk_lt (g := gb157) (o := .cells #[.bool a1_0, .slice A1_1 l1_1.length c1_1, .int .i64 a1_2] 26 (0, 0)) (by (with_reducible repeat (first | refine bN_ ?_ _ | refine bD_ ?_ | refine bA_ ?_ _)); exact BK157.out)) : gb157 ≠ gb164)); have n10_ := aM_ ((by rw [hg]; exact Nat.ne_of_gt (blk_lt (g := gb157) (o := .cells #[.bool a1_0, .slice A1_1 l1_1.length c1_1, .int .i64 a1_2] 26 (0, 0)) (by (with_reducible repeat (first | refine bN_ ?_ _ | refine bD_ ?_ | refine bA_ ?_ _)); exact BK157.out)) : gb164 ≠ gb157)); clear HO161; clear BK156; clear BK157; clear HB; have HO161 := n0_; have BK156 := n1_; have BK157 := n2_; have HB := n3_; have BK164 := n4_; have GW164 := n5_; have GE164 := n6_; have NB156_164 := n7_; have NB164_156 := n8_; have NB157_164 := n9_; have NB164_157 := n10_; clear n0_ n1_ n2_ n3_ n4_ n5_ n6_ n7_ n8_ n9_ n10_; clear hb hbox hg; have hnb12 := NB164_156.out; have hnc12 := NB156_164.out; have hnb13 := NB164_157.out; have hnc13 := NB157_164.out; have hcz14_0 : w11.cell? ⟨gb164, 0, none⟩ = some (.bool false) := (bC_ BK164.out 0).trans rfl; have hcz14_1 : w11.cell? ⟨gb164, 1, none⟩ = some (.slice none 0 0) := (bC_ BK164.out 1).trans rfl; have hcz14_2 : w11.cell? ⟨gb164, 2, none⟩ = some (.int .i64 0) := (bC_ BK164.out 2).trans rfl; have hfz14_0 := bF_ BK164.out 0; have hfz14_1 := bF_ BK164.out 1; have hfz14_2 := bF_ BK164.out 2; obtain ⟨Ao15, co15, eo15⟩ := Kd.R_slice HO161.out; subst eo15; have hcz16_0 : w11.cell? ⟨gb157, 0, none⟩ = some (.bool a1_0) := (bC_ BK157.out 0).trans rfl; have hcz16_1 : w11.cell? ⟨gb157, 1, none⟩ = some (.slice A1_1 l1_1.length c1_1) := (bC_ BK157.out 1).trans rfl; have hcz16_2 : w11.cell? ⟨gb157, 2, none⟩ = some (.int .i64 a1_2) := (bC_ BK157.out 2).trans rfl; have hfz16_0 := bF_ BK157.out 0; have hfz16_1 := bF_ BK157.out 1; have hfz16_2 := bF_ BK157.out 2) | (go_at_call 16; (with_reducible refine (spec_DecimalCmp.calls k t158 _ _ t159 t162 a1_0 _ _ l1_1 a1_2 t165 _ ?side1 ?side2 ?side3 ?side4 A5.out).mono ?_); (case side1 => refine (Kd.R_reads' (e := 3) (base := w.heap.size) (ok := fun k_ => True) (n := t159.length) (c := co15) ?_).2.2; exact (by (with_reducible repeat (first | apply kA_ | apply kN_ | apply kD_)); exact (Kd.R_mono (Kd.R_far (p := ⟨gb164, 2, none⟩) (Kd.R_far (p := ⟨gb164, 1, none⟩) (Kd.R_far (p := ⟨gb164, 0, none⟩) (Kd.R_types HO161.out BK164.out (by decide)) (fun _ hk => hk.2) (.bool t158)) (fun _ hk => hk.2) (.slice Ao15 t159.length co15)) (fun _ hk => hk.2) (.int .i64 t162)) (fun _ h_ => h_.1)))); (case side2 => exact (Kd.R_reads' HO161.out).2.1); (case side3 => exact Kd.C_below HR1_1.out (by repeat (first | (with_reducible first | exact HB.out | apply bB_ | apply wN_ | apply bE_ | refine bS_ ?_ GE156.out | refine bS_ ?_ GE157.out | refine bS_ ?_ GE164.out) | exact HB.out))); (case side4 => exact HC1_1.out); rintro e w17 ⟨rfl, hb⟩; have n0_ := aM_ (Kd.R_below (by (with_reducible repeat (first | apply kA_ | apply kN_ | apply kD_)); exact (Kd.R_mono (Kd.R_far (p := ⟨gb164, 2, none⟩) (Kd.R_far (p := ⟨gb164, 1, none⟩) (Kd.R_far (p := ⟨gb164, 0, none⟩) (Kd.R_types HO161.out BK164.out (by decide)) (fun _ hk => hk.2) (.bool t158)) (fun _ hk => hk.2) (.slice Ao15 t159.length co15)) (fun _ hk => hk.2) (.int .i64 t162)) (fun _ h_ => h_.1))) hb); have n1_ := aM_ (blk_below (g := gb156) (o := .cells #[.int .i64 a0_0, .int .i64 a0_1] 23 (0, 0)) (by (with_reducible repeat (first | refine bN_ ?_ _ | refine bD_ ?_ | refine bA_ ?_ _)); refine blk_far ?_ NB156_164.out _; (with_reducible repeat (first | refine bN_ ?_ _ | refine bD_ ?_ | refine bA_ ?_ _)); refine blk_far ?_ NB156_164.out _; (with_reducible repeat (first | refine bN_ ?_ _ | refine bD_ ?_ | refine bA_ ?_ _)); refine blk_far ?_ NB156_164.out _; (with_reducible repeat (first | refine bN_ ?_ _ | refine bD_ ?_ | refine bA_ ?_ _)); exact BK156.out) hb); have n2_ := aM_ (blk_below (g := gb157) (o := .cells #[.bool a1_0, .slice A1_1 l1_1.length c1_1, .int .i64 a1_2] 26 (0, 0)) (by (with_reducible repeat (first | refine bN_ ?_ _ | refine bD_ ?_ | refine bA_ ?_ _)); refine blk_far ?_ NB157_164.out _; (with_reducible repeat (first | refine bN_ ?_ _ | refine bD_ ?_ | refine bA_ ?_ _)); refine blk_far ?_ NB157_164.out _; (with_reducible repeat (first | refine bN_ ?_ _ | refine bD_ ?_ | refine bA_ ?_ _)); refine blk_far ?_ NB157_164.out _; (with_reducible repeat (first | refine bN_ ?_ _ | refine bD_ ?_ | refine bA_ ?_ _)); exact BK157.out) hb); have n3_ := aM_ (blk_below (g := gb164) (o := .cells #[.bool t158, .slice Ao15 t159.length co15, .int .i64 t162] 26 (0, 0)) (by (with_reducible repeat (first | refine bN_ ?_ _ | refine bD_ ?_ | refine bA_ ?_ _)); refine blk_put (cs := #[.bool t158, .slice Ao15 t159.length co15, .int .i64 0]) ?_ 2 _ rfl; (with_reducible repeat (first | refine bN_ ?_ _ | refine bD_ ?_ | refine bA_ ?_ _)); refine blk_put (cs := #[.bool t158, .slice none 0 0, .int .i64 0]) ?_ 1 _ rfl; (with_reducible repeat (first | refine bN_ ?_ _ | refine bD_ ?_ | refine bA_ ?_ _)); refine blk_put (cs := #[.bool false, .slice none 0 0, .int .i64 0]) ?_ 0 _ rfl; (with_reducible repeat (first | refine bN_ ?_ _ | refine bD_ ?_ | refine bA_ ?_ _)); exact BK164.out) hb); have n4_ := aM_ (below_step (by repeat (first | (with_reducible first | exact HB.out | apply bB_ | apply wN_ | apply bE_ | refine bS_ ?_ GE156.out | refine bS_ ?_ GE157.out | refine bS_ ?_ GE164.out) | exact HB.out)) hb); clear HO161; clear BK156; clear BK157; clear BK164; clear HB; have HO161 := n0_; have BK156 := n1_; have BK157 := n2_; have BK164 := n3_; have HB := n4_; clear n0_ n1_ n2_ n3_ n4_; (try clear hb); (try clear hb2); (try clear hk); (try clear hi)))
  go_ret
  exact ⟨by first | rfl | (simp [errW_none, errW_some] <;> rfl) | (simp [*, errW_none, errW_some] <;> rfl) | (exfalso; contradiction), by repeat (first | (with_reducible first | exact HB.out | apply bB_ | apply wN_ | apply bE_ | refine bS_ ?_ GE156.out | refine bS_ ?_ GE157.out | refine bS_ ?_ GE164.out) | exact HB.out)⟩
 ·
  replace c4 := Bool.eq_false_iff.mpr c4
  subst c4
  have H1 : (some false) = some r := by rw [if_neg (show ¬ (false = true) by decide)] at H; exact H
  clear H
  have H := H1
  clear H1
  obtain rfl := Option.some.inj H
  go_enter Try.func9, Try.ntmps9
  go_wp2_with (first | ((with_reducible refine gate_dst (N := 2) rfl ?_); refine box_event ?hg (N := 2) ?hd (cs := #[.int .i64 a0_0, .int .i64 a0_1]) (t := 23) ?hr ?_; (case hd => rfl); (case hg => rfl); (case hr => first | (go_simp; done) | (go_simp; rfl)); intro gb156 hg w18 hbox hb; have n0_ := aM_ (below_step (by repeat (first | (with_reducible first | exact HB.out | apply bB_ | apply wN_ | apply bE_) | exact HB.out)) hb); have n1_ := aM_ (hbox); have n2_ := aM_ ((by rw [hg]; exact (below_size (by repeat (first | (with_reducible first | exact HB.out | apply bB_ | apply wN_ | apply bE_) | exact HB.out))) : w.heap.size ≤ gb156)); have n3_ := aM_ ((by rw [hg]; exact (below_size (by repeat (first | (with_reducible first | exact HB.out | apply bB_ | apply wN_ | apply bE_) | exact HB.out))) : w.heap.size ≤ gb156)); clear HB; have HB := n0_; have BK156 := n1_; have GW156 := n2_; have GE156 := n3_; clear n0_ n1_ n2_ n3_; clear hb hbox hg) | ((with_reducible refine gate_dst (N := 3) rfl ?_); refine box_event ?hg (N := 3) ?hd (cs := #[.bool a1_0, .slice A1_1 l1_1.length c1_1, .int .i64 a1_2]) (t := 26) ?hr ?_; (case hd => rfl); (case hg => rfl); (case hr => first | (go_simp; done) | (go_simp; rfl)); intro gb157 hg w19 hbox hb; have n0_ := aM_ (blk_below (g := gb156) (o := .cells #[.int .i64 a0_0, .int .i64 a0_1] 23 (0, 0)) (by (with_reducible repeat (first | refine bN_ ?_ _ | refine bD_ ?_ | refine bA_ ?_ _)); exact BK156.out) hb); have n1_ := aM_ (below_step (by repeat (first | (with_reducible first | exact HB.out | apply bB_ | apply wN_ | apply bE_ | refine bS_ ?_ GE156.out) | exact HB.out)) hb); have n2_ := aM_ (hbox); have n3_ := aM_ ((by rw [hg]; exact (below_size (by repeat (first | (with_reducible first | exact HB.out | apply bB_ | apply wN_ | apply bE_ | refine bS_ ?_ GE156.out) | exact HB.out))) : w.heap.size ≤ gb157)); have n4_ := aM_ ((by rw [hg]; exact (below_size (by repeat (first | (with_reducible first | exact HB.out | apply bB_ | apply wN_ | apply bE_ | refine bS_ ?_ GE156.out) | exact HB.out))) : w.heap.size ≤ gb157)); have n5_ := aM_ ((by rw [hg]; exact Nat.ne_of_lt (blk_lt (g := gb156) (o := .cells #[.int .i64 a0_0, .int .i64 a0_1] 23 (0, 0)) (by (with_reducible repeat (first | refine bN_ ?_ _ | refine bD_ ?_ | refine bA_ ?_ _)); exact BK156.out)) : gb156 ≠ gb157)); have n6_ := aM_ ((by rw [hg]; exact Nat.ne_of_gt (blk_lt (g := gb156) (o := .cells #[.int .i64 a0_0, .int .i64 a0_1] 23 (0, 0)) (by (with_reducible repeat (first | refine bN_ ?_ _ | refine bD_ ?_ | refine bA_ ?_ _)); exact BK156.out)) : gb157 ≠ gb156)); clear BK156; clear HB; have BK156 := n0_; have HB := n1_; have BK157 := n2_; have GW157 := n3_; have GE157 := n4_; have NB156_157 := n5_; have NB157_156 := n6_; clear n0_ n1_ n2_ n3_ n4_ n5_ n6_; clear hb hbox hg; have hnb20 := NB156_157.out; have hnc20 := NB157_156.out; have hcz21_0 : w19.cell? ⟨gb156, 0, none⟩ = some (.int .i64 a0_0) := (bC_ BK156.out 0).trans rfl; have hcz21_1 : w19.cell? ⟨gb156, 1, none⟩ = some (.int .i64 a0_1) := (bC_ BK156.out 1).trans rfl; have hfz21_0 := bF_ BK156.out 0; have hfz21_1 := bF_ BK156.out 1) | ((with_reducible refine gate_callee (f := 6) rfl ?_); refine goesL_ (some 9) rfl rfl Try.func6 (by kernel_rfl) rfl #[.agg #[.int .i64 a0_0, .int .i64 a0_1]] rfl (by (try simp only [List.map_toArray, List.map_cons, List.map_nil]); first | done | rfl | (simp only [List.length_drop, List.length_take]; rfl)) ?_; (with_reducible refine (laws_amountOf.calls k a0_0 a0_1 t158 t159 t162 false _ A3.out).mono ?_); rintro e w22 ⟨v160, rfl, ho0, hb⟩; refine ⟨_, rfl, ?_⟩; have n0_ := aM_ (Kd.R_lower ho0 (below_size (by repeat (first | (with_reducible first | exact HB.out | apply bB_ | apply wN_ | apply bE_ | refine bS_ ?_ GE156.out | refine bS_ ?_ GE157.out) | exact HB.out)))); have n1_ := aM_ (blk_below (g := gb156) (o := .cells #[.int .i64 a0_0, .int .i64 a0_1] 23 (0, 0)) (by (with_reducible repeat (first | refine bN_ ?_ _ | refine bD_ ?_ | refine bA_ ?_ _)); exact BK156.out) hb); have n2_ := aM_ (blk_below (g := gb157) (o := .cells #[.bool a1_0, .slice A1_1 l1_1.length c1_1, .int .i64 a1_2] 26 (0, 0)) (by (with_reducible repeat (first | refine bN_ ?_ _ | refine bD_ ?_ | refine bA_ ?_ _)); exact BK157.out) hb); have n3_ := aM_ (below_step (by repeat (first | (with_reducible first | exact HB.out | apply bB_ | apply wN_ | apply bE_ | refine bS_ ?_ GE156.out | refine bS_ ?_ GE157.out) | exact HB.out)) hb); clear BK156; clear BK157; clear HB; have HO161 := n0_; have BK156 := n1_; have BK157 := n2_; have HB := n3_; clear n0_ n1_ n2_ n3_; (try clear hb); (try clear hb2); (try clear hk); (try clear hi); (try clear ho0)) | ((with_reducible refine gate_dst (N := 5) rfl ?_); refine box_event ?hg (N := 5) ?hd (cs := #[.bool false, .slice none 0 0, .int .i64 0]) (t := 26) ?hr ?_; (case hd => rfl); (case hg => rfl); (case hr => first | (go_simp; done) | (go_simp; rfl)); intro gb164 hg w23 hbox hb; have n0_ := aM_ (Kd.R_below (by (with_reducible repeat (first | apply kA_ | apply kN_ | apply kD_)); exact HO161.out) hb); have n1_ := aM_ (blk_below (g := gb156) (o := .cells #[.int .i64 a0_0, .int .i64 a0_1] 23 (0, 0)) (by (with_reducible repeat (first | refine bN_ ?_ _ | refine bD_ ?_ | refine bA_ ?_ _)); exact BK156.out) hb); have n2_ := aM_ (blk_below (g := gb157) (o := .cells #[.bool a1_0, .slice A1_1 l1_1.length c1_1, .int .i64 a1_2] 26 (0, 0)) (by (with_reducible repeat (first | refine bN_ ?_ _ | refine bD_ ?_ | refine bA_ ?_ _)); exact BK157.out) hb); have n3_ := aM_ (below_step (by repeat (first | (with_reducible first | exact HB.out | apply bB_ | apply wN_ | apply bE_ | refine bS_ ?_ GE156.out | refine bS_ ?_ GE157.out) | exact HB.out)) hb); have n4_ := aM_ (hbox); have n5_ := aM_ ((by rw [hg]; exact (below_size (by repeat (first | (with_reducible first | exact HB.out | apply bB_ | apply wN_ | apply bE_ | refine bS_ ?_ GE156.out | refine bS_ ?_ GE157.out) | exact HB.out))) : w.heap.size ≤ gb164)); have n6_ := aM_ ((by rw [hg]; exact (below_size (by repeat (first | (with_reducible first | exact HB.out | apply bB_ | apply wN_ | apply bE_ | refine bS_ ?_ GE156.out | refine bS_ ?_ GE157.out) | exact HB.out))) : w.heap.size ≤ gb164)); have n7_ := aM_ ((by rw [hg]; exact Nat.ne_of_lt (blk_lt (g := gb156) (o := .cells #[.int .i64 a0_0, .int .i64 a0_1] 23 (0, 0)) (by (with_reducible repeat (first | refine bN_ ?_ _ | refine bD_ ?_ | refine bA_ ?_ _)); exact BK156.out)) : gb156 ≠ gb164)); have n8_ := aM_ ((by rw [hg]; exact Nat.ne_of_gt (blk_lt (g := gb156) (o := .cells #[.int .i64 a0_0, .int .i64 a0_1] 23 (0, 0)) (by (with_reducible repeat (first | refine bN_ ?_ _ | refine bD_ ?_ | refine bA_ ?_ _)); exact BK156.out)) : gb164 ≠ gb156)); have n9_ := aM_ ((by rw [hg]; exact Nat.ne_of_lt (blk_lt (g := gb157) (o := .cells #[.bool a1_0, .slice A1_1 l1_1.length c1_1, .int .i64 a1_2] 26 (0, 0)) (by (with_reducible repeat (first | refine bN_ ?_ _ | refine bD_ ?_ | refine bA_ ?_ _)); exact BK157.out)) : gb157 ≠ gb164)); have n10_ := aM_ ((by rw [hg]; exact Nat.ne_of_gt (blk_lt (g := gb157) (o := .cells #[.bool a1_0, .slice A1_1 l1_1.length c1_1, .int .i64 a1_2] 26 (0, 0)) (by (with_reducible repeat (first | refine bN_ ?_ _ | refine bD_ ?_ | refine bA_ ?_ _)); exact BK157.out)) : gb164 ≠ gb157)); clear HO161; clear BK156; clear BK157; clear HB; have HO161 := n0_; have BK156 := n1_; have BK157 := n2_; have HB := n3_; have BK164 := n4_; have GW164 := n5_; have GE164 := n6_; have NB156_164 := n7_; have NB164_156 := n8_; have NB157_164 := n9_; have NB164_157 := n10_; clear n0_ n1_ n2_ n3_ n4_ n5_ n6_ n7_ n8_ n9_ n10_; clear hb hbox hg; have hnb24 := NB164_156.out; have hnc24 := NB156_164.out; have hnb25 := NB164_157.out; have hnc25 := NB157_164.out; have hcz26_0 : w23.cell? ⟨gb164, 0, none⟩ = some (.bool false) := (bC_ BK164.out 0).trans rfl; have hcz26_1 : w23.cell? ⟨gb164, 1, none⟩ = some (.slice none 0 0) := (bC_ BK164.out 1).trans rfl; have hcz26_2 : w23.cell? ⟨gb164, 2, none⟩ = some (.int .i64 0) := (bC_ BK164.out 2).trans rfl; have hfz26_0 := bF_ BK164.out 0; have hfz26_1 := bF_ BK164.out 1; have hfz26_2 := bF_ BK164.out 2; obtain ⟨Ao27, co27, eo27⟩ := Kd.R_slice HO161.out; subst eo27))
  go_ret
  exact ⟨by first | rfl | (simp [errW_none, errW_some] <;> rfl) | (simp [*, errW_none, errW_some] <;> rfl) | (exfalso; contradiction), by repeat (first | (with_reducible first | exact HB.out | apply bB_ | apply wN_ | apply bE_ | refine bS_ ?_ GE156.out | refine bS_ ?_ GE157.out | refine bS_ ?_ GE164.out) | exact HB.out)⟩

/-! ### spec_wide: function 23 -/
def spec_wide.l0 : Nat → Int → List Int → Int → Option (List Int)
 | 0, _, _, _ => none
 | k + 1, x1, x5, x6 => if x6 > x1 then (if (x5.length : Int) > 0 then (if x5.length < 17592186044416 then (spec_wide.l0 k x1 (x5 ++ [0]) (wrap64 (x6 - 1))) else (none)) else (some x5)) else (some x5)
def spec_wide.f (k : Nat) (a0_0 : Bool) (l0_1 : List Int) (a0_2 : Int) (a1 : Int) : Option (List Int) := (some (([] : List Int) : List Int)).bind fun y167 => (if y167.length + l0_1.length < 17592186044416 then (spec_wide.l0 k a1 (y167 ++ l0_1) a0_2) else (none))
theorem spec_wide.mono_l : ∀ k, (∀ y0 y1 y2, LeO (spec_wide.l0 k y0 y1 y2) (spec_wide.l0 (k + 1) y0 y1 y2))
 | 0 => fun _ _ _ r h => by simp [spec_wide.l0] at h
 | k + 1 => by
  have ih0 := spec_wide.mono_l k
  ·
   intro y0 y1 y2
   unfold spec_wide.l0
   repeat' first
   | (with_reducible exact ih0 _ _ _)
   | (with_reducible exact LeO.refl _)
   | (with_reducible exact LeO.none _)
   | (with_reducible refine LeO.ite ?_ ?_)
   | (with_reducible refine LeO.bind ?_ (fun _ => ?_))
   | exact ih0 _ _ _
   | exact LeO.none _
   | refine LeO.ite ?_ ?_
   | refine LeO.bind ?_ (fun _ => ?_)
theorem spec_wide.mono : ∀ a0 a1 a2 a3 k, LeO (spec_wide.f k a0 a1 a2 a3) (spec_wide.f (k + 1) a0 a1 a2 a3) := by
 intro a0 a1 a2 a3 k
 have ih0 := spec_wide.mono_l k
 unfold spec_wide.f
 repeat' first
   | (with_reducible exact ih0 _ _ _)
   | (with_reducible exact LeO.refl _)
   | (with_reducible exact LeO.none _)
   | (with_reducible refine LeO.ite ?_ ?_)
   | (with_reducible refine LeO.bind ?_ (fun _ => ?_))
   | exact ih0 _ _ _
   | exact LeO.none _
   | refine LeO.ite ?_ ?_
   | refine LeO.bind ?_ (fun _ => ?_)
set_option maxHeartbeats 8000000 in
set_option maxRecDepth 100000 in
theorem spec_wide.calls (k : Nat) (a0_0 : Bool) (A0_1 : Option Addr) (c0_1 : Nat) (l0_1 : List Int) (a0_2 : Int) (a1 : Int) (r : List Int) (w : World) (hr0_1 : Kd.C (Kd.int .i64) w A0_1 l0_1.length l0_1) (hc0_1 : l0_1.length ≤ c0_1) (h : spec_wide.f k a0_0 l0_1 a0_2 a1 = some r) :
  Calls Try.prog 23 #[.agg #[.bool a0_0, .slice A0_1 l0_1.length c0_1, .int .i64 a0_2], .int .i64 a1] w fun e w' => ∃ v0_ : Value, e = .returned (v0_) ∧ Kd.R (Kd.int .i64) 3 w' w.heap.size (fun _ => True) v0_ r ∧ Below w.heap.size w w' := by
 have hu26 := Try.underlying26
 have HR0_1 := aM_ hr0_1
 have HC0_1 := aM_ hc0_1
 clear hr0_1 hc0_1
 have HB := aM_ (Below.refl w.heap.size w)
 have H : ((some (([] : List Int) : List Int)).bind fun y167 => (if y167.length + l0_1.length < 17592186044416 then (spec_wide.l0 k a1 (y167 ++ l0_1) a0_2) else (none))) = some r := h
 clear h
 obtain ⟨y167, hy167⟩ : ∃ y_ : List Int, y_ = (([] : List Int)) := ⟨_, rfl⟩
 replace H : (if y167.length + l0_1.length < 17592186044416 then (spec_wide.l0 k a1 (y167 ++ l0_1) a0_2) else (none)) = some r := by first | (rw [hy167]; with_reducible exact H) | (have H2_ := (Option.bind_some _ _).symm.trans H; rw [hy167]; with_reducible exact H2_) | (have H2_ := (Option.bind_some _ _).symm.trans H; with_reducible exact H2_) | with_reducible exact H | (rw [hy167]; exact H) | exact H
 have Ny167 := aM_ hy167
 clear hy167
 by_cases c3 : y167.length + l0_1.length < 17592186044416
 ·
  rw [if_pos c3] at H
  have LMc3 := aM_ c3
  clear c3
  obtain ⟨y170, hy170⟩ : ∃ y_ : List Int, y_ = (y167 ++ l0_1) := ⟨_, rfl⟩
  replace H : (spec_wide.l0 k a1 y170 a0_2) = some r := by first | (rw [hy170]; with_reducible exact H) | (have H2_ := (Option.bind_some _ _).symm.trans H; rw [hy170]; with_reducible exact H2_) | (have H2_ := (Option.bind_some _ _).symm.trans H; with_reducible exact H2_) | with_reducible exact H | (rw [hy170]; exact H) | exact H
  have Ny170 := aM_ hy170
  clear hy170
  have H' := aM_ H
  clear H
  go_enter Try.func23, Try.ntmps23
  go_wp2_with (first | ((with_reducible refine gate_dst (N := 2) rfl ?_); (try (refine gate_guard (by rfl) ?_; dsimp only)); refine box_event ?hg (N := 2) ?hd (cs := #[.bool a0_0, .slice A0_1 l0_1.length c0_1, .int .i64 a0_2]) (t := 26) ?hr ?_; (case hd => rfl); (case hg => rfl); (case hr => first | (go_simp; done) | (go_simp; rfl)); intro gb166 hg w4 hbox hb; have n0_ := aM_ (below_step (by repeat (first | (with_reducible first | exact HB.out | apply bB_ | apply wN_ | apply bE_) | exact HB.out)) hb); have n1_ := aM_ (hbox); have n2_ := aM_ ((by rw [hg]; exact (below_size (by repeat (first | (with_reducible first | exact HB.out | apply bB_ | apply wN_ | apply bE_) | exact HB.out))) : w.heap.size ≤ gb166)); have n3_ := aM_ ((by rw [hg]; exact (below_size (by repeat (first | (with_reducible first | exact HB.out | apply bB_ | apply wN_ | apply bE_) | exact HB.out))) : w.heap.size ≤ gb166)); clear HB; have HB := n0_; have BK166 := n1_; have GW166 := n2_; have GE166 := n3_; clear n0_ n1_ n2_ n3_; clear hb hbox hg) | ((with_reducible refine gate_dst (N := 7) rfl ?_); (try (refine gate_guard (by rfl) ?_; dsimp only)); refine Kd.R_lit (Kd.int .i64) _ 3 ?hg (N := 7) ?hd (xs := ([] : List Int)) (inner := []) (ok := fun _ => True) (okp := fun _ => True) ?hr ?hp (fun _ hk => hk) trivial (Below.refl _ _) (Nat.le_refl _) (by simp) ?_; (case hd => rfl); (case hg => rfl); (case hr => first | (go_simp; done) | (go_simp; rfl)); (case hp => exact (Reps.none _ _)); intro v168 w5 ho6 hb hg_ hnew_; clear hg_ hnew_; (first | rw [← Ny167.out] at ho6 | (simp only [Int.reduceToNat] at ho6; rw [← Ny167.out] at ho6)); have n0_ := aM_ (Kd.R_lower ho6 (below_size (by repeat (first | (with_reducible first | exact HB.out | apply bB_ | apply wN_ | apply bE_ | refine bS_ ?_ GE166.out) | exact HB.out)))); have n1_ := aM_ (blk_below (g := gb166) (o := .cells #[.bool a0_0, .slice A0_1 l0_1.length c0_1, .int .i64 a0_2] 26 (0, 0)) (by (with_reducible repeat (first | refine bN_ ?_ _ | refine bD_ ?_ | refine bA_ ?_ _)); exact BK166.out) hb); have n2_ := aM_ (below_step (by repeat (first | (with_reducible first | exact HB.out | apply bB_ | apply wN_ | apply bE_ | refine bS_ ?_ GE166.out) | exact HB.out)) hb); clear BK166; clear HB; have HO169 := n0_; have BK166 := n1_; have HB := n2_; clear n0_ n1_ n2_; clear hb ho6; have hcz7_0 : w5.cell? ⟨gb166, 0, none⟩ = some (.bool a0_0) := (bC_ BK166.out 0).trans rfl; have hcz7_1 : w5.cell? ⟨gb166, 1, none⟩ = some (.slice A0_1 l0_1.length c0_1) := (bC_ BK166.out 1).trans rfl; have hcz7_2 : w5.cell? ⟨gb166, 2, none⟩ = some (.int .i64 a0_2) := (bC_ BK166.out 2).trans rfl; have hfz7_0 := bF_ BK166.out 0; have hfz7_1 := bF_ BK166.out 1; have hfz7_2 := bF_ BK166.out 2) | ((with_reducible refine gate_builtin (b := .append) (xs := #[.tmp 7, .tmp 9]) rfl ?_); (try (refine gate_guard (by rfl) ?_; dsimp only)); at_builtin; refine Kd.R_append_rows (Kd.int .i64) (w0 := w) w.heap.size rfl (.tmp 7) (.tmp 9) 24 3 (.int .i64 0) 8 rfl Try.underlying24 info3 rfl (by decide) (by omega) v168 y167 l0_1 _ _ _ (fun _ => True) (fun _ => False) rfl rfl ?aO ?aR (fun _ _ h => h) (fun _ h => h.elim) ?aF ?aB ?aS ?aL ?_; (case aR => repeat (first | exact (Kd.C_below HR0_1.out HB.out) | (with_reducible refine Kd.C_alloc ?_ _) | (with_reducible refine Kd.C_drewN ?_ _) | (with_reducible refine Kd.C_drew ?_))); (case aB => exact (by repeat (first | (with_reducible first | exact HB.out | apply bB_ | apply wN_ | apply bE_ | refine bS_ ?_ GE166.out) | exact HB.out))); (case aF => exact (fun _ _ => trivial)); (case aO => exact (by (with_reducible repeat (first | apply kA_ | apply kN_ | apply kD_)); exact HO169.out)); (case aS => exact (below_size (by repeat (first | (with_reducible first | exact HB.out | apply bB_ | apply wN_ | apply bE_ | refine bS_ ?_ GE166.out) | exact HB.out)))); (case aL => have := LMc3.out; omega); intro v171 w8 ho hb hg hat; rw [← Ny170.out] at ho; have n0_ := aM_ (blk_grown (g := gb166) (o := .cells #[.bool a0_0, .slice A0_1 l0_1.length c0_1, .int .i64 a0_2] 26 (0, 0)) (by (with_reducible repeat (first | refine bN_ ?_ _ | refine bD_ ?_ | refine bA_ ?_ _)); exact BK166.out) hg (Kd.R_ne HO169.out BK166.out (by decide))); have n1_ := aM_ (hb); have n2_ := aM_ (ho); clear BK166; clear HB; clear HO169; have BK166 := n0_; have HB := n1_; have HO172 := n2_; clear n0_ n1_ n2_; clear ho hb hg hat; have hcz9_0 : w8.cell? ⟨gb166, 0, none⟩ = some (.bool a0_0) := (bC_ BK166.out 0).trans rfl; have hcz9_1 : w8.cell? ⟨gb166, 1, none⟩ = some (.slice A0_1 l0_1.length c0_1) := (bC_ BK166.out 1).trans rfl; have hcz9_2 : w8.cell? ⟨gb166, 2, none⟩ = some (.int .i64 a0_2) := (bC_ BK166.out 2).trans rfl; have hfz9_0 := bF_ BK166.out 0; have hfz9_1 := bF_ BK166.out 1; have hfz9_2 := bF_ BK166.out 2))
  go_loopg [5, 6] k (fun kq v5 v6 w' => ∃ (x5_1 : List Int) (x6_1 : Int), v6 = .int .i64 x6_1 ∧ Aside0 (spec_wide.l0 kq a1 x5_1 x6_1 = some r) ∧ Aside0 (kq ≤ k) ∧ Aside0 (Kd.R (Kd.int .i64) 3 w' w.heap.size (fun _ => True) v5 x5_1) ∧ Aside0 (w'.heap[gb166]? = some (.cells #[.bool a0_0, (.slice A0_1 l0_1.length c0_1), .int .i64 a0_2] 26 (0, 0))) ∧ Aside0 (Below w.heap.size w w'))
  case atStart => exact ⟨(y170), (a0_2), (by first | rfl | (simp; done) | (simp [*]; done)), H', ⟨Nat.le_refl _⟩, ⟨by (with_reducible repeat (first | apply kA_ | apply kN_ | apply kD_)); exact HO172.out⟩, ⟨by (with_reducible repeat (first | refine bN_ ?_ _ | refine bD_ ?_ | refine bA_ ?_ _)); exact BK166.out⟩, ⟨by repeat (first | (with_reducible first | exact HB.out | apply bB_ | apply wN_ | apply bE_ | refine bS_ ?_ GE166.out) | exact HB.out)⟩⟩
  case round =>
   clear H'
   try clear c2
   try clear p2
   try clear c3
   try clear hcz7_0
   try clear hcz7_1
   try clear hcz7_2
   try clear hcz9_0
   try clear hcz9_1
   try clear hcz9_2
   try clear hfz7_0
   try clear hfz7_1
   try clear hfz7_2
   try clear hfz9_0
   try clear hfz9_1
   try clear hfz9_2
   obtain ⟨x5_1, x6_1, rfl, HA, HK1, HO_5, BK166, HB⟩ := hrel
   cases gk with
   | zero => exact absurd HA.out (by simp [spec_wide.l0])
   | succ k1 =>
    have H := HA.out
    clear HA
    simp only [spec_wide.l0] at H
    by_cases c10 : x6_1 > a1
    ·
     rw [if_pos c10] at H
     have c10b0 : decide (a1 < x6_1) = true := decide_eq_true c10
     clear c10
     by_cases c11 : (x5_1.length : Int) > 0
     ·
      rw [if_pos c11] at H
      have c11b0 : decide (0 < (x5_1.length : Int)) = true := decide_eq_true c11
      have c11b1 : decide (0 < x5_1.length) = true := decide_eq_true (by omega)
      clear c11
      by_cases c12 : x5_1.length < 17592186044416
      ·
       rw [if_pos c12] at H
       have LMc12 := aM_ c12
       clear c12
       obtain ⟨y173, hy173⟩ : ∃ y_ : List Int, y_ = (x5_1 ++ [0]) := ⟨_, rfl⟩
       replace H : (spec_wide.l0 k1 a1 y173 (wrap64 (x6_1 - 1))) = some r := by first | (rw [hy173]; with_reducible exact H) | (have H2_ := (Option.bind_some _ _).symm.trans H; rw [hy173]; with_reducible exact H2_) | (have H2_ := (Option.bind_some _ _).symm.trans H; with_reducible exact H2_) | with_reducible exact H | (rw [hy173]; exact H) | exact H
       have Ny173 := aM_ hy173
       clear hy173
       have H' := aM_ H
       clear H
       obtain ⟨Ao13, co13, eo13⟩ := Kd.R_slice HO_5.out
       subst eo13
       go_wp2_with (first | ((with_reducible refine gate_builtin (b := .append) (xs := #[.tmp 23, .tmp 24]) rfl ?_); (try (refine gate_guard (by rfl) ?_; dsimp only)); at_builtin; refine Kd.R_append (Kd.int .i64) (w0 := w) w.heap.size rfl (.tmp 23) (.tmp 24) 24 3 (.int .i64 0) 8 rfl Try.underlying24 info3 rfl (by decide) (by omega) (.slice Ao13 x5_1.length co13) x5_1 0 [.int .i64 0] (fun _ => True) (fun _ => False) rfl rfl ?aP (fun _ hk => hk.elim) ?aF ?aO ?aB ?aS ?aL ?_; (case aP => exact rfl); (case aB => exact (by repeat (first | (with_reducible first | exact HB.out | apply bB_ | apply wN_ | apply bE_ | refine bS_ ?_ GE166.out) | exact HB.out))); (case aF => exact (fun _ _ => trivial)); (case aO => exact (by (with_reducible repeat (first | apply kA_ | apply kN_ | apply kD_)); exact HO_5.out)); (case aS => exact (below_size (by repeat (first | (with_reducible first | exact HB.out | apply bB_ | apply wN_ | apply bE_ | refine bS_ ?_ GE166.out) | exact HB.out)))); (case aL => have := LMc12.out; omega); intro v174 w14 ho hb hg hat; rw [← Ny173.out] at ho; have n0_ := aM_ (blk_grown (g := gb166) (o := .cells #[.bool a0_0, .slice A0_1 l0_1.length c0_1, .int .i64 a0_2] 26 (0, 0)) (by (with_reducible repeat (first | refine bN_ ?_ _ | refine bD_ ?_ | refine bA_ ?_ _)); exact BK166.out) hg (Kd.R_ne HO_5.out BK166.out (by decide))); have n1_ := aM_ (hb); have n2_ := aM_ (ho); clear BK166; clear HB; clear HO_5; have BK166 := n0_; have HB := n1_; have HO175 := n2_; clear n0_ n1_ n2_; clear ho hb hg hat))
       go_roundg k1
       case measure => have := HK1.out; omega
       case rel => exact ⟨(y173), (wrap64 (x6_1 - 1)), (by first | rfl | (simp; done) | (simp [*]; done)), H', ⟨by have := HK1.out; omega⟩, ⟨by (with_reducible repeat (first | apply kA_ | apply kN_ | apply kD_)); exact HO175.out⟩, ⟨by (with_reducible repeat (first | refine bN_ ?_ _ | refine bD_ ?_ | refine bA_ ?_ _)); exact BK166.out⟩, ⟨by repeat (first | (with_reducible first | exact HB.out | apply bB_ | apply wN_ | apply bE_ | refine bS_ ?_ GE166.out) | exact HB.out)⟩⟩
      ·
       rw [if_neg c12] at H
       exact absurd H (by simp)
     ·
      rw [if_neg c11] at H
      have c11b0 : decide (0 < (x5_1.length : Int)) = false := decide_eq_false c11
      have c11b1 : decide (0 < x5_1.length) = false := decide_eq_false (by omega)
      clear c11
      obtain rfl := Option.some.inj H
      obtain ⟨Ao15, co15, eo15⟩ := Kd.R_slice HO_5.out
      subst eo15
      go_wp2
      go_ret
      exact ⟨_, by first | rfl | (simp [errW_none, errW_some] <;> rfl) | (simp [*, errW_none, errW_some] <;> rfl), by (with_reducible repeat (first | apply kA_ | apply kN_ | apply kD_)); exact HO_5.out, by repeat (first | (with_reducible first | exact HB.out | apply bB_ | apply wN_ | apply bE_ | refine bS_ ?_ GE166.out) | exact HB.out)⟩
    ·
     rw [if_neg c10] at H
     have c10b0 : decide (a1 < x6_1) = false := decide_eq_false c10
     clear c10
     obtain rfl := Option.some.inj H
     go_wp2
     go_ret
     exact ⟨_, by first | rfl | (simp [errW_none, errW_some] <;> rfl) | (simp [*, errW_none, errW_some] <;> rfl), by (with_reducible repeat (first | apply kA_ | apply kN_ | apply kD_)); exact HO_5.out, by repeat (first | (with_reducible first | exact HB.out | apply bB_ | apply wN_ | apply bE_ | refine bS_ ?_ GE166.out) | exact HB.out)⟩
 ·
  rw [if_neg c3] at H
  exact absurd H (by simp)

/-! ### spec_DecimalInt: function 10 -/
mutual
def spec_DecimalInt.j0 : Nat → Bool → Bool → List Int → Int → Option (Int × Bool)
 | 0, _, _, _, _ => none
 | k + 1, x24, x177000, x177001, x177002 => if x24 = true then (some (0, false)) else ((spec_wide.f k x177000 x177001 x177002 0).bind fun t177 => (spec_DecimalInt.l0 k 0 t177 (t177.length : Int) 0 x177000 x177001 x177002))
def spec_DecimalInt.l0 : Nat → Int → List Int → Int → Int → Bool → List Int → Int → Option (Int × Bool)
 | 0, _, _, _, _, _, _, _ => none
 | k + 1, x4, x26, x27, x28, x177000, x177001, x177002 => if x28 < x27 then (if 0 ≤ x28 then (if x28 < (x26.length : Int) then (spec_DecimalInt.l0 k (IntKind.u64.wrap ((IntKind.u64.wrap (10 * x4)) + (IntKind.u64.wrap (rd x26 x28)))) x26 x27 (wrap64 (x28 + 1)) x177000 x177001 x177002) else (none)) else (none)) else (if x177000 = true then (some (wrap64 (IntKind.u64.wrap (-x4)), decide (x4 ≤ 9223372036854775808))) else (some (wrap64 (x4), decide (x4 < 9223372036854775808))))
end
def spec_DecimalInt.f (k : Nat) (a0_0 : Bool) (l0_1 : List Int) (a0_2 : Int) : Option (Int × Bool) := if (l0_1.length : Int) > 0 then (if a0_2 < 0 then (spec_DecimalInt.j0 k true a0_0 l0_1 a0_2) else (spec_DecimalInt.j0 k (decide ((wrap64 ((l0_1.length : Int) + a0_2)) > 19)) a0_0 l0_1 a0_2)) else (spec_DecimalInt.j0 k false a0_0 l0_1 a0_2)
theorem spec_DecimalInt.mono_l : ∀ k, (∀ y0 y1 y2 y3, LeO (spec_DecimalInt.j0 k y0 y1 y2 y3) (spec_DecimalInt.j0 (k + 1) y0 y1 y2 y3)) ∧ (∀ y0 y1 y2 y3 y4 y5 y6, LeO (spec_DecimalInt.l0 k y0 y1 y2 y3 y4 y5 y6) (spec_DecimalInt.l0 (k + 1) y0 y1 y2 y3 y4 y5 y6))
 | 0 => ⟨fun _ _ _ _ r h => by simp [spec_DecimalInt.j0] at h, fun _ _ _ _ _ _ _ r h => by simp [spec_DecimalInt.l0] at h⟩
 | k + 1 => by
  obtain ⟨ih0, ih1⟩ := spec_DecimalInt.mono_l k
  refine ⟨?_, ?_⟩
  ·
   intro y0 y1 y2 y3
   unfold spec_DecimalInt.j0
   repeat' first
   | (with_reducible exact ih0 _ _ _ _)
   | (with_reducible exact ih1 _ _ _ _ _ _ _)
   | (with_reducible exact spec_wide.mono _ _ _ _ _)
   | (with_reducible exact LeO.refl _)
   | (with_reducible exact LeO.none _)
   | (with_reducible refine LeO.ite ?_ ?_)
   | (with_reducible refine LeO.bind ?_ (fun _ => ?_))
   | exact ih0 _ _ _ _
   | exact ih1 _ _ _ _ _ _ _
   | exact spec_wide.mono _ _ _ _ _
   | exact LeO.none _
   | refine LeO.ite ?_ ?_
   | refine LeO.bind ?_ (fun _ => ?_)
  ·
   intro y0 y1 y2 y3 y4 y5 y6
   unfold spec_DecimalInt.l0
   repeat' first
   | (with_reducible exact ih0 _ _ _ _)
   | (with_reducible exact ih1 _ _ _ _ _ _ _)
   | (with_reducible exact spec_wide.mono _ _ _ _ _)
   | (with_reducible exact LeO.refl _)
   | (with_reducible exact LeO.none _)
   | (with_reducible refine LeO.ite ?_ ?_)
   | (with_reducible refine LeO.bind ?_ (fun _ => ?_))
   | exact ih0 _ _ _ _
   | exact ih1 _ _ _ _ _ _ _
   | exact spec_wide.mono _ _ _ _ _
   | exact LeO.none _
   | refine LeO.ite ?_ ?_
   | refine LeO.bind ?_ (fun _ => ?_)
theorem spec_DecimalInt.mono : ∀ a0 a1 a2 k, LeO (spec_DecimalInt.f k a0 a1 a2) (spec_DecimalInt.f (k + 1) a0 a1 a2) := by
 intro a0 a1 a2 k
 obtain ⟨ih0, ih1⟩ := spec_DecimalInt.mono_l k
 unfold spec_DecimalInt.f
 repeat' first
   | (with_reducible exact ih0 _ _ _ _)
   | (with_reducible exact ih1 _ _ _ _ _ _ _)
   | (with_reducible exact spec_wide.mono _ _ _ _ _)
   | (with_reducible exact LeO.refl _)
   | (with_reducible exact LeO.none _)
   | (with_reducible refine LeO.ite ?_ ?_)
   | (with_reducible refine LeO.bind ?_ (fun _ => ?_))
   | exact ih0 _ _ _ _
   | exact ih1 _ _ _ _ _ _ _
   | exact spec_wide.mono _ _ _ _ _
   | exact LeO.none _
   | refine LeO.ite ?_ ?_
   | refine LeO.bind ?_ (fun _ => ?_)
set_option maxHeartbeats 8000000 in
set_option maxRecDepth 100000 in
theorem spec_DecimalInt.calls (k : Nat) (a0_0 : Bool) (A0_1 : Option Addr) (c0_1 : Nat) (l0_1 : List Int) (a0_2 : Int) (r1 : Int) (r2 : Bool) (w : World) (hr0_1 : Kd.C (Kd.int .i64) w A0_1 l0_1.length l0_1) (hc0_1 : l0_1.length ≤ c0_1) (h : spec_DecimalInt.f k a0_0 l0_1 a0_2 = some (r1, r2)) :
  Calls Try.prog 10 #[.agg #[.bool a0_0, .slice A0_1 l0_1.length c0_1, .int .i64 a0_2]] w fun e w' => e = .returned (.tuple #[.int .i64 r1, .bool r2]) ∧ Below w.heap.size w w' := by
 have hu26 := Try.underlying26
 have HR0_1 := aM_ hr0_1
 have HC0_1 := aM_ hc0_1
 clear hr0_1 hc0_1
 have HB := aM_ (Below.refl w.heap.size w)
 have H : (if (l0_1.length : Int) > 0 then (if a0_2 < 0 then (spec_DecimalInt.j0 k true a0_0 l0_1 a0_2) else (spec_DecimalInt.j0 k (decide ((wrap64 ((l0_1.length : Int) + a0_2)) > 19)) a0_0 l0_1 a0_2)) else (spec_DecimalInt.j0 k false a0_0 l0_1 a0_2)) = some (r1, r2) := h
 clear h
 have HC2 := aM_ H
 clear H
 go_enter Try.func10, Try.ntmps10
 go_upto_region 1 with (first | ((with_reducible refine gate_dst (N := 1) rfl ?_); (try (refine gate_guard (by rfl) ?_; dsimp only)); refine box_event ?hg (N := 1) ?hd (cs := #[.bool a0_0, .slice A0_1 l0_1.length c0_1, .int .i64 a0_2]) (t := 26) ?hr ?_; (case hd => rfl); (case hg => rfl); (case hr => first | (go_simp; done) | (go_simp; rfl)); intro gb176 hg w3 hbox hb; have n0_ := aM_ (below_step (by repeat (first | (with_reducible first | exact HB.out | apply bB_ | apply wN_ | apply bE_) | exact HB.out)) hb); have n1_ := aM_ (hbox); have n2_ := aM_ ((by rw [hg]; exact (below_size (by repeat (first | (with_reducible first | exact HB.out | apply bB_ | apply wN_ | apply bE_) | exact HB.out))) : w.heap.size ≤ gb176)); have n3_ := aM_ ((by rw [hg]; exact (below_size (by repeat (first | (with_reducible first | exact HB.out | apply bB_ | apply wN_ | apply bE_) | exact HB.out))) : w.heap.size ≤ gb176)); clear HB; have HB := n0_; have BK176 := n1_; have GW176 := n2_; have GE176 := n3_; clear n0_ n1_ n2_ n3_; clear hb hbox hg))
 (try simp only [Act.put, List.setIfInBounds_toArray, List.set_cons_zero, List.set_cons_succ])
 go_cut [24] (fun v24 wc => ∃ (kq : Nat) (x24_1 : Bool), v24 = .bool x24_1 ∧ Aside0 (spec_DecimalInt.j0 kq x24_1 a0_0 l0_1 a0_2 = some (r1, r2)) ∧ Aside0 (kq ≤ k) ∧ Aside0 (wc.heap[gb176]? = some (.cells #[.bool a0_0, (.slice A0_1 l0_1.length c0_1), .int .i64 a0_2] 26 (0, 0))) ∧ Aside0 (Below w.heap.size w wc))
 case first =>
  have H := HC2.out
  clear HC2
  by_cases c4 : (l0_1.length : Int) > 0
  ·
   rw [if_pos c4] at H
   have c4b0 : decide (0 < (l0_1.length : Int)) = true := decide_eq_true c4
   have c4b1 : decide (0 < l0_1.length) = true := decide_eq_true (by omega)
   clear c4
   (first | rw [c4b0] | (simp only [i64_w, i32_w]; rw [c4b0]) | skip)
   by_cases c5 : a0_2 < 0
   ·
    rw [if_pos c5] at H
    have c5b0 : decide (a0_2 < 0) = true := decide_eq_true c5
    clear c5
    have H' := aM_ H
    clear H
    have hcz6_0 : w3.cell? ⟨gb176, 0, none⟩ = some (.bool a0_0) := (bC_ BK176.out 0).trans rfl
    have hcz6_1 : w3.cell? ⟨gb176, 1, none⟩ = some (.slice A0_1 l0_1.length c0_1) := (bC_ BK176.out 1).trans rfl
    have hcz6_2 : w3.cell? ⟨gb176, 2, none⟩ = some (.int .i64 a0_2) := (bC_ BK176.out 2).trans rfl
    have hfz6_0 := bF_ BK176.out 0
    have hfz6_1 := bF_ BK176.out 1
    have hfz6_2 := bF_ BK176.out 2
    go_wp2
    go_meet
    case rel => exact ⟨_, (true), (by first | rfl | (simp; done) | (simp [*]; done)), H', ⟨by first | omega | exact Nat.le_refl _⟩, ⟨by (with_reducible repeat (first | refine bN_ ?_ _ | refine bD_ ?_ | refine bA_ ?_ _)); exact BK176.out⟩, ⟨by repeat (first | (with_reducible first | exact HB.out | apply bB_ | apply wN_ | apply bE_ | refine bS_ ?_ GE176.out) | exact HB.out)⟩⟩
   ·
    rw [if_neg c5] at H
    have c5b0 : decide (a0_2 < 0) = false := decide_eq_false c5
    clear c5
    have H' := aM_ H
    clear H
    have hcz7_0 : w3.cell? ⟨gb176, 0, none⟩ = some (.bool a0_0) := (bC_ BK176.out 0).trans rfl
    have hcz7_1 : w3.cell? ⟨gb176, 1, none⟩ = some (.slice A0_1 l0_1.length c0_1) := (bC_ BK176.out 1).trans rfl
    have hcz7_2 : w3.cell? ⟨gb176, 2, none⟩ = some (.int .i64 a0_2) := (bC_ BK176.out 2).trans rfl
    have hfz7_0 := bF_ BK176.out 0
    have hfz7_1 := bF_ BK176.out 1
    have hfz7_2 := bF_ BK176.out 2
    go_wp2
    go_meet
    case rel => exact ⟨_, (decide ((wrap64 ((l0_1.length : Int) + a0_2)) > 19)), (by first | rfl | (simp; done) | (simp [*]; done)), H', ⟨by first | omega | exact Nat.le_refl _⟩, ⟨by (with_reducible repeat (first | refine bN_ ?_ _ | refine bD_ ?_ | refine bA_ ?_ _)); exact BK176.out⟩, ⟨by repeat (first | (with_reducible first | exact HB.out | apply bB_ | apply wN_ | apply bE_ | refine bS_ ?_ GE176.out) | exact HB.out)⟩⟩
  ·
   rw [if_neg c4] at H
   have c4b0 : decide (0 < (l0_1.length : Int)) = false := decide_eq_false c4
   have c4b1 : decide (0 < l0_1.length) = false := decide_eq_false (by omega)
   clear c4
   (first | rw [c4b0] | (simp only [i64_w, i32_w]; rw [c4b0]) | skip)
   have H' := aM_ H
   clear H
   have hcz8_0 : w3.cell? ⟨gb176, 0, none⟩ = some (.bool a0_0) := (bC_ BK176.out 0).trans rfl
   have hcz8_1 : w3.cell? ⟨gb176, 1, none⟩ = some (.slice A0_1 l0_1.length c0_1) := (bC_ BK176.out 1).trans rfl
   have hcz8_2 : w3.cell? ⟨gb176, 2, none⟩ = some (.int .i64 a0_2) := (bC_ BK176.out 2).trans rfl
   have hfz8_0 := bF_ BK176.out 0
   have hfz8_1 := bF_ BK176.out 1
   have hfz8_2 := bF_ BK176.out 2
   go_wp2
   go_meet
   case rel => exact ⟨_, (false), (by first | rfl | (simp; done) | (simp [*]; done)), H', ⟨by first | omega | exact Nat.le_refl _⟩, ⟨by (with_reducible repeat (first | refine bN_ ?_ _ | refine bD_ ?_ | refine bA_ ?_ _)); exact BK176.out⟩, ⟨by repeat (first | (with_reducible first | exact HB.out | apply bB_ | apply wN_ | apply bE_ | refine bS_ ?_ GE176.out) | exact HB.out)⟩⟩
 case rest =>
  clear HC2
  try clear c1
  try clear p2
  try clear c4
  try clear c4b0
  try clear c4b1
  try clear c5
  try clear c5b0
  try clear p6
  try clear hcz6_0
  try clear hcz6_1
  try clear hcz6_2
  try clear hcz7_0
  try clear hcz7_1
  try clear hcz7_2
  try clear hcz8_0
  try clear hcz8_1
  try clear hcz8_2
  try clear hfz6_0
  try clear hfz6_1
  try clear hfz6_2
  try clear hfz7_0
  try clear hfz7_1
  try clear hfz7_2
  try clear hfz8_0
  try clear hfz8_1
  try clear hfz8_2
  obtain ⟨kq, x24_1, rfl, HA, HJ1, BK176, HB⟩ := hcut
  cases kq with
  | zero => exact absurd HA.out (by simp [spec_DecimalInt.j0])
  | succ kj1 =>
   have H := HA.out
   clear HA
   simp only [spec_DecimalInt.j0] at H
   by_cases c9 : x24_1 = true
   ·
    subst c9
    have H1 : (some (0, false)) = some (r1, r2) := by rw [if_pos rfl] at H; exact H
    clear H
    have H := H1
    clear H1
    simp only [Option.some.injEq, Prod.mk.injEq] at H
    obtain ⟨rfl, rfl⟩ := H
    go_wp2
    go_ret2
    exact ⟨by first | rfl | (simp [errW_none, errW_some] <;> rfl) | (simp [*, errW_none, errW_some] <;> rfl) | (exfalso; contradiction), by repeat (first | (with_reducible first | exact HB.out | apply bB_ | apply wN_ | apply bE_ | refine bS_ ?_ GE176.out) | exact HB.out)⟩
   ·
    replace c9 := Bool.eq_false_iff.mpr c9
    subst c9
    have H1 : ((spec_wide.f kj1 a0_0 l0_1 a0_2 0).bind fun t177 => (spec_DecimalInt.l0 kj1 0 t177 (t177.length : Int) 0 a0_0 l0_1 a0_2)) = some (r1, r2) := by rw [if_neg (show ¬ (false = true) by decide)] at H; exact H
    clear H
    have H := H1
    clear H1
    replace H := Option.bind_eq_some_iff.mp H
    obtain ⟨t177, A100, H⟩ := H
    replace H : (spec_DecimalInt.l0 kj1 0 t177 (t177.length : Int) 0 a0_0 l0_1 a0_2) = some (r1, r2) := H
    have A10 := aM_ A100
    clear A100
    have H' := aM_ H
    clear H
    have hcz11_0 : wc.cell? ⟨gb176, 0, none⟩ = some (.bool a0_0) := (bC_ BK176.out 0).trans rfl
    have hcz11_1 : wc.cell? ⟨gb176, 1, none⟩ = some (.slice A0_1 l0_1.length c0_1) := (bC_ BK176.out 1).trans rfl
    have hcz11_2 : wc.cell? ⟨gb176, 2, none⟩ = some (.int .i64 a0_2) := (bC_ BK176.out 2).trans rfl
    have hfz11_0 := bF_ BK176.out 0
    have hfz11_1 := bF_ BK176.out 1
    have hfz11_2 := bF_ BK176.out 2
    go_wp2_with (first | ((with_reducible refine gate_callee (f := 23) rfl ?_); refine goesL_ (some 26) rfl rfl Try.func23 (by kernel_rfl) rfl #[.agg #[.bool a0_0, .slice A0_1 l0_1.length c0_1, .int .i64 a0_2], .int .i64 0] rfl (by (try simp only [List.map_toArray, List.map_cons, List.map_nil]); first | done | rfl | (simp only [List.length_drop, List.length_take]; rfl)) ?_; (with_reducible refine (spec_wide.calls kj1 a0_0 _ _ l0_1 a0_2 0 t177 _ ?side1 ?side2 A10.out).mono ?_); (case side1 => repeat (first | exact (Kd.C_below HR0_1.out HB.out) | (with_reducible refine Kd.C_alloc ?_ _) | (with_reducible refine Kd.C_drewN ?_ _) | (with_reducible refine Kd.C_drew ?_))); (case side2 => exact HC0_1.out); rintro e w12 ⟨v178, rfl, ho0, hb⟩; refine ⟨_, rfl, ?_⟩; have n0_ := aM_ (Kd.R_lower ho0 (below_size (by repeat (first | (with_reducible first | exact HB.out | apply bB_ | apply wN_ | apply bE_ | refine bS_ ?_ GE176.out) | exact HB.out)))); have n1_ := aM_ (blk_below (g := gb176) (o := .cells #[.bool a0_0, .slice A0_1 l0_1.length c0_1, .int .i64 a0_2] 26 (0, 0)) (by (with_reducible repeat (first | refine bN_ ?_ _ | refine bD_ ?_ | refine bA_ ?_ _)); exact BK176.out) hb); have n2_ := aM_ (below_step (by repeat (first | (with_reducible first | exact HB.out | apply bB_ | apply wN_ | apply bE_ | refine bS_ ?_ GE176.out) | exact HB.out)) hb); clear BK176; clear HB; have HO179 := n0_; have BK176 := n1_; have HB := n2_; clear n0_ n1_ n2_; (try clear hb); (try clear hb2); (try clear hk); (try clear hi); (try clear ho0); obtain ⟨Ao13, co13, eo13⟩ := Kd.R_slice HO179.out; subst eo13))
    go_loopg [4, 28] kj1 (fun kq v4 v28 w' => ∃ (x4_2 : Int) (x28_2 : Int), v4 = .int .u64 x4_2 ∧ v28 = .int .i64 x28_2 ∧ Aside0 (spec_DecimalInt.l0 kq x4_2 t177 (t177.length : Int) x28_2 a0_0 l0_1 a0_2 = some (r1, r2)) ∧ Aside0 (kq ≤ kj1) ∧ Aside0 (Kd.R (Kd.int .i64) 3 w' w.heap.size (fun _ => True) (.slice Ao13 t177.length co13) t177) ∧ Aside0 (w'.heap[gb176]? = some (.cells #[.bool a0_0, (.slice A0_1 l0_1.length c0_1), .int .i64 a0_2] 26 (0, 0))) ∧ Aside0 (Below w.heap.size w w'))
    case atStart => exact ⟨(0), (0), (by first | rfl | (simp; done) | (simp [*]; done)), (by first | rfl | (simp; done) | (simp [*]; done)), H', ⟨Nat.le_refl _⟩, ⟨by (with_reducible repeat (first | apply kA_ | apply kN_ | apply kD_)); exact HO179.out⟩, ⟨by (with_reducible repeat (first | refine bN_ ?_ _ | refine bD_ ?_ | refine bA_ ?_ _)); exact BK176.out⟩, ⟨by repeat (first | (with_reducible first | exact HB.out | apply bB_ | apply wN_ | apply bE_ | refine bS_ ?_ GE176.out) | exact HB.out)⟩⟩
    case round =>
     clear H'
     try clear c1
     try clear c2
     try clear p2
     try clear c4
     try clear c4b0
     try clear c4b1
     try clear c5
     try clear c5b0
     try clear p6
     try clear c9
     try clear c10
     try clear hcz11_0
     try clear hcz11_1
     try clear hcz11_2
     try clear hcz6_0
     try clear hcz6_1
     try clear hcz6_2
     try clear hcz7_0
     try clear hcz7_1
     try clear hcz7_2
     try clear hcz8_0
     try clear hcz8_1
     try clear hcz8_2
     try clear hfz11_0
     try clear hfz11_1
     try clear hfz11_2
     try clear hfz6_0
     try clear hfz6_1
     try clear hfz6_2
     try clear hfz7_0
     try clear hfz7_1
     try clear hfz7_2
     try clear hfz8_0
     try clear hfz8_1
     try clear hfz8_2
     try clear p2
     try clear p6
     obtain ⟨x4_2, x28_2, rfl, rfl, HA, HK2, HO_26, BK176, HB⟩ := hrel
     cases gk with
     | zero => exact absurd HA.out (by simp [spec_DecimalInt.l0])
     | succ k2 =>
      have H := HA.out
      clear HA
      simp only [spec_DecimalInt.l0] at H
      by_cases c14 : x28_2 < (t177.length : Int)
      ·
       rw [if_pos c14] at H
       have c14b0 : decide (x28_2 < (t177.length : Int)) = true := decide_eq_true c14
       clear c14
       by_cases c15 : 0 ≤ x28_2
       ·
        rw [if_pos c15] at H
        have c15b0 : decide (0 ≤ x28_2) = true := decide_eq_true c15
        clear c15
        by_cases c16 : x28_2 < (t177.length : Int)
        ·
         rw [if_pos c16] at H
         have c16b0 : decide (x28_2 < (t177.length : Int)) = true := decide_eq_true c16
         clear c16
         have H' := aM_ H
         clear H
         have p180 : 0 ≤ (x28_2 : Int) := of_decide_eq_true (by first | (with_reducible assumption) | assumption)
         have q180 : x28_2 < (t177.length : Int) := of_decide_eq_true (by first | (with_reducible assumption) | assumption)
         obtain ⟨ad180, e180, hx180_0⟩ := Kd.at_int (Kd.R_reads' HO_26.out).2.2 x28_2 p180 q180
         cases e180
         replace p180 := eq_true p180
         replace q180 := eq_true q180
         go_wp2
         go_roundg k2
         case measure => have := HJ1.out; have := HK2.out; omega
         case rel => exact ⟨(IntKind.u64.wrap ((IntKind.u64.wrap (10 * x4_2)) + (IntKind.u64.wrap (rd t177 x28_2)))), (wrap64 (x28_2 + 1)), (by first | rfl | (simp; done) | (simp [*]; done)), (by first | rfl | (simp; done) | (simp [*]; done)), H', ⟨by have := HJ1.out; have := HK2.out; omega⟩, ⟨by (with_reducible repeat (first | apply kA_ | apply kN_ | apply kD_)); exact HO_26.out⟩, ⟨by (with_reducible repeat (first | refine bN_ ?_ _ | refine bD_ ?_ | refine bA_ ?_ _)); exact BK176.out⟩, ⟨by repeat (first | (with_reducible first | exact HB.out | apply bB_ | apply wN_ | apply bE_ | refine bS_ ?_ GE176.out) | exact HB.out)⟩⟩
        ·
         rw [if_neg c16] at H
         exact absurd H (by simp)
       ·
        rw [if_neg c15] at H
        exact absurd H (by simp)
      ·
       rw [if_neg c14] at H
       have c14b0 : decide (x28_2 < (t177.length : Int)) = false := decide_eq_false c14
       clear c14
       by_cases c17 : a0_0 = true
       ·
        subst c17
        have H1 : (some (wrap64 (IntKind.u64.wrap (-x4_2)), decide (x4_2 ≤ 9223372036854775808))) = some (r1, r2) := by rw [if_pos rfl] at H; exact H
        clear H
        have H := H1
        clear H1
        simp only [Option.some.injEq, Prod.mk.injEq] at H
        obtain ⟨rfl, rfl⟩ := H
        have hcz18_0 : wr.cell? ⟨gb176, 0, none⟩ = some (.bool true) := (bC_ BK176.out 0).trans rfl
        have hcz18_1 : wr.cell? ⟨gb176, 1, none⟩ = some (.slice A0_1 l0_1.length c0_1) := (bC_ BK176.out 1).trans rfl
        have hcz18_2 : wr.cell? ⟨gb176, 2, none⟩ = some (.int .i64 a0_2) := (bC_ BK176.out 2).trans rfl
        have hfz18_0 := bF_ BK176.out 0
        have hfz18_1 := bF_ BK176.out 1
        have hfz18_2 := bF_ BK176.out 2
        go_wp2
        go_ret2
        exact ⟨by first | rfl | (simp [errW_none, errW_some] <;> rfl) | (simp [*, errW_none, errW_some] <;> rfl) | (exfalso; contradiction), by repeat (first | (with_reducible first | exact HB.out | apply bB_ | apply wN_ | apply bE_ | refine bS_ ?_ GE176.out) | exact HB.out)⟩
       ·
        replace c17 := Bool.eq_false_iff.mpr c17
        subst c17
        have H1 : (some (wrap64 (x4_2), decide (x4_2 < 9223372036854775808))) = some (r1, r2) := by rw [if_neg (show ¬ (false = true) by decide)] at H; exact H
        clear H
        have H := H1
        clear H1
        simp only [Option.some.injEq, Prod.mk.injEq] at H
        obtain ⟨rfl, rfl⟩ := H
        have hcz19_0 : wr.cell? ⟨gb176, 0, none⟩ = some (.bool false) := (bC_ BK176.out 0).trans rfl
        have hcz19_1 : wr.cell? ⟨gb176, 1, none⟩ = some (.slice A0_1 l0_1.length c0_1) := (bC_ BK176.out 1).trans rfl
        have hcz19_2 : wr.cell? ⟨gb176, 2, none⟩ = some (.int .i64 a0_2) := (bC_ BK176.out 2).trans rfl
        have hfz19_0 := bF_ BK176.out 0
        have hfz19_1 := bF_ BK176.out 1
        have hfz19_2 := bF_ BK176.out 2
        go_wp2
        go_ret2
        exact ⟨by first | rfl | (simp [errW_none, errW_some] <;> rfl) | (simp [*, errW_none, errW_some] <;> rfl) | (exfalso; contradiction), by repeat (first | (with_reducible first | exact HB.out | apply bB_ | apply wN_ | apply bE_ | refine bS_ ?_ GE176.out) | exact HB.out)⟩

end Go.Proofs.Ytdhooibmibkbeaa.PFnAmountMul
