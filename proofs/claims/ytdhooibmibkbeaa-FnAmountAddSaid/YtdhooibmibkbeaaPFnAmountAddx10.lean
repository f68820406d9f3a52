/- Functions of the program as plain Lean functions, and that the machine's calls do what these say: written for this claim by wip/myprint.py over the kit's print.py. -/
import Derived.Test.YtdhooibmibkbeaaPFnAmountAddx0
import Derived.Test.YtdhooibmibkbeaaPFnAmountAddx1
import Derived.Test.YtdhooibmibkbeaaPFnAmountAddx2
import Derived.Test.YtdhooibmibkbeaaPFnAmountAddx3
import Derived.Test.YtdhooibmibkbeaaPFnAmountAddx6
import Derived.Test.YtdhooibmibkbeaaPFnAmountAddx7
import Derived.Test.YtdhooibmibkbeaaPFnAmountAddx8
import Derived.Test.YtdhooibmibkbeaaPFnAmountAddx9
namespace Go.Proofs.Ytdhooibmibkbeaa.PFnAmountAdd
open Go.RowKit Go.Proofs.YtdhooibmibkbeaaW.PrintWords Go.Proofs.YtdhooibmibkbeaaW.PrintLast Go.Proofs.YtdhooibmibkbeaaW.PrintMore
attribute [local go_sem] max2_int min2_int max_two min_two max_three min_three max_four min_four   -- for this text's walks alone
set_option linter.unusedVariables false
set_option linter.unusedSimpArgs false

/-! ### laws_FnAmountAdd: function 3 -/
mutual
def laws_FnAmountAdd.j0 : Nat → Bool → Int → Int → Int → Int → Bool → List Int → Int → Bool → List Int → Int → Option (Bool)
 | 0, _, _, _, _, _, _, _, _, _, _, _ => none
 | k + 1, x31, x279000, x279001, x280000, x280001, x287000, x287001, x287002, x294000, x294001, x294002 => if x31 = true then (some true) else ((impl_AmountAdd.f k x279000 x279001 x280000 x280001).bind fun bt294 => ((spec_DecimalAdd.f k x287000 x287001 x287002 x294000 x294001 x294002).bind fun bt298 => (if bt294.2.2 = true then (if bt298.2.2.2 = true then ((laws_amountIs.f k bt294.1 bt294.2.1 bt298.1 bt298.2.1 bt298.2.2.1).bind fun t305 => (laws_FnAmountAdd.j1 k bt294.2.2 (!t305) x279000 x279001 x280000 x280001 bt298.1 bt298.2.1 bt298.2.2.1)) else (laws_FnAmountAdd.j1 k bt294.2.2 true x279000 x279001 x280000 x280001 bt298.1 bt298.2.1 bt298.2.2.1)) else (laws_FnAmountAdd.j1 k bt294.2.2 false x279000 x279001 x280000 x280001 bt298.1 bt298.2.1 bt298.2.2.1))))
def laws_FnAmountAdd.j1 : Nat → Bool → Bool → Int → Int → Int → Int → Bool → List Int → Int → Option (Bool)
 | 0, _, _, _, _, _, _, _, _, _ => none
 | k + 1, x10, x54, x279000, x279001, x280000, x280001, x305000, x305001, x305002 => if x54 = true then (some false) else ((spec_DecimalOf.f k 1 (wrap64 (-x279001))).bind fun bt306 => ((spec_DecimalTimes.f k x305000 x305001 x305002 bt306.1 bt306.2.1 bt306.2.2).bind fun bt311 => ((spec_DecimalInt.f k bt311.1 bt311.2.1 bt311.2.2).bind fun bt316 => (if x279001 = x280001 then (if bt316.2 = true then (laws_FnAmountAdd.j2 k x10 true) else (if x279000 = 0 then (laws_FnAmountAdd.j2 k x10 true) else (laws_FnAmountAdd.j2 k x10 (x280000 == 0)))) else (if x279000 = 0 then (laws_FnAmountAdd.j2 k x10 true) else (laws_FnAmountAdd.j2 k x10 (x280000 == 0)))))))
def laws_FnAmountAdd.j2 : Nat → Bool → Bool → Option (Bool)
 | 0, _, _ => none
 | k + 1, x10, x15 => if x10 = true then ((laws_amountAwake.f k).bind fun t318 => (some t318)) else (if x15 = true then (some false) else ((laws_amountAwake.f k).bind fun t319 => (some t319)))
end
def laws_FnAmountAdd.f (k : Nat) (a0_0 : Int) (a0_1 : Int) (a1_0 : Int) (a1_1 : Int) : Option (Bool) := (laws_amountOf.f k a0_0 a0_1).bind fun bt280 => ((laws_amountOf.f k a1_0 a1_1).bind fun bt287 => (if bt280.2.2.2 = true then (laws_FnAmountAdd.j0 k (!bt287.2.2.2) a0_0 a0_1 a1_0 a1_1 bt280.1 bt280.2.1 bt280.2.2.1 bt287.1 bt287.2.1 bt287.2.2.1) else (laws_FnAmountAdd.j0 k true a0_0 a0_1 a1_0 a1_1 bt280.1 bt280.2.1 bt280.2.2.1 bt287.1 bt287.2.1 bt287.2.2.1)))
theorem laws_FnAmountAdd.mono_l : ∀ k, (∀ y0 y1 y2 y3 y4 y5 y6 y7 y8 y9 y10, LeO (laws_FnAmountAdd.j0 k y0 y1 y2 y3 y4 y5 y6 y7 y8 y9 y10) (laws_FnAmountAdd.j0 (k + 1) y0 y1 y2 y3 y4 y5 y6 y7 y8 y9 y10)) ∧ (∀ y0 y1 y2 y3 y4 y5 y6 y7 y8, LeO (laws_FnAmountAdd.j1 k y0 y1 y2 y3 y4 y5 y6 y7 y8) (laws_FnAmountAdd.j1 (k + 1) y0 y1 y2 y3 y4 y5 y6 y7 y8)) ∧ (∀ y0 y1, LeO (laws_FnAmountAdd.j2 k y0 y1) (laws_FnAmountAdd.j2 (k + 1) y0 y1))
 | 0 => ⟨fun _ _ _ _ _ _ _ _ _ _ _ r h => by simp [laws_FnAmountAdd.j0] at h, fun _ _ _ _ _ _ _ _ _ r h => by simp [laws_FnAmountAdd.j1] at h, fun _ _ r h => by simp [laws_FnAmountAdd.j2] at h⟩
 | k + 1 => by
  obtain ⟨ih0, ih1, ih2⟩ := laws_FnAmountAdd.mono_l k
  refine ⟨?_, ?_, ?_⟩
  ·
   intro y0 y1 y2 y3 y4 y5 y6 y7 y8 y9 y10
   unfold laws_FnAmountAdd.j0
   repeat' first
   | (with_reducible exact ih0 _ _ _ _ _ _ _ _ _ _ _)
   | (with_reducible exact ih1 _ _ _ _ _ _ _ _ _)
   | (with_reducible exact ih2 _ _)
   | (with_reducible exact impl_AmountAdd.mono _ _ _ _ _)
   | (with_reducible exact laws_amountAwake.mono _)
   | (with_reducible exact laws_amountIs.mono _ _ _ _ _ _)
   | (with_reducible exact laws_amountOf.mono _ _ _)
   | (with_reducible exact spec_DecimalAdd.mono _ _ _ _ _ _ _)
   | (with_reducible exact spec_DecimalInt.mono _ _ _ _)
   | (with_reducible exact spec_DecimalOf.mono _ _ _)
   | (with_reducible exact spec_DecimalTimes.mono _ _ _ _ _ _ _)
   | (with_reducible exact LeO.refl _)
   | (with_reducible exact LeO.none _)
   | (with_reducible refine LeO.ite ?_ ?_)
   | (with_reducible refine LeO.bind ?_ (fun _ => ?_))
   | exact ih0 _ _ _ _ _ _ _ _ _ _ _
   | exact ih1 _ _ _ _ _ _ _ _ _
   | exact ih2 _ _
   | exact impl_AmountAdd.mono _ _ _ _ _
   | exact laws_amountAwake.mono _
   | exact laws_amountIs.mono _ _ _ _ _ _
   | exact laws_amountOf.mono _ _ _
   | exact spec_DecimalAdd.mono _ _ _ _ _ _ _
   | exact spec_DecimalInt.mono _ _ _ _
   | exact spec_DecimalOf.mono _ _ _
   | exact spec_DecimalTimes.mono _ _ _ _ _ _ _
   | exact LeO.none _
   | refine LeO.ite ?_ ?_
   | refine LeO.bind ?_ (fun _ => ?_)
  ·
   intro y0 y1 y2 y3 y4 y5 y6 y7 y8
   unfold laws_FnAmountAdd.j1
   repeat' first
   | (with_reducible exact ih0 _ _ _ _ _ _ _ _ _ _ _)
   | (with_reducible exact ih1 _ _ _ _ _ _ _ _ _)
   | (with_reducible exact ih2 _ _)
   | (with_reducible exact impl_AmountAdd.mono _ _ _ _ _)
   | (with_reducible exact laws_amountAwake.mono _)
   | (with_reducible exact laws_amountIs.mono _ _ _ _ _ _)
   | (with_reducible exact laws_amountOf.mono _ _ _)
   | (with_reducible exact spec_DecimalAdd.mono _ _ _ _ _ _ _)
   | (with_reducible exact spec_DecimalInt.mono _ _ _ _)
   | (with_reducible exact spec_DecimalOf.mono _ _ _)
   | (with_reducible exact spec_DecimalTimes.mono _ _ _ _ _ _ _)
   | (with_reducible exact LeO.refl _)
   | (with_reducible exact LeO.none _)
   | (with_reducible refine LeO.ite ?_ ?_)
   | (with_reducible refine LeO.bind ?_ (fun _ => ?_))
   | exact ih0 _ _ _ _ _ _ _ _ _ _ _
   | exact ih1 _ _ _ _ _ _ _ _ _
   | exact ih2 _ _
   | exact impl_AmountAdd.mono _ _ _ _ _
   | exact laws_amountAwake.mono _
   | exact laws_amountIs.mono _ _ _ _ _ _
   | exact laws_amountOf.mono _ _ _
   | exact spec_DecimalAdd.mono _ _ _ _ _ _ _
   | exact spec_DecimalInt.mono _ _ _ _
   | exact spec_DecimalOf.mono _ _ _
   | exact spec_DecimalTimes.mono _ _ _ _ _ _ _
   | exact LeO.none _
   | refine LeO.ite ?_ ?_
   | refine LeO.bind ?_ (fun _ => ?_)
  ·
   intro y0 y1
   unfold laws_FnAmountAdd.j2
   repeat' first
   | (with_reducible exact ih0 _ _ _ _ _ _ _ _ _ _ _)
   | (with_reducible exact ih1 _ _ _ _ _ _ _ _ _)
   | (with_reducible exact ih2 _ _)
   | (with_reducible exact impl_AmountAdd.mono _ _ _ _ _)
   | (with_reducible exact laws_amountAwake.mono _)
   | (with_reducible exact laws_amountIs.mono _ _ _ _ _ _)
   | (with_reducible exact laws_amountOf.mono _ _ _)
   | (with_reducible exact spec_DecimalAdd.mono _ _ _ _ _ _ _)
   | (with_reducible exact spec_DecimalInt.mono _ _ _ _)
   | (with_reducible exact spec_DecimalOf.mono _ _ _)
   | (with_reducible exact spec_DecimalTimes.mono _ _ _ _ _ _ _)
   | (with_reducible exact LeO.refl _)
   | (with_reducible exact LeO.none _)
   | (with_reducible refine LeO.ite ?_ ?_)
   | (with_reducible refine LeO.bind ?_ (fun _ => ?_))
   | exact ih0 _ _ _ _ _ _ _ _ _ _ _
   | exact ih1 _ _ _ _ _ _ _ _ _
   | exact ih2 _ _
   | exact impl_AmountAdd.mono _ _ _ _ _
   | exact laws_amountAwake.mono _
   | exact laws_amountIs.mono _ _ _ _ _ _
   | exact laws_amountOf.mono _ _ _
   | exact spec_DecimalAdd.mono _ _ _ _ _ _ _
   | exact spec_DecimalInt.mono _ _ _ _
   | exact spec_DecimalOf.mono _ _ _
   | exact spec_DecimalTimes.mono _ _ _ _ _ _ _
   | exact LeO.none _
   | refine LeO.ite ?_ ?_
   | refine LeO.bind ?_ (fun _ => ?_)
theorem laws_FnAmountAdd.mono : ∀ a0 a1 a2 a3 k, LeO (laws_FnAmountAdd.f k a0 a1 a2 a3) (laws_FnAmountAdd.f (k + 1) a0 a1 a2 a3) := by
 intro a0 a1 a2 a3 k
 obtain ⟨ih0, ih1, ih2⟩ := laws_FnAmountAdd.mono_l k
 unfold laws_FnAmountAdd.f
 repeat' first
   | (with_reducible exact ih0 _ _ _ _ _ _ _ _ _ _ _)
   | (with_reducible exact ih1 _ _ _ _ _ _ _ _ _)
   | (with_reducible exact ih2 _ _)
   | (with_reducible exact impl_AmountAdd.mono _ _ _ _ _)
   | (with_reducible exact laws_amountAwake.mono _)
   | (with_reducible exact laws_amountIs.mono _ _ _ _ _ _)
   | (with_reducible exact laws_amountOf.mono _ _ _)
   | (with_reducible exact spec_DecimalAdd.mono _ _ _ _ _ _ _)
   | (with_reducible exact spec_DecimalInt.mono _ _ _ _)
   | (with_reducible exact spec_DecimalOf.mono _ _ _)
   | (with_reducible exact spec_DecimalTimes.mono _ _ _ _ _ _ _)
   | (with_reducible exact LeO.refl _)
   | (with_reducible exact LeO.none _)
   | (with_reducible refine LeO.ite ?_ ?_)
   | (with_reducible refine LeO.bind ?_ (fun _ => ?_))
   | exact ih0 _ _ _ _ _ _ _ _ _ _ _
   | exact ih1 _ _ _ _ _ _ _ _ _
   | exact ih2 _ _
   | exact impl_AmountAdd.mono _ _ _ _ _
   | exact laws_amountAwake.mono _
   | exact laws_amountIs.mono _ _ _ _ _ _
   | exact laws_amountOf.mono _ _ _
   | exact spec_DecimalAdd.mono _ _ _ _ _ _ _
   | exact spec_DecimalInt.mono _ _ _ _
   | exact spec_DecimalOf.mono _ _ _
   | exact spec_DecimalTimes.mono _ _ _ _ _ _ _
   | exact LeO.none _
   | refine LeO.ite ?_ ?_
   | refine LeO.bind ?_ (fun _ => ?_)
def laws_FnAmountAdd.T9 : Bool × List (List Nat × List Nat) := (true, [([], []), ([], []), ([1], [1]), ([2], [2]), ([3], [3]), ([0, 4, 4], [0, 4]), ([5, 5], [5]), ([6], [6]), ([7], [7]), ([7], [7]), ([8, 6, 0, 1, 2, 3, 4, 5, 6, 7, 8], [8]), ([9, 10, 0, 1, 2, 3, 4, 5, 6, 7, 8, 9, 10], [9])])
def laws_FnAmountAdd.B9 : List Nat := [0, 0, 2, 6, 14, 31, 63, 127, 255, 255, 511, 2047]
theorem laws_FnAmountAdd.tab9 : rtab .any (opsOf Try.f3 9) = laws_FnAmountAdd.T9 := by kernel_rfl
theorem laws_FnAmountAdd.bits9 : waitsOk laws_FnAmountAdd.T9.2 laws_FnAmountAdd.B9 = true := by kernel_rfl
set_option maxHeartbeats 8000000 in
set_option maxRecDepth 100000 in
theorem laws_FnAmountAdd.calls (k : Nat) (a0_0 : Int) (a0_1 : Int) (a1_0 : Int) (a1_1 : Int) (r : Bool) (w : World) (h : laws_FnAmountAdd.f k a0_0 a0_1 a1_0 a1_1 = some r) :
  Calls Try.prog 3 #[.agg #[.int .i64 a0_0, .int .i64 a0_1], .agg #[.int .i64 a1_0, .int .i64 a1_1]] w fun e w' => e = .returned (.bool r) ∧ Below w.heap.size w w' := by
 have hu23 := Try.underlying23
 have hu26 := Try.underlying26
 have HB := aM_ (Below.refl w.heap.size w)
 have H : ((laws_amountOf.f k a0_0 a0_1).bind fun bt280 => ((laws_amountOf.f k a1_0 a1_1).bind fun bt287 => (if bt280.2.2.2 = true then (laws_FnAmountAdd.j0 k (!bt287.2.2.2) a0_0 a0_1 a1_0 a1_1 bt280.1 bt280.2.1 bt280.2.2.1 bt287.1 bt287.2.1 bt287.2.2.1) else (laws_FnAmountAdd.j0 k true a0_0 a0_1 a1_0 a1_1 bt280.1 bt280.2.1 bt280.2.2.1 bt287.1 bt287.2.1 bt287.2.2.1)))) = some r := h
 clear h
 replace H := Option.bind_eq_some_iff.mp H
 obtain ⟨⟨t280, t281, t284, t285⟩, A30, H⟩ := H
 replace H : ((laws_amountOf.f k a1_0 a1_1).bind fun bt287 => (if t285 = true then (laws_FnAmountAdd.j0 k (!bt287.2.2.2) a0_0 a0_1 a1_0 a1_1 t280 t281 t284 bt287.1 bt287.2.1 bt287.2.2.1) else (laws_FnAmountAdd.j0 k true a0_0 a0_1 a1_0 a1_1 t280 t281 t284 bt287.1 bt287.2.1 bt287.2.2.1))) = some r := H
 have A3 := aM_ A30
 clear A30
 replace H := Option.bind_eq_some_iff.mp H
 obtain ⟨⟨t287, t288, t291, t292⟩, A40, H⟩ := H
 replace H : (if t285 = true then (laws_FnAmountAdd.j0 k (!t292) a0_0 a0_1 a1_0 a1_1 t280 t281 t284 t287 t288 t291) else (laws_FnAmountAdd.j0 k true a0_0 a0_1 a1_0 a1_1 t280 t281 t284 t287 t288 t291)) = some r := H
 have A4 := aM_ A40
 clear A40
 have HC5 := aM_ H
 clear H
 go_enter Try.func3, Try.ntmps3
 go_upto_region 3 with (first | ((with_reducible refine gate_dst (N := 2) rfl ?_); refine box_event ?hg (N := 2) ?hd (cs := #[.int .i64 a0_0, .int .i64 a0_1]) (t := 23) ?hr ?_; (case hd => rfl); (case hg => rfl); (case hr => first | (go_simp; done) | (go_simp; rfl)); intro gb278 hg w6 hbox hb; have n0_ := aM_ (below_step (by repeat (first | (with_reducible first | exact HB.out | apply bB_ | apply wN_ | apply bE_) | exact HB.out)) hb); have n1_ := aM_ (hbox); have n2_ := aM_ ((by rw [hg]; exact (below_size (by repeat (first | (with_reducible first | exact HB.out | apply bB_ | apply wN_ | apply bE_) | exact HB.out))) : w.heap.size ≤ gb278)); have n3_ := aM_ ((by rw [hg]; exact (below_size (by repeat (first | (with_reducible first | exact HB.out | apply bB_ | apply wN_ | apply bE_) | exact HB.out))) : w.heap.size ≤ gb278)); clear HB; have HB := n0_; have BK278 := n1_; have GW278 := n2_; have GE278 := n3_; clear n0_ n1_ n2_ n3_; clear hb hbox hg) | ((with_reducible refine gate_dst (N := 3) rfl ?_); refine box_event ?hg (N := 3) ?hd (cs := #[.int .i64 a1_0, .int .i64 a1_1]) (t := 23) ?hr ?_; (case hd => rfl); (case hg => rfl); (case hr => first | (go_simp; done) | (go_simp; rfl)); intro gb279 hg w7 hbox hb; have n0_ := aM_ (blk_below (g := gb278) (o := .cells #[.int .i64 a0_0, .int .i64 a0_1] 23 (0, 0)) (by (with_reducible repeat (first | refine bN_ ?_ _ | refine bD_ ?_ | refine bA_ ?_ _)); exact BK278.out) hb); have n1_ := aM_ (below_step (by repeat (first | (with_reducible first | exact HB.out | apply bB_ | apply wN_ | apply bE_ | refine bS_ ?_ GE278.out) | exact HB.out)) hb); have n2_ := aM_ (hbox); have n3_ := aM_ ((by rw [hg]; exact (below_size (by repeat (first | (with_reducible first | exact HB.out | apply bB_ | apply wN_ | apply bE_ | refine bS_ ?_ GE278.out) | exact HB.out))) : w.heap.size ≤ gb279)); have n4_ := aM_ ((by rw [hg]; exact (below_size (by repeat (first | (with_reducible first | exact HB.out | apply bB_ | apply wN_ | apply bE_ | refine bS_ ?_ GE278.out) | exact HB.out))) : w.heap.size ≤ gb279)); have n5_ := aM_ ((by rw [hg]; exact Nat.ne_of_lt (blk_lt (g := gb278) (o := .cells #[.int .i64 a0_0, .int .i64 a0_1] 23 (0, 0)) (by (with_reducible repeat (first | refine bN_ ?_ _ | refine bD_ ?_ | refine bA_ ?_ _)); exact BK278.out)) : gb278 ≠ gb279)); have n6_ := aM_ ((by rw [hg]; exact Nat.ne_of_gt (blk_lt (g := gb278) (o := .cells #[.int .i64 a0_0, .int .i64 a0_1] 23 (0, 0)) (by (with_reducible repeat (first | refine bN_ ?_ _ | refine bD_ ?_ | refine bA_ ?_ _)); exact BK278.out)) : gb279 ≠ gb278)); clear BK278; clear HB; have BK278 := n0_; have HB := n1_; have BK279 := n2_; have GW279 := n3_; have GE279 := n4_; have NB278_279 := n5_; have NB279_278 := n6_; clear n0_ n1_ n2_ n3_ n4_ n5_ n6_; clear hb hbox hg; have hnb8 := NB278_279.out; have hnc8 := NB279_278.out; have hcz9_0 : w7.cell? ⟨gb278, 0, none⟩ = some (.int .i64 a0_0) := (bC_ BK278.out 0).trans rfl; have hcz9_1 : w7.cell? ⟨gb278, 1, none⟩ = some (.int .i64 a0_1) := (bC_ BK278.out 1).trans rfl; have hfz9_0 := bF_ BK278.out 0; have hfz9_1 := bF_ BK278.out 1) | ((with_reducible refine gate_callee (f := 6) rfl ?_); refine goesL_ (some 18) rfl rfl Try.func6 (by kernel_rfl) rfl #[.agg #[.int .i64 a0_0, .int .i64 a0_1]] rfl (by (try simp only [List.map_toArray, List.map_cons, List.map_nil]); first | done | rfl | (simp only [List.length_drop, List.length_take]; rfl)) ?_; (with_reducible refine (laws_amountOf.calls k a0_0 a0_1 t280 t281 t284 t285 _ A3.out).mono ?_); rintro e w10 ⟨v282, rfl, ho0, hb⟩; refine ⟨_, rfl, ?_⟩; have n0_ := aM_ (Kd.R_lower ho0 (below_size (by repeat (first | (with_reducible first | exact HB.out | apply bB_ | apply wN_ | apply bE_ | refine bS_ ?_ GE278.out | refine bS_ ?_ GE279.out) | exact HB.out)))); have n1_ := aM_ (blk_below (g := gb278) (o := .cells #[.int .i64 a0_0, .int .i64 a0_1] 23 (0, 0)) (by (with_reducible repeat (first | refine bN_ ?_ _ | refine bD_ ?_ | refine bA_ ?_ _)); exact BK278.out) hb); have n2_ := aM_ (blk_below (g := gb279) (o := .cells #[.int .i64 a1_0, .int .i64 a1_1] 23 (0, 0)) (by (with_reducible repeat (first | refine bN_ ?_ _ | refine bD_ ?_ | refine bA_ ?_ _)); exact BK279.out) hb); have n3_ := aM_ (below_step (by repeat (first | (with_reducible first | exact HB.out | apply bB_ | apply wN_ | apply bE_ | refine bS_ ?_ GE278.out | refine bS_ ?_ GE279.out) | exact HB.out)) hb); clear BK278; clear BK279; clear HB; have HO283 := n0_; have BK278 := n1_; have BK279 := n2_; have HB := n3_; clear n0_ n1_ n2_ n3_; (try clear hb); (try clear hb2); (try clear hk); (try clear hi); (try clear ho0)) | ((with_reducible refine gate_dst (N := 5) rfl ?_); refine box_event ?hg (N := 5) ?hd (cs := #[.bool false, .slice none 0 0, .int .i64 0]) (t := 26) ?hr ?_; (case hd => rfl); (case hg => rfl); (case hr => first | (go_simp; done) | (go_simp; rfl)); intro gb286 hg w11 hbox hb; have n0_ := aM_ (Kd.R_below (by (with_reducible repeat (first | apply kA_ | apply kN_ | apply kD_)); exact HO283.out) hb); have n1_ := aM_ (blk_below (g := gb278) (o := .cells #[.int .i64 a0_0, .int .i64 a0_1] 23 (0, 0)) (by (with_reducible repeat (first | refine bN_ ?_ _ | refine bD_ ?_ | refine bA_ ?_ _)); exact BK278.out) hb); have n2_ := aM_ (blk_below (g := gb279) (o := .cells #[.int .i64 a1_0, .int .i64 a1_1] 23 (0, 0)) (by (with_reducible repeat (first | refine bN_ ?_ _ | refine bD_ ?_ | refine bA_ ?_ _)); exact BK279.out) hb); have n3_ := aM_ (below_step (by repeat (first | (with_reducible first | exact HB.out | apply bB_ | apply wN_ | apply bE_ | refine bS_ ?_ GE278.out | refine bS_ ?_ GE279.out) | exact HB.out)) hb); have n4_ := aM_ (hbox); have n5_ := aM_ ((by rw [hg]; exact (below_size (by repeat (first | (with_reducible first | exact HB.out | apply bB_ | apply wN_ | apply bE_ | refine bS_ ?_ GE278.out | refine bS_ ?_ GE279.out) | exact HB.out))) : w.heap.size ≤ gb286)); have n6_ := aM_ ((by rw [hg]; exact (below_size (by repeat (first | (with_reducible first | exact HB.out | apply bB_ | apply wN_ | apply bE_ | refine bS_ ?_ GE278.out | refine bS_ ?_ GE279.out) | exact HB.out))) : w.heap.size ≤ gb286)); have n7_ := aM_ ((by rw [hg]; exact Nat.ne_of_lt (blk_lt (g := gb278) (o := .cells #[.int .i64 a0_0, .int .i64 a0_1] 23 (0, 0)) (by (with_reducible repeat (first | refine bN_ ?_ _ | refine bD_ ?_ | refine bA_ ?_ _)); exact BK278.out)) : gb278 ≠ gb286)); have n8_ := aM_ ((by rw [hg]; exact Nat.ne_of_gt (blk_lt (g := gb278) (o := .cells #[.int .i64 a0_0, .int .i64 a0_1] 23 (0, 0)) (by (with_reducible repeat (first | refine bN_ ?_ _ | refine bD_ ?_ | refine bA_ ?_ _)); exact BK278.out)) : gb286 ≠ gb278)); have n9_ := aM_ ((by rw [hg]; exact Nat.ne_of_lt (blk_lt (g := gb279) (o := .cells #[.int .i64 a1_0, .int .i64 a1_1] 23 (0, 0)) (by (with_reducible repeat (first | refine bN_ ?_ _ | refine bD_ ?_ | refine bA_ ?_ _)); exact BK279.out)) : gb279 ≠ gb286)); have n10_ := aM_ ((by rw [hg]; exact Nat.ne_of_gt (blk_lt (g := gb279) (o := .cells #[.int .i64 a1_0, .int .i64 a1_1] 23 (0, 0)) (by (with_reducible repeat (first | refine bN_ ?_ _ | refine bD_ ?_ | refine bA_ ?_ _)); exact BK279.out)) : gb286 ≠ gb279)); clear HO283; clear BK278; clear BK279; clear HB; have HO283 := n0_; have BK278 := n1_; have BK279 := n2_; have HB := n3_; have BK286 := n4_; have GW286 := n5_; have GE286 := n6_; have NB278_286 := n7_; have NB286_278 := n8_; have NB279_286 := n9_; have NB286_279 := n10_; clear n0_ n1_ n2_ n3_ n4_ n5_ n6_ n7_ n8_ n9_ n10_; clear hb hbox hg; have hnb12 := NB286_278.out; have hnc12 := NB278_286.out; have hnb13 := NB286_279.out; have hnc13 := NB279_286.out; have hcz14_0 : w11.cell? ⟨gb286, 0, none⟩ = some (.bool false) := (bC_ BK286.out 0).trans rfl; have hcz14_1 : w11.cell? ⟨gb286, 1, none⟩ = some (.slice none 0 0) := (bC_ BK286.out 1).trans rfl; have hcz14_2 : w11.cell? ⟨gb286, 2, none⟩ = some (.int .i64 0) := (bC_ BK286.out 2).trans rfl; have hfz14_0 := bF_ BK286.out 0; have hfz14_1 := bF_ BK286.out 1; have hfz14_2 := bF_ BK286.out 2; obtain ⟨Ao15, co15, eo15⟩ := Kd.R_slice HO283.out; subst eo15; have hcz16_0 : w11.cell? ⟨gb279, 0, none⟩ = some (.int .i64 a1_0) := (bC_ BK279.out 0).trans rfl; have hcz16_1 : w11.cell? ⟨gb279, 1, none⟩ = some (.int .i64 a1_1) := (bC_ BK279.out 1).trans rfl; have hfz16_0 := bF_ BK279.out 0; have hfz16_1 := bF_ BK279.out 1) | ((with_reducible refine gate_callee (f := 6) rfl ?_); refine goesL_ (some 23) rfl rfl Try.func6 (by kernel_rfl) rfl #[.agg #[.int .i64 a1_0, .int .i64 a1_1]] rfl (by (try simp only [List.map_toArray, List.map_cons, List.map_nil]); first | done | rfl | (simp only [List.length_drop, List.length_take]; rfl)) ?_; (with_reducible refine (laws_amountOf.calls k a1_0 a1_1 t287 t288 t291 t292 _ A4.out).mono ?_); rintro e w17 ⟨v289, rfl, ho0, hb⟩; refine ⟨_, rfl, ?_⟩; have n0_ := aM_ (Kd.R_elder' (by (with_reducible repeat (first | apply kA_ | apply kN_ | apply kD_)); exact (Kd.R_mono (Kd.R_far (p := ⟨gb286, 2, none⟩) (Kd.R_far (p := ⟨gb286, 1, none⟩) (Kd.R_far (p := ⟨gb286, 0, none⟩) (Kd.R_types HO283.out BK286.out (by decide)) (fun _ hk => hk.2) (.bool t280)) (fun _ hk => hk.2) (.slice Ao15 t281.length co15)) (fun _ hk => hk.2) (.int .i64 t284)) (fun _ h_ => h_.1))) (Kd.R_base ho0) hb); have n1_ := aM_ (Kd.R_lower (Kd.R_new' ho0 (Kd.R_lt (by (with_reducible repeat (first | apply kA_ | apply kN_ | apply kD_)); exact (Kd.R_mono (Kd.R_far (p := ⟨gb286, 2, none⟩) (Kd.R_far (p := ⟨gb286, 1, none⟩) (Kd.R_far (p := ⟨gb286, 0, none⟩) (Kd.R_types HO283.out BK286.out (by decide)) (fun _ hk => hk.2) (.bool t280)) (fun _ hk => hk.2) (.slice Ao15 t281.length co15)) (fun _ hk => hk.2) (.int .i64 t284)) (fun _ h_ => h_.1))))) (below_size (by repeat (first | (with_reducible first | exact HB.out | apply bB_ | apply wN_ | apply bE_ | refine bS_ ?_ GE278.out | refine bS_ ?_ GE279.out | refine bS_ ?_ GE286.out) | exact HB.out)))); have n2_ := aM_ (blk_below (g := gb278) (o := .cells #[.int .i64 a0_0, .int .i64 a0_1] 23 (0, 0)) (by (with_reducible repeat (first | refine bN_ ?_ _ | refine bD_ ?_ | refine bA_ ?_ _)); refine blk_far ?_ NB278_286.out _; (with_reducible repeat (first | refine bN_ ?_ _ | refine bD_ ?_ | refine bA_ ?_ _)); refine blk_far ?_ NB278_286.out _; (with_reducible repeat (first | refine bN_ ?_ _ | refine bD_ ?_ | refine bA_ ?_ _)); refine blk_far ?_ NB278_286.out _; (with_reducible repeat (first | refine bN_ ?_ _ | refine bD_ ?_ | refine bA_ ?_ _)); exact BK278.out) hb); have n3_ := aM_ (blk_below (g := gb279) (o := .cells #[.int .i64 a1_0, .int .i64 a1_1] 23 (0, 0)) (by (with_reducible repeat (first | refine bN_ ?_ _ | refine bD_ ?_ | refine bA_ ?_ _)); refine blk_far ?_ NB279_286.out _; (with_reducible repeat (first | refine bN_ ?_ _ | refine bD_ ?_ | refine bA_ ?_ _)); refine blk_far ?_ NB279_286.out _; (with_reducible repeat (first | refine bN_ ?_ _ | refine bD_ ?_ | refine bA_ ?_ _)); refine blk_far ?_ NB279_286.out _; (with_reducible repeat (first | refine bN_ ?_ _ | refine bD_ ?_ | refine bA_ ?_ _)); exact BK279.out) hb); have n4_ := aM_ (blk_below (g := gb286) (o := .cells #[.bool t280, .slice Ao15 t281.length co15, .int .i64 t284] 26 (0, 0)) (by (with_reducible repeat (first | refine bN_ ?_ _ | refine bD_ ?_ | refine bA_ ?_ _)); refine blk_put (cs := #[.bool t280, .slice Ao15 t281.length co15, .int .i64 0]) ?_ 2 _ rfl; (with_reducible repeat (first | refine bN_ ?_ _ | refine bD_ ?_ | refine bA_ ?_ _)); refine blk_put (cs := #[.bool t280, .slice none 0 0, .int .i64 0]) ?_ 1 _ rfl; (with_reducible repeat (first | refine bN_ ?_ _ | refine bD_ ?_ | refine bA_ ?_ _)); refine blk_put (cs := #[.bool false, .slice none 0 0, .int .i64 0]) ?_ 0 _ rfl; (with_reducible repeat (first | refine bN_ ?_ _ | refine bD_ ?_ | refine bA_ ?_ _)); exact BK286.out) hb); have n5_ := aM_ (below_step (by repeat (first | (with_reducible first | exact HB.out | apply bB_ | apply wN_ | apply bE_ | refine bS_ ?_ GE278.out | refine bS_ ?_ GE279.out | refine bS_ ?_ GE286.out) | exact HB.out)) hb); clear HO283; clear BK278; clear BK279; clear BK286; clear HB; have HO283 := n0_; have HO290 := n1_; have BK278 := n2_; have BK279 := n3_; have BK286 := n4_; have HB := n5_; clear n0_ n1_ n2_ n3_ n4_ n5_; (try clear hb); (try clear hb2); (try clear hk); (try clear hi); (try clear ho0)) | ((with_reducible refine gate_dst (N := 7) rfl ?_); refine box_event ?hg (N := 7) ?hd (cs := #[.bool false, .slice none 0 0, .int .i64 0]) (t := 26) ?hr ?_; (case hd => rfl); (case hg => rfl); (case hr => first | (go_simp; done) | (go_simp; rfl)); intro gb293 hg w18 hbox hb; have n0_ := aM_ (Kd.R_below (by (with_reducible repeat (first | apply kA_ | apply kN_ | apply kD_)); exact HO283.out) hb); have n1_ := aM_ (Kd.R_below (by (with_reducible repeat (first | apply kA_ | apply kN_ | apply kD_)); exact HO290.out) hb); have n2_ := aM_ (blk_below (g := gb278) (o := .cells #[.int .i64 a0_0, .int .i64 a0_1] 23 (0, 0)) (by (with_reducible repeat (first | refine bN_ ?_ _ | refine bD_ ?_ | refine bA_ ?_ _)); exact BK278.out) hb); have n3_ := aM_ (blk_below (g := gb279) (o := .cells #[.int .i64 a1_0, .int .i64 a1_1] 23 (0, 0)) (by (with_reducible repeat (first | refine bN_ ?_ _ | refine bD_ ?_ | refine bA_ ?_ _)); exact BK279.out) hb); have n4_ := aM_ (blk_below (g := gb286) (o := .cells #[.bool t280, .slice Ao15 t281.length co15, .int .i64 t284] 26 (0, 0)) (by (with_reducible repeat (first | refine bN_ ?_ _ | refine bD_ ?_ | refine bA_ ?_ _)); exact BK286.out) hb); have n5_ := aM_ (below_step (by repeat (first | (with_reducible first | exact HB.out | apply bB_ | apply wN_ | apply bE_ | refine bS_ ?_ GE278.out | refine bS_ ?_ GE279.out | refine bS_ ?_ GE286.out) | exact HB.out)) hb); have n6_ := aM_ (hbox); have n7_ := aM_ ((by rw [hg]; exact (below_size (by repeat (first | (with_reducible first | exact HB.out | apply bB_ | apply wN_ | apply bE_ | refine bS_ ?_ GE278.out | refine bS_ ?_ GE279.out | refine bS_ ?_ GE286.out) | exact HB.out))) : w.heap.size ≤ gb293)); have n8_ := aM_ ((by rw [hg]; exact (below_size (by repeat (first | (with_reducible first | exact HB.out | apply bB_ | apply wN_ | apply bE_ | refine bS_ ?_ GE278.out | refine bS_ ?_ GE279.out | refine bS_ ?_ GE286.out) | exact HB.out))) : w.heap.size ≤ gb293)); have n9_ := aM_ ((by rw [hg]; exact Nat.ne_of_lt (blk_lt (g := gb278) (o := .cells #[.int .i64 a0_0, .int .i64 a0_1] 23 (0, 0)) (by (with_reducible repeat (first | refine bN_ ?_ _ | refine bD_ ?_ | refine bA_ ?_ _)); exact BK278.out)) : gb278 ≠ gb293)); have n10_ := aM_ ((by rw [hg]; exact Nat.ne_of_gt (blk_lt (g := gb278) (o := .cells #[.int .i64 a0_0, .int .i64 a0_1] 23 (0, 0)) (by (with_reducible repeat (first | refine bN_ ?_ _ | refine bD_ ?_ | refine bA_ ?_ _)); exact BK278.out)) : gb293 ≠ gb278)); have n11_ := aM_ ((by rw [hg]; exact Nat.ne_of_lt (blk_lt (g := gb279) (o := .cells #[.int .i64 a1_0, .int .i64 a1_1] 23 (0, 0)) (by (with_reducible repeat (first | refine bN_ ?_ _ | refine bD_ ?_ | refine bA_ ?_ _)); exact BK279.out)) : gb279 ≠ gb293)); have n12_ := aM_ ((by rw [hg]; exact Nat.ne_of_gt (blk_lt (g := gb279) (o := .cells #[.int .i64 a1_0, .int .i64 a1_1] 23 (0, 0)) (by (with_reducible repeat (first | refine bN_ ?_ _ | refine bD_ ?_ | refine bA_ ?_ _)); exact BK279.out)) : gb293 ≠ gb279)); have n13_ := aM_ ((by rw [hg]; exact Nat.ne_of_lt (blk_lt (g := gb286) (o := .cells #[.bool t280, .slice Ao15 t281.length co15, .int .i64 t284] 26 (0, 0)) (by (with_reducible repeat (first | refine bN_ ?_ _ | refine bD_ ?_ | refine bA_ ?_ _)); exact BK286.out)) : gb286 ≠ gb293)); have n14_ := aM_ ((by rw [hg]; exact Nat.ne_of_gt (blk_lt (g := gb286) (o := .cells #[.bool t280, .slice Ao15 t281.length co15, .int .i64 t284] 26 (0, 0)) (by (with_reducible repeat (first | refine bN_ ?_ _ | refine bD_ ?_ | refine bA_ ?_ _)); exact BK286.out)) : gb293 ≠ gb286)); clear HO283; clear HO290; clear BK278; clear BK279; clear BK286; clear HB; have HO283 := n0_; have HO290 := n1_; have BK278 := n2_; have BK279 := n3_; have BK286 := n4_; have HB := n5_; have BK293 := n6_; have GW293 := n7_; have GE293 := n8_; have NB278_293 := n9_; have NB293_278 := n10_; have NB279_293 := n11_; have NB293_279 := n12_; have NB286_293 := n13_; have NB293_286 := n14_; clear n0_ n1_ n2_ n3_ n4_ n5_ n6_ n7_ n8_ n9_ n10_ n11_ n12_ n13_ n14_; clear hb hbox hg; have hnb19 := NB293_278.out; have hnc19 := NB278_293.out; have hnb20 := NB293_279.out; have hnc20 := NB279_293.out; have hnb21 := NB293_286.out; have hnc21 := NB286_293.out; have hcz22_0 : w18.cell? ⟨gb293, 0, none⟩ = some (.bool false) := (bC_ BK293.out 0).trans rfl; have hcz22_1 : w18.cell? ⟨gb293, 1, none⟩ = some (.slice none 0 0) := (bC_ BK293.out 1).trans rfl; have hcz22_2 : w18.cell? ⟨gb293, 2, none⟩ = some (.int .i64 0) := (bC_ BK293.out 2).trans rfl; have hfz22_0 := bF_ BK293.out 0; have hfz22_1 := bF_ BK293.out 1; have hfz22_2 := bF_ BK293.out 2; obtain ⟨Ao23, co23, eo23⟩ := Kd.R_slice HO290.out; subst eo23))
 (try simp only [Act.put, List.setIfInBounds_toArray, List.set_cons_zero, List.set_cons_succ])
 go_cut [31] (fun v31 wc => ∃ (kq : Nat) (x31_4 : Bool), v31 = .bool x31_4 ∧ Aside0 (laws_FnAmountAdd.j0 kq x31_4 a0_0 a0_1 a1_0 a1_1 t280 t281 t284 t287 t288 t291 = some r) ∧ Aside0 (kq ≤ k) ∧ Aside0 (Kd.R (Kd.int .i64) 3 wc w.heap.size (fun k_ => some k_ ≠ ((.slice Ao23 t288.length co23) : Value).ownBlock) (.slice Ao15 t281.length co15) t281) ∧ Aside0 (Kd.R (Kd.int .i64) 3 wc w.heap.size (fun k_ => some k_ ≠ ((.slice Ao15 t281.length co15) : Value).ownBlock) (.slice Ao23 t288.length co23) t288) ∧ Aside0 (wc.heap[gb278]? = some (.cells #[.int .i64 a0_0, .int .i64 a0_1] 23 (0, 0))) ∧ Aside0 (wc.heap[gb279]? = some (.cells #[.int .i64 a1_0, .int .i64 a1_1] 23 (0, 0))) ∧ Aside0 (wc.heap[gb286]? = some (.cells #[.bool t280, (.slice Ao15 t281.length co15), .int .i64 t284] 26 (0, 0))) ∧ Aside0 (wc.heap[gb293]? = some (.cells #[.bool t287, (.slice Ao23 t288.length co23), .int .i64 t291] 26 (0, 0))) ∧ Aside0 (Below w.heap.size w wc))
 case first =>
  have H := HC5.out
  clear HC5
  by_cases c24 : t285 = true
  ·
   subst c24
   have H1 : (laws_FnAmountAdd.j0 k (!t292) a0_0 a0_1 a1_0 a1_1 t280 t281 t284 t287 t288 t291) = some r := by rw [if_pos rfl] at H; exact H
   clear H
   have H := H1
   clear H1
   have H' := aM_ H
   clear H
   go_wp2
   go_meet
   case rel => exact ⟨_, (!t292), (by first | rfl | (simp; done) | (simp [*]; done)), H', ⟨by first | omega | exact Nat.le_refl _⟩, ⟨by (with_reducible repeat (first | apply kA_ | apply kN_ | apply kD_)); exact Kd.R_mono (Kd.R_far (p := ⟨gb293, 2, none⟩) (Kd.R_far (p := ⟨gb293, 1, none⟩) (Kd.R_far (p := ⟨gb293, 0, none⟩) (Kd.R_types HO283.out BK293.out (by decide)) (fun _ hk => hk.2) (.bool t287)) (fun _ hk => hk.2) (.slice Ao23 t288.length co23)) (fun _ hk => hk.2) (.int .i64 t291)) (fun _ hk => hk.1.2)⟩, ⟨by (with_reducible repeat (first | apply kA_ | apply kN_ | apply kD_)); exact Kd.R_mono (Kd.R_far (p := ⟨gb293, 2, none⟩) (Kd.R_far (p := ⟨gb293, 1, none⟩) (Kd.R_far (p := ⟨gb293, 0, none⟩) (Kd.R_types HO290.out BK293.out (by decide)) (fun _ hk => hk.2) (.bool t287)) (fun _ hk => hk.2) (.slice Ao23 t288.length co23)) (fun _ hk => hk.2) (.int .i64 t291)) (fun _ hk => hk.1.2)⟩, ⟨by (with_reducible repeat (first | refine bN_ ?_ _ | refine bD_ ?_ | refine bA_ ?_ _)); refine blk_far ?_ NB278_293.out _; (with_reducible repeat (first | refine bN_ ?_ _ | refine bD_ ?_ | refine bA_ ?_ _)); refine blk_far ?_ NB278_293.out _; (with_reducible repeat (first | refine bN_ ?_ _ | refine bD_ ?_ | refine bA_ ?_ _)); refine blk_far ?_ NB278_293.out _; (with_reducible repeat (first | refine bN_ ?_ _ | refine bD_ ?_ | refine bA_ ?_ _)); exact BK278.out⟩, ⟨by (with_reducible repeat (first | refine bN_ ?_ _ | refine bD_ ?_ | refine bA_ ?_ _)); refine blk_far ?_ NB279_293.out _; (with_reducible repeat (first | refine bN_ ?_ _ | refine bD_ ?_ | refine bA_ ?_ _)); refine blk_far ?_ NB279_293.out _; (with_reducible repeat (first | refine bN_ ?_ _ | refine bD_ ?_ | refine bA_ ?_ _)); refine blk_far ?_ NB279_293.out _; (with_reducible repeat (first | refine bN_ ?_ _ | refine bD_ ?_ | refine bA_ ?_ _)); exact BK279.out⟩, ⟨by (with_reducible repeat (first | refine bN_ ?_ _ | refine bD_ ?_ | refine bA_ ?_ _)); refine blk_far ?_ NB286_293.out _; (with_reducible repeat (first | refine bN_ ?_ _ | refine bD_ ?_ | refine bA_ ?_ _)); refine blk_far ?_ NB286_293.out _; (with_reducible repeat (first | refine bN_ ?_ _ | refine bD_ ?_ | refine bA_ ?_ _)); refine blk_far ?_ NB286_293.out _; (with_reducible repeat (first | refine bN_ ?_ _ | refine bD_ ?_ | refine bA_ ?_ _)); exact BK286.out⟩, ⟨by (with_reducible repeat (first | refine bN_ ?_ _ | refine bD_ ?_ | refine bA_ ?_ _)); refine blk_put (cs := #[.bool t287, .slice Ao23 t288.length co23, .int .i64 0]) ?_ 2 _ rfl; (with_reducible repeat (first | refine bN_ ?_ _ | refine bD_ ?_ | refine bA_ ?_ _)); refine blk_put (cs := #[.bool t287, .slice none 0 0, .int .i64 0]) ?_ 1 _ rfl; (with_reducible repeat (first | refine bN_ ?_ _ | refine bD_ ?_ | refine bA_ ?_ _)); refine blk_put (cs := #[.bool false, .slice none 0 0, .int .i64 0]) ?_ 0 _ rfl; (with_reducible repeat (first | refine bN_ ?_ _ | refine bD_ ?_ | refine bA_ ?_ _)); exact BK293.out⟩, ⟨by repeat (first | (with_reducible first | exact HB.out | apply bB_ | apply wN_ | apply bE_ | refine bS_ ?_ GE278.out | refine bS_ ?_ GE279.out | refine bS_ ?_ GE286.out | refine bS_ ?_ GE293.out) | exact HB.out)⟩⟩
  ·
   replace c24 := Bool.eq_false_iff.mpr c24
   subst c24
   have H1 : (laws_FnAmountAdd.j0 k true a0_0 a0_1 a1_0 a1_1 t280 t281 t284 t287 t288 t291) = some r := by rw [if_neg (show ¬ (false = true) by decide)] at H; exact H
   clear H
   have H := H1
   clear H1
   have H' := aM_ H
   clear H
   go_wp2
   go_meet
   case rel => exact ⟨_, (true), (by first | rfl | (simp; done) | (simp [*]; done)), H', ⟨by first | omega | exact Nat.le_refl _⟩, ⟨by (with_reducible repeat (first | apply kA_ | apply kN_ | apply kD_)); exact Kd.R_mono (Kd.R_far (p := ⟨gb293, 2, none⟩) (Kd.R_far (p := ⟨gb293, 1, none⟩) (Kd.R_far (p := ⟨gb293, 0, none⟩) (Kd.R_types HO283.out BK293.out (by decide)) (fun _ hk => hk.2) (.bool t287)) (fun _ hk => hk.2) (.slice Ao23 t288.length co23)) (fun _ hk => hk.2) (.int .i64 t291)) (fun _ hk => hk.1.2)⟩, ⟨by (with_reducible repeat (first | apply kA_ | apply kN_ | apply kD_)); exact Kd.R_mono (Kd.R_far (p := ⟨gb293, 2, none⟩) (Kd.R_far (p := ⟨gb293, 1, none⟩) (Kd.R_far (p := ⟨gb293, 0, none⟩) (Kd.R_types HO290.out BK293.out (by decide)) (fun _ hk => hk.2) (.bool t287)) (fun _ hk => hk.2) (.slice Ao23 t288.length co23)) (fun _ hk => hk.2) (.int .i64 t291)) (fun _ hk => hk.1.2)⟩, ⟨by (with_reducible repeat (first | refine bN_ ?_ _ | refine bD_ ?_ | refine bA_ ?_ _)); refine blk_far ?_ NB278_293.out _; (with_reducible repeat (first | refine bN_ ?_ _ | refine bD_ ?_ | refine bA_ ?_ _)); refine blk_far ?_ NB278_293.out _; (with_reducible repeat (first | refine bN_ ?_ _ | refine bD_ ?_ | refine bA_ ?_ _)); refine blk_far ?_ NB278_293.out _; (with_reducible repeat (first | refine bN_ ?_ _ | refine bD_ ?_ | refine bA_ ?_ _)); exact BK278.out⟩, ⟨by (with_reducible repeat (first | refine bN_ ?_ _ | refine bD_ ?_ | refine bA_ ?_ _)); refine blk_far ?_ NB279_293.out _; (with_reducible repeat (first | refine bN_ ?_ _ | refine bD_ ?_ | refine bA_ ?_ _)); refine blk_far ?_ NB279_293.out _; (with_reducible repeat (first | refine bN_ ?_ _ | refine bD_ ?_ | refine bA_ ?_ _)); refine blk_far ?_ NB279_293.out _; (with_reducible repeat (first | refine bN_ ?_ _ | refine bD_ ?_ | refine bA_ ?_ _)); exact BK279.out⟩, ⟨by (with_reducible repeat (first | refine bN_ ?_ _ | refine bD_ ?_ | refine bA_ ?_ _)); refine blk_far ?_ NB286_293.out _; (with_reducible repeat (first | refine bN_ ?_ _ | refine bD_ ?_ | refine bA_ ?_ _)); refine blk_far ?_ NB286_293.out _; (with_reducible repeat (first | refine bN_ ?_ _ | refine bD_ ?_ | refine bA_ ?_ _)); refine blk_far ?_ NB286_293.out _; (with_reducible repeat (first | refine bN_ ?_ _ | refine bD_ ?_ | refine bA_ ?_ _)); exact BK286.out⟩, ⟨by (with_reducible repeat (first | refine bN_ ?_ _ | refine bD_ ?_ | refine bA_ ?_ _)); refine blk_put (cs := #[.bool t287, .slice Ao23 t288.length co23, .int .i64 0]) ?_ 2 _ rfl; (with_reducible repeat (first | refine bN_ ?_ _ | refine bD_ ?_ | refine bA_ ?_ _)); refine blk_put (cs := #[.bool t287, .slice none 0 0, .int .i64 0]) ?_ 1 _ rfl; (with_reducible repeat (first | refine bN_ ?_ _ | refine bD_ ?_ | refine bA_ ?_ _)); refine blk_put (cs := #[.bool false, .slice none 0 0, .int .i64 0]) ?_ 0 _ rfl; (with_reducible repeat (first | refine bN_ ?_ _ | refine bD_ ?_ | refine bA_ ?_ _)); exact BK293.out⟩, ⟨by repeat (first | (with_reducible first | exact HB.out | apply bB_ | apply wN_ | apply bE_ | refine bS_ ?_ GE278.out | refine bS_ ?_ GE279.out | refine bS_ ?_ GE286.out | refine bS_ ?_ GE293.out) | exact HB.out)⟩⟩
 case rest =>
  clear HC5
  try clear c1
  try clear c2
  try clear p2
  try clear c3
  try clear c6
  try clear c8
  try clear c12
  try clear c13
  try clear c19
  try clear c20
  try clear c21
  try clear c24
  try clear hcz14_0
  try clear hcz14_1
  try clear hcz14_2
  try clear hcz16_0
  try clear hcz16_1
  try clear hcz22_0
  try clear hcz22_1
  try clear hcz22_2
  try clear hcz9_0
  try clear hcz9_1
  try clear hfz14_0
  try clear hfz14_1
  try clear hfz14_2
  try clear hfz16_0
  try clear hfz16_1
  try clear hfz22_0
  try clear hfz22_1
  try clear hfz22_2
  try clear hfz9_0
  try clear hfz9_1
  obtain ⟨kq, x31_4, rfl, HA, HJ4, HO_287001, HO_294001, BK278, BK279, BK286, BK293, HB⟩ := hcut
  cases kq with
  | zero => exact absurd HA.out (by simp [laws_FnAmountAdd.j0])
  | succ kj4 =>
   have H := HA.out
   clear HA
   simp only [laws_FnAmountAdd.j0] at H
   by_cases c25 : x31_4 = true
   ·
    subst c25
    have H1 : (some true) = some r := by rw [if_pos rfl] at H; exact H
    clear H
    have H := H1
    clear H1
    obtain rfl := Option.some.inj H
    go_wp2
    go_ret
    exact ⟨by first | rfl | (simp [errW_none, errW_some] <;> rfl) | (simp [*, errW_none, errW_some] <;> rfl) | (exfalso; contradiction), by repeat (first | (with_reducible first | exact HB.out | apply bB_ | apply wN_ | apply bE_ | refine bS_ ?_ GE278.out | refine bS_ ?_ GE279.out | refine bS_ ?_ GE286.out | refine bS_ ?_ GE293.out) | exact HB.out)⟩
   ·
    replace c25 := Bool.eq_false_iff.mpr c25
    subst c25
    have H1 : ((impl_AmountAdd.f kj4 a0_0 a0_1 a1_0 a1_1).bind fun bt294 => ((spec_DecimalAdd.f kj4 t280 t281 t284 t287 t288 t291).bind fun bt298 => (if bt294.2.2 = true then (if bt298.2.2.2 = true then ((laws_amountIs.f kj4 bt294.1 bt294.2.1 bt298.1 bt298.2.1 bt298.2.2.1).bind fun t305 => (laws_FnAmountAdd.j1 kj4 bt294.2.2 (!t305) a0_0 a0_1 a1_0 a1_1 bt298.1 bt298.2.1 bt298.2.2.1)) else (laws_FnAmountAdd.j1 kj4 bt294.2.2 true a0_0 a0_1 a1_0 a1_1 bt298.1 bt298.2.1 bt298.2.2.1)) else (laws_FnAmountAdd.j1 kj4 bt294.2.2 false a0_0 a0_1 a1_0 a1_1 bt298.1 bt298.2.1 bt298.2.2.1)))) = some r := by rw [if_neg (show ¬ (false = true) by decide)] at H; exact H
    clear H
    have H := H1
    clear H1
    replace H := Option.bind_eq_some_iff.mp H
    obtain ⟨⟨t294, t295, t296⟩, A260, H⟩ := H
    replace H : ((spec_DecimalAdd.f kj4 t280 t281 t284 t287 t288 t291).bind fun bt298 => (if t296 = true then (if bt298.2.2.2 = true then ((laws_amountIs.f kj4 t294 t295 bt298.1 bt298.2.1 bt298.2.2.1).bind fun t305 => (laws_FnAmountAdd.j1 kj4 t296 (!t305) a0_0 a0_1 a1_0 a1_1 bt298.1 bt298.2.1 bt298.2.2.1)) else (laws_FnAmountAdd.j1 kj4 t296 true a0_0 a0_1 a1_0 a1_1 bt298.1 bt298.2.1 bt298.2.2.1)) else (laws_FnAmountAdd.j1 kj4 t296 false a0_0 a0_1 a1_0 a1_1 bt298.1 bt298.2.1 bt298.2.2.1))) = some r := H
    have A26 := aM_ A260
    clear A260
    replace H := Option.bind_eq_some_iff.mp H
    obtain ⟨⟨t298, t299, t302, t303⟩, A270, H⟩ := H
    replace H : (if t296 = true then (if t303 = true then ((laws_amountIs.f kj4 t294 t295 t298 t299 t302).bind fun t305 => (laws_FnAmountAdd.j1 kj4 t296 (!t305) a0_0 a0_1 a1_0 a1_1 t298 t299 t302)) else (laws_FnAmountAdd.j1 kj4 t296 true a0_0 a0_1 a1_0 a1_1 t298 t299 t302)) else (laws_FnAmountAdd.j1 kj4 t296 false a0_0 a0_1 a1_0 a1_1 t298 t299 t302)) = some r := H
    have A27 := aM_ A270
    clear A270
    have HC28 := aM_ H
    clear H
    have hnb29 := NB278_279.out
    have hnc29 := NB279_278.out
    have hnb30 := NB278_286.out
    have hnc30 := NB286_278.out
    have hnb31 := NB278_293.out
    have hnc31 := NB293_278.out
    have hcz32_0 : wc.cell? ⟨gb278, 0, none⟩ = some (.int .i64 a0_0) := (bC_ BK278.out 0).trans rfl
    have hcz32_1 : wc.cell? ⟨gb278, 1, none⟩ = some (.int .i64 a0_1) := (bC_ BK278.out 1).trans rfl
    have hfz32_0 := bF_ BK278.out 0
    have hfz32_1 := bF_ BK278.out 1
    have hnb33 := NB279_286.out
    have hnc33 := NB286_279.out
    have hnb34 := NB279_293.out
    have hnc34 := NB293_279.out
    have hcz35_0 : wc.cell? ⟨gb279, 0, none⟩ = some (.int .i64 a1_0) := (bC_ BK279.out 0).trans rfl
    have hcz35_1 : wc.cell? ⟨gb279, 1, none⟩ = some (.int .i64 a1_1) := (bC_ BK279.out 1).trans rfl
    have hfz35_0 := bF_ BK279.out 0
    have hfz35_1 := bF_ BK279.out 1
    go_upto_region 7 with (first | ((with_reducible refine gate_callee (f := 7) rfl ?_); refine goesL_ (some 35) rfl rfl Try.func7 (by kernel_rfl) rfl #[.agg #[.int .i64 a0_0, .int .i64 a0_1], .agg #[.int .i64 a1_0, .int .i64 a1_1]] rfl (by (try simp only [List.map_toArray, List.map_cons, List.map_nil]); first | done | rfl | (simp only [List.length_drop, List.length_take]; rfl)) ?_; (with_reducible refine (impl_AmountAdd.calls kj4 a0_0 a0_1 a1_0 a1_1 t294 t295 t296 _ A26.out).mono ?_); rintro e w36 ⟨rfl, hb⟩; refine ⟨_, rfl, ?_⟩; have n0_ := aM_ (Kd.R_below (by (with_reducible repeat (first | apply kA_ | apply kN_ | apply kD_)); exact HO_287001.out) hb); have n1_ := aM_ (Kd.R_below (by (with_reducible repeat (first | apply kA_ | apply kN_ | apply kD_)); exact HO_294001.out) hb); have n2_ := aM_ (blk_below (g := gb278) (o := .cells #[.int .i64 a0_0, .int .i64 a0_1] 23 (0, 0)) (by (with_reducible repeat (first | refine bN_ ?_ _ | refine bD_ ?_ | refine bA_ ?_ _)); exact BK278.out) hb); have n3_ := aM_ (blk_below (g := gb279) (o := .cells #[.int .i64 a1_0, .int .i64 a1_1] 23 (0, 0)) (by (with_reducible repeat (first | refine bN_ ?_ _ | refine bD_ ?_ | refine bA_ ?_ _)); exact BK279.out) hb); have n4_ := aM_ (blk_below (g := gb286) (o := .cells #[.bool t280, .slice Ao15 t281.length co15, .int .i64 t284] 26 (0, 0)) (by (with_reducible repeat (first | refine bN_ ?_ _ | refine bD_ ?_ | refine bA_ ?_ _)); exact BK286.out) hb); have n5_ := aM_ (blk_below (g := gb293) (o := .cells #[.bool t287, .slice Ao23 t288.length co23, .int .i64 t291] 26 (0, 0)) (by (with_reducible repeat (first | refine bN_ ?_ _ | refine bD_ ?_ | refine bA_ ?_ _)); exact BK293.out) hb); have n6_ := aM_ (below_step (by repeat (first | (with_reducible first | exact HB.out | apply bB_ | apply wN_ | apply bE_ | refine bS_ ?_ GE278.out | refine bS_ ?_ GE279.out | refine bS_ ?_ GE286.out | refine bS_ ?_ GE293.out) | exact HB.out)) hb); clear HO_287001; clear HO_294001; clear BK278; clear BK279; clear BK286; clear BK293; clear HB; have HO_287001 := n0_; have HO_294001 := n1_; have BK278 := n2_; have BK279 := n3_; have BK286 := n4_; have BK293 := n5_; have HB := n6_; clear n0_ n1_ n2_ n3_ n4_ n5_ n6_; (try clear hb); (try clear hb2); (try clear hk); (try clear hi)) | ((with_reducible refine gate_dst (N := 9) rfl ?_); refine box_event ?hg (N := 9) ?hd (cs := #[.int .i64 0, .int .i64 0]) (t := 23) ?hr ?_; (case hd => rfl); (case hg => rfl); (case hr => first | (go_simp; done) | (go_simp; rfl)); intro gb297 hg w37 hbox hb; have n0_ := aM_ (Kd.R_below (by (with_reducible repeat (first | apply kA_ | apply kN_ | apply kD_)); exact HO_287001.out) hb); have n1_ := aM_ (Kd.R_below (by (with_reducible repeat (first | apply kA_ | apply kN_ | apply kD_)); exact HO_294001.out) hb); have n2_ := aM_ (blk_below (g := gb278) (o := .cells #[.int .i64 a0_0, .int .i64 a0_1] 23 (0, 0)) (by (with_reducible repeat (first | refine bN_ ?_ _ | refine bD_ ?_ | refine bA_ ?_ _)); exact BK278.out) hb); have n3_ := aM_ (blk_below (g := gb279) (o := .cells #[.int .i64 a1_0, .int .i64 a1_1] 23 (0, 0)) (by (with_reducible repeat (first | refine bN_ ?_ _ | refine bD_ ?_ | refine bA_ ?_ _)); exact BK279.out) hb); have n4_ := aM_ (blk_below (g := gb286) (o := .cells #[.bool t280, .slice Ao15 t281.length co15, .int .i64 t284] 26 (0, 0)) (by (with_reducible repeat (first | refine bN_ ?_ _ | refine bD_ ?_ | refine bA_ ?_ _)); exact BK286.out) hb); have n5_ := aM_ (blk_below (g := gb293) (o := .cells #[.bool t287, .slice Ao23 t288.length co23, .int .i64 t291] 26 (0, 0)) (by (with_reducible repeat (first | refine bN_ ?_ _ | refine bD_ ?_ | refine bA_ ?_ _)); exact BK293.out) hb); have n6_ := aM_ (below_step (by repeat (first | (with_reducible first | exact HB.out | apply bB_ | apply wN_ | apply bE_ | refine bS_ ?_ GE278.out | refine bS_ ?_ GE279.out | refine bS_ ?_ GE286.out | refine bS_ ?_ GE293.out) | exact HB.out)) hb); have n7_ := aM_ (hbox); have n8_ := aM_ ((by rw [hg]; exact (below_size (by repeat (first | (with_reducible first | exact HB.out | apply bB_ | apply wN_ | apply bE_ | refine bS_ ?_ GE278.out | refine bS_ ?_ GE279.out | refine bS_ ?_ GE286.out | refine bS_ ?_ GE293.out) | exact HB.out))) : w.heap.size ≤ gb297)); have n9_ := aM_ ((by rw [hg]; exact (below_size (by repeat (first | (with_reducible first | exact HB.out | apply bB_ | apply wN_ | apply bE_ | refine bS_ ?_ GE278.out | refine bS_ ?_ GE279.out | refine bS_ ?_ GE286.out | refine bS_ ?_ GE293.out) | exact HB.out))) : w.heap.size ≤ gb297)); have n10_ := aM_ ((by rw [hg]; exact Nat.ne_of_lt (blk_lt (g := gb278) (o := .cells #[.int .i64 a0_0, .int .i64 a0_1] 23 (0, 0)) (by (with_reducible repeat (first | refine bN_ ?_ _ | refine bD_ ?_ | refine bA_ ?_ _)); exact BK278.out)) : gb278 ≠ gb297)); have n11_ := aM_ ((by rw [hg]; exact Nat.ne_of_gt (blk_lt (g := gb278) (o := .cells #[.int .i64 a0_0, .int .i64 a0_1] 23 (0, 0)) (by (with_reducible repeat (first | refine bN_ ?_ _ | refine bD_ ?_ | refine bA_ ?_ _)); exact BK278.out)) : gb297 ≠ gb278)); have n12_ := aM_ ((by rw [hg]; exact Nat.ne_of_lt (blk_lt (g := gb279) (o := .cells #[.int .i64 a1_0, .int .i64 a1_1] 23 (0, 0)) (by (with_reducible repeat (first | refine bN_ ?_ _ | refine bD_ ?_ | refine bA_ ?_ _)); exact BK279.out)) : gb279 ≠ gb297)); have n13_ := aM_ ((by rw [hg]; exact Nat.ne_of_gt (blk_lt (g := gb279) (o := .cells #[.int .i64 a1_0, .int .i64 a1_1] 23 (0, 0)) (by (with_reducible repeat (first | refine bN_ ?_ _ | refine bD_ ?_ | refine bA_ ?_ _)); exact BK279.out)) : gb297 ≠ gb279)); have n14_ := aM_ ((by rw [hg]; exact Nat.ne_of_lt (blk_lt (g := gb286) (o := .cells #[.bool t280, .slice Ao15 t281.length co15, .int .i64 t284] 26 (0, 0)) (by (with_reducible repeat (first | refine bN_ ?_ _ | refine bD_ ?_ | refine bA_ ?_ _)); exact BK286.out)) : gb286 ≠ gb297)); have n15_ := aM_ ((by rw [hg]; exact Nat.ne_of_gt (blk_lt (g := gb286) (o := .cells #[.bool t280, .slice Ao15 t281.length co15, .int .i64 t284] 26 (0, 0)) (by (with_reducible repeat (first | refine bN_ ?_ _ | refine bD_ ?_ | refine bA_ ?_ _)); exact BK286.out)) : gb297 ≠ gb286)); have n16_ := aM_ ((by rw [hg]; exact Nat.ne_of_lt (blk_lt (g := gb293) (o := .cells #[.bool t287, .slice Ao23 t288.length co23, .int .i64 t291] 26 (0, 0)) (by (with_reducible repeat (first | refine bN_ ?_ _ | refine bD_ ?_ | refine bA_ ?_ _)); exact BK293.out)) : gb293 ≠ gb297)); have n17_ := aM_ ((by rw [hg]; exact Nat.ne_of_gt (blk_lt (g := gb293) (o := .cells #[.bool t287, .slice Ao23 t288.length co23, .int .i64 t291] 26 (0, 0)) (by (with_reducible repeat (first | refine bN_ ?_ _ | refine bD_ ?_ | refine bA_ ?_ _)); exact BK293.out)) : gb297 ≠ gb293)); clear HO_287001; clear HO_294001; clear BK278; clear BK279; clear BK286; clear BK293; clear HB; have HO_287001 := n0_; have HO_294001 := n1_; have BK278 := n2_; have BK279 := n3_; have BK286 := n4_; have BK293 := n5_; have HB := n6_; have BK297 := n7_; have GW297 := n8_; have GE297 := n9_; have NB278_297 := n10_; have NB297_278 := n11_; have NB279_297 := n12_; have NB297_279 := n13_; have NB286_297 := n14_; have NB297_286 := n15_; have NB293_297 := n16_; have NB297_293 := n17_; clear n0_ n1_ n2_ n3_ n4_ n5_ n6_ n7_ n8_ n9_ n10_ n11_ n12_ n13_ n14_ n15_ n16_ n17_; clear hb hbox hg; have hnb38 := NB297_278.out; have hnc38 := NB278_297.out; have hnb39 := NB297_279.out; have hnc39 := NB279_297.out; have hnb40 := NB297_286.out; have hnc40 := NB286_297.out; have hnb41 := NB297_293.out; have hnc41 := NB293_297.out; have hcz42_0 : w37.cell? ⟨gb297, 0, none⟩ = some (.int .i64 0) := (bC_ BK297.out 0).trans rfl; have hcz42_1 : w37.cell? ⟨gb297, 1, none⟩ = some (.int .i64 0) := (bC_ BK297.out 1).trans rfl; have hfz42_0 := bF_ BK297.out 0; have hfz42_1 := bF_ BK297.out 1) | ((with_reducible refine gate_store (t := 23) (p := 9) rfl ?_); refine store_event (t := 23) (p := 9) (v := ?vo_w43) (w1 := ((w37.setCell ⟨gb297, 0, none⟩ (.int .i64 t294)).setCell ⟨gb297, 1, none⟩ (.int .i64 t295))) ?hg ?ho ?hn ?hr ?_; (case ho => rfl); (case hg => rfl); (case hn => rfl); (case hr => first | (go_simp; done) | (go_simp; rfl)); intro w43 hw; have n0_ : Aside0 (Kd.R (Kd.int .i64) 3 w43 w.heap.size (fun k_ => some k_ ≠ (.slice Ao23 t288.length co23 : Value).ownBlock) (.slice Ao15 t281.length co15) t281) := ⟨(by rw [hw]; exact (by (with_reducible repeat (first | apply kA_ | apply kN_ | apply kD_)); exact Kd.R_mono (Kd.R_far (p := ⟨gb297, 1, none⟩) (Kd.R_far (p := ⟨gb297, 0, none⟩) (Kd.R_types HO_287001.out BK297.out (by decide)) (fun _ hk => hk.2) (.int .i64 t294)) (fun _ hk => hk.2) (.int .i64 t295)) (fun _ hk => hk.1)))⟩; have n1_ : Aside0 (Kd.R (Kd.int .i64) 3 w43 w.heap.size (fun k_ => some k_ ≠ (.slice Ao15 t281.length co15 : Value).ownBlock) (.slice Ao23 t288.length co23) t288) := ⟨(by rw [hw]; exact (by (with_reducible repeat (first | apply kA_ | apply kN_ | apply kD_)); exact Kd.R_mono (Kd.R_far (p := ⟨gb297, 1, none⟩) (Kd.R_far (p := ⟨gb297, 0, none⟩) (Kd.R_types HO_294001.out BK297.out (by decide)) (fun _ hk => hk.2) (.int .i64 t294)) (fun _ hk => hk.2) (.int .i64 t295)) (fun _ hk => hk.1)))⟩; have n2_ : Aside0 (w43.heap[gb278]? = some (.cells #[.int .i64 a0_0, .int .i64 a0_1] 23 (0, 0))) := ⟨(by rw [hw]; exact (by (with_reducible repeat (first | refine bN_ ?_ _ | refine bD_ ?_ | refine bA_ ?_ _)); refine blk_far ?_ NB278_297.out _; (with_reducible repeat (first | refine bN_ ?_ _ | refine bD_ ?_ | refine bA_ ?_ _)); refine blk_far ?_ NB278_297.out _; (with_reducible repeat (first | refine bN_ ?_ _ | refine bD_ ?_ | refine bA_ ?_ _)); exact BK278.out))⟩; have n3_ : Aside0 (w43.heap[gb279]? = some (.cells #[.int .i64 a1_0, .int .i64 a1_1] 23 (0, 0))) := ⟨(by rw [hw]; exact (by (with_reducible repeat (first | refine bN_ ?_ _ | refine bD_ ?_ | refine bA_ ?_ _)); refine blk_far ?_ NB279_297.out _; (with_reducible repeat (first | refine bN_ ?_ _ | refine bD_ ?_ | refine bA_ ?_ _)); refine blk_far ?_ NB279_297.out _; (with_reducible repeat (first | refine bN_ ?_ _ | refine bD_ ?_ | refine bA_ ?_ _)); exact BK279.out))⟩; have n4_ : Aside0 (w43.heap[gb286]? = some (.cells #[.bool t280, .slice Ao15 t281.length co15, .int .i64 t284] 26 (0, 0))) := ⟨(by rw [hw]; exact (by (with_reducible repeat (first | refine bN_ ?_ _ | refine bD_ ?_ | refine bA_ ?_ _)); refine blk_far ?_ NB286_297.out _; (with_reducible repeat (first | refine bN_ ?_ _ | refine bD_ ?_ | refine bA_ ?_ _)); refine blk_far ?_ NB286_297.out _; (with_reducible repeat (first | refine bN_ ?_ _ | refine bD_ ?_ | refine bA_ ?_ _)); exact BK286.out))⟩; have n5_ : Aside0 (w43.heap[gb293]? = some (.cells #[.bool t287, .slice Ao23 t288.length co23, .int .i64 t291] 26 (0, 0))) := ⟨(by rw [hw]; exact (by (with_reducible repeat (first | refine bN_ ?_ _ | refine bD_ ?_ | refine bA_ ?_ _)); refine blk_far ?_ NB293_297.out _; (with_reducible repeat (first | refine bN_ ?_ _ | refine bD_ ?_ | refine bA_ ?_ _)); refine blk_far ?_ NB293_297.out _; (with_reducible repeat (first | refine bN_ ?_ _ | refine bD_ ?_ | refine bA_ ?_ _)); exact BK293.out))⟩; have n6_ : Aside0 (w43.heap[gb297]? = some (.cells #[.int .i64 t294, .int .i64 t295] 23 (0, 0))) := ⟨(by rw [hw]; exact (by (with_reducible repeat (first | refine bN_ ?_ _ | refine bD_ ?_ | refine bA_ ?_ _)); refine blk_put (cs := #[.int .i64 t294, .int .i64 0]) ?_ 1 _ rfl; (with_reducible repeat (first | refine bN_ ?_ _ | refine bD_ ?_ | refine bA_ ?_ _)); refine blk_put (cs := #[.int .i64 0, .int .i64 0]) ?_ 0 _ rfl; (with_reducible repeat (first | refine bN_ ?_ _ | refine bD_ ?_ | refine bA_ ?_ _)); exact BK297.out))⟩; have n7_ : Aside0 (Below w.heap.size w w43) := ⟨(by rw [hw]; exact (by repeat (first | (with_reducible first | exact HB.out | apply bB_ | apply wN_ | apply bE_ | refine bS_ ?_ GE278.out | refine bS_ ?_ GE279.out | refine bS_ ?_ GE286.out | refine bS_ ?_ GE293.out | refine bS_ ?_ GE297.out) | exact HB.out)))⟩; clear hw; clear HO_287001; clear HO_294001; clear BK278; clear BK279; clear BK286; clear BK293; clear BK297; clear HB; have HO_287001 := n0_; have HO_294001 := n1_; have BK278 := n2_; have BK279 := n3_; have BK286 := n4_; have BK293 := n5_; have BK297 := n6_; have HB := n7_; clear n0_ n1_ n2_ n3_ n4_ n5_ n6_ n7_; have hnb44 := NB286_293.out; have hnc44 := NB293_286.out; have hcz45_0 : w43.cell? ⟨gb286, 0, none⟩ = some (.bool t280) := (bC_ BK286.out 0).trans rfl; have hcz45_1 : w43.cell? ⟨gb286, 1, none⟩ = some (.slice Ao15 t281.length co15) := (bC_ BK286.out 1).trans rfl; have hcz45_2 : w43.cell? ⟨gb286, 2, none⟩ = some (.int .i64 t284) := (bC_ BK286.out 2).trans rfl; have hfz45_0 := bF_ BK286.out 0; have hfz45_1 := bF_ BK286.out 1; have hfz45_2 := bF_ BK286.out 2; have hcz46_0 : w43.cell? ⟨gb293, 0, none⟩ = some (.bool t287) := (bC_ BK293.out 0).trans rfl; have hcz46_1 : w43.cell? ⟨gb293, 1, none⟩ = some (.slice Ao23 t288.length co23) := (bC_ BK293.out 1).trans rfl; have hcz46_2 : w43.cell? ⟨gb293, 2, none⟩ = some (.int .i64 t291) := (bC_ BK293.out 2).trans rfl; have hfz46_0 := bF_ BK293.out 0; have hfz46_1 := bF_ BK293.out 1; have hfz46_2 := bF_ BK293.out 2) | ((with_reducible refine gate_callee (f := 8) rfl ?_); refine goesL_ (some 41) rfl rfl Try.func8 (by kernel_rfl) rfl #[.agg #[.bool t280, .slice Ao15 t281.length co15, .int .i64 t284], .agg #[.bool t287, .slice Ao23 t288.length co23, .int .i64 t291]] rfl (by (try simp only [List.map_toArray, List.map_cons, List.map_nil]); first | done | rfl | (simp only [List.length_drop, List.length_take]; rfl)) ?_; (with_reducible refine (spec_DecimalAdd.calls kj4 t280 (fun k_ => some k_ = (.slice Ao15 t281.length co15 : Value).ownBlock) (.slice Ao15 t281.length co15) t281 t284 t287 (fun k_ => some k_ = (.slice Ao23 t288.length co23 : Value).ownBlock) (.slice Ao23 t288.length co23) t288 t291 t298 t299 t302 t303 w _ ?side1 ?side2 ?side3 ?side4 ?side5 A27.out).mono ?_); (case side1 => repeat (first | (with_reducible first | exact HB.out | apply bB_ | apply wN_ | apply bE_ | refine bS_ ?_ GE278.out | refine bS_ ?_ GE279.out | refine bS_ ?_ GE286.out | refine bS_ ?_ GE293.out | refine bS_ ?_ GE297.out) | exact HB.out)); (case side2 => exact Kd.R_tight rfl HO_287001.out); (case side3 => exact fun k_ e_ => (HO_287001.out.1 k_ e_.symm)); (case side4 => exact Kd.R_tight rfl HO_294001.out); (case side5 => exact fun k_ e_ => (HO_294001.out.1 k_ e_.symm)); rintro e w47 ⟨v300, rfl, ho0, hb, hkp⟩; refine ⟨_, rfl, ?_⟩; have n0_ := aM_ (blk_kept (by (with_reducible repeat (first | refine bN_ ?_ _ | refine bD_ ?_ | refine bA_ ?_ _)); exact BK278.out) hkp (fun hs_ => Or.elim hs_ (fun e_ => (fun e_ => (Kd.R_ne HO_287001.out BK278.out (by decide)) e_) e_) (fun e_ => (fun e_ => (Kd.R_ne HO_294001.out BK278.out (by decide)) e_) e_))); have n1_ := aM_ (blk_kept (by (with_reducible repeat (first | refine bN_ ?_ _ | refine bD_ ?_ | refine bA_ ?_ _)); exact BK279.out) hkp (fun hs_ => Or.elim hs_ (fun e_ => (fun e_ => (Kd.R_ne HO_287001.out BK279.out (by decide)) e_) e_) (fun e_ => (fun e_ => (Kd.R_ne HO_294001.out BK279.out (by decide)) e_) e_))); have n2_ := aM_ (blk_kept (by (with_reducible repeat (first | refine bN_ ?_ _ | refine bD_ ?_ | refine bA_ ?_ _)); exact BK286.out) hkp (fun hs_ => Or.elim hs_ (fun e_ => (fun e_ => (Kd.R_ne HO_287001.out BK286.out (by decide)) e_) e_) (fun e_ => (fun e_ => (Kd.R_ne HO_294001.out BK286.out (by decide)) e_) e_))); have n3_ := aM_ (blk_kept (by (with_reducible repeat (first | refine bN_ ?_ _ | refine bD_ ?_ | refine bA_ ?_ _)); exact BK293.out) hkp (fun hs_ => Or.elim hs_ (fun e_ => (fun e_ => (Kd.R_ne HO_287001.out BK293.out (by decide)) e_) e_) (fun e_ => (fun e_ => (Kd.R_ne HO_294001.out BK293.out (by decide)) e_) e_))); have n4_ := aM_ (blk_kept (by (with_reducible repeat (first | refine bN_ ?_ _ | refine bD_ ?_ | refine bA_ ?_ _)); exact BK297.out) hkp (fun hs_ => Or.elim hs_ (fun e_ => (fun e_ => (Kd.R_ne HO_287001.out BK297.out (by decide)) e_) e_) (fun e_ => (fun e_ => (Kd.R_ne HO_294001.out BK297.out (by decide)) e_) e_))); have n5_ := aM_ (Kd.R_mono (ok' := fun k_ => True) ho0 (fun k_ hk_ => trivial)); have n6_ := aM_ (hb); clear BK278; clear BK279; clear BK286; clear BK293; clear BK297; clear HB; clear HO_287001; clear HO_294001; have BK278 := n0_; have BK279 := n1_; have BK286 := n2_; have BK293 := n3_; have BK297 := n4_; have HO301 := n5_; have HB := n6_; clear n0_ n1_ n2_ n3_ n4_ n5_ n6_; (try clear hb); (try clear hkp); (try clear ho0)) | ((with_reducible refine gate_dst (N := 11) rfl ?_); refine box_event ?hg (N := 11) ?hd (cs := #[.bool false, .slice none 0 0, .int .i64 0]) (t := 26) ?hr ?_; (case hd => rfl); (case hg => rfl); (case hr => first | (go_simp; done) | (go_simp; rfl)); intro gb304 hg w48 hbox hb; have n0_ := aM_ (Kd.R_below (by (with_reducible repeat (first | apply kA_ | apply kN_ | apply kD_)); exact HO301.out) hb); have n1_ := aM_ (blk_below (g := gb278) (o := .cells #[.int .i64 a0_0, .int .i64 a0_1] 23 (0, 0)) (by (with_reducible repeat (first | refine bN_ ?_ _ | refine bD_ ?_ | refine bA_ ?_ _)); exact BK278.out) hb); have n2_ := aM_ (blk_below (g := gb279) (o := .cells #[.int .i64 a1_0, .int .i64 a1_1] 23 (0, 0)) (by (with_reducible repeat (first | refine bN_ ?_ _ | refine bD_ ?_ | refine bA_ ?_ _)); exact BK279.out) hb); have n3_ := aM_ (blk_below (g := gb286) (o := .cells #[.bool t280, .slice Ao15 t281.length co15, .int .i64 t284] 26 (0, 0)) (by (with_reducible repeat (first | refine bN_ ?_ _ | refine bD_ ?_ | refine bA_ ?_ _)); exact BK286.out) hb); have n4_ := aM_ (blk_below (g := gb293) (o := .cells #[.bool t287, .slice Ao23 t288.length co23, .int .i64 t291] 26 (0, 0)) (by (with_reducible repeat (first | refine bN_ ?_ _ | refine bD_ ?_ | refine bA_ ?_ _)); exact BK293.out) hb); have n5_ := aM_ (blk_below (g := gb297) (o := .cells #[.int .i64 t294, .int .i64 t295] 23 (0, 0)) (by (with_reducible repeat (first | refine bN_ ?_ _ | refine bD_ ?_ | refine bA_ ?_ _)); exact BK297.out) hb); have n6_ := aM_ (below_step (by repeat (first | (with_reducible first | exact HB.out | apply bB_ | apply wN_ | apply bE_ | refine bS_ ?_ GE278.out | refine bS_ ?_ GE279.out | refine bS_ ?_ GE286.out | refine bS_ ?_ GE293.out | refine bS_ ?_ GE297.out) | exact HB.out)) hb); have n7_ := aM_ (hbox); have n8_ := aM_ ((by rw [hg]; exact (below_size (by repeat (first | (with_reducible first | exact HB.out | apply bB_ | apply wN_ | apply bE_ | refine bS_ ?_ GE278.out | refine bS_ ?_ GE279.out | refine bS_ ?_ GE286.out | refine bS_ ?_ GE293.out | refine bS_ ?_ GE297.out) | exact HB.out))) : w.heap.size ≤ gb304)); have n9_ := aM_ ((by rw [hg]; exact (below_size (by repeat (first | (with_reducible first | exact HB.out | apply bB_ | apply wN_ | apply bE_ | refine bS_ ?_ GE278.out | refine bS_ ?_ GE279.out | refine bS_ ?_ GE286.out | refine bS_ ?_ GE293.out | refine bS_ ?_ GE297.out) | exact HB.out))) : w.heap.size ≤ gb304)); have n10_ := aM_ ((by rw [hg]; exact Nat.ne_of_lt (blk_lt (g := gb278) (o := .cells #[.int .i64 a0_0, .int .i64 a0_1] 23 (0, 0)) (by (with_reducible repeat (first | refine bN_ ?_ _ | refine bD_ ?_ | refine bA_ ?_ _)); exact BK278.out)) : gb278 ≠ gb304)); have n11_ := aM_ ((by rw [hg]; exact Nat.ne_of_gt (blk_lt (g := gb278) (o := .cells #[.int .i64 a0_0, .int .i64 a0_1] 23 (0, 0)) (by (with_reducible repeat (first | refine bN_ ?_ _ | refine bD_ ?_ | refine bA_ ?_ _)); exact BK278.out)) : gb304 ≠ gb278)); have n12_ := aM_ ((by rw [hg]; exact Nat.ne_of_lt (blk_lt (g := gb279) (o := .cells #[.int .i64 a1_0, .int .i64 a1_1] 23 (0, 0)) (by (with_reducible repeat (first | refine bN_ ?_ _ | refine bD_ ?_ | refine bA_ ?_ _)); exact BK279.out)) : gb279 ≠ gb304)); have n13_ := aM_ ((by rw [hg]; exact Nat.ne_of_gt (blk_lt (g := gb279) (o := .cells #[.int .i64 a1_0, .int .i64 a1_1] 23 (0, 0)) (by (with_reducible repeat (first | refine bN_ ?_ _ | refine bD_ ?_ | refine bA_ ?_ _)); exact BK279.out)) : gb304 ≠ gb279)); have n14_ := aM_ ((by rw [hg]; exact Nat.ne_of_lt (blk_lt (g := gb286) (o := .cells #[.bool t280, .slice Ao15 t281.length co15, .int .i64 t284] 26 (0, 0)) (by (with_reducible repeat (first | refine bN_ ?_ _ | refine bD_ ?_ | refine bA_ ?_ _)); exact BK286.out)) : gb286 ≠ gb304)); have n15_ := aM_ ((by rw [hg]; exact Nat.ne_of_gt (blk_lt (g := gb286) (o := .cells #[.bool t280, .slice Ao15 t281.length co15, .int .i64 t284] 26 (0, 0)) (by (with_reducible repeat (first | refine bN_ ?_ _ | refine bD_ ?_ | refine bA_ ?_ _)); exact BK286.out)) : gb304 ≠ gb286)); have n16_ := aM_ ((by rw [hg]; exact Nat.ne_of_lt (blk_lt (g := gb293) (o := .cells #[.bool t287, .slice Ao23 t288.length co23, .int .i64 t291] 26 (0, 0)) (by (with_reducible repeat (first | refine bN_ ?_ _ | refine bD_ ?_ | refine bA_ ?_ _)); exact BK293.out)) : gb293 ≠ gb304)); have n17_ := aM_ ((by rw [hg]; exact Nat.ne_of_gt (blk_lt (g := gb293) (o := .cells #[.bool t287, .slice Ao23 t288.length co23, .int .i64 t291] 26 (0, 0)) (by (with_reducible repeat (first | refine bN_ ?_ _ | refine bD_ ?_ | refine bA_ ?_ _)); exact BK293.out)) : gb304 ≠ gb293)); have n18_ := aM_ ((by rw [hg]; exact Nat.ne_of_lt (blk_lt (g := gb297) (o := .cells #[.int .i64 t294, .int .i64 t295] 23 (0, 0)) (by (with_reducible repeat (first | refine bN_ ?_ _ | refine bD_ ?_ | refine bA_ ?_ _)); exact BK297.out)) : gb297 ≠ gb304)); have n19_ := aM_ ((by rw [hg]; exact Nat.ne_of_gt (blk_lt (g := gb297) (o := .cells #[.int .i64 t294, .int .i64 t295] 23 (0, 0)) (by (with_reducible repeat (first | refine bN_ ?_ _ | refine bD_ ?_ | refine bA_ ?_ _)); exact BK297.out)) : gb304 ≠ gb297)); clear HO301; clear BK278; clear BK279; clear BK286; clear BK293; clear BK297; clear HB; have HO301 := n0_; have BK278 := n1_; have BK279 := n2_; have BK286 := n3_; have BK293 := n4_; have BK297 := n5_; have HB := n6_; have BK304 := n7_; have GW304 := n8_; have GE304 := n9_; have NB278_304 := n10_; have NB304_278 := n11_; have NB279_304 := n12_; have NB304_279 := n13_; have NB286_304 := n14_; have NB304_286 := n15_; have NB293_304 := n16_; have NB304_293 := n17_; have NB297_304 := n18_; have NB304_297 := n19_; clear n0_ n1_ n2_ n3_ n4_ n5_ n6_ n7_ n8_ n9_ n10_ n11_ n12_ n13_ n14_ n15_ n16_ n17_ n18_ n19_; clear hb hbox hg; have hnb49 := NB304_278.out; have hnc49 := NB278_304.out; have hnb50 := NB304_279.out; have hnc50 := NB279_304.out; have hnb51 := NB304_286.out; have hnc51 := NB286_304.out; have hnb52 := NB304_293.out; have hnc52 := NB293_304.out; have hnb53 := NB304_297.out; have hnc53 := NB297_304.out; have hcz54_0 : w48.cell? ⟨gb304, 0, none⟩ = some (.bool false) := (bC_ BK304.out 0).trans rfl; have hcz54_1 : w48.cell? ⟨gb304, 1, none⟩ = some (.slice none 0 0) := (bC_ BK304.out 1).trans rfl; have hcz54_2 : w48.cell? ⟨gb304, 2, none⟩ = some (.int .i64 0) := (bC_ BK304.out 2).trans rfl; have hfz54_0 := bF_ BK304.out 0; have hfz54_1 := bF_ BK304.out 1; have hfz54_2 := bF_ BK304.out 2; obtain ⟨Ao55, co55, eo55⟩ := Kd.R_slice HO301.out; subst eo55))
    (try simp only [Act.put, List.setIfInBounds_toArray, List.set_cons_zero, List.set_cons_succ])
    go_cut [54] (fun v54 wc => ∃ (kq : Nat) (x54_27 : Bool), v54 = .bool x54_27 ∧ Aside0 (laws_FnAmountAdd.j1 kq t296 x54_27 a0_0 a0_1 a1_0 a1_1 t298 t299 t302 = some r) ∧ Aside0 (kq ≤ kj4) ∧ Aside0 (Kd.R (Kd.int .i64) 3 wc w.heap.size (fun _ => True) (.slice Ao55 t299.length co55) t299) ∧ Aside0 (wc.heap[gb278]? = some (.cells #[.int .i64 a0_0, .int .i64 a0_1] 23 (0, 0))) ∧ Aside0 (wc.heap[gb279]? = some (.cells #[.int .i64 a1_0, .int .i64 a1_1] 23 (0, 0))) ∧ Aside0 (wc.heap[gb297]? = some (.cells #[.int .i64 t294, .int .i64 t295] 23 (0, 0))) ∧ Aside0 (wc.heap[gb304]? = some (.cells #[.bool t298, (.slice Ao55 t299.length co55), .int .i64 t302] 26 (0, 0))) ∧ Aside0 (Below w.heap.size w wc))
    case first =>
     have H := HC28.out
     clear HC28
     by_cases c56 : t296 = true
     ·
      subst c56
      have H1 : (if t303 = true then ((laws_amountIs.f kj4 t294 t295 t298 t299 t302).bind fun t305 => (laws_FnAmountAdd.j1 kj4 true (!t305) a0_0 a0_1 a1_0 a1_1 t298 t299 t302)) else (laws_FnAmountAdd.j1 kj4 true true a0_0 a0_1 a1_0 a1_1 t298 t299 t302)) = some r := by rw [if_pos rfl] at H; exact H
      clear H
      have H := H1
      clear H1
      by_cases c57 : t303 = true
      ·
       subst c57
       have H1 : ((laws_amountIs.f kj4 t294 t295 t298 t299 t302).bind fun t305 => (laws_FnAmountAdd.j1 kj4 true (!t305) a0_0 a0_1 a1_0 a1_1 t298 t299 t302)) = some r := by rw [if_pos rfl] at H; exact H
       clear H
       have H := H1
       clear H1
       replace H := Option.bind_eq_some_iff.mp H
       obtain ⟨t305, A580, H⟩ := H
       replace H : (laws_FnAmountAdd.j1 kj4 true (!t305) a0_0 a0_1 a1_0 a1_1 t298 t299 t302) = some r := H
       have A58 := aM_ A580
       clear A580
       have H' := aM_ H
       clear H
       have hnb59 := NB297_278.out
       have hnc59 := NB278_297.out
       have hnb60 := NB297_279.out
       have hnc60 := NB279_297.out
       have hnb61 := NB297_286.out
       have hnc61 := NB286_297.out
       have hnb62 := NB297_293.out
       have hnc62 := NB293_297.out
       have hnb63 := NB297_304.out
       have hnc63 := NB304_297.out
       have hcz64_0 : w48.cell? ⟨gb297, 0, none⟩ = some (.int .i64 t294) := (bC_ BK297.out 0).trans rfl
       have hcz64_1 : w48.cell? ⟨gb297, 1, none⟩ = some (.int .i64 t295) := (bC_ BK297.out 1).trans rfl
       have hfz64_0 := bF_ BK297.out 0
       have hfz64_1 := bF_ BK297.out 1
       have hnb65 := NB304_278.out
       have hnc65 := NB278_304.out
       have hnb66 := NB304_279.out
       have hnc66 := NB279_304.out
       have hnb67 := NB304_286.out
       have hnc67 := NB286_304.out
       have hnb68 := NB304_293.out
       have hnc68 := NB293_304.out
       have hcz69_0 : w48.cell? ⟨gb304, 0, none⟩ = some (.bool false) := (bC_ BK304.out 0).trans rfl
       have hcz69_1 : w48.cell? ⟨gb304, 1, none⟩ = some (.slice none 0 0) := (bC_ BK304.out 1).trans rfl
       have hcz69_2 : w48.cell? ⟨gb304, 2, none⟩ = some (.int .i64 0) := (bC_ BK304.out 2).trans rfl
       have hfz69_0 := bF_ BK304.out 0
       have hfz69_1 := bF_ BK304.out 1
       have hfz69_2 := bF_ BK304.out 2
       go_wp2_with (first | (go_at_call 9; (with_reducible refine (laws_amountIs.calls kj4 t294 t295 t298 _ _ t299 t302 t305 _ ?side1 ?side2 A58.out).mono ?_); (case side1 => refine (Kd.R_reads' (e := 3) (base := w.heap.size) (ok := fun k_ => True) (n := t299.length) (c := co55) ?_).2.2; exact (by (with_reducible repeat (first | apply kA_ | apply kN_ | apply kD_)); exact (Kd.R_mono (Kd.R_far (p := ⟨gb304, 2, none⟩) (Kd.R_far (p := ⟨gb304, 1, none⟩) (Kd.R_far (p := ⟨gb304, 0, none⟩) (Kd.R_types HO301.out BK304.out (by decide)) (fun _ hk => hk.2) (.bool t298)) (fun _ hk => hk.2) (.slice Ao55 t299.length co55)) (fun _ hk => hk.2) (.int .i64 t302)) (fun _ h_ => h_.1)))); (case side2 => exact (Kd.R_reads' HO301.out).2.1); rintro e w70 ⟨rfl, hb⟩; have n0_ := aM_ (Kd.R_below (by (with_reducible repeat (first | apply kA_ | apply kN_ | apply kD_)); exact (Kd.R_mono (Kd.R_far (p := ⟨gb304, 2, none⟩) (Kd.R_far (p := ⟨gb304, 1, none⟩) (Kd.R_far (p := ⟨gb304, 0, none⟩) (Kd.R_types HO301.out BK304.out (by decide)) (fun _ hk => hk.2) (.bool t298)) (fun _ hk => hk.2) (.slice Ao55 t299.length co55)) (fun _ hk => hk.2) (.int .i64 t302)) (fun _ h_ => h_.1))) hb); have n1_ := aM_ (blk_below (g := gb278) (o := .cells #[.int .i64 a0_0, .int .i64 a0_1] 23 (0, 0)) (by (with_reducible repeat (first | refine bN_ ?_ _ | refine bD_ ?_ | refine bA_ ?_ _)); refine blk_far ?_ NB278_304.out _; (with_reducible repeat (first | refine bN_ ?_ _ | refine bD_ ?_ | refine bA_ ?_ _)); refine blk_far ?_ NB278_304.out _; (with_reducible repeat (first | refine bN_ ?_ _ | refine bD_ ?_ | refine bA_ ?_ _)); refine blk_far ?_ NB278_304.out _; (with_reducible repeat (first | refine bN_ ?_ _ | refine bD_ ?_ | refine bA_ ?_ _)); exact BK278.out) hb); have n2_ := aM_ (blk_below (g := gb279) (o := .cells #[.int .i64 a1_0, .int .i64 a1_1] 23 (0, 0)) (by (with_reducible repeat (first | refine bN_ ?_ _ | refine bD_ ?_ | refine bA_ ?_ _)); refine blk_far ?_ NB279_304.out _; (with_reducible repeat (first | refine bN_ ?_ _ | refine bD_ ?_ | refine bA_ ?_ _)); refine blk_far ?_ NB279_304.out _; (with_reducible repeat (first | refine bN_ ?_ _ | refine bD_ ?_ | refine bA_ ?_ _)); refine blk_far ?_ NB279_304.out _; (with_reducible repeat (first | refine bN_ ?_ _ | refine bD_ ?_ | refine bA_ ?_ _)); exact BK279.out) hb); have n3_ := aM_ (blk_below (g := gb286) (o := .cells #[.bool t280, .slice Ao15 t281.length co15, .int .i64 t284] 26 (0, 0)) (by (with_reducible repeat (first | refine bN_ ?_ _ | refine bD_ ?_ | refine bA_ ?_ _)); refine blk_far ?_ NB286_304.out _; (with_reducible repeat (first | refine bN_ ?_ _ | refine bD_ ?_ | refine bA_ ?_ _)); refine blk_far ?_ NB286_304.out _; (with_reducible repeat (first | refine bN_ ?_ _ | refine bD_ ?_ | refine bA_ ?_ _)); refine blk_far ?_ NB286_304.out _; (with_reducible repeat (first | refine bN_ ?_ _ | refine bD_ ?_ | refine bA_ ?_ _)); exact BK286.out) hb); have n4_ := aM_ (blk_below (g := gb293) (o := .cells #[.bool t287, .slice Ao23 t288.length co23, .int .i64 t291] 26 (0, 0)) (by (with_reducible repeat (first | refine bN_ ?_ _ | refine bD_ ?_ | refine bA_ ?_ _)); refine blk_far ?_ NB293_304.out _; (with_reducible repeat (first | refine bN_ ?_ _ | refine bD_ ?_ | refine bA_ ?_ _)); refine blk_far ?_ NB293_304.out _; (with_reducible repeat (first | refine bN_ ?_ _ | refine bD_ ?_ | refine bA_ ?_ _)); refine blk_far ?_ NB293_304.out _; (with_reducible repeat (first | refine bN_ ?_ _ | refine bD_ ?_ | refine bA_ ?_ _)); exact BK293.out) hb); have n5_ := aM_ (blk_below (g := gb297) (o := .cells #[.int .i64 t294, .int .i64 t295] 23 (0, 0)) (by (with_reducible repeat (first | refine bN_ ?_ _ | refine bD_ ?_ | refine bA_ ?_ _)); refine blk_far ?_ NB297_304.out _; (with_reducible repeat (first | refine bN_ ?_ _ | refine bD_ ?_ | refine bA_ ?_ _)); refine blk_far ?_ NB297_304.out _; (with_reducible repeat (first | refine bN_ ?_ _ | refine bD_ ?_ | refine bA_ ?_ _)); refine blk_far ?_ NB297_304.out _; (with_reducible repeat (first | refine bN_ ?_ _ | refine bD_ ?_ | refine bA_ ?_ _)); exact BK297.out) hb); have n6_ := aM_ (blk_below (g := gb304) (o := .cells #[.bool t298, .slice Ao55 t299.length co55, .int .i64 t302] 26 (0, 0)) (by (with_reducible repeat (first | refine bN_ ?_ _ | refine bD_ ?_ | refine bA_ ?_ _)); refine blk_put (cs := #[.bool t298, .slice Ao55 t299.length co55, .int .i64 0]) ?_ 2 _ rfl; (with_reducible repeat (first | refine bN_ ?_ _ | refine bD_ ?_ | refine bA_ ?_ _)); refine blk_put (cs := #[.bool t298, .slice none 0 0, .int .i64 0]) ?_ 1 _ rfl; (with_reducible repeat (first | refine bN_ ?_ _ | refine bD_ ?_ | refine bA_ ?_ _)); refine blk_put (cs := #[.bool false, .slice none 0 0, .int .i64 0]) ?_ 0 _ rfl; (with_reducible repeat (first | refine bN_ ?_ _ | refine bD_ ?_ | refine bA_ ?_ _)); exact BK304.out) hb); have n7_ := aM_ (below_step (by repeat (first | (with_reducible first | exact HB.out | apply bB_ | apply wN_ | apply bE_ | refine bS_ ?_ GE278.out | refine bS_ ?_ GE279.out | refine bS_ ?_ GE286.out | refine bS_ ?_ GE293.out | refine bS_ ?_ GE297.out | refine bS_ ?_ GE304.out) | exact HB.out)) hb); clear HO301; clear BK278; clear BK279; clear BK286; clear BK293; clear BK297; clear BK304; clear HB; have HO301 := n0_; have BK278 := n1_; have BK279 := n2_; have BK286 := n3_; have BK293 := n4_; have BK297 := n5_; have BK304 := n6_; have HB := n7_; clear n0_ n1_ n2_ n3_ n4_ n5_ n6_ n7_; (try clear hb); (try clear hb2); (try clear hk); (try clear hi)))
       go_meet
       case rel => exact ⟨_, (!t305), (by first | rfl | (simp; done) | (simp [*]; done)), H', ⟨by have := HJ4.out; first | omega | exact Nat.le_refl _⟩, ⟨by (with_reducible repeat (first | apply kA_ | apply kN_ | apply kD_)); exact HO301.out⟩, ⟨by (with_reducible repeat (first | refine bN_ ?_ _ | refine bD_ ?_ | refine bA_ ?_ _)); exact BK278.out⟩, ⟨by (with_reducible repeat (first | refine bN_ ?_ _ | refine bD_ ?_ | refine bA_ ?_ _)); exact BK279.out⟩, ⟨by (with_reducible repeat (first | refine bN_ ?_ _ | refine bD_ ?_ | refine bA_ ?_ _)); exact BK297.out⟩, ⟨by (with_reducible repeat (first | refine bN_ ?_ _ | refine bD_ ?_ | refine bA_ ?_ _)); exact BK304.out⟩, ⟨by repeat (first | (with_reducible first | exact HB.out | apply bB_ | apply wN_ | apply bE_ | refine bS_ ?_ GE278.out | refine bS_ ?_ GE279.out | refine bS_ ?_ GE286.out | refine bS_ ?_ GE293.out | refine bS_ ?_ GE297.out | refine bS_ ?_ GE304.out) | exact HB.out)⟩⟩
      ·
       replace c57 := Bool.eq_false_iff.mpr c57
       subst c57
       have H1 : (laws_FnAmountAdd.j1 kj4 true true a0_0 a0_1 a1_0 a1_1 t298 t299 t302) = some r := by rw [if_neg (show ¬ (false = true) by decide)] at H; exact H
       clear H
       have H := H1
       clear H1
       have H' := aM_ H
       clear H
       go_wp2
       go_meet
       case rel => exact ⟨_, (true), (by first | rfl | (simp; done) | (simp [*]; done)), H', ⟨by have := HJ4.out; first | omega | exact Nat.le_refl _⟩, ⟨by (with_reducible repeat (first | apply kA_ | apply kN_ | apply kD_)); exact Kd.R_mono (Kd.R_far (p := ⟨gb304, 2, none⟩) (Kd.R_far (p := ⟨gb304, 1, none⟩) (Kd.R_far (p := ⟨gb304, 0, none⟩) (Kd.R_types HO301.out BK304.out (by decide)) (fun _ hk => hk.2) (.bool t298)) (fun _ hk => hk.2) (.slice Ao55 t299.length co55)) (fun _ hk => hk.2) (.int .i64 t302)) (fun _ hk => trivial)⟩, ⟨by (with_reducible repeat (first | refine bN_ ?_ _ | refine bD_ ?_ | refine bA_ ?_ _)); refine blk_far ?_ NB278_304.out _; (with_reducible repeat (first | refine bN_ ?_ _ | refine bD_ ?_ | refine bA_ ?_ _)); refine blk_far ?_ NB278_304.out _; (with_reducible repeat (first | refine bN_ ?_ _ | refine bD_ ?_ | refine bA_ ?_ _)); refine blk_far ?_ NB278_304.out _; (with_reducible repeat (first | refine bN_ ?_ _ | refine bD_ ?_ | refine bA_ ?_ _)); exact BK278.out⟩, ⟨by (with_reducible repeat (first | refine bN_ ?_ _ | refine bD_ ?_ | refine bA_ ?_ _)); refine blk_far ?_ NB279_304.out _; (with_reducible repeat (first | refine bN_ ?_ _ | refine bD_ ?_ | refine bA_ ?_ _)); refine blk_far ?_ NB279_304.out _; (with_reducible repeat (first | refine bN_ ?_ _ | refine bD_ ?_ | refine bA_ ?_ _)); refine blk_far ?_ NB279_304.out _; (with_reducible repeat (first | refine bN_ ?_ _ | refine bD_ ?_ | refine bA_ ?_ _)); exact BK279.out⟩, ⟨by (with_reducible repeat (first | refine bN_ ?_ _ | refine bD_ ?_ | refine bA_ ?_ _)); refine blk_far ?_ NB297_304.out _; (with_reducible repeat (first | refine bN_ ?_ _ | refine bD_ ?_ | refine bA_ ?_ _)); refine blk_far ?_ NB297_304.out _; (with_reducible repeat (first | refine bN_ ?_ _ | refine bD_ ?_ | refine bA_ ?_ _)); refine blk_far ?_ NB297_304.out _; (with_reducible repeat (first | refine bN_ ?_ _ | refine bD_ ?_ | refine bA_ ?_ _)); exact BK297.out⟩, ⟨by (with_reducible repeat (first | refine bN_ ?_ _ | refine bD_ ?_ | refine bA_ ?_ _)); refine blk_put (cs := #[.bool t298, .slice Ao55 t299.length co55, .int .i64 0]) ?_ 2 _ rfl; (with_reducible repeat (first | refine bN_ ?_ _ | refine bD_ ?_ | refine bA_ ?_ _)); refine blk_put (cs := #[.bool t298, .slice none 0 0, .int .i64 0]) ?_ 1 _ rfl; (with_reducible repeat (first | refine bN_ ?_ _ | refine bD_ ?_ | refine bA_ ?_ _)); refine blk_put (cs := #[.bool false, .slice none 0 0, .int .i64 0]) ?_ 0 _ rfl; (with_reducible repeat (first | refine bN_ ?_ _ | refine bD_ ?_ | refine bA_ ?_ _)); exact BK304.out⟩, ⟨by repeat (first | (with_reducible first | exact HB.out | apply bB_ | apply wN_ | apply bE_ | refine bS_ ?_ GE278.out | refine bS_ ?_ GE279.out | refine bS_ ?_ GE286.out | refine bS_ ?_ GE293.out | refine bS_ ?_ GE297.out | refine bS_ ?_ GE304.out) | exact HB.out)⟩⟩
     ·
      replace c56 := Bool.eq_false_iff.mpr c56
      subst c56
      have H1 : (laws_FnAmountAdd.j1 kj4 false false a0_0 a0_1 a1_0 a1_1 t298 t299 t302) = some r := by rw [if_neg (show ¬ (false = true) by decide)] at H; exact H
      clear H
      have H := H1
      clear H1
      have H' := aM_ H
      clear H
      go_wp2
      go_meet
      case rel => exact ⟨_, (false), (by first | rfl | (simp; done) | (simp [*]; done)), H', ⟨by have := HJ4.out; first | omega | exact Nat.le_refl _⟩, ⟨by (with_reducible repeat (first | apply kA_ | apply kN_ | apply kD_)); exact Kd.R_mono (Kd.R_far (p := ⟨gb304, 2, none⟩) (Kd.R_far (p := ⟨gb304, 1, none⟩) (Kd.R_far (p := ⟨gb304, 0, none⟩) (Kd.R_types HO301.out BK304.out (by decide)) (fun _ hk => hk.2) (.bool t298)) (fun _ hk => hk.2) (.slice Ao55 t299.length co55)) (fun _ hk => hk.2) (.int .i64 t302)) (fun _ hk => trivial)⟩, ⟨by (with_reducible repeat (first | refine bN_ ?_ _ | refine bD_ ?_ | refine bA_ ?_ _)); refine blk_far ?_ NB278_304.out _; (with_reducible repeat (first | refine bN_ ?_ _ | refine bD_ ?_ | refine bA_ ?_ _)); refine blk_far ?_ NB278_304.out _; (with_reducible repeat (first | refine bN_ ?_ _ | refine bD_ ?_ | refine bA_ ?_ _)); refine blk_far ?_ NB278_304.out _; (with_reducible repeat (first | refine bN_ ?_ _ | refine bD_ ?_ | refine bA_ ?_ _)); exact BK278.out⟩, ⟨by (with_reducible repeat (first | refine bN_ ?_ _ | refine bD_ ?_ | refine bA_ ?_ _)); refine blk_far ?_ NB279_304.out _; (with_reducible repeat (first | refine bN_ ?_ _ | refine bD_ ?_ | refine bA_ ?_ _)); refine blk_far ?_ NB279_304.out _; (with_reducible repeat (first | refine bN_ ?_ _ | refine bD_ ?_ | refine bA_ ?_ _)); refine blk_far ?_ NB279_304.out _; (with_reducible repeat (first | refine bN_ ?_ _ | refine bD_ ?_ | refine bA_ ?_ _)); exact BK279.out⟩, ⟨by (with_reducible repeat (first | refine bN_ ?_ _ | refine bD_ ?_ | refine bA_ ?_ _)); refine blk_far ?_ NB297_304.out _; (with_reducible repeat (first | refine bN_ ?_ _ | refine bD_ ?_ | refine bA_ ?_ _)); refine blk_far ?_ NB297_304.out _; (with_reducible repeat (first | refine bN_ ?_ _ | refine bD_ ?_ | refine bA_ ?_ _)); refine blk_far ?_ NB297_304.out _; (with_reducible repeat (first | refine bN_ ?_ _ | refine bD_ ?_ | refine bA_ ?_ _)); exact BK297.out⟩, ⟨by (with_reducible repeat (first | refine bN_ ?_ _ | refine bD_ ?_ | refine bA_ ?_ _)); refine blk_put (cs := #[.bool t298, .slice Ao55 t299.length co55, .int .i64 0]) ?_ 2 _ rfl; (with_reducible repeat (first | refine bN_ ?_ _ | refine bD_ ?_ | refine bA_ ?_ _)); refine blk_put (cs := #[.bool t298, .slice none 0 0, .int .i64 0]) ?_ 1 _ rfl; (with_reducible repeat (first | refine bN_ ?_ _ | refine bD_ ?_ | refine bA_ ?_ _)); refine blk_put (cs := #[.bool false, .slice none 0 0, .int .i64 0]) ?_ 0 _ rfl; (with_reducible repeat (first | refine bN_ ?_ _ | refine bD_ ?_ | refine bA_ ?_ _)); exact BK304.out⟩, ⟨by repeat (first | (with_reducible first | exact HB.out | apply bB_ | apply wN_ | apply bE_ | refine bS_ ?_ GE278.out | refine bS_ ?_ GE279.out | refine bS_ ?_ GE286.out | refine bS_ ?_ GE293.out | refine bS_ ?_ GE297.out | refine bS_ ?_ GE304.out) | exact HB.out)⟩⟩
    case rest =>
     clear HC28
     try clear c1
     try clear c2
     try clear p2
     try clear c3
     try clear c4
     try clear c5
     try clear c6
     try clear c7
     try clear c8
     try clear c12
     try clear c13
     try clear c19
     try clear c20
     try clear c21
     try clear c24
     try clear c25
     try clear c29
     try clear c30
     try clear c31
     try clear c33
     try clear c34
     try clear c38
     try clear c39
     try clear c40
     try clear c41
     try clear c44
     try clear c49
     try clear c50
     try clear c51
     try clear c52
     try clear c53
     try clear c56
     try clear c57
     try clear c59
     try clear c60
     try clear c61
     try clear c62
     try clear c63
     try clear c65
     try clear c66
     try clear c67
     try clear c68
     try clear hcz14_0
     try clear hcz14_1
     try clear hcz14_2
     try clear hcz16_0
     try clear hcz16_1
     try clear hcz22_0
     try clear hcz22_1
     try clear hcz22_2
     try clear hcz32_0
     try clear hcz32_1
     try clear hcz35_0
     try clear hcz35_1
     try clear hcz42_0
     try clear hcz42_1
     try clear hcz45_0
     try clear hcz45_1
     try clear hcz45_2
     try clear hcz46_0
     try clear hcz46_1
     try clear hcz46_2
     try clear hcz54_0
     try clear hcz54_1
     try clear hcz54_2
     try clear hcz64_0
     try clear hcz64_1
     try clear hcz69_0
     try clear hcz69_1
     try clear hcz69_2
     try clear hcz9_0
     try clear hcz9_1
     try clear hfz14_0
     try clear hfz14_1
     try clear hfz14_2
     try clear hfz16_0
     try clear hfz16_1
     try clear hfz22_0
     try clear hfz22_1
     try clear hfz22_2
     try clear hfz32_0
     try clear hfz32_1
     try clear hfz35_0
     try clear hfz35_1
     try clear hfz42_0
     try clear hfz42_1
     try clear hfz45_0
     try clear hfz45_1
     try clear hfz45_2
     try clear hfz46_0
     try clear hfz46_1
     try clear hfz46_2
     try clear hfz54_0
     try clear hfz54_1
     try clear hfz54_2
     try clear hfz64_0
     try clear hfz64_1
     try clear hfz69_0
     try clear hfz69_1
     try clear hfz69_2
     try clear hfz9_0
     try clear hfz9_1
     try clear p2
     obtain ⟨kq, x54_27, rfl, HA, HJ27, HO_305001, BK278, BK279, BK297, BK304, HB⟩ := hcut
     cases kq with
     | zero => exact absurd HA.out (by simp [laws_FnAmountAdd.j1])
     | succ kj27 =>
      have H := HA.out
      clear HA
      simp only [laws_FnAmountAdd.j1] at H
      by_cases c71 : x54_27 = true
      ·
       subst c71
       have H1 : (some false) = some r := by rw [if_pos rfl] at H; exact H
       clear H
       have H := H1
       clear H1
       obtain rfl := Option.some.inj H
       go_wp2
       go_ret
       exact ⟨by first | rfl | (simp [errW_none, errW_some] <;> rfl) | (simp [*, errW_none, errW_some] <;> rfl) | (exfalso; contradiction), by repeat (first | (with_reducible first | exact HB.out | apply bB_ | apply wN_ | apply bE_ | refine bS_ ?_ GE278.out | refine bS_ ?_ GE279.out | refine bS_ ?_ GE297.out | refine bS_ ?_ GE304.out) | exact HB.out)⟩
      ·
       replace c71 := Bool.eq_false_iff.mpr c71
       subst c71
       have H1 : ((spec_DecimalOf.f kj27 1 (wrap64 (-a0_1))).bind fun bt306 => ((spec_DecimalTimes.f kj27 t298 t299 t302 bt306.1 bt306.2.1 bt306.2.2).bind fun bt311 => ((spec_DecimalInt.f kj27 bt311.1 bt311.2.1 bt311.2.2).bind fun bt316 => (if a0_1 = a1_1 then (if bt316.2 = true then (laws_FnAmountAdd.j2 kj27 t296 true) else (if a0_0 = 0 then (laws_FnAmountAdd.j2 kj27 t296 true) else (laws_FnAmountAdd.j2 kj27 t296 (a1_0 == 0)))) else (if a0_0 = 0 then (laws_FnAmountAdd.j2 kj27 t296 true) else (laws_FnAmountAdd.j2 kj27 t296 (a1_0 == 0))))))) = some r := by rw [if_neg (show ¬ (false = true) by decide)] at H; exact H
       clear H
       have H := H1
       clear H1
       replace H := Option.bind_eq_some_iff.mp H
       obtain ⟨⟨t306, t307, t310⟩, A720, H⟩ := H
       replace H : ((spec_DecimalTimes.f kj27 t298 t299 t302 t306 t307 t310).bind fun bt311 => ((spec_DecimalInt.f kj27 bt311.1 bt311.2.1 bt311.2.2).bind fun bt316 => (if a0_1 = a1_1 then (if bt316.2 = true then (laws_FnAmountAdd.j2 kj27 t296 true) else (if a0_0 = 0 then (laws_FnAmountAdd.j2 kj27 t296 true) else (laws_FnAmountAdd.j2 kj27 t296 (a1_0 == 0)))) else (if a0_0 = 0 then (laws_FnAmountAdd.j2 kj27 t296 true) else (laws_FnAmountAdd.j2 kj27 t296 (a1_0 == 0)))))) = some r := H
       have A72 := aM_ A720
       clear A720
       replace H := Option.bind_eq_some_iff.mp H
       obtain ⟨⟨t311, t312, t315⟩, A730, H⟩ := H
       replace H : ((spec_DecimalInt.f kj27 t311 t312 t315).bind fun bt316 => (if a0_1 = a1_1 then (if bt316.2 = true then (laws_FnAmountAdd.j2 kj27 t296 true) else (if a0_0 = 0 then (laws_FnAmountAdd.j2 kj27 t296 true) else (laws_FnAmountAdd.j2 kj27 t296 (a1_0 == 0)))) else (if a0_0 = 0 then (laws_FnAmountAdd.j2 kj27 t296 true) else (laws_FnAmountAdd.j2 kj27 t296 (a1_0 == 0))))) = some r := H
       have A73 := aM_ A730
       clear A730
       replace H := Option.bind_eq_some_iff.mp H
       obtain ⟨⟨t316, t317⟩, A740, H⟩ := H
       replace H : (if a0_1 = a1_1 then (if t317 = true then (laws_FnAmountAdd.j2 kj27 t296 true) else (if a0_0 = 0 then (laws_FnAmountAdd.j2 kj27 t296 true) else (laws_FnAmountAdd.j2 kj27 t296 (a1_0 == 0)))) else (if a0_0 = 0 then (laws_FnAmountAdd.j2 kj27 t296 true) else (laws_FnAmountAdd.j2 kj27 t296 (a1_0 == 0)))) = some r := H
       have A74 := aM_ A740
       clear A740
       have HC75 := aM_ H
       clear H
       try go_wp2
       have n0_ := aM_ (kD_ HO_305001.out)
       have n1_ := aM_ (bD_ BK278.out)
       have n2_ := aM_ (bD_ BK279.out)
       have n3_ := aM_ (bD_ BK297.out)
       have n4_ := aM_ (bD_ BK304.out)
       have n5_ := aM_ (bE_ HB.out)
       clear HO_305001
       clear BK278
       clear BK279
       clear BK297
       clear BK304
       clear HB
       have HO_305001 := n0_
       have BK278 := n1_
       have BK279 := n2_
       have BK297 := n3_
       have BK304 := n4_
       have HB := n5_
       clear n0_ n1_ n2_ n3_ n4_ n5_
       refine start_ (n := 12) (S := fun w' => w'.cell? ⟨gb304, 0, none⟩ = some (.bool t298) ∧ w'.cell? ⟨gb304, 1, none⟩ = some (.slice Ao55 t299.length co55) ∧ w'.cell? ⟨gb304, 2, none⟩ = some (.int .i64 t302) ∧ w'.cell? ⟨gb278, 0, none⟩ = some (.int .i64 a0_0) ∧ w'.cell? ⟨gb278, 1, none⟩ = some (.int .i64 a0_1)) (ds := []) #[false, false, false, false, false, false, false, false, false, false, false, false] (by kernel_rfl) rfl rfl ⟨(bC_ BK304.out 0).trans rfl, (bC_ BK304.out 1).trans rfl, (bC_ BK304.out 2).trans rfl, (bC_ BK278.out 0).trans rfl, (bC_ BK278.out 1).trans rfl⟩ (fun hHeld => ?_); refine with_tabW laws_FnAmountAdd.tab9 laws_FnAmountAdd.bits9 (fun HT_ HW_ => ?_)
       generalize wc.drew = w76 at HO_305001 BK278 BK279 BK297 BK304 HB hHeld ⊢
       refine pure_ (i := 1) (N := some 57) (v := ?_) (a' := ?_) #[false, true, false, false, false, false, false, false, false, false, false, false] rfl rfl (any_of HT_.out (by kernel_rfl)) (fun _ _ _ h => h) (Or.inl ⟨by rfl, ?_⟩) ?_ ?_
       rotate_left
       ·
        intro w'
        go_simp
        with_reducible rfl
       rotate_left
       ·
        simp only [Act.put, List.setIfInBounds_toArray, List.set_cons_zero, List.set_cons_succ, i64_w, i32_w]
        rfl
       refine take_ (i := 0) (N := some 56) (v := ?_) (a' := ?_) #[true, true, false, false, false, false, false, false, false, false, false, false] rfl rfl (take_ofW HT_.out HW_.out (by kernel_rfl)) (fun _ _ _ h => h) (Or.inl ⟨by rfl, ?_⟩) hHeld ?_ ?_
       rotate_left
       ·
        rintro w' ⟨s0, s1, s2, s3, s4⟩
        go_simp
        with_reducible rfl
       rotate_left
       ·
        simp only [Act.put, List.setIfInBounds_toArray, List.set_cons_zero, List.set_cons_succ, i64_w, i32_w]
        rfl
       refine take_ (i := 2) (N := some 58) (v := ?_) (a' := ?_) #[true, true, true, false, false, false, false, false, false, false, false, false] rfl rfl (take_ofW HT_.out HW_.out (by kernel_rfl)) (fun _ _ _ h => h) (Or.inl ⟨by rfl, ?_⟩) hHeld ?_ ?_
       rotate_left
       ·
        rintro w' ⟨s0, s1, s2, s3, s4⟩
        go_simp
        with_reducible rfl
       rotate_left
       ·
        simp only [Act.put, List.setIfInBounds_toArray, List.set_cons_zero, List.set_cons_succ, i64_w, i32_w]
        rfl
       refine pure_ (i := 3) (N := some 59) (v := ?_) (a' := ?_) #[true, true, true, true, false, false, false, false, false, false, false, false] rfl rfl (any_of HT_.out (by kernel_rfl)) (fun _ _ _ h => h) (Or.inl ⟨by rfl, ?_⟩) ?_ ?_
       rotate_left
       ·
        intro w'
        go_simp
        with_reducible rfl
       rotate_left
       ·
        simp only [Act.put, List.setIfInBounds_toArray, List.set_cons_zero, List.set_cons_succ, i64_w, i32_w]
        rfl
       refine one_ (i := 4) (N := some 60) #[true, true, true, true, true, false, false, false, false, false, false, false] rfl rfl (one_of HT_.out (by kernel_rfl)) (by decide) (fun K hK => ?_)
       refine goes_ Try.func12 (by kernel_rfl) rfl #[.int .i64 1, .int .i64 (wrap64 (-a0_1))] (by rfl) rfl rfl (by (try simp only [List.map_toArray, List.map_cons, List.map_nil]); first | done | rfl | (simp only [List.length_drop, List.length_take]; rfl)) ?_
       with_reducible refine (spec_DecimalOf.calls kj27 1 (wrap64 (-a0_1)) t306 t307 t310 _ A72.out).mono ?_
       rintro e w77 ⟨v308, rfl, ho0, hb⟩
       refine ⟨_, rfl, ?_⟩
       have n0_ := aM_ (Kd.R_elder' (by (with_reducible repeat (first | apply kA_ | apply kN_ | apply kD_)); exact HO_305001.out) (Kd.R_base ho0) hb)
       have n1_ := aM_ (Kd.R_lower (Kd.R_new' ho0 (Kd.R_lt (by (with_reducible repeat (first | apply kA_ | apply kN_ | apply kD_)); exact HO_305001.out))) (below_size (by repeat (first | (with_reducible first | exact HB.out | apply bB_ | apply wN_ | apply bE_ | refine bS_ ?_ GE278.out | refine bS_ ?_ GE279.out | refine bS_ ?_ GE297.out | refine bS_ ?_ GE304.out) | exact HB.out))))
       have n2_ := aM_ (blk_below (g := gb278) (o := .cells #[.int .i64 a0_0, .int .i64 a0_1] 23 (0, 0)) (by (with_reducible repeat (first | refine bN_ ?_ _ | refine bD_ ?_ | refine bA_ ?_ _)); exact BK278.out) hb)
       have n3_ := aM_ (blk_below (g := gb279) (o := .cells #[.int .i64 a1_0, .int .i64 a1_1] 23 (0, 0)) (by (with_reducible repeat (first | refine bN_ ?_ _ | refine bD_ ?_ | refine bA_ ?_ _)); exact BK279.out) hb)
       have n4_ := aM_ (blk_below (g := gb297) (o := .cells #[.int .i64 t294, .int .i64 t295] 23 (0, 0)) (by (with_reducible repeat (first | refine bN_ ?_ _ | refine bD_ ?_ | refine bA_ ?_ _)); exact BK297.out) hb)
       have n5_ := aM_ (blk_below (g := gb304) (o := .cells #[.bool t298, .slice Ao55 t299.length co55, .int .i64 t302] 26 (0, 0)) (by (with_reducible repeat (first | refine bN_ ?_ _ | refine bD_ ?_ | refine bA_ ?_ _)); exact BK304.out) hb)
       have n6_ := aM_ (below_step (by repeat (first | (with_reducible first | exact HB.out | apply bB_ | apply wN_ | apply bE_ | refine bS_ ?_ GE278.out | refine bS_ ?_ GE279.out | refine bS_ ?_ GE297.out | refine bS_ ?_ GE304.out) | exact HB.out)) hb)
       clear HO_305001
       clear BK278
       clear BK279
       clear BK297
       clear BK304
       clear HB
       have HO_305001 := n0_
       have HO309 := n1_
       have BK278 := n2_
       have BK279 := n3_
       have BK297 := n4_
       have BK304 := n5_
       have HB := n6_
       clear n0_ n1_ n2_ n3_ n4_ n5_ n6_
       (try clear hb)
       (try clear hb2)
       (try clear hk)
       (try clear hi)
       (try clear ho0)
       obtain ⟨Ao78, co78, eo78⟩ := Kd.R_slice HO309.out
       (first | subst eo78 | (injection eo78 with f1_ f2_ f3_; have f4_ := f1_.symm; have f5_ := f3_.symm; clear f1_ f2_ f3_; subst f4_; subst f5_))
       refine hK.out _ _ ⟨(bC_ BK304.out 0).trans rfl, (bC_ BK304.out 1).trans rfl, (bC_ BK304.out 2).trans rfl, (bC_ BK278.out 0).trans rfl, (bC_ BK278.out 1).trans rfl⟩ (fun hHeld => ?_)
       clear hK K
       refine norm_ (a' := ?_) ?_ ?_
       rotate_left
       ·
        show Act.put _ (some 60) _ = _
        simp only [Act.put, List.setIfInBounds_toArray, List.set_cons_zero, List.set_cons_succ, i64_w, i32_w]
        rfl
       refine one_ (i := 5) (N := some 61) #[true, true, true, true, true, true, false, false, false, false, false, false] rfl rfl (one_of HT_.out (by kernel_rfl)) (by decide) (fun K hK => ?_)
       refine goes_ Try.func11 (by kernel_rfl) rfl #[.agg #[.bool t298, .slice Ao55 t299.length co55, .int .i64 t302], .agg #[.bool t306, .slice Ao78 t307.length co78, .int .i64 t310]] (by rfl) rfl rfl (by (try simp only [List.map_toArray, List.map_cons, List.map_nil]); first | done | rfl | (simp only [List.length_drop, List.length_take]; rfl)) ?_
       with_reducible refine (spec_DecimalTimes.calls kj27 t298 _ _ t299 t302 t306 _ _ t307 t310 t311 t312 t315 _ ?side1 ?side2 ?side3 ?side4 A73.out).mono ?_
       (case side1 => repeat (first | exact (Kd.R_reads' HO_305001.out).2.2 | (with_reducible refine Kd.C_alloc ?_ _) | (with_reducible refine Kd.C_drewN ?_ _) | (with_reducible refine Kd.C_drew ?_)))
       (case side2 => exact (Kd.R_reads' HO_305001.out).2.1)
       (case side3 => repeat (first | exact (Kd.R_reads' HO309.out).2.2 | (with_reducible refine Kd.C_alloc ?_ _) | (with_reducible refine Kd.C_drewN ?_ _) | (with_reducible refine Kd.C_drew ?_)))
       (case side4 => exact (Kd.R_reads' HO309.out).2.1)
       rintro e w79 ⟨v313, rfl, ho0, hb⟩
       refine ⟨_, rfl, ?_⟩
       have n0_ := aM_ (Kd.R_elder' (by (with_reducible repeat (first | apply kA_ | apply kN_ | apply kD_)); exact HO_305001.out) (Kd.R_base ho0) hb)
       have n1_ := aM_ (Kd.R_elder' (by (with_reducible repeat (first | apply kA_ | apply kN_ | apply kD_)); exact HO309.out) (Kd.R_base ho0) hb)
       have n2_ := aM_ (Kd.R_lower (Kd.R_new' (Kd.R_new' ho0 (Kd.R_lt (by (with_reducible repeat (first | apply kA_ | apply kN_ | apply kD_)); exact HO_305001.out))) (Kd.R_lt (by (with_reducible repeat (first | apply kA_ | apply kN_ | apply kD_)); exact HO309.out))) (below_size (by repeat (first | (with_reducible first | exact HB.out | apply bB_ | apply wN_ | apply bE_ | refine bS_ ?_ GE278.out | refine bS_ ?_ GE279.out | refine bS_ ?_ GE297.out | refine bS_ ?_ GE304.out) | exact HB.out))))
       have n3_ := aM_ (blk_below (g := gb278) (o := .cells #[.int .i64 a0_0, .int .i64 a0_1] 23 (0, 0)) (by (with_reducible repeat (first | refine bN_ ?_ _ | refine bD_ ?_ | refine bA_ ?_ _)); exact BK278.out) hb)
       have n4_ := aM_ (blk_below (g := gb279) (o := .cells #[.int .i64 a1_0, .int .i64 a1_1] 23 (0, 0)) (by (with_reducible repeat (first | refine bN_ ?_ _ | refine bD_ ?_ | refine bA_ ?_ _)); exact BK279.out) hb)
       have n5_ := aM_ (blk_below (g := gb297) (o := .cells #[.int .i64 t294, .int .i64 t295] 23 (0, 0)) (by (with_reducible repeat (first | refine bN_ ?_ _ | refine bD_ ?_ | refine bA_ ?_ _)); exact BK297.out) hb)
       have n6_ := aM_ (blk_below (g := gb304) (o := .cells #[.bool t298, .slice Ao55 t299.length co55, .int .i64 t302] 26 (0, 0)) (by (with_reducible repeat (first | refine bN_ ?_ _ | refine bD_ ?_ | refine bA_ ?_ _)); exact BK304.out) hb)
       have n7_ := aM_ (below_step (by repeat (first | (with_reducible first | exact HB.out | apply bB_ | apply wN_ | apply bE_ | refine bS_ ?_ GE278.out | refine bS_ ?_ GE279.out | refine bS_ ?_ GE297.out | refine bS_ ?_ GE304.out) | exact HB.out)) hb)
       clear HO_305001
       clear HO309
       clear BK278
       clear BK279
       clear BK297
       clear BK304
       clear HB
       have HO_305001 := n0_
       have HO309 := n1_
       have HO314 := n2_
       have BK278 := n3_
       have BK279 := n4_
       have BK297 := n5_
       have BK304 := n6_
       have HB := n7_
       clear n0_ n1_ n2_ n3_ n4_ n5_ n6_ n7_
       (try clear hb)
       (try clear hb2)
       (try clear hk)
       (try clear hi)
       (try clear ho0)
       obtain ⟨Ao80, co80, eo80⟩ := Kd.R_slice HO314.out
       (first | subst eo80 | (injection eo80 with f1_ f2_ f3_; have f4_ := f1_.symm; have f5_ := f3_.symm; clear f1_ f2_ f3_; subst f4_; subst f5_))
       refine hK.out _ _ ⟨(bC_ BK304.out 0).trans rfl, (bC_ BK304.out 1).trans rfl, (bC_ BK304.out 2).trans rfl, (bC_ BK278.out 0).trans rfl, (bC_ BK278.out 1).trans rfl⟩ (fun hHeld => ?_)
       clear hK K
       refine norm_ (a' := ?_) ?_ ?_
       rotate_left
       ·
        show Act.put _ (some 61) _ = _
        simp only [Act.put, List.setIfInBounds_toArray, List.set_cons_zero, List.set_cons_succ, i64_w, i32_w]
        rfl
       refine one_ (i := 6) (N := some 62) #[true, true, true, true, true, true, true, false, false, false, false, false] rfl rfl (one_of HT_.out (by kernel_rfl)) (by decide) (fun K hK => ?_)
       refine goes_ Try.func10 (by kernel_rfl) rfl #[.agg #[.bool t311, .slice Ao80 t312.length co80, .int .i64 t315]] (by rfl) rfl rfl (by (try simp only [List.map_toArray, List.map_cons, List.map_nil]); first | done | rfl | (simp only [List.length_drop, List.length_take]; rfl)) ?_
       with_reducible refine (spec_DecimalInt.calls kj27 t311 _ _ t312 t315 t316 t317 _ ?side1 ?side2 A74.out).mono ?_
       (case side1 => repeat (first | exact (Kd.R_reads' HO314.out).2.2 | (with_reducible refine Kd.C_alloc ?_ _) | (with_reducible refine Kd.C_drewN ?_ _) | (with_reducible refine Kd.C_drew ?_)))
       (case side2 => exact (Kd.R_reads' HO314.out).2.1)
       rintro e w81 ⟨rfl, hb⟩
       refine ⟨_, rfl, ?_⟩
       have n0_ := aM_ (Kd.R_below (by (with_reducible repeat (first | apply kA_ | apply kN_ | apply kD_)); exact HO_305001.out) hb)
       have n1_ := aM_ (Kd.R_below (by (with_reducible repeat (first | apply kA_ | apply kN_ | apply kD_)); exact HO309.out) hb)
       have n2_ := aM_ (Kd.R_below (by (with_reducible repeat (first | apply kA_ | apply kN_ | apply kD_)); exact HO314.out) hb)
       have n3_ := aM_ (blk_below (g := gb278) (o := .cells #[.int .i64 a0_0, .int .i64 a0_1] 23 (0, 0)) (by (with_reducible repeat (first | refine bN_ ?_ _ | refine bD_ ?_ | refine bA_ ?_ _)); exact BK278.out) hb)
       have n4_ := aM_ (blk_below (g := gb279) (o := .cells #[.int .i64 a1_0, .int .i64 a1_1] 23 (0, 0)) (by (with_reducible repeat (first | refine bN_ ?_ _ | refine bD_ ?_ | refine bA_ ?_ _)); exact BK279.out) hb)
       have n5_ := aM_ (blk_below (g := gb297) (o := .cells #[.int .i64 t294, .int .i64 t295] 23 (0, 0)) (by (with_reducible repeat (first | refine bN_ ?_ _ | refine bD_ ?_ | refine bA_ ?_ _)); exact BK297.out) hb)
       have n6_ := aM_ (blk_below (g := gb304) (o := .cells #[.bool t298, .slice Ao55 t299.length co55, .int .i64 t302] 26 (0, 0)) (by (with_reducible repeat (first | refine bN_ ?_ _ | refine bD_ ?_ | refine bA_ ?_ _)); exact BK304.out) hb)
       have n7_ := aM_ (below_step (by repeat (first | (with_reducible first | exact HB.out | apply bB_ | apply wN_ | apply bE_ | refine bS_ ?_ GE278.out | refine bS_ ?_ GE279.out | refine bS_ ?_ GE297.out | refine bS_ ?_ GE304.out) | exact HB.out)) hb)
       clear HO_305001
       clear HO309
       clear HO314
       clear BK278
       clear BK279
       clear BK297
       clear BK304
       clear HB
       have HO_305001 := n0_
       have HO309 := n1_
       have HO314 := n2_
       have BK278 := n3_
       have BK279 := n4_
       have BK297 := n5_
       have BK304 := n6_
       have HB := n7_
       clear n0_ n1_ n2_ n3_ n4_ n5_ n6_ n7_
       (try clear hb)
       (try clear hb2)
       (try clear hk)
       (try clear hi)
       refine hK.out _ _ ⟨(bC_ BK304.out 0).trans rfl, (bC_ BK304.out 1).trans rfl, (bC_ BK304.out 2).trans rfl, (bC_ BK278.out 0).trans rfl, (bC_ BK278.out 1).trans rfl⟩ (fun hHeld => ?_)
       clear hK K
       refine norm_ (a' := ?_) ?_ ?_
       rotate_left
       ·
        show Act.put _ (some 62) _ = _
        simp only [Act.put, List.setIfInBounds_toArray, List.set_cons_zero, List.set_cons_succ, i64_w, i32_w]
        rfl
       refine pure_ (i := 7) (N := some 55) (v := ?_) (a' := ?_) #[true, true, true, true, true, true, true, true, false, false, false, false] rfl rfl (any_of HT_.out (by kernel_rfl)) (fun _ _ _ h => h) (Or.inl ⟨by rfl, ?_⟩) ?_ ?_
       rotate_left
       ·
        intro w'
        go_simp
        with_reducible rfl
       rotate_left
       ·
        simp only [Act.put, List.setIfInBounds_toArray, List.set_cons_zero, List.set_cons_succ, i64_w, i32_w]
        rfl
       refine pure_ (i := 8) (N := some 63) (v := ?_) (a' := ?_) #[true, true, true, true, true, true, true, true, true, false, false, false] rfl rfl (any_of HT_.out (by kernel_rfl)) (fun _ _ _ h => h) (Or.inl ⟨by rfl, ?_⟩) ?_ ?_
       rotate_left
       ·
        intro w'
        go_simp
        with_reducible rfl
       rotate_left
       ·
        simp only [Act.put, List.setIfInBounds_toArray, List.set_cons_zero, List.set_cons_succ, i64_w, i32_w]
        rfl
       refine pure_ (i := 9) (N := some 64) (v := ?_) (a' := ?_) #[true, true, true, true, true, true, true, true, true, true, false, false] rfl rfl (any_of HT_.out (by kernel_rfl)) (fun _ _ _ h => h) (Or.inl ⟨by rfl, ?_⟩) ?_ ?_
       rotate_left
       ·
        intro w'
        go_simp
        with_reducible rfl
       rotate_left
       ·
        simp only [Act.put, List.setIfInBounds_toArray, List.set_cons_zero, List.set_cons_succ, i64_w, i32_w]
        rfl
       refine pure_ (i := 10) (N := some 13) (v := ?_) (a' := ?_) #[true, true, true, true, true, true, true, true, true, true, true, false] rfl rfl (any_of HT_.out (by kernel_rfl)) (fun _ _ _ h => h) (Or.inl ⟨by rfl, ?_⟩) ?_ ?_
       rotate_left
       ·
        intro w'
        go_simp
        with_reducible rfl
       rotate_left
       ·
        simp only [Act.put, List.setIfInBounds_toArray, List.set_cons_zero, List.set_cons_succ, i64_w, i32_w]
        rfl
       refine pure_ (i := 11) (N := some 14) (v := ?_) (a' := ?_) #[true, true, true, true, true, true, true, true, true, true, true, true] rfl rfl (any_of HT_.out (by kernel_rfl)) (fun _ _ _ h => h) (Or.inl ⟨by rfl, ?_⟩) ?_ ?_
       rotate_left
       ·
        intro w'
        go_simp
        with_reducible rfl
       rotate_left
       ·
        simp only [Act.put, List.setIfInBounds_toArray, List.set_cons_zero, List.set_cons_succ, i64_w, i32_w]
        rfl
       refine done_ (done_of HT_.out (by kernel_rfl)) ?_
       go_upto_region 10 with (fail)
       go_cut [15] (fun v15 wc => ∃ (kq : Nat) (x15_74 : Bool), v15 = .bool x15_74 ∧ Aside0 (laws_FnAmountAdd.j2 kq t296 x15_74 = some r) ∧ Aside0 (kq ≤ kj27) ∧ Aside0 (Kd.R (Kd.int .i64) 3 wc w.heap.size (fun _ => True) (.slice Ao55 t299.length co55) t299) ∧ Aside0 (wc.heap[gb278]? = some (.cells #[.int .i64 a0_0, .int .i64 a0_1] 23 (0, 0))) ∧ Aside0 (wc.heap[gb279]? = some (.cells #[.int .i64 a1_0, .int .i64 a1_1] 23 (0, 0))) ∧ Aside0 (wc.heap[gb297]? = some (.cells #[.int .i64 t294, .int .i64 t295] 23 (0, 0))) ∧ Aside0 (wc.heap[gb304]? = some (.cells #[.bool t298, (.slice Ao55 t299.length co55), .int .i64 t302] 26 (0, 0))) ∧ Aside0 (Below w.heap.size w wc))
       case first =>
        have H := HC75.out
        clear HC75
        by_cases c82 : a0_1 = a1_1
        ·
         rw [if_pos c82] at H
         have c82b0 : (a0_1 == a1_1) = true := beq_iff_eq.mpr c82
         have c82b1 : (a0_1 != a1_1) = false := bne_eq_false_iff_eq.mpr c82
         clear c82
         (first | rw [c82b0] | (simp only [i64_w, i32_w]; rw [c82b0]) | skip)
         by_cases c83 : t317 = true
         ·
          subst c83
          have H1 : (laws_FnAmountAdd.j2 kj27 t296 true) = some r := by rw [if_pos rfl] at H; exact H
          clear H
          have H := H1
          clear H1
          have H' := aM_ H
          clear H
          have hnb84 := NB278_279.out
          have hnc84 := NB279_278.out
          have hnb85 := NB278_297.out
          have hnc85 := NB297_278.out
          have hnb86 := NB278_304.out
          have hnc86 := NB304_278.out
          have hcz87_0 : w81.cell? ⟨gb278, 0, none⟩ = some (.int .i64 a0_0) := (bC_ BK278.out 0).trans rfl
          have hcz87_1 : w81.cell? ⟨gb278, 1, none⟩ = some (.int .i64 a0_1) := (bC_ BK278.out 1).trans rfl
          have hfz87_0 := bF_ BK278.out 0
          have hfz87_1 := bF_ BK278.out 1
          have hnb88 := NB279_297.out
          have hnc88 := NB297_279.out
          have hnb89 := NB279_304.out
          have hnc89 := NB304_279.out
          have hcz90_0 : w81.cell? ⟨gb279, 0, none⟩ = some (.int .i64 a1_0) := (bC_ BK279.out 0).trans rfl
          have hcz90_1 : w81.cell? ⟨gb279, 1, none⟩ = some (.int .i64 a1_1) := (bC_ BK279.out 1).trans rfl
          have hfz90_0 := bF_ BK279.out 0
          have hfz90_1 := bF_ BK279.out 1
          go_wp2
          go_meet
          case rel => exact ⟨_, (true), (by first | rfl | (simp; done) | (simp [*]; done)), H', ⟨by have := HJ4.out; have := HJ27.out; first | omega | exact Nat.le_refl _⟩, ⟨by (with_reducible repeat (first | apply kA_ | apply kN_ | apply kD_)); exact Kd.R_mono HO_305001.out (fun _ hk => trivial)⟩, ⟨by (with_reducible repeat (first | refine bN_ ?_ _ | refine bD_ ?_ | refine bA_ ?_ _)); exact BK278.out⟩, ⟨by (with_reducible repeat (first | refine bN_ ?_ _ | refine bD_ ?_ | refine bA_ ?_ _)); exact BK279.out⟩, ⟨by (with_reducible repeat (first | refine bN_ ?_ _ | refine bD_ ?_ | refine bA_ ?_ _)); exact BK297.out⟩, ⟨by (with_reducible repeat (first | refine bN_ ?_ _ | refine bD_ ?_ | refine bA_ ?_ _)); exact BK304.out⟩, ⟨by repeat (first | (with_reducible first | exact HB.out | apply bB_ | apply wN_ | apply bE_ | refine bS_ ?_ GE278.out | refine bS_ ?_ GE279.out | refine bS_ ?_ GE297.out | refine bS_ ?_ GE304.out) | exact HB.out)⟩⟩
         ·
          replace c83 := Bool.eq_false_iff.mpr c83
          subst c83
          have H1 : (if a0_0 = 0 then (laws_FnAmountAdd.j2 kj27 t296 true) else (laws_FnAmountAdd.j2 kj27 t296 (a1_0 == 0))) = some r := by rw [if_neg (show ¬ (false = true) by decide)] at H; exact H
          clear H
          have H := H1
          clear H1
          by_cases c91 : a0_0 = 0
          ·
           rw [if_pos c91] at H
           have c91b0 : (a0_0 == 0) = true := beq_iff_eq.mpr c91
           have c91b1 : (a0_0 != 0) = false := bne_eq_false_iff_eq.mpr c91
           clear c91
           have H' := aM_ H
           clear H
           have hnb92 := NB278_279.out
           have hnc92 := NB279_278.out
           have hnb93 := NB278_297.out
           have hnc93 := NB297_278.out
           have hnb94 := NB278_304.out
           have hnc94 := NB304_278.out
           have hcz95_0 : w81.cell? ⟨gb278, 0, none⟩ = some (.int .i64 a0_0) := (bC_ BK278.out 0).trans rfl
           have hcz95_1 : w81.cell? ⟨gb278, 1, none⟩ = some (.int .i64 a0_1) := (bC_ BK278.out 1).trans rfl
           have hfz95_0 := bF_ BK278.out 0
           have hfz95_1 := bF_ BK278.out 1
           have hnb96 := NB279_297.out
           have hnc96 := NB297_279.out
           have hnb97 := NB279_304.out
           have hnc97 := NB304_279.out
           have hcz98_0 : w81.cell? ⟨gb279, 0, none⟩ = some (.int .i64 a1_0) := (bC_ BK279.out 0).trans rfl
           have hcz98_1 : w81.cell? ⟨gb279, 1, none⟩ = some (.int .i64 a1_1) := (bC_ BK279.out 1).trans rfl
           have hfz98_0 := bF_ BK279.out 0
           have hfz98_1 := bF_ BK279.out 1
           go_wp2
           go_meet
           case rel => exact ⟨_, (true), (by first | rfl | (simp; done) | (simp [*]; done)), H', ⟨by have := HJ4.out; have := HJ27.out; first | omega | exact Nat.le_refl _⟩, ⟨by (with_reducible repeat (first | apply kA_ | apply kN_ | apply kD_)); exact Kd.R_mono HO_305001.out (fun _ hk => trivial)⟩, ⟨by (with_reducible repeat (first | refine bN_ ?_ _ | refine bD_ ?_ | refine bA_ ?_ _)); exact BK278.out⟩, ⟨by (with_reducible repeat (first | refine bN_ ?_ _ | refine bD_ ?_ | refine bA_ ?_ _)); exact BK279.out⟩, ⟨by (with_reducible repeat (first | refine bN_ ?_ _ | refine bD_ ?_ | refine bA_ ?_ _)); exact BK297.out⟩, ⟨by (with_reducible repeat (first | refine bN_ ?_ _ | refine bD_ ?_ | refine bA_ ?_ _)); exact BK304.out⟩, ⟨by repeat (first | (with_reducible first | exact HB.out | apply bB_ | apply wN_ | apply bE_ | refine bS_ ?_ GE278.out | refine bS_ ?_ GE279.out | refine bS_ ?_ GE297.out | refine bS_ ?_ GE304.out) | exact HB.out)⟩⟩
          ·
           rw [if_neg c91] at H
           have c91b0 : (a0_0 == 0) = false := beq_eq_false_iff_ne.mpr c91
           have c91b1 : (a0_0 != 0) = true := bne_iff_ne.mpr c91
           have H' := aM_ H
           clear H
           have hnb99 := NB278_279.out
           have hnc99 := NB279_278.out
           have hnb100 := NB278_297.out
           have hnc100 := NB297_278.out
           have hnb101 := NB278_304.out
           have hnc101 := NB304_278.out
           have hcz102_0 : w81.cell? ⟨gb278, 0, none⟩ = some (.int .i64 a0_0) := (bC_ BK278.out 0).trans rfl
           have hcz102_1 : w81.cell? ⟨gb278, 1, none⟩ = some (.int .i64 a0_1) := (bC_ BK278.out 1).trans rfl
           have hfz102_0 := bF_ BK278.out 0
           have hfz102_1 := bF_ BK278.out 1
           have hnb103 := NB279_297.out
           have hnc103 := NB297_279.out
           have hnb104 := NB279_304.out
           have hnc104 := NB304_279.out
           have hcz105_0 : w81.cell? ⟨gb279, 0, none⟩ = some (.int .i64 a1_0) := (bC_ BK279.out 0).trans rfl
           have hcz105_1 : w81.cell? ⟨gb279, 1, none⟩ = some (.int .i64 a1_1) := (bC_ BK279.out 1).trans rfl
           have hfz105_0 := bF_ BK279.out 0
           have hfz105_1 := bF_ BK279.out 1
           go_wp2
           go_meet
           case rel => exact ⟨_, ((a1_0 == 0)), (by first | rfl | (simp; done) | (simp [*]; done)), H', ⟨by have := HJ4.out; have := HJ27.out; first | omega | exact Nat.le_refl _⟩, ⟨by (with_reducible repeat (first | apply kA_ | apply kN_ | apply kD_)); exact Kd.R_mono HO_305001.out (fun _ hk => trivial)⟩, ⟨by (with_reducible repeat (first | refine bN_ ?_ _ | refine bD_ ?_ | refine bA_ ?_ _)); exact BK278.out⟩, ⟨by (with_reducible repeat (first | refine bN_ ?_ _ | refine bD_ ?_ | refine bA_ ?_ _)); exact BK279.out⟩, ⟨by (with_reducible repeat (first | refine bN_ ?_ _ | refine bD_ ?_ | refine bA_ ?_ _)); exact BK297.out⟩, ⟨by (with_reducible repeat (first | refine bN_ ?_ _ | refine bD_ ?_ | refine bA_ ?_ _)); exact BK304.out⟩, ⟨by repeat (first | (with_reducible first | exact HB.out | apply bB_ | apply wN_ | apply bE_ | refine bS_ ?_ GE278.out | refine bS_ ?_ GE279.out | refine bS_ ?_ GE297.out | refine bS_ ?_ GE304.out) | exact HB.out)⟩⟩
        ·
         rw [if_neg c82] at H
         have c82b0 : (a0_1 == a1_1) = false := beq_eq_false_iff_ne.mpr c82
         have c82b1 : (a0_1 != a1_1) = true := bne_iff_ne.mpr c82
         (first | rw [c82b0] | (simp only [i64_w, i32_w]; rw [c82b0]) | skip)
         by_cases c106 : a0_0 = 0
         ·
          rw [if_pos c106] at H
          have c106b0 : (a0_0 == 0) = true := beq_iff_eq.mpr c106
          have c106b1 : (a0_0 != 0) = false := bne_eq_false_iff_eq.mpr c106
          clear c106
          have H' := aM_ H
          clear H
          have hnb107 := NB278_279.out
          have hnc107 := NB279_278.out
          have hnb108 := NB278_297.out
          have hnc108 := NB297_278.out
          have hnb109 := NB278_304.out
          have hnc109 := NB304_278.out
          have hcz110_0 : w81.cell? ⟨gb278, 0, none⟩ = some (.int .i64 a0_0) := (bC_ BK278.out 0).trans rfl
          have hcz110_1 : w81.cell? ⟨gb278, 1, none⟩ = some (.int .i64 a0_1) := (bC_ BK278.out 1).trans rfl
          have hfz110_0 := bF_ BK278.out 0
          have hfz110_1 := bF_ BK278.out 1
          have hnb111 := NB279_297.out
          have hnc111 := NB297_279.out
          have hnb112 := NB279_304.out
          have hnc112 := NB304_279.out
          have hcz113_0 : w81.cell? ⟨gb279, 0, none⟩ = some (.int .i64 a1_0) := (bC_ BK279.out 0).trans rfl
          have hcz113_1 : w81.cell? ⟨gb279, 1, none⟩ = some (.int .i64 a1_1) := (bC_ BK279.out 1).trans rfl
          have hfz113_0 := bF_ BK279.out 0
          have hfz113_1 := bF_ BK279.out 1
          go_wp2
          go_meet
          case rel => exact ⟨_, (true), (by first | rfl | (simp; done) | (simp [*]; done)), H', ⟨by have := HJ4.out; have := HJ27.out; first | omega | exact Nat.le_refl _⟩, ⟨by (with_reducible repeat (first | apply kA_ | apply kN_ | apply kD_)); exact Kd.R_mono HO_305001.out (fun _ hk => trivial)⟩, ⟨by (with_reducible repeat (first | refine bN_ ?_ _ | refine bD_ ?_ | refine bA_ ?_ _)); exact BK278.out⟩, ⟨by (with_reducible repeat (first | refine bN_ ?_ _ | refine bD_ ?_ | refine bA_ ?_ _)); exact BK279.out⟩, ⟨by (with_reducible repeat (first | refine bN_ ?_ _ | refine bD_ ?_ | refine bA_ ?_ _)); exact BK297.out⟩, ⟨by (with_reducible repeat (first | refine bN_ ?_ _ | refine bD_ ?_ | refine bA_ ?_ _)); exact BK304.out⟩, ⟨by repeat (first | (with_reducible first | exact HB.out | apply bB_ | apply wN_ | apply bE_ | refine bS_ ?_ GE278.out | refine bS_ ?_ GE279.out | refine bS_ ?_ GE297.out | refine bS_ ?_ GE304.out) | exact HB.out)⟩⟩
         ·
          rw [if_neg c106] at H
          have c106b0 : (a0_0 == 0) = false := beq_eq_false_iff_ne.mpr c106
          have c106b1 : (a0_0 != 0) = true := bne_iff_ne.mpr c106
          have H' := aM_ H
          clear H
          have hnb114 := NB278_279.out
          have hnc114 := NB279_278.out
          have hnb115 := NB278_297.out
          have hnc115 := NB297_278.out
          have hnb116 := NB278_304.out
          have hnc116 := NB304_278.out
          have hcz117_0 : w81.cell? ⟨gb278, 0, none⟩ = some (.int .i64 a0_0) := (bC_ BK278.out 0).trans rfl
          have hcz117_1 : w81.cell? ⟨gb278, 1, none⟩ = some (.int .i64 a0_1) := (bC_ BK278.out 1).trans rfl
          have hfz117_0 := bF_ BK278.out 0
          have hfz117_1 := bF_ BK278.out 1
          have hnb118 := NB279_297.out
          have hnc118 := NB297_279.out
          have hnb119 := NB279_304.out
          have hnc119 := NB304_279.out
          have hcz120_0 : w81.cell? ⟨gb279, 0, none⟩ = some (.int .i64 a1_0) := (bC_ BK279.out 0).trans rfl
          have hcz120_1 : w81.cell? ⟨gb279, 1, none⟩ = some (.int .i64 a1_1) := (bC_ BK279.out 1).trans rfl
          have hfz120_0 := bF_ BK279.out 0
          have hfz120_1 := bF_ BK279.out 1
          go_wp2
          go_meet
          case rel => exact ⟨_, ((a1_0 == 0)), (by first | rfl | (simp; done) | (simp [*]; done)), H', ⟨by have := HJ4.out; have := HJ27.out; first | omega | exact Nat.le_refl _⟩, ⟨by (with_reducible repeat (first | apply kA_ | apply kN_ | apply kD_)); exact Kd.R_mono HO_305001.out (fun _ hk => trivial)⟩, ⟨by (with_reducible repeat (first | refine bN_ ?_ _ | refine bD_ ?_ | refine bA_ ?_ _)); exact BK278.out⟩, ⟨by (with_reducible repeat (first | refine bN_ ?_ _ | refine bD_ ?_ | refine bA_ ?_ _)); exact BK279.out⟩, ⟨by (with_reducible repeat (first | refine bN_ ?_ _ | refine bD_ ?_ | refine bA_ ?_ _)); exact BK297.out⟩, ⟨by (with_reducible repeat (first | refine bN_ ?_ _ | refine bD_ ?_ | refine bA_ ?_ _)); exact BK304.out⟩, ⟨by repeat (first | (with_reducible first | exact HB.out | apply bB_ | apply wN_ | apply bE_ | refine bS_ ?_ GE278.out | refine bS_ ?_ GE279.out | refine bS_ ?_ GE297.out | refine bS_ ?_ GE304.out) | exact HB.out)⟩⟩
       case rest =>
        clear HC75
        try clear c1
        try clear c2
        try clear p2
        try clear c3
        try clear c4
        try clear c5
        try clear c6
        try clear p6
        try clear c7
        try clear c8
        try clear c9
        try clear c10
        try clear c11
        try clear c12
        try clear c13
        try clear c19
        try clear c20
        try clear c21
        try clear c24
        try clear c25
        try clear c29
        try clear c30
        try clear c31
        try clear c33
        try clear c34
        try clear c38
        try clear c39
        try clear c40
        try clear c41
        try clear c44
        try clear c49
        try clear c50
        try clear c51
        try clear c52
        try clear c53
        try clear c56
        try clear c57
        try clear c59
        try clear c60
        try clear c61
        try clear c62
        try clear c63
        try clear p64
        try clear c65
        try clear c66
        try clear c67
        try clear c68
        try clear c71
        try clear c82
        try clear c82b0
        try clear c82b1
        try clear c83
        try clear c84
        try clear c85
        try clear c86
        try clear c88
        try clear c89
        try clear c91
        try clear c91b0
        try clear c91b1
        try clear c92
        try clear c93
        try clear c94
        try clear c96
        try clear c97
        try clear c99
        try clear c100
        try clear c101
        try clear c103
        try clear c104
        try clear c106
        try clear c106b0
        try clear c106b1
        try clear c107
        try clear c108
        try clear c109
        try clear c111
        try clear c112
        try clear c114
        try clear c115
        try clear c116
        try clear c118
        try clear c119
        try clear hcz102_0
        try clear hcz102_1
        try clear hcz105_0
        try clear hcz105_1
        try clear hcz110_0
        try clear hcz110_1
        try clear hcz113_0
        try clear hcz113_1
        try clear hcz117_0
        try clear hcz117_1
        try clear hcz120_0
        try clear hcz120_1
        try clear hcz14_0
        try clear hcz14_1
        try clear hcz14_2
        try clear hcz16_0
        try clear hcz16_1
        try clear hcz22_0
        try clear hcz22_1
        try clear hcz22_2
        try clear hcz32_0
        try clear hcz32_1
        try clear hcz35_0
        try clear hcz35_1
        try clear hcz42_0
        try clear hcz42_1
        try clear hcz45_0
        try clear hcz45_1
        try clear hcz45_2
        try clear hcz46_0
        try clear hcz46_1
        try clear hcz46_2
        try clear hcz54_0
        try clear hcz54_1
        try clear hcz54_2
        try clear hcz64_0
        try clear hcz64_1
        try clear hcz69_0
        try clear hcz69_1
        try clear hcz69_2
        try clear hcz87_0
        try clear hcz87_1
        try clear hcz90_0
        try clear hcz90_1
        try clear hcz95_0
        try clear hcz95_1
        try clear hcz98_0
        try clear hcz98_1
        try clear hcz9_0
        try clear hcz9_1
        try clear hfz102_0
        try clear hfz102_1
        try clear hfz105_0
        try clear hfz105_1
        try clear hfz110_0
        try clear hfz110_1
        try clear hfz113_0
        try clear hfz113_1
        try clear hfz117_0
        try clear hfz117_1
        try clear hfz120_0
        try clear hfz120_1
        try clear hfz14_0
        try clear hfz14_1
        try clear hfz14_2
        try clear hfz16_0
        try clear hfz16_1
        try clear hfz22_0
        try clear hfz22_1
        try clear hfz22_2
        try clear hfz32_0
        try clear hfz32_1
        try clear hfz35_0
        try clear hfz35_1
        try clear hfz42_0
        try clear hfz42_1
        try clear hfz45_0
        try clear hfz45_1
        try clear hfz45_2
        try clear hfz46_0
        try clear hfz46_1
        try clear hfz46_2
        try clear hfz54_0
        try clear hfz54_1
        try clear hfz54_2
        try clear hfz64_0
        try clear hfz64_1
        try clear hfz69_0
        try clear hfz69_1
        try clear hfz69_2
        try clear hfz87_0
        try clear hfz87_1
        try clear hfz90_0
        try clear hfz90_1
        try clear hfz95_0
        try clear hfz95_1
        try clear hfz98_0
        try clear hfz98_1
        try clear hfz9_0
        try clear hfz9_1
        try clear p2
        obtain ⟨kq, x15_74, rfl, HA, HJ74, HO_305001, BK278, BK279, BK297, BK304, HB⟩ := hcut
        cases kq with
        | zero => exact absurd HA.out (by simp [laws_FnAmountAdd.j2])
        | succ kj74 =>
         have H := HA.out
         clear HA
         simp only [laws_FnAmountAdd.j2] at H
         by_cases c121 : t296 = true
         ·
          subst c121
          have H1 : ((laws_amountAwake.f kj74).bind fun t318 => (some t318)) = some r := by rw [if_pos rfl] at H; exact H
          clear H
          have H := H1
          clear H1
          replace H := Option.bind_eq_some_iff.mp H
          obtain ⟨t318, A1220, H⟩ := H
          replace H : (some t318) = some r := H
          have A122 := aM_ A1220
          clear A1220
          obtain rfl := Option.some.inj H
          go_wp2_with (first | (go_at_call 13; (with_reducible refine (laws_amountAwake.calls kj74  t318 _ A122.out).mono ?_); rintro e w123 ⟨rfl, hb⟩; have n0_ := aM_ (Kd.R_below (by (with_reducible repeat (first | apply kA_ | apply kN_ | apply kD_)); exact HO_305001.out) hb); have n1_ := aM_ (blk_below (g := gb278) (o := .cells #[.int .i64 a0_0, .int .i64 a0_1] 23 (0, 0)) (by (with_reducible repeat (first | refine bN_ ?_ _ | refine bD_ ?_ | refine bA_ ?_ _)); exact BK278.out) hb); have n2_ := aM_ (blk_below (g := gb279) (o := .cells #[.int .i64 a1_0, .int .i64 a1_1] 23 (0, 0)) (by (with_reducible repeat (first | refine bN_ ?_ _ | refine bD_ ?_ | refine bA_ ?_ _)); exact BK279.out) hb); have n3_ := aM_ (blk_below (g := gb297) (o := .cells #[.int .i64 t294, .int .i64 t295] 23 (0, 0)) (by (with_reducible repeat (first | refine bN_ ?_ _ | refine bD_ ?_ | refine bA_ ?_ _)); exact BK297.out) hb); have n4_ := aM_ (blk_below (g := gb304) (o := .cells #[.bool t298, .slice Ao55 t299.length co55, .int .i64 t302] 26 (0, 0)) (by (with_reducible repeat (first | refine bN_ ?_ _ | refine bD_ ?_ | refine bA_ ?_ _)); exact BK304.out) hb); have n5_ := aM_ (below_step (by repeat (first | (with_reducible first | exact HB.out | apply bB_ | apply wN_ | apply bE_ | refine bS_ ?_ GE278.out | refine bS_ ?_ GE279.out | refine bS_ ?_ GE297.out | refine bS_ ?_ GE304.out) | exact HB.out)) hb); clear HO_305001; clear BK278; clear BK279; clear BK297; clear BK304; clear HB; have HO_305001 := n0_; have BK278 := n1_; have BK279 := n2_; have BK297 := n3_; have BK304 := n4_; have HB := n5_; clear n0_ n1_ n2_ n3_ n4_ n5_; (try clear hb); (try clear hb2); (try clear hk); (try clear hi)))
          go_ret
          exact ⟨by first | rfl | (simp [errW_none, errW_some] <;> rfl) | (simp [*, errW_none, errW_some] <;> rfl) | (exfalso; contradiction), by repeat (first | (with_reducible first | exact HB.out | apply bB_ | apply wN_ | apply bE_ | refine bS_ ?_ GE278.out | refine bS_ ?_ GE279.out | refine bS_ ?_ GE297.out | refine bS_ ?_ GE304.out) | exact HB.out)⟩
         ·
          replace c121 := Bool.eq_false_iff.mpr c121
          subst c121
          have H1 : (if x15_74 = true then (some false) else ((laws_amountAwake.f kj74).bind fun t319 => (some t319))) = some r := by rw [if_neg (show ¬ (false = true) by decide)] at H; exact H
          clear H
          have H := H1
          clear H1
          by_cases c124 : x15_74 = true
          ·
           subst c124
           have H1 : (some false) = some r := by rw [if_pos rfl] at H; exact H
           clear H
           have H := H1
           clear H1
           obtain rfl := Option.some.inj H
           go_wp2
           go_ret
           exact ⟨by first | rfl | (simp [errW_none, errW_some] <;> rfl) | (simp [*, errW_none, errW_some] <;> rfl) | (exfalso; contradiction), by repeat (first | (with_reducible first | exact HB.out | apply bB_ | apply wN_ | apply bE_ | refine bS_ ?_ GE278.out | refine bS_ ?_ GE279.out | refine bS_ ?_ GE297.out | refine bS_ ?_ GE304.out) | exact HB.out)⟩
          ·
           replace c124 := Bool.eq_false_iff.mpr c124
           subst c124
           have H1 : ((laws_amountAwake.f kj74).bind fun t319 => (some t319)) = some r := by rw [if_neg (show ¬ (false = true) by decide)] at H; exact H
           clear H
           have H := H1
           clear H1
           replace H := Option.bind_eq_some_iff.mp H
           obtain ⟨t319, A1250, H⟩ := H
           replace H : (some t319) = some r := H
           have A125 := aM_ A1250
           clear A1250
           obtain rfl := Option.some.inj H
           go_wp2_with (first | (go_at_call 13; (with_reducible refine (laws_amountAwake.calls kj74  t319 _ A125.out).mono ?_); rintro e w126 ⟨rfl, hb⟩; have n0_ := aM_ (Kd.R_below (by (with_reducible repeat (first | apply kA_ | apply kN_ | apply kD_)); exact HO_305001.out) hb); have n1_ := aM_ (blk_below (g := gb278) (o := .cells #[.int .i64 a0_0, .int .i64 a0_1] 23 (0, 0)) (by (with_reducible repeat (first | refine bN_ ?_ _ | refine bD_ ?_ | refine bA_ ?_ _)); exact BK278.out) hb); have n2_ := aM_ (blk_below (g := gb279) (o := .cells #[.int .i64 a1_0, .int .i64 a1_1] 23 (0, 0)) (by (with_reducible repeat (first | refine bN_ ?_ _ | refine bD_ ?_ | refine bA_ ?_ _)); exact BK279.out) hb); have n3_ := aM_ (blk_below (g := gb297) (o := .cells #[.int .i64 t294, .int .i64 t295] 23 (0, 0)) (by (with_reducible repeat (first | refine bN_ ?_ _ | refine bD_ ?_ | refine bA_ ?_ _)); exact BK297.out) hb); have n4_ := aM_ (blk_below (g := gb304) (o := .cells #[.bool t298, .slice Ao55 t299.length co55, .int .i64 t302] 26 (0, 0)) (by (with_reducible repeat (first | refine bN_ ?_ _ | refine bD_ ?_ | refine bA_ ?_ _)); exact BK304.out) hb); have n5_ := aM_ (below_step (by repeat (first | (with_reducible first | exact HB.out | apply bB_ | apply wN_ | apply bE_ | refine bS_ ?_ GE278.out | refine bS_ ?_ GE279.out | refine bS_ ?_ GE297.out | refine bS_ ?_ GE304.out) | exact HB.out)) hb); clear HO_305001; clear BK278; clear BK279; clear BK297; clear BK304; clear HB; have HO_305001 := n0_; have BK278 := n1_; have BK279 := n2_; have BK297 := n3_; have BK304 := n4_; have HB := n5_; clear n0_ n1_ n2_ n3_ n4_ n5_; (try clear hb); (try clear hb2); (try clear hk); (try clear hi)))
           go_ret
           exact ⟨by first | rfl | (simp [errW_none, errW_some] <;> rfl) | (simp [*, errW_none, errW_some] <;> rfl) | (exfalso; contradiction), by repeat (first | (with_reducible first | exact HB.out | apply bB_ | apply wN_ | apply bE_ | refine bS_ ?_ GE278.out | refine bS_ ?_ GE279.out | refine bS_ ?_ GE297.out | refine bS_ ?_ GE304.out) | exact HB.out)⟩

/-- THE ONE PURE STATEMENT of laws_FnAmountAdd: yours. -/
def laws_FnAmountAdd.Pure : Prop := ∀ (a0_0 : Int) (a0_1 : Int) (a1_0 : Int) (a1_1 : Int), (Lit.int .i64 a0_0).wf = true → (Lit.int .i64 a0_1).wf = true → (Lit.int .i64 a1_0).wf = true → (Lit.int .i64 a1_1).wf = true → ∃ k, laws_FnAmountAdd.f k a0_0 a0_1 a1_0 a1_1 = some true
theorem laws_FnAmountAdd.walk (P : laws_FnAmountAdd.Pure) (a0_0 : Int) (a0_1 : Int) (a1_0 : Int) (a1_1 : Int) (w : World)  (w0_0 : (Lit.int .i64 a0_0).wf = true) (w0_1 : (Lit.int .i64 a0_1).wf = true) (w1_0 : (Lit.int .i64 a1_0).wf = true) (w1_1 : (Lit.int .i64 a1_1).wf = true) :
  Calls Try.prog 3 #[.agg #[.int .i64 a0_0, .int .i64 a0_1], .agg #[.int .i64 a1_0, .int .i64 a1_1]] w fun e w' => e = .returned (.bool true) ∧ Below w.heap.size w w' := by
 obtain ⟨k, h⟩ := P a0_0 a0_1 a1_0 a1_1 w0_0 w0_1 w1_0 w1_1
 refine (laws_FnAmountAdd.calls k a0_0 a0_1 a1_0 a1_1 true w h).mono ?_
 rintro e w' ⟨rfl, hd⟩
 exact ⟨rfl, hd⟩

end Go.Proofs.Ytdhooibmibkbeaa.PFnAmountAdd
