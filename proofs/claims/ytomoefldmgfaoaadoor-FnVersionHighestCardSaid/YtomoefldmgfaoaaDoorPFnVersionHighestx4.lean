/- Functions of the program as plain Lean functions, and that the machine's calls do what these say: written for this claim by wip/myprint.py over the kit's print.py. -/
import Derived.Test.YtomoefldmgfaoaaDoorPFnVersionHighestx0
import Derived.Test.YtomoefldmgfaoaaDoorPFnVersionHighestx1
import Derived.Test.YtomoefldmgfaoaaDoorPFnVersionHighestx2
import Derived.Test.YtomoefldmgfaoaaDoorPFnVersionHighestx3
namespace Go.Proofs.YtomoefldmgfaoaaDoor.PFnVersionHighest
open Go.RowKit Go.Proofs.YtomoefldmgfaoaaDoorW.PrintWords Go.Proofs.YtomoefldmgfaoaaDoorW.PrintLast Go.Proofs.YtomoefldmgfaoaaDoorW.PrintMore
attribute [local go_sem] max2_int min2_int max_two min_two max_three min_three max_four min_four   -- for this text's walks alone
set_option linter.unusedVariables false
set_option linter.unusedSimpArgs false

/-! ### spec_VerGeneric: function 41 -/
mutual
def spec_VerGeneric.j0 : Nat → List ByteArray → Bool → Bool → ByteArray → ByteArray → Option (List Int × Bool × ByteArray × ByteArray × Bool × Bool)
 | 0, _, _, _, _, _ => none
 | k + 1, x5, x29, x119001, x119002, x119003 => if x29 = true then (some (([] : List Int), false, (⟨#[]⟩ : ByteArray), (⟨#[]⟩ : ByteArray), false, true)) else (spec_VerGeneric.l0 k x5 0 ([] : List Int) x119001 x119002 x119003)
def spec_VerGeneric.l0 : Nat → List ByteArray → Int → List Int → Bool → ByteArray → ByteArray → Option (List Int × Bool × ByteArray × ByteArray × Bool × Bool)
 | 0, _, _, _, _, _, _ => none
 | k + 1, x5, x7, x119000, x119001, x119002, x119003 => if x7 < (x5.length : Int) then (if 0 ≤ x7 then ((spec_VerUint.f k (rdOf ByteArray.empty x5 x7)).bind fun bt128 => (if bt128.2 = true then (if x119000.length < 17592186044416 then (spec_VerGeneric.l0 k x5 (wrap64 (x7 + 1)) (x119000 ++ [bt128.1]) x119001 x119002 x119003) else (none)) else (some (([] : List Int), false, (⟨#[]⟩ : ByteArray), (⟨#[]⟩ : ByteArray), false, true)))) else (none)) else (some (x119000, x119001, x119002, x119003, true, true))
end
def spec_VerGeneric.f (k : Nat) (a0 : ByteArray) : Option (List Int × Bool × ByteArray × ByteArray × Bool × Bool) := (spec_verAhead.f k a0).bind fun t119 => ((spec_verFields.f k t119).bind fun bt120 => ((spec_verPlace.f k bt120.2 10).bind fun t124 => (if t124 ≥ 0 then (some (([] : List Int), false, (⟨#[]⟩ : ByteArray), (⟨#[]⟩ : ByteArray), false, false)) else (if (bt120.1.length : Int) < 2 then (spec_VerGeneric.j0 k bt120.1 true false (⟨#[]⟩ : ByteArray) (⟨#[]⟩ : ByteArray)) else (if 0 < (bt120.1.length : Int) then ((spec_VerPlainly.f (rdOf ByteArray.empty bt120.1 0)).bind fun t126 => (spec_VerGeneric.j0 k bt120.1 (!t126) false (⟨#[]⟩ : ByteArray) (⟨#[]⟩ : ByteArray))) else (none))))))
theorem spec_VerGeneric.mono_l : ∀ k, (∀ y0 y1 y2 y3 y4, LeO (spec_VerGeneric.j0 k y0 y1 y2 y3 y4) (spec_VerGeneric.j0 (k + 1) y0 y1 y2 y3 y4)) ∧ (∀ y0 y1 y2 y3 y4 y5, LeO (spec_VerGeneric.l0 k y0 y1 y2 y3 y4 y5) (spec_VerGeneric.l0 (k + 1) y0 y1 y2 y3 y4 y5))
 | 0 => ⟨fun _ _ _ _ _ r h => by simp [spec_VerGeneric.j0] at h, fun _ _ _ _ _ _ r h => by simp [spec_VerGeneric.l0] at h⟩
 | k + 1 => by
  obtain ⟨ih0, ih1⟩ := spec_VerGeneric.mono_l k
  refine ⟨?_, ?_⟩
  ·
   intro y0 y1 y2 y3 y4
   unfold spec_VerGeneric.j0
   repeat' first
   | (with_reducible exact ih0 _ _ _ _ _)
   | (with_reducible exact ih1 _ _ _ _ _ _)
   | (with_reducible exact spec_VerUint.mono _ _)
   | (with_reducible exact spec_verAhead.mono _ _)
   | (with_reducible exact spec_verFields.mono _ _)
   | (with_reducible exact spec_verPlace.mono _ _ _)
   | (with_reducible exact LeO.refl _)
   | (with_reducible exact LeO.none _)
   | (with_reducible refine LeO.ite ?_ ?_)
   | (with_reducible refine LeO.bind ?_ (fun _ => ?_))
   | exact ih0 _ _ _ _ _
   | exact ih1 _ _ _ _ _ _
   | exact spec_VerUint.mono _ _
   | exact spec_verAhead.mono _ _
   | exact spec_verFields.mono _ _
   | exact spec_verPlace.mono _ _ _
   | exact LeO.none _
   | refine LeO.ite ?_ ?_
   | refine LeO.bind ?_ (fun _ => ?_)
  ·
   intro y0 y1 y2 y3 y4 y5
   unfold spec_VerGeneric.l0
   repeat' first
   | (with_reducible exact ih0 _ _ _ _ _)
   | (with_reducible exact ih1 _ _ _ _ _ _)
   | (with_reducible exact spec_VerUint.mono _ _)
   | (with_reducible exact spec_verAhead.mono _ _)
   | (with_reducible exact spec_verFields.mono _ _)
   | (with_reducible exact spec_verPlace.mono _ _ _)
   | (with_reducible exact LeO.refl _)
   | (with_reducible exact LeO.none _)
   | (with_reducible refine LeO.ite ?_ ?_)
   | (with_reducible refine LeO.bind ?_ (fun _ => ?_))
   | exact ih0 _ _ _ _ _
   | exact ih1 _ _ _ _ _ _
   | exact spec_VerUint.mono _ _
   | exact spec_verAhead.mono _ _
   | exact spec_verFields.mono _ _
   | exact spec_verPlace.mono _ _ _
   | exact LeO.none _
   | refine LeO.ite ?_ ?_
   | refine LeO.bind ?_ (fun _ => ?_)
theorem spec_VerGeneric.mono : ∀ a0 k, LeO (spec_VerGeneric.f k a0) (spec_VerGeneric.f (k + 1) a0) := by
 intro a0 k
 obtain ⟨ih0, ih1⟩ := spec_VerGeneric.mono_l k
 unfold spec_VerGeneric.f
 repeat' first
   | (with_reducible exact ih0 _ _ _ _ _)
   | (with_reducible exact ih1 _ _ _ _ _ _)
   | (with_reducible exact spec_VerUint.mono _ _)
   | (with_reducible exact spec_verAhead.mono _ _)
   | (with_reducible exact spec_verFields.mono _ _)
   | (with_reducible exact spec_verPlace.mono _ _ _)
   | (with_reducible exact LeO.refl _)
   | (with_reducible exact LeO.none _)
   | (with_reducible refine LeO.ite ?_ ?_)
   | (with_reducible refine LeO.bind ?_ (fun _ => ?_))
   | exact ih0 _ _ _ _ _
   | exact ih1 _ _ _ _ _ _
   | exact spec_VerUint.mono _ _
   | exact spec_verAhead.mono _ _
   | exact spec_verFields.mono _ _
   | exact spec_verPlace.mono _ _ _
   | exact LeO.none _
   | refine LeO.ite ?_ ?_
   | refine LeO.bind ?_ (fun _ => ?_)
set_option maxHeartbeats 8000000 in
set_option maxRecDepth 100000 in
theorem spec_VerGeneric.calls (k : Nat) (a0 : ByteArray) (r1 : List Int) (r2 : Bool) (r3 : ByteArray) (r4 : ByteArray) (r5 : Bool) (r6 : Bool) (w : World) (h : spec_VerGeneric.f k a0 = some (r1, r2, r3, r4, r5, r6)) :
  Calls Tryd.prog 41 #[.string a0] w fun e w' => ∃ v0_ : Value, e = .returned (.tuple #[.agg #[v0_, .bool r2, .string r3, .string r4], .bool r5, .bool r6]) ∧ Kd.R (Kd.int .u64) 22 w' w.heap.size (fun _ => True) v0_ r1 ∧ Below w.heap.size w w' := by
 have hu26 := Tryd.underlying26
 have HB := aM_ (Below.refl w.heap.size w)
 have H : ((spec_verAhead.f k a0).bind fun t119 => ((spec_verFields.f k t119).bind fun bt120 => ((spec_verPlace.f k bt120.2 10).bind fun t124 => (if t124 ≥ 0 then (some (([] : List Int), false, (⟨#[]⟩ : ByteArray), (⟨#[]⟩ : ByteArray), false, false)) else (if (bt120.1.length : Int) < 2 then (spec_VerGeneric.j0 k bt120.1 true false (⟨#[]⟩ : ByteArray) (⟨#[]⟩ : ByteArray)) else (if 0 < (bt120.1.length : Int) then ((spec_VerPlainly.f (rdOf ByteArray.empty bt120.1 0)).bind fun t126 => (spec_VerGeneric.j0 k bt120.1 (!t126) false (⟨#[]⟩ : ByteArray) (⟨#[]⟩ : ByteArray))) else (none))))))) = some (r1, r2, r3, r4, r5, r6) := h
 clear h
 replace H := Option.bind_eq_some_iff.mp H
 obtain ⟨t119, A20, H⟩ := H
 replace H : ((spec_verFields.f k t119).bind fun bt120 => ((spec_verPlace.f k bt120.2 10).bind fun t124 => (if t124 ≥ 0 then (some (([] : List Int), false, (⟨#[]⟩ : ByteArray), (⟨#[]⟩ : ByteArray), false, false)) else (if (bt120.1.length : Int) < 2 then (spec_VerGeneric.j0 k bt120.1 true false (⟨#[]⟩ : ByteArray) (⟨#[]⟩ : ByteArray)) else (if 0 < (bt120.1.length : Int) then ((spec_VerPlainly.f (rdOf ByteArray.empty bt120.1 0)).bind fun t126 => (spec_VerGeneric.j0 k bt120.1 (!t126) false (⟨#[]⟩ : ByteArray) (⟨#[]⟩ : ByteArray))) else (none)))))) = some (r1, r2, r3, r4, r5, r6) := H
 have A2 := aM_ A20
 clear A20
 replace H := Option.bind_eq_some_iff.mp H
 obtain ⟨⟨t120, t121⟩, A30, H⟩ := H
 replace H : ((spec_verPlace.f k t121 10).bind fun t124 => (if t124 ≥ 0 then (some (([] : List Int), false, (⟨#[]⟩ : ByteArray), (⟨#[]⟩ : ByteArray), false, false)) else (if (t120.length : Int) < 2 then (spec_VerGeneric.j0 k t120 true false (⟨#[]⟩ : ByteArray) (⟨#[]⟩ : ByteArray)) else (if 0 < (t120.length : Int) then ((spec_VerPlainly.f (rdOf ByteArray.empty t120 0)).bind fun t126 => (spec_VerGeneric.j0 k t120 (!t126) false (⟨#[]⟩ : ByteArray) (⟨#[]⟩ : ByteArray))) else (none))))) = some (r1, r2, r3, r4, r5, r6) := H
 have A3 := aM_ A30
 clear A30
 replace H := Option.bind_eq_some_iff.mp H
 obtain ⟨t124, A40, H⟩ := H
 replace H : (if t124 ≥ 0 then (some (([] : List Int), false, (⟨#[]⟩ : ByteArray), (⟨#[]⟩ : ByteArray), false, false)) else (if (t120.length : Int) < 2 then (spec_VerGeneric.j0 k t120 true false (⟨#[]⟩ : ByteArray) (⟨#[]⟩ : ByteArray)) else (if 0 < (t120.length : Int) then ((spec_VerPlainly.f (rdOf ByteArray.empty t120 0)).bind fun t126 => (spec_VerGeneric.j0 k t120 (!t126) false (⟨#[]⟩ : ByteArray) (⟨#[]⟩ : ByteArray))) else (none)))) = some (r1, r2, r3, r4, r5, r6) := H
 have A4 := aM_ A40
 clear A40
 by_cases c5 : t124 ≥ 0
 ·
  rw [if_pos c5] at H
  have c5b0 : decide (0 ≤ t124) = true := decide_eq_true c5
  clear c5
  simp only [Option.some.injEq, Prod.mk.injEq] at H
  obtain ⟨rfl, rfl, rfl, rfl, rfl, rfl⟩ := H
  go_enter Tryd.func41, Tryd.ntmps41
  go_wp2_with (first | ((with_reducible refine gate_dst (N := 2) rfl ?_); refine box_event ?hg (N := 2) ?hd (cs := #[.slice none 0 0, .bool false, .string (⟨#[]⟩ : ByteArray), .string (⟨#[]⟩ : ByteArray)]) (t := 26) ?hr ?_; (case hd => rfl); (case hg => rfl); (case hr => first | (go_simp; done) | (go_simp; rfl)); intro gb118 hg w6 hbox hb; have n0_ := aM_ (below_step (by repeat (first | (with_reducible first | exact HB.out | apply bB_ | apply wN_ | apply bE_) | exact HB.out)) hb); have n1_ := aM_ (hbox); have n2_ := aM_ ((by rw [hg]; exact (below_size (by repeat (first | (with_reducible first | exact HB.out | apply bB_ | apply wN_ | apply bE_) | exact HB.out))) : w.heap.size ≤ gb118)); have n3_ := aM_ ((by rw [hg]; exact (below_size (by repeat (first | (with_reducible first | exact HB.out | apply bB_ | apply wN_ | apply bE_) | exact HB.out))) : w.heap.size ≤ gb118)); clear HB; have HB := n0_; have BK118 := n1_; have GW118 := n2_; have GE118 := n3_; clear n0_ n1_ n2_ n3_; clear hb hbox hg) | ((with_reducible refine gate_callee (f := 38) rfl ?_); refine goesL_ (some 12) rfl rfl Tryd.func38 (by kernel_rfl) rfl #[.string a0] rfl (by (try simp only [List.map_toArray, List.map_cons, List.map_nil]); first | done | rfl | (simp only [List.length_drop, List.length_take]; rfl)) ?_; (with_reducible refine (spec_verAhead.calls k a0 t119 _ A2.out).mono ?_); rintro e w' ⟨rfl, ⟨nd, rfl⟩⟩; refine ⟨_, rfl, ?_⟩; (try (rw [drewN_self w6]; generalize hq_ : World.drewN w6 _ = w6; have n0_ : Aside0 (w6.heap[gb118]? = some (.cells #[.slice none 0 0, .bool false, .string (⟨#[]⟩ : ByteArray), .string (⟨#[]⟩ : ByteArray)] 26 (0, 0))) := ⟨by rw [← hq_]; exact (by (with_reducible repeat (first | refine bN_ ?_ _ | refine bD_ ?_ | refine bA_ ?_ _)); exact BK118.out)⟩; have n1_ : Aside0 (Below w.heap.size w w6) := ⟨by rw [← hq_]; exact (by repeat (first | (with_reducible first | exact HB.out | apply bB_ | apply wN_ | apply bE_ | refine bS_ ?_ GE118.out) | exact HB.out))⟩; clear BK118 HB hq_; have BK118 := n0_; have HB := n1_; clear n0_ n1_))) | ((with_reducible refine gate_callee (f := 37) rfl ?_); refine goesL_ (some 13) rfl rfl Tryd.func37 (by kernel_rfl) rfl #[.string t119] rfl (by (try simp only [List.map_toArray, List.map_cons, List.map_nil]); first | done | rfl | (simp only [List.length_drop, List.length_take]; rfl)) ?_; (with_reducible refine (spec_verFields.calls k t119 t120 t121 _ A3.out).mono ?_); rintro e w7 ⟨v122, rfl, ho0, hb⟩; refine ⟨_, rfl, ?_⟩; have n0_ := aM_ (Kd.R_lower ho0 (below_size (by repeat (first | (with_reducible first | exact HB.out | apply bB_ | apply wN_ | apply bE_ | refine bS_ ?_ GE118.out) | exact HB.out)))); have n1_ := aM_ (blk_below (g := gb118) (o := .cells #[.slice none 0 0, .bool false, .string (⟨#[]⟩ : ByteArray), .string (⟨#[]⟩ : ByteArray)] 26 (0, 0)) (by (with_reducible repeat (first | refine bN_ ?_ _ | refine bD_ ?_ | refine bA_ ?_ _)); exact BK118.out) hb); have n2_ := aM_ (below_step (by repeat (first | (with_reducible first | exact HB.out | apply bB_ | apply wN_ | apply bE_ | refine bS_ ?_ GE118.out) | exact HB.out)) hb); clear BK118; clear HB; have HO123 := n0_; have BK118 := n1_; have HB := n2_; clear n0_ n1_ n2_; (try clear hb); (try clear hb2); (try clear hk); (try clear hi); (try clear ho0)) | ((with_reducible refine gate_callee (f := 39) rfl ?_); refine goesL_ (some 17) rfl rfl Tryd.func39 (by kernel_rfl) rfl #[.string t121, .int .u8 10] rfl (by (try simp only [List.map_toArray, List.map_cons, List.map_nil]); first | done | rfl | (simp only [List.length_drop, List.length_take]; rfl)) ?_; (with_reducible refine (spec_verPlace.calls k t121 10 t124 _ A4.out).mono ?_); rintro e w' ⟨rfl, ⟨nd, rfl⟩⟩; refine ⟨_, rfl, ?_⟩; (try (rw [drewN_self w7]; generalize hq_ : World.drewN w7 _ = w7; have n0_ : Aside0 (Kd.R Kd.string 9 w7 w.heap.size (fun _ => True) v122 t120) := ⟨by rw [← hq_]; exact (by (with_reducible repeat (first | apply kA_ | apply kN_ | apply kD_)); exact HO123.out)⟩; have n1_ : Aside0 (w7.heap[gb118]? = some (.cells #[.slice none 0 0, .bool false, .string (⟨#[]⟩ : ByteArray), .string (⟨#[]⟩ : ByteArray)] 26 (0, 0))) := ⟨by rw [← hq_]; exact (by (with_reducible repeat (first | refine bN_ ?_ _ | refine bD_ ?_ | refine bA_ ?_ _)); exact BK118.out)⟩; have n2_ : Aside0 (Below w.heap.size w w7) := ⟨by rw [← hq_]; exact (by repeat (first | (with_reducible first | exact HB.out | apply bB_ | apply wN_ | apply bE_ | refine bS_ ?_ GE118.out) | exact HB.out))⟩; clear HO123 BK118 HB hq_; have HO123 := n0_; have BK118 := n1_; have HB := n2_; clear n0_ n1_ n2_)); have hcz8_0 : w7.cell? ⟨gb118, 0, none⟩ = some (.slice none 0 0) := (bC_ BK118.out 0).trans rfl; have hcz8_1 : w7.cell? ⟨gb118, 1, none⟩ = some (.bool false) := (bC_ BK118.out 1).trans rfl; have hcz8_2 : w7.cell? ⟨gb118, 2, none⟩ = some (.string (⟨#[]⟩ : ByteArray)) := (bC_ BK118.out 2).trans rfl; have hcz8_3 : w7.cell? ⟨gb118, 3, none⟩ = some (.string (⟨#[]⟩ : ByteArray)) := (bC_ BK118.out 3).trans rfl; have hfz8_0 := bF_ BK118.out 0; have hfz8_1 := bF_ BK118.out 1; have hfz8_2 := bF_ BK118.out 2; have hfz8_3 := bF_ BK118.out 3))
  refine bodyPost_ret (results_ctt rfl _ _ gb118 26 #[.slice none 0 0, .bool false, .string (⟨#[]⟩ : ByteArray), .string (⟨#[]⟩ : ByteArray)] (0, 0) _ rfl (by (with_reducible repeat (first | refine bN_ ?_ _ | refine bD_ ?_ | refine bA_ ?_ _)); refine blk_put (cs := #[.slice none 0 0, .bool false, .string (⟨#[]⟩ : ByteArray), .string (⟨#[]⟩ : ByteArray)]) ?_ 3 _ rfl; (with_reducible repeat (first | refine bN_ ?_ _ | refine bD_ ?_ | refine bA_ ?_ _)); refine blk_put (cs := #[.slice none 0 0, .bool false, .string (⟨#[]⟩ : ByteArray), .string (⟨#[]⟩ : ByteArray)]) ?_ 2 _ rfl; (with_reducible repeat (first | refine bN_ ?_ _ | refine bD_ ?_ | refine bA_ ?_ _)); refine blk_put (cs := #[.slice none 0 0, .bool false, .string (⟨#[]⟩ : ByteArray), .string (⟨#[]⟩ : ByteArray)]) ?_ 1 _ rfl; (with_reducible repeat (first | refine bN_ ?_ _ | refine bD_ ?_ | refine bA_ ?_ _)); refine blk_put (cs := #[.slice none 0 0, .bool false, .string (⟨#[]⟩ : ByteArray), .string (⟨#[]⟩ : ByteArray)]) ?_ 0 _ rfl; (with_reducible repeat (first | refine bN_ ?_ _ | refine bD_ ?_ | refine bA_ ?_ _)); exact BK118.out) Tryd.underlying26 rfl (by kernel_rfl)) rfl ?_
  exact ⟨_, by first | rfl | (simp [errW_none, errW_some] <;> rfl) | (simp [*, errW_none, errW_some] <;> rfl), by first | exact Kd.R_nil _ _ _ _ _ | exact Kd.N_nil _ _ _ _ _ | exact Kd.V_nil _ _ _ _ _ | exact Kd.Q_nil _ _ _ _ _ | exact Kd.S_nil _ _ _ _ _, by repeat (first | (with_reducible first | exact HB.out | apply bB_ | apply wN_ | apply bE_ | refine bS_ ?_ GE118.out) | exact HB.out)⟩
 ·
  rw [if_neg c5] at H
  have c5b0 : decide (0 ≤ t124) = false := decide_eq_false c5
  clear c5
  have HC9 := aM_ H
  clear H
  go_enter Tryd.func41, Tryd.ntmps41
  go_upto_region 4 with (first | ((with_reducible refine gate_dst (N := 2) rfl ?_); refine box_event ?hg (N := 2) ?hd (cs := #[.slice none 0 0, .bool false, .string (⟨#[]⟩ : ByteArray), .string (⟨#[]⟩ : ByteArray)]) (t := 26) ?hr ?_; (case hd => rfl); (case hg => rfl); (case hr => first | (go_simp; done) | (go_simp; rfl)); intro gb118 hg w10 hbox hb; have n0_ := aM_ (below_step (by repeat (first | (with_reducible first | exact HB.out | apply bB_ | apply wN_ | apply bE_) | exact HB.out)) hb); have n1_ := aM_ (hbox); have n2_ := aM_ ((by rw [hg]; exact (below_size (by repeat (first | (with_reducible first | exact HB.out | apply bB_ | apply wN_ | apply bE_) | exact HB.out))) : w.heap.size ≤ gb118)); have n3_ := aM_ ((by rw [hg]; exact (below_size (by repeat (first | (with_reducible first | exact HB.out | apply bB_ | apply wN_ | apply bE_) | exact HB.out))) : w.heap.size ≤ gb118)); clear HB; have HB := n0_; have BK118 := n1_; have GW118 := n2_; have GE118 := n3_; clear n0_ n1_ n2_ n3_; clear hb hbox hg) | ((with_reducible refine gate_callee (f := 38) rfl ?_); refine goesL_ (some 12) rfl rfl Tryd.func38 (by kernel_rfl) rfl #[.string a0] rfl (by (try simp only [List.map_toArray, List.map_cons, List.map_nil]); first | done | rfl | (simp only [List.length_drop, List.length_take]; rfl)) ?_; (with_reducible refine (spec_verAhead.calls k a0 t119 _ A2.out).mono ?_); rintro e w' ⟨rfl, ⟨nd, rfl⟩⟩; refine ⟨_, rfl, ?_⟩) | ((with_reducible refine gate_callee (f := 37) rfl ?_); refine goesL_ (some 13) rfl rfl Tryd.func37 (by kernel_rfl) rfl #[.string t119] rfl (by (try simp only [List.map_toArray, List.map_cons, List.map_nil]); first | done | rfl | (simp only [List.length_drop, List.length_take]; rfl)) ?_; (with_reducible refine (spec_verFields.calls k t119 t120 t121 _ A3.out).mono ?_); rintro e w11 ⟨v122, rfl, ho0, hb⟩; refine ⟨_, rfl, ?_⟩; have n0_ := aM_ (Kd.R_lower ho0 (below_size (by repeat (first | (with_reducible first | exact HB.out | apply bB_ | apply wN_ | apply bE_ | refine bS_ ?_ GE118.out) | exact HB.out)))); have n1_ := aM_ (blk_below (g := gb118) (o := .cells #[.slice none 0 0, .bool false, .string (⟨#[]⟩ : ByteArray), .string (⟨#[]⟩ : ByteArray)] 26 (0, 0)) (by (with_reducible repeat (first | refine bN_ ?_ _ | refine bD_ ?_ | refine bA_ ?_ _)); exact BK118.out) hb); have n2_ := aM_ (below_step (by repeat (first | (with_reducible first | exact HB.out | apply bB_ | apply wN_ | apply bE_ | refine bS_ ?_ GE118.out) | exact HB.out)) hb); clear BK118; clear HB; have HO123 := n0_; have BK118 := n1_; have HB := n2_; clear n0_ n1_ n2_; (try clear hb); (try clear hb2); (try clear hk); (try clear hi); (try clear ho0)) | ((with_reducible refine gate_callee (f := 39) rfl ?_); refine goesL_ (some 17) rfl rfl Tryd.func39 (by kernel_rfl) rfl #[.string t121, .int .u8 10] rfl (by (try simp only [List.map_toArray, List.map_cons, List.map_nil]); first | done | rfl | (simp only [List.length_drop, List.length_take]; rfl)) ?_; (with_reducible refine (spec_verPlace.calls k t121 10 t124 _ A4.out).mono ?_); rintro e w' ⟨rfl, ⟨nd, rfl⟩⟩; refine ⟨_, rfl, ?_⟩))
  (try simp only [Act.put, List.setIfInBounds_toArray, List.set_cons_zero, List.set_cons_succ])
  go_cut [29] (fun v29 wc => ∃ (kq : Nat) (x29_8 : Bool), v29 = .bool x29_8 ∧ Aside0 (spec_VerGeneric.j0 kq t120 x29_8 false (⟨#[]⟩ : ByteArray) (⟨#[]⟩ : ByteArray) = some (r1, r2, r3, r4, r5, r6)) ∧ Aside0 (kq ≤ k) ∧ Aside0 (Kd.R Kd.string 9 wc w.heap.size (fun _ => True) v122 t120) ∧ Aside0 (wc.heap[gb118]? = some (.cells #[(.slice none 0 0), .bool false, .string (⟨#[]⟩ : ByteArray), .string (⟨#[]⟩ : ByteArray)] 26 (0, 0))) ∧ Aside0 (Below w.heap.size w wc))
  case first =>
   have H := HC9.out
   clear HC9
   by_cases c12 : (t120.length : Int) < 2
   ·
    rw [if_pos c12] at H
    have c12b0 : decide ((t120.length : Int) < 2) = true := decide_eq_true c12
    have c12b1 : decide (t120.length < 2) = true := decide_eq_true (by omega)
    clear c12
    (first | rw [c12b0] | (simp only [i64_w, i32_w]; rw [c12b0]) | skip)
    have H' := aM_ H
    clear H
    obtain ⟨Ao13, co13, eo13⟩ := Kd.R_slice HO123.out
    subst eo13
    go_wp2
    go_meet
    case rel => exact ⟨_, (true), (by first | rfl | (simp; done) | (simp [*]; done)), H', ⟨by first | omega | exact Nat.le_refl _⟩, ⟨by (with_reducible repeat (first | apply kA_ | apply kN_ | apply kD_)); exact HO123.out⟩, ⟨by (with_reducible repeat (first | refine bN_ ?_ _ | refine bD_ ?_ | refine bA_ ?_ _)); exact BK118.out⟩, ⟨by repeat (first | (with_reducible first | exact HB.out | apply bB_ | apply wN_ | apply bE_ | refine bS_ ?_ GE118.out) | exact HB.out)⟩⟩
   ·
    rw [if_neg c12] at H
    have c12b0 : decide ((t120.length : Int) < 2) = false := decide_eq_false c12
    have c12b1 : decide (t120.length < 2) = false := decide_eq_false (by omega)
    clear c12
    (first | rw [c12b0] | (simp only [i64_w, i32_w]; rw [c12b0]) | skip)
    by_cases c14 : 0 < (t120.length : Int)
    ·
     rw [if_pos c14] at H
     have c14b0 : decide (0 < (t120.length : Int)) = true := decide_eq_true c14
     have c14b1 : decide (0 < t120.length) = true := decide_eq_true (by omega)
     clear c14
     replace H := Option.bind_eq_some_iff.mp H
     obtain ⟨t126, A150, H⟩ := H
     replace H : (spec_VerGeneric.j0 k t120 (!t126) false (⟨#[]⟩ : ByteArray) (⟨#[]⟩ : ByteArray)) = some (r1, r2, r3, r4, r5, r6) := H
     have A15 := aM_ A150
     clear A150
     have H' := aM_ H
     clear H
     obtain ⟨Ao16, co16, eo16⟩ := Kd.R_slice HO123.out
     subst eo16
     have p125 : 0 ≤ (0 : Int) := (by omega)
     have q125 : 0 < (t120.length : Int) := of_decide_eq_true (by first | (with_reducible assumption) | assumption)
     obtain ⟨ad125, e125, hx125_0⟩ := Kd.at_string (Kd.R_reads' HO123.out).2.2 0 p125 q125
     cases e125
     have qi125 : (0 < t120.length) = True := eq_true (by omega)
     (try rw [show ((0 : Int)).toNat = 0 from rfl] at hx125_0)
     (try rw [Addr.add_zero'] at hx125_0)
     replace p125 := eq_true p125
     replace q125 := eq_true q125
     go_wp2_with (first | (go_at_call 34; (with_reducible refine (spec_VerPlainly.calls (rdOf ByteArray.empty t120 0) t126 _ A15.out).mono ?_); rintro e w' ⟨rfl, ⟨nd, rfl⟩⟩))
     go_meet
     case rel => exact ⟨_, (!t126), (by first | rfl | (simp; done) | (simp [*]; done)), H', ⟨by first | omega | exact Nat.le_refl _⟩, ⟨by (with_reducible repeat (first | apply kA_ | apply kN_ | apply kD_)); exact HO123.out⟩, ⟨by (with_reducible repeat (first | refine bN_ ?_ _ | refine bD_ ?_ | refine bA_ ?_ _)); exact BK118.out⟩, ⟨by repeat (first | (with_reducible first | exact HB.out | apply bB_ | apply wN_ | apply bE_ | refine bS_ ?_ GE118.out) | exact HB.out)⟩⟩
    ·
     rw [if_neg c14] at H
     exact absurd H (by simp)
  case rest =>
   clear HC9
   try clear c1
   try clear p1
   try clear q1
   try clear hx1
   try clear qi1
   try clear p2
   try clear c3
   try clear c4
   try clear c5
   try clear c5b0
   try clear c12
   try clear c12b0
   try clear c12b1
   try clear p12
   try clear q12
   try clear hx12
   try clear qi12
   try clear c14
   try clear c14b0
   try clear c14b1
   try clear hcz8_0
   try clear hcz8_1
   try clear hcz8_2
   try clear hcz8_3
   try clear hfz8_0
   try clear hfz8_1
   try clear hfz8_2
   try clear hfz8_3
   try clear hx125_0
   try clear p125
   try clear q125
   obtain ⟨kq, x29_8, rfl, HA, HJ8, HO_5, BK118, HB⟩ := hcut
   cases kq with
   | zero => exact absurd HA.out (by simp [spec_VerGeneric.j0])
   | succ kj8 =>
    have H := HA.out
    clear HA
    simp only [spec_VerGeneric.j0] at H
    by_cases c17 : x29_8 = true
    ·
     subst c17
     have H1 : (some (([] : List Int), false, (⟨#[]⟩ : ByteArray), (⟨#[]⟩ : ByteArray), false, true)) = some (r1, r2, r3, r4, r5, r6) := by rw [if_pos rfl] at H; exact H
     clear H
     have H := H1
     clear H1
     simp only [Option.some.injEq, Prod.mk.injEq] at H
     obtain ⟨rfl, rfl, rfl, rfl, rfl, rfl⟩ := H
     have hcz18_0 : wc.cell? ⟨gb118, 0, none⟩ = some (.slice none 0 0) := (bC_ BK118.out 0).trans rfl
     have hcz18_1 : wc.cell? ⟨gb118, 1, none⟩ = some (.bool false) := (bC_ BK118.out 1).trans rfl
     have hcz18_2 : wc.cell? ⟨gb118, 2, none⟩ = some (.string (⟨#[]⟩ : ByteArray)) := (bC_ BK118.out 2).trans rfl
     have hcz18_3 : wc.cell? ⟨gb118, 3, none⟩ = some (.string (⟨#[]⟩ : ByteArray)) := (bC_ BK118.out 3).trans rfl
     have hfz18_0 := bF_ BK118.out 0
     have hfz18_1 := bF_ BK118.out 1
     have hfz18_2 := bF_ BK118.out 2
     have hfz18_3 := bF_ BK118.out 3
     go_wp2
     refine bodyPost_ret (results_ctt rfl _ _ gb118 26 #[.slice none 0 0, .bool false, .string (⟨#[]⟩ : ByteArray), .string (⟨#[]⟩ : ByteArray)] (0, 0) _ rfl (by (with_reducible repeat (first | refine bN_ ?_ _ | refine bD_ ?_ | refine bA_ ?_ _)); refine blk_put (cs := #[.slice none 0 0, .bool false, .string (⟨#[]⟩ : ByteArray), .string (⟨#[]⟩ : ByteArray)]) ?_ 3 _ rfl; (with_reducible repeat (first | refine bN_ ?_ _ | refine bD_ ?_ | refine bA_ ?_ _)); refine blk_put (cs := #[.slice none 0 0, .bool false, .string (⟨#[]⟩ : ByteArray), .string (⟨#[]⟩ : ByteArray)]) ?_ 2 _ rfl; (with_reducible repeat (first | refine bN_ ?_ _ | refine bD_ ?_ | refine bA_ ?_ _)); refine blk_put (cs := #[.slice none 0 0, .bool false, .string (⟨#[]⟩ : ByteArray), .string (⟨#[]⟩ : ByteArray)]) ?_ 1 _ rfl; (with_reducible repeat (first | refine bN_ ?_ _ | refine bD_ ?_ | refine bA_ ?_ _)); refine blk_put (cs := #[.slice none 0 0, .bool false, .string (⟨#[]⟩ : ByteArray), .string (⟨#[]⟩ : ByteArray)]) ?_ 0 _ rfl; (with_reducible repeat (first | refine bN_ ?_ _ | refine bD_ ?_ | refine bA_ ?_ _)); exact BK118.out) Tryd.underlying26 rfl (by kernel_rfl)) rfl ?_
     exact ⟨_, by first | rfl | (simp [errW_none, errW_some] <;> rfl) | (simp [*, errW_none, errW_some] <;> rfl), by first | exact Kd.R_nil _ _ _ _ _ | exact Kd.N_nil _ _ _ _ _ | exact Kd.V_nil _ _ _ _ _ | exact Kd.Q_nil _ _ _ _ _ | exact Kd.S_nil _ _ _ _ _, by repeat (first | (with_reducible first | exact HB.out | apply bB_ | apply wN_ | apply bE_ | refine bS_ ?_ GE118.out) | exact HB.out)⟩
    ·
     replace c17 := Bool.eq_false_iff.mpr c17
     subst c17
     have H1 : (spec_VerGeneric.l0 kj8 t120 0 ([] : List Int) false (⟨#[]⟩ : ByteArray) (⟨#[]⟩ : ByteArray)) = some (r1, r2, r3, r4, r5, r6) := by rw [if_neg (show ¬ (false = true) by decide)] at H; exact H
     clear H
     have H := H1
     clear H1
     have H' := aM_ H
     clear H
     go_wp2
     go_loopg [7] kj8 (fun kq v7 w' => ∃ (x7_2 : Int) (x119000_2 : List Int) (x119001_2 : Bool) (x119002_2 : ByteArray) (x119003_2 : ByteArray) (u119000 : Value), v7 = .int .i64 x7_2 ∧ Aside0 (spec_VerGeneric.l0 kq t120 x7_2 x119000_2 x119001_2 x119002_2 x119003_2 = some (r1, r2, r3, r4, r5, r6)) ∧ Aside0 (kq ≤ kj8) ∧ Aside0 (Kd.R Kd.string 9 w' w.heap.size (fun _ => True) v122 t120) ∧ Aside0 (Kd.R (Kd.int .u64) 22 w' w.heap.size (fun _ => True) u119000 x119000_2) ∧ Aside0 (w'.heap[gb118]? = some (.cells #[u119000, .bool x119001_2, .string x119002_2, .string x119003_2] 26 (0, 0))) ∧ Aside0 (Below w.heap.size w w'))
     case atStart => exact ⟨(0), (([] : List Int)), (false), ((⟨#[]⟩ : ByteArray)), ((⟨#[]⟩ : ByteArray)), (.slice none 0 0), (by first | rfl | (simp; done) | (simp [*]; done)), H', ⟨Nat.le_refl _⟩, ⟨by (with_reducible repeat (first | apply kA_ | apply kN_ | apply kD_)); exact HO_5.out⟩, ⟨by first | exact Kd.R_nil _ _ _ _ _ | exact Kd.N_nil _ _ _ _ _ | exact Kd.V_nil _ _ _ _ _ | exact Kd.Q_nil _ _ _ _ _ | exact Kd.S_nil _ _ _ _ _⟩, ⟨by (with_reducible repeat (first | refine bN_ ?_ _ | refine bD_ ?_ | refine bA_ ?_ _)); exact BK118.out⟩, ⟨by repeat (first | (with_reducible first | exact HB.out | apply bB_ | apply wN_ | apply bE_ | refine bS_ ?_ GE118.out) | exact HB.out)⟩⟩
     case round =>
      clear H'
      try clear c1
      try clear p1
      try clear q1
      try clear hx1
      try clear qi1
      try clear p2
      try clear c3
      try clear c4
      try clear c5
      try clear c5b0
      try clear c12
      try clear c12b0
      try clear c12b1
      try clear p12
      try clear q12
      try clear hx12
      try clear qi12
      try clear c14
      try clear c14b0
      try clear c14b1
      try clear c17
      try clear hcz18_0
      try clear hcz18_1
      try clear hcz18_2
      try clear hcz18_3
      try clear hcz8_0
      try clear hcz8_1
      try clear hcz8_2
      try clear hcz8_3
      try clear hfz18_0
      try clear hfz18_1
      try clear hfz18_2
      try clear hfz18_3
      try clear hfz8_0
      try clear hfz8_1
      try clear hfz8_2
      try clear hfz8_3
      try clear hx125_0
      try clear p1
      try clear p12
      try clear p125
      try clear p2
      try clear q1
      try clear q12
      try clear q125
      obtain ⟨x7_2, x119000_2, x119001_2, x119002_2, x119003_2, u119000, rfl, HA, HK2, HO_5, HO_119000, BK118, HB⟩ := hrel
      cases gk with
      | zero => exact absurd HA.out (by simp [spec_VerGeneric.l0])
      | succ k2 =>
       have H := HA.out
       clear HA
       simp only [spec_VerGeneric.l0] at H
       by_cases c19 : x7_2 < (t120.length : Int)
       ·
        rw [if_pos c19] at H
        have c19b0 : decide (x7_2 < (t120.length : Int)) = true := decide_eq_true c19
        clear c19
        by_cases c20 : 0 ≤ x7_2
        ·
         rw [if_pos c20] at H
         have c20b0 : decide (0 ≤ x7_2) = true := decide_eq_true c20
         clear c20
         replace H := Option.bind_eq_some_iff.mp H
         obtain ⟨⟨t128, t129⟩, A210, H⟩ := H
         replace H : (if t129 = true then (if x119000_2.length < 17592186044416 then (spec_VerGeneric.l0 k2 t120 (wrap64 (x7_2 + 1)) (x119000_2 ++ [t128]) x119001_2 x119002_2 x119003_2) else (none)) else (some (([] : List Int), false, (⟨#[]⟩ : ByteArray), (⟨#[]⟩ : ByteArray), false, true))) = some (r1, r2, r3, r4, r5, r6) := H
         have A21 := aM_ A210
         clear A210
         by_cases c22 : t129 = true
         ·
          subst c22
          have H1 : (if x119000_2.length < 17592186044416 then (spec_VerGeneric.l0 k2 t120 (wrap64 (x7_2 + 1)) (x119000_2 ++ [t128]) x119001_2 x119002_2 x119003_2) else (none)) = some (r1, r2, r3, r4, r5, r6) := by rw [if_pos rfl] at H; exact H
          clear H
          have H := H1
          clear H1
          by_cases c23 : x119000_2.length < 17592186044416
          ·
           rw [if_pos c23] at H
           have LMc23 := aM_ c23
           clear c23
           obtain ⟨y130, hy130⟩ : ∃ y_ : List Int, y_ = (x119000_2 ++ [t128]) := ⟨_, rfl⟩
           replace H : (spec_VerGeneric.l0 k2 t120 (wrap64 (x7_2 + 1)) y130 x119001_2 x119002_2 x119003_2) = some (r1, r2, r3, r4, r5, r6) := by first | (rw [hy130]; with_reducible exact H) | (have H2_ := (Option.bind_some _ _).symm.trans H; rw [hy130]; with_reducible exact H2_) | (have H2_ := (Option.bind_some _ _).symm.trans H; with_reducible exact H2_) | with_reducible exact H | (rw [hy130]; exact H) | exact H
           have Ny130 := aM_ hy130
           clear hy130
           have H' := aM_ H
           clear H
           obtain ⟨Ao24, co24, eo24⟩ := Kd.R_slice HO_5.out
           subst eo24
           have p127 : 0 ≤ (x7_2 : Int) := of_decide_eq_true (by first | (with_reducible assumption) | assumption)
           have q127 : x7_2 < (t120.length : Int) := of_decide_eq_true (by first | (with_reducible assumption) | assumption)
           obtain ⟨ad127, e127, hx127_0⟩ := Kd.at_string (Kd.R_reads' HO_5.out).2.2 x7_2 p127 q127
           cases e127
           replace p127 := eq_true p127
           replace q127 := eq_true q127
           go_wp2_with (first | ((with_reducible refine gate_callee (f := 71) rfl ?_); refine goesL_ (some 42) rfl rfl Tryd.func71 (by kernel_rfl) rfl #[.string (rdOf ByteArray.empty t120 x7_2)] rfl (by (try simp only [List.map_toArray, List.map_cons, List.map_nil]); first | done | rfl | (simp only [List.length_drop, List.length_take]; rfl)) ?_; (with_reducible refine (spec_VerUint.calls k2 (rdOf ByteArray.empty t120 x7_2) t128 true _ A21.out).mono ?_); rintro e w' ⟨rfl, ⟨nd, rfl⟩⟩; refine ⟨_, rfl, ?_⟩; (try (rw [drewN_self wr]; generalize hq_ : World.drewN wr _ = wr; have n0_ : Aside0 (Kd.R (Kd.int .u64) 22 wr w.heap.size (fun _ => True) u119000 x119000_2) := ⟨by rw [← hq_]; exact (by (with_reducible repeat (first | apply kA_ | apply kN_ | apply kD_)); exact HO_119000.out)⟩; have n1_ : Aside0 (Kd.R Kd.string 9 wr w.heap.size (fun _ => True) (.slice (some ad127) t120.length co24) t120) := ⟨by rw [← hq_]; exact (by (with_reducible repeat (first | apply kA_ | apply kN_ | apply kD_)); exact HO_5.out)⟩; have n2_ : Aside0 (wr.heap[gb118]? = some (.cells #[u119000, .bool x119001_2, .string x119002_2, .string x119003_2] 26 (0, 0))) := ⟨by rw [← hq_]; exact (by (with_reducible repeat (first | refine bN_ ?_ _ | refine bD_ ?_ | refine bA_ ?_ _)); exact BK118.out)⟩; have n3_ : Aside0 (Below w.heap.size w wr) := ⟨by rw [← hq_]; exact (by repeat (first | (with_reducible first | exact HB.out | apply bB_ | apply wN_ | apply bE_ | refine bS_ ?_ GE118.out) | exact HB.out))⟩; clear HO_119000 HO_5 BK118 HB hq_; have HO_119000 := n0_; have HO_5 := n1_; have BK118 := n2_; have HB := n3_; clear n0_ n1_ n2_ n3_)); have hcz25_0 : wr.cell? ⟨gb118, 0, none⟩ = some (u119000) := (bC_ BK118.out 0).trans rfl; have hcz25_1 : wr.cell? ⟨gb118, 1, none⟩ = some (.bool x119001_2) := (bC_ BK118.out 1).trans rfl; have hcz25_2 : wr.cell? ⟨gb118, 2, none⟩ = some (.string x119002_2) := (bC_ BK118.out 2).trans rfl; have hcz25_3 : wr.cell? ⟨gb118, 3, none⟩ = some (.string x119003_2) := (bC_ BK118.out 3).trans rfl; have hfz25_0 := bF_ BK118.out 0; have hfz25_1 := bF_ BK118.out 1; have hfz25_2 := bF_ BK118.out 2; have hfz25_3 := bF_ BK118.out 3) | ((with_reducible refine gate_builtin (b := .append) (xs := #[.tmp 49, .tmp 51]) rfl ?_); at_builtin; refine Kd.R_append (Kd.int .u64) (w0 := w) w.heap.size rfl (.tmp 49) (.tmp 51) 24 22 (.int .u64 0) 8 rfl Tryd.underlying24 info22 rfl (by decide) (by omega) u119000 x119000_2 t128 [.int .u64 t128] (fun _ => True) (fun _ => False) rfl rfl ?aP (fun _ hk => hk.elim) ?aF ?aO ?aB ?aS ?aL ?_; (case aP => exact rfl); (case aB => exact (by repeat (first | (with_reducible first | exact HB.out | apply bB_ | apply wN_ | apply bE_ | refine bS_ ?_ GE118.out) | exact HB.out))); (case aF => exact (fun _ _ => trivial)); (case aO => exact (by (with_reducible repeat (first | apply kA_ | apply kN_ | apply kD_)); exact HO_119000.out)); (case aS => exact (below_size (by repeat (first | (with_reducible first | exact HB.out | apply bB_ | apply wN_ | apply bE_ | refine bS_ ?_ GE118.out) | exact HB.out)))); (case aL => have := LMc23.out; omega); intro v131 w26 ho hb hg hat; rw [← Ny130.out] at ho; have n0_ := aM_ (Kd.R_over' (by (with_reducible repeat (first | apply kA_ | apply kN_ | apply kD_)); exact HO_5.out) (Kd.R_typed (by (with_reducible repeat (first | apply kA_ | apply kN_ | apply kD_)); exact HO_119000.out)) (by decide) hg); have n1_ := aM_ (blk_grown (g := gb118) (o := .cells #[u119000, .bool x119001_2, .string x119002_2, .string x119003_2] 26 (0, 0)) (by (with_reducible repeat (first | refine bN_ ?_ _ | refine bD_ ?_ | refine bA_ ?_ _)); exact BK118.out) hg (Kd.R_ne HO_119000.out BK118.out (by decide))); have n2_ := aM_ (hb); have n3_ := aM_ (ho); clear HO_5; clear BK118; clear HB; clear HO_119000; have HO_5 := n0_; have BK118 := n1_; have HB := n2_; have HO132 := n3_; clear n0_ n1_ n2_ n3_; clear ho hb hg hat; obtain ⟨Ao27, co27, eo27⟩ := Kd.R_slice HO132.out; subst eo27; have hcz28_0 : w26.cell? ⟨gb118, 0, none⟩ = some (u119000) := (bC_ BK118.out 0).trans rfl; have hcz28_1 : w26.cell? ⟨gb118, 1, none⟩ = some (.bool x119001_2) := (bC_ BK118.out 1).trans rfl; have hcz28_2 : w26.cell? ⟨gb118, 2, none⟩ = some (.string x119002_2) := (bC_ BK118.out 2).trans rfl; have hcz28_3 : w26.cell? ⟨gb118, 3, none⟩ = some (.string x119003_2) := (bC_ BK118.out 3).trans rfl; have hfz28_0 := bF_ BK118.out 0; have hfz28_1 := bF_ BK118.out 1; have hfz28_2 := bF_ BK118.out 2; have hfz28_3 := bF_ BK118.out 3))
           go_roundg k2
           case measure => have := HJ8.out; have := HK2.out; omega
           case rel => exact ⟨(wrap64 (x7_2 + 1)), (y130), (x119001_2), (x119002_2), (x119003_2), (.slice Ao27 y130.length co27), (by first | rfl | (simp; done) | (simp [*]; done)), H', ⟨by have := HJ8.out; have := HK2.out; omega⟩, ⟨by (with_reducible repeat (first | apply kA_ | apply kN_ | apply kD_)); exact Kd.R_mono (Kd.R_far (p := ⟨gb118, 0, none⟩) (Kd.R_types HO_5.out BK118.out (by decide)) (fun _ hk => hk.2) (.slice Ao27 y130.length co27)) (fun _ hk => trivial)⟩, ⟨by (with_reducible repeat (first | apply kA_ | apply kN_ | apply kD_)); exact Kd.R_mono (Kd.R_far (p := ⟨gb118, 0, none⟩) (Kd.R_types HO132.out BK118.out (by decide)) (fun _ hk => hk.2) (.slice Ao27 y130.length co27)) (fun _ hk => trivial)⟩, ⟨by (with_reducible repeat (first | refine bN_ ?_ _ | refine bD_ ?_ | refine bA_ ?_ _)); refine blk_put (cs := #[u119000, .bool x119001_2, .string x119002_2, .string x119003_2]) ?_ 0 _ rfl; (with_reducible repeat (first | refine bN_ ?_ _ | refine bD_ ?_ | refine bA_ ?_ _)); exact BK118.out⟩, ⟨by repeat (first | (with_reducible first | exact HB.out | apply bB_ | apply wN_ | apply bE_ | refine bS_ ?_ GE118.out) | exact HB.out)⟩⟩
          ·
           rw [if_neg c23] at H
           exact absurd H (by simp)
         ·
          replace c22 := Bool.eq_false_iff.mpr c22
          subst c22
          have H1 : (some (([] : List Int), false, (⟨#[]⟩ : ByteArray), (⟨#[]⟩ : ByteArray), false, true)) = some (r1, r2, r3, r4, r5, r6) := by rw [if_neg (show ¬ (false = true) by decide)] at H; exact H
          clear H
          have H := H1
          clear H1
          simp only [Option.some.injEq, Prod.mk.injEq] at H
          obtain ⟨rfl, rfl, rfl, rfl, rfl, rfl⟩ := H
          obtain ⟨Ao29, co29, eo29⟩ := Kd.R_slice HO_5.out
          subst eo29
          have p127 : 0 ≤ (x7_2 : Int) := of_decide_eq_true (by first | (with_reducible assumption) | assumption)
          have q127 : x7_2 < (t120.length : Int) := of_decide_eq_true (by first | (with_reducible assumption) | assumption)
          obtain ⟨ad127, e127, hx127_0⟩ := Kd.at_string (Kd.R_reads' HO_5.out).2.2 x7_2 p127 q127
          cases e127
          replace p127 := eq_true p127
          replace q127 := eq_true q127
          go_wp2_with (first | ((with_reducible refine gate_callee (f := 71) rfl ?_); refine goesL_ (some 42) rfl rfl Tryd.func71 (by kernel_rfl) rfl #[.string (rdOf ByteArray.empty t120 x7_2)] rfl (by (try simp only [List.map_toArray, List.map_cons, List.map_nil]); first | done | rfl | (simp only [List.length_drop, List.length_take]; rfl)) ?_; (with_reducible refine (spec_VerUint.calls k2 (rdOf ByteArray.empty t120 x7_2) t128 false _ A21.out).mono ?_); rintro e w' ⟨rfl, ⟨nd, rfl⟩⟩; refine ⟨_, rfl, ?_⟩; (try (rw [drewN_self wr]; generalize hq_ : World.drewN wr _ = wr; have n0_ : Aside0 (Kd.R (Kd.int .u64) 22 wr w.heap.size (fun _ => True) u119000 x119000_2) := ⟨by rw [← hq_]; exact (by (with_reducible repeat (first | apply kA_ | apply kN_ | apply kD_)); exact HO_119000.out)⟩; have n1_ : Aside0 (Kd.R Kd.string 9 wr w.heap.size (fun _ => True) (.slice (some ad127) t120.length co29) t120) := ⟨by rw [← hq_]; exact (by (with_reducible repeat (first | apply kA_ | apply kN_ | apply kD_)); exact HO_5.out)⟩; have n2_ : Aside0 (wr.heap[gb118]? = some (.cells #[u119000, .bool x119001_2, .string x119002_2, .string x119003_2] 26 (0, 0))) := ⟨by rw [← hq_]; exact (by (with_reducible repeat (first | refine bN_ ?_ _ | refine bD_ ?_ | refine bA_ ?_ _)); exact BK118.out)⟩; have n3_ : Aside0 (Below w.heap.size w wr) := ⟨by rw [← hq_]; exact (by repeat (first | (with_reducible first | exact HB.out | apply bB_ | apply wN_ | apply bE_ | refine bS_ ?_ GE118.out) | exact HB.out))⟩; clear HO_119000 HO_5 BK118 HB hq_; have HO_119000 := n0_; have HO_5 := n1_; have BK118 := n2_; have HB := n3_; clear n0_ n1_ n2_ n3_)); have hcz30_0 : wr.cell? ⟨gb118, 0, none⟩ = some (u119000) := (bC_ BK118.out 0).trans rfl; have hcz30_1 : wr.cell? ⟨gb118, 1, none⟩ = some (.bool x119001_2) := (bC_ BK118.out 1).trans rfl; have hcz30_2 : wr.cell? ⟨gb118, 2, none⟩ = some (.string x119002_2) := (bC_ BK118.out 2).trans rfl; have hcz30_3 : wr.cell? ⟨gb118, 3, none⟩ = some (.string x119003_2) := (bC_ BK118.out 3).trans rfl; have hfz30_0 := bF_ BK118.out 0; have hfz30_1 := bF_ BK118.out 1; have hfz30_2 := bF_ BK118.out 2; have hfz30_3 := bF_ BK118.out 3))
          refine bodyPost_ret (results_ctt rfl _ _ gb118 26 #[.slice none 0 0, .bool false, .string (⟨#[]⟩ : ByteArray), .string (⟨#[]⟩ : ByteArray)] (0, 0) _ rfl (by (with_reducible repeat (first | refine bN_ ?_ _ | refine bD_ ?_ | refine bA_ ?_ _)); refine blk_put (cs := #[.slice none 0 0, .bool false, .string (⟨#[]⟩ : ByteArray), .string x119003_2]) ?_ 3 _ rfl; (with_reducible repeat (first | refine bN_ ?_ _ | refine bD_ ?_ | refine bA_ ?_ _)); refine blk_put (cs := #[.slice none 0 0, .bool false, .string x119002_2, .string x119003_2]) ?_ 2 _ rfl; (with_reducible repeat (first | refine bN_ ?_ _ | refine bD_ ?_ | refine bA_ ?_ _)); refine blk_put (cs := #[.slice none 0 0, .bool x119001_2, .string x119002_2, .string x119003_2]) ?_ 1 _ rfl; (with_reducible repeat (first | refine bN_ ?_ _ | refine bD_ ?_ | refine bA_ ?_ _)); refine blk_put (cs := #[u119000, .bool x119001_2, .string x119002_2, .string x119003_2]) ?_ 0 _ rfl; (with_reducible repeat (first | refine bN_ ?_ _ | refine bD_ ?_ | refine bA_ ?_ _)); exact BK118.out) Tryd.underlying26 rfl (by kernel_rfl)) rfl ?_
          exact ⟨_, by first | rfl | (simp [errW_none, errW_some] <;> rfl) | (simp [*, errW_none, errW_some] <;> rfl), by first | exact Kd.R_nil _ _ _ _ _ | exact Kd.N_nil _ _ _ _ _ | exact Kd.V_nil _ _ _ _ _ | exact Kd.Q_nil _ _ _ _ _ | exact Kd.S_nil _ _ _ _ _, by repeat (first | (with_reducible first | exact HB.out | apply bB_ | apply wN_ | apply bE_ | refine bS_ ?_ GE118.out) | exact HB.out)⟩
        ·
         rw [if_neg c20] at H
         exact absurd H (by simp)
       ·
        rw [if_neg c19] at H
        have c19b0 : decide (x7_2 < (t120.length : Int)) = false := decide_eq_false c19
        clear c19
        simp only [Option.some.injEq, Prod.mk.injEq] at H
        obtain ⟨rfl, rfl, rfl, rfl, rfl, rfl⟩ := H
        obtain ⟨Ao31, co31, eo31⟩ := Kd.R_slice HO_5.out
        subst eo31
        have hcz32_0 : wr.cell? ⟨gb118, 0, none⟩ = some (u119000) := (bC_ BK118.out 0).trans rfl
        have hcz32_1 : wr.cell? ⟨gb118, 1, none⟩ = some (.bool x119001_2) := (bC_ BK118.out 1).trans rfl
        have hcz32_2 : wr.cell? ⟨gb118, 2, none⟩ = some (.string x119002_2) := (bC_ BK118.out 2).trans rfl
        have hcz32_3 : wr.cell? ⟨gb118, 3, none⟩ = some (.string x119003_2) := (bC_ BK118.out 3).trans rfl
        have hfz32_0 := bF_ BK118.out 0
        have hfz32_1 := bF_ BK118.out 1
        have hfz32_2 := bF_ BK118.out 2
        have hfz32_3 := bF_ BK118.out 3
        obtain ⟨Ao33, co33, eo33⟩ := Kd.R_slice HO_119000.out
        subst eo33
        go_wp2
        refine bodyPost_ret (results_ctt rfl _ _ gb118 26 #[.slice Ao33 x119000_2.length co33, .bool x119001_2, .string x119002_2, .string x119003_2] (0, 0) _ rfl (by (with_reducible repeat (first | refine bN_ ?_ _ | refine bD_ ?_ | refine bA_ ?_ _)); refine blk_put (cs := #[.slice Ao33 x119000_2.length co33, .bool x119001_2, .string x119002_2, .string x119003_2]) ?_ 3 _ rfl; (with_reducible repeat (first | refine bN_ ?_ _ | refine bD_ ?_ | refine bA_ ?_ _)); refine blk_put (cs := #[.slice Ao33 x119000_2.length co33, .bool x119001_2, .string x119002_2, .string x119003_2]) ?_ 2 _ rfl; (with_reducible repeat (first | refine bN_ ?_ _ | refine bD_ ?_ | refine bA_ ?_ _)); refine blk_put (cs := #[.slice Ao33 x119000_2.length co33, .bool x119001_2, .string x119002_2, .string x119003_2]) ?_ 1 _ rfl; (with_reducible repeat (first | refine bN_ ?_ _ | refine bD_ ?_ | refine bA_ ?_ _)); refine blk_put (cs := #[.slice Ao33 x119000_2.length co33, .bool x119001_2, .string x119002_2, .string x119003_2]) ?_ 0 _ rfl; (with_reducible repeat (first | refine bN_ ?_ _ | refine bD_ ?_ | refine bA_ ?_ _)); exact BK118.out) Tryd.underlying26 rfl (by kernel_rfl)) rfl ?_
        exact ⟨_, by first | rfl | (simp [errW_none, errW_some] <;> rfl) | (simp [*, errW_none, errW_some] <;> rfl), by (with_reducible repeat (first | apply kA_ | apply kN_ | apply kD_)); exact Kd.R_mono (Kd.R_far (p := ⟨gb118, 3, none⟩) (Kd.R_far (p := ⟨gb118, 2, none⟩) (Kd.R_far (p := ⟨gb118, 1, none⟩) (Kd.R_far (p := ⟨gb118, 0, none⟩) (Kd.R_types HO_119000.out BK118.out (by decide)) (fun _ hk => hk.2) (.slice Ao33 x119000_2.length co33)) (fun _ hk => hk.2) (.bool x119001_2)) (fun _ hk => hk.2) (.string x119002_2)) (fun _ hk => hk.2) (.string x119003_2)) (fun _ hk => trivial), by repeat (first | (with_reducible first | exact HB.out | apply bB_ | apply wN_ | apply bE_ | refine bS_ ?_ GE118.out) | exact HB.out)⟩

/-! ### spec_VerHighest: function 21 -/
def spec_VerHighest.l0 (k : Nat) : List ByteArray → List Int → Bool → ByteArray → ByteArray → Option (List Int × Bool × ByteArray × ByteArray × Bool × Bool)
 | [], b, s, p, u => (spec_Version_part.f b s p u 0).bind fun t => some (b, s, p, u, t == 1, true)
 | x :: l, b, s, p, u => (spec_VerGeneric.f k x).bind fun g => if g.2.2.2.2.2 = true then (if g.2.2.2.2.1 = true then (if g.1 = [] then none else (spec_Version_part.f g.1 g.2.1 g.2.2.1 g.2.2.2.1 0).bind fun t => if t ≤ 1 then (if b = [] then spec_VerHighest.l0 k l g.1 g.2.1 g.2.2.1 g.2.2.2.1 else (spec_Versions.f k b s p u g.1 g.2.1 g.2.2.1 g.2.2.2.1).bind fun c => if c < 0 then spec_VerHighest.l0 k l g.1 g.2.1 g.2.2.1 g.2.2.2.1 else spec_VerHighest.l0 k l b s p u) else spec_VerHighest.l0 k l b s p u) else spec_VerHighest.l0 k l b s p u) else some ([], false, (⟨#[]⟩ : ByteArray), (⟨#[]⟩ : ByteArray), false, false)
def spec_VerHighest.f (k : Nat) (l0 : List ByteArray) : Option (List Int × Bool × ByteArray × ByteArray × Bool × Bool) := spec_VerHighest.l0 k l0 [] false (⟨#[]⟩ : ByteArray) (⟨#[]⟩ : ByteArray)
theorem spec_VerHighest.mono0 (k : Nat) : ∀ l b s p u, LeO (spec_VerHighest.l0 k l b s p u) (spec_VerHighest.l0 (k + 1) l b s p u)
 | [], b, s, p, u => LeO.refl _
 | x :: l, b, s, p, u => by
  have ih := spec_VerHighest.mono0 k l
  unfold spec_VerHighest.l0
  exact LeO.bind (spec_VerGeneric.mono _ _) (fun g => LeO.ite (LeO.ite (LeO.ite (LeO.none _) (LeO.bind (LeO.refl _) (fun t => LeO.ite (LeO.ite (ih _ _ _ _) (LeO.bind (spec_Versions.mono _ _ _ _ _ _ _ _ _) (fun c => LeO.ite (ih _ _ _ _) (ih _ _ _ _)))) (ih _ _ _ _)))) (ih _ _ _ _)) (LeO.refl _))
theorem spec_VerHighest.mono : ∀ l0 k, LeO (spec_VerHighest.f k l0) (spec_VerHighest.f (k + 1) l0) := fun l0 k => spec_VerHighest.mono0 k l0 _ _ _ _
theorem vh_own {w : World} {base base' g : Nat} {v : Value} {l : List Int} (h : Kd.R (Kd.int .u64) 22 w base (fun _ => True) v l) (hg : g < base) (hb : base' ≤ base) : Kd.R (Kd.int .u64) 22 w base' (fun k => k ≠ g) v l :=
 Kd.R_lower (Kd.R_of_own (h1 := fun _ => rfl) (Kd.own_of_R h) (fun k hk => by have := Kd.R_base h k hk; omega)) hb
theorem vh_free {w : World} {base : Nat} {ok : Nat → Prop} {v : Value} {l : List Int} (h : Kd.R (Kd.int .u64) 22 w base ok v l) : Kd.R (Kd.int .u64) 22 w base (fun _ => True) v l := Kd.R_mono h (fun _ _ => trivial)
set_option maxHeartbeats 32000000 in
set_option maxRecDepth 1000000 in
theorem spec_VerHighest.calls (k : Nat) (A0 : Option Addr) (c0 : Nat) (l0 : List ByteArray) (r1 : List Int) (r2 : Bool) (r3 r4 : ByteArray) (r5 r6 : Bool) (w : World) (hr0 : Kd.C Kd.string w A0 l0.length l0) (hc0 : l0.length ≤ c0) (h : spec_VerHighest.f k l0 = some (r1, r2, r3, r4, r5, r6)) :
  Calls Tryd.prog 21 #[.slice A0 l0.length c0] w fun e w' => ∃ v0_ : Value, e = .returned (.tuple #[.agg #[v0_, .bool r2, .string r3, .string r4], .bool r5, .bool r6]) ∧ Kd.R (Kd.int .u64) 22 w' w.heap.size (fun _ => True) v0_ r1 ∧ Below w.heap.size w w' := by
 have mixed : Tryd.prog.follows .mixedOrders = true := by kernel_rfl
 have hu26 := Tryd.underlying26
 have en0 : ∀ W n c, (binOp .eql 24 (.slice none n c) (.slice none 0 0)).run Tryd.prog W = .ok (.bool true) W := fun W n c => Lib.run_eql_slice_nil_nil W n c Tryd.underlying24
 have en1 : ∀ W a n c, (binOp .eql 24 (.slice (some a) n c) (.slice none 0 0)).run Tryd.prog W = .ok (.bool false) W := fun W a n c => Lib.run_eql_slice_some_nil W a n c Tryd.underlying24
 have HR := aM_ hr0
 have HL := aM_ (Kd.C_max hr0)
 have H := aM_ h
 clear hr0 hc0 h
 go_enter Tryd.func21, Tryd.ntmps21
 go_wp2
 go_loopw [5] (fun i wr => ∃ (j : Nat) (v0 : Value) (b : List Int) (s : Bool) (p u : ByteArray), j ≤ l0.length ∧ i = .int .i64 (j : Int) ∧ Aside0 (spec_VerHighest.l0 k (l0.drop j) b s p u = some (r1, r2, r3, r4, r5, r6)) ∧ Aside0 (wr.heap[w.heap.size]? = some (.cells #[v0, .bool s, .string p, .string u] 26 (0, 0))) ∧ Aside0 (Kd.R (Kd.int .u64) 22 wr w.heap.size (fun k => k ≠ w.heap.size) v0 b) ∧ Aside0 (b = [] → v0 = .slice none 0 0) ∧ Aside0 (Below w.heap.size w wr)) (fun i _ => l0.length - (intOf i).toNat)
 case atStart => exact ⟨0, .slice none 0 0, [], false, ⟨#[]⟩, ⟨#[]⟩, Nat.zero_le _, rfl, H, ⟨blk_new w _⟩, ⟨Kd.R_nil _ _ _ _ _⟩, ⟨fun _ => rfl⟩, ⟨bB_ (Below.refl _ _) _⟩⟩
 case round =>
  obtain ⟨j, v0, b, s, p, u, hj, rfl, HH, HB, HV, HN, HW⟩ := hrel
  clear H
  by_cases hlt : j < l0.length
  ·
   have p1 : (0 ≤ (j : Int)) = True := eq_true (by omega)
   have q1 : ((j : Int) < (l0.length : Int)) = True := eq_true (by omega)
   have q2 : decide ((j : Int) < (l0.length : Int)) = true := decide_eq_true (by omega)
   have w9 : wrap64 ((j : Int) + 1) = (j : Int) + 1 := IntWalk.wrap64_in _ (by have := HL.out; omega)
   obtain ⟨ad, eA, hx⟩ := Kd.at_string (Kd.C_below HR.out HW.out) (j : Int) (by omega) (by omega)
   cases eA
   rw [Int.toNat_natCast] at hx
   have hd : l0.drop j = rdOf ByteArray.empty l0 (j : Int) :: l0.drop (j + 1) := by
    rw [List.drop_eq_getElem_cons hlt, rdOf, Int.toNat_natCast, List.getD_eq_getElem?_getD, List.getElem?_eq_getElem hlt]; rfl
   generalize rdOf ByteArray.empty l0 (j : Int) = x at hx hd
   have HM := aM_ (show l0.length - ((j : Int) + 1).toNat < l0.length - (j : Int).toNat by omega)
   have hh := HH.out
   rw [hd, spec_VerHighest.l0] at hh
   obtain ⟨⟨gl, gs, gp, gu, is, fine⟩, hg, hh⟩ := Option.bind_eq_some_iff.mp hh
   have HG := aM_ (fun w => spec_VerGeneric.calls k x gl gs gp gu is fine w hg)
   simp only at hh
   clear hg hd HH
   have HJ := aM_ (show j + 1 ≤ l0.length from hlt)
   clear hlt hj
   have hz : w.heap.size < wr.heap.size := blk_lt HB.out
   cases fine with
   | false =>
    rw [if_neg (fun h => Bool.false_ne_true h)] at hh
    simp only [Option.some.injEq, Prod.mk.injEq] at hh
    obtain ⟨rfl, rfl, rfl, rfl, rfl, rfl⟩ := hh
    go_wp2_with (go_at_call 41; (with_reducible refine (HG.out _).mono ?_); rintro e w1 ⟨v, rfl, hrv, hb⟩; have B1 := aM_ (below_step HW.out hb); have R1 := aM_ (blk_below HB.out hb); have z1 : w.heap.size < w1.heap.size := blk_lt R1.out; have z2 : (w.heap.size = w1.heap.size) = False := eq_false (by omega); have z3 : (w1.heap.size = w.heap.size) = False := eq_false (by omega); have c0 : w1.cell? ⟨w.heap.size, 0, none⟩ = some (v0) := bC_ R1.out 0; have f0 : w1.frozen? ⟨w.heap.size, 0, none⟩ = false := bF_ R1.out 0; have c1 : w1.cell? ⟨w.heap.size, 1, none⟩ = some (.bool s) := bC_ R1.out 1; have f1 : w1.frozen? ⟨w.heap.size, 1, none⟩ = false := bF_ R1.out 1; have c2 : w1.cell? ⟨w.heap.size, 2, none⟩ = some (.string p) := bC_ R1.out 2; have f2 : w1.frozen? ⟨w.heap.size, 2, none⟩ = false := bF_ R1.out 2; have c3 : w1.cell? ⟨w.heap.size, 3, none⟩ = some (.string u) := bC_ R1.out 3; have f3 : w1.frozen? ⟨w.heap.size, 3, none⟩ = false := bF_ R1.out 3; obtain ⟨A1, c1z, rfl, hl1, hC1⟩ := Kd.R_reads hrv; clear hb hrv hl1 hC1)
    refine bodyPost_ret (v := .tuple #[.agg #[.slice none 0 0, .bool false, .string ⟨#[]⟩, .string ⟨#[]⟩], .bool false, .bool false]) (by simp [results, Tryd.results21, go_sem, c0, f0, c1, f1, c2, f2, c3, f3, z1, z2, z3]) rfl ⟨_, rfl, ?_, ?_⟩
    ·
     exact Kd.R_nil _ _ _ _ _
    ·
     repeat (first | (with_reducible exact B1.out) | apply bB_ | refine bS_ ?_ (by have := B1.out.size; first | exact Nat.le_refl _ | simpa using this))
   | true =>
    rw [if_pos rfl] at hh
    cases is with
    | false =>
     rw [if_neg (fun h => Bool.false_ne_true h)] at hh
     have HH2 := aM_ hh
     clear hh
     go_wp2_with (go_at_call 41; (with_reducible refine (HG.out _).mono ?_); rintro e w1 ⟨v, rfl, hrv, hb⟩; have B1 := aM_ (below_step HW.out hb); have R1 := aM_ (blk_below HB.out hb); have z1 : w.heap.size < w1.heap.size := blk_lt R1.out; have z2 : (w.heap.size = w1.heap.size) = False := eq_false (by omega); have z3 : (w1.heap.size = w.heap.size) = False := eq_false (by omega); have c0 : w1.cell? ⟨w.heap.size, 0, none⟩ = some (v0) := bC_ R1.out 0; have f0 : w1.frozen? ⟨w.heap.size, 0, none⟩ = false := bF_ R1.out 0; have c1 : w1.cell? ⟨w.heap.size, 1, none⟩ = some (.bool s) := bC_ R1.out 1; have f1 : w1.frozen? ⟨w.heap.size, 1, none⟩ = false := bF_ R1.out 1; have c2 : w1.cell? ⟨w.heap.size, 2, none⟩ = some (.string p) := bC_ R1.out 2; have f2 : w1.frozen? ⟨w.heap.size, 2, none⟩ = false := bF_ R1.out 2; have c3 : w1.cell? ⟨w.heap.size, 3, none⟩ = some (.string u) := bC_ R1.out 3; have f3 : w1.frozen? ⟨w.heap.size, 3, none⟩ = false := bF_ R1.out 3; have V1 := aM_ (Kd.R_below HV.out hb); obtain ⟨A1, c1z, rfl, hl1, hC1⟩ := Kd.R_reads hrv; clear hb hrv hl1 hC1)
     go_roundw
     case measure => rw [w9]; exact HM.out
     case rel => exact ⟨j + 1, v0, b, s, p, u, HJ.out, by rw [w9]; simp, HH2, ⟨bA_ R1.out _⟩, ⟨Kd.R_below V1.out (bB_ (Below.refl _ _) _)⟩, HN, ⟨bB_ B1.out _⟩⟩
    | true =>
     rw [if_pos rfl] at hh
     by_cases hgl : gl = []
     ·
      rw [if_pos hgl] at hh; cases hh
     rw [if_neg hgl] at hh
     obtain ⟨t, hp, hh⟩ := Option.bind_eq_some_iff.mp hh
     have HP := aM_ (fun A c w hr hc => spec_Version_part.calls A c gl gs gp gu 0 t w hr hc hp)
     have HGL := aM_ hgl
     clear hp hgl
     by_cases ht : t ≤ 1
     ·
      rw [if_pos ht] at hh
      have t1 : (t ≤ 1) = True := eq_true ht
      have t2 : decide (t ≤ 1) = true := decide_eq_true ht
      clear ht
      by_cases hb0 : b = []
      ·
       rw [if_pos hb0] at hh
       have HH2 := aM_ hh
       have hv0 := HN.out hb0
       subst hv0
       clear hh hb0
       go_wp2_with (first
        | (go_at_call 41; (with_reducible refine (HG.out _).mono ?_); rintro e w1 ⟨v, rfl, hrv, hb⟩; have B1 := aM_ (below_step HW.out hb); have R1 := aM_ (blk_below HB.out hb); have z1 : w.heap.size < w1.heap.size := blk_lt R1.out; have z2 : (w.heap.size = w1.heap.size) = False := eq_false (by omega); have z3 : (w1.heap.size = w.heap.size) = False := eq_false (by omega); have c0 : w1.cell? ⟨w.heap.size, 0, none⟩ = some (.slice none 0 0) := bC_ R1.out 0; have f0 : w1.frozen? ⟨w.heap.size, 0, none⟩ = false := bF_ R1.out 0; have c1 : w1.cell? ⟨w.heap.size, 1, none⟩ = some (.bool s) := bC_ R1.out 1; have f1 : w1.frozen? ⟨w.heap.size, 1, none⟩ = false := bF_ R1.out 1; have c2 : w1.cell? ⟨w.heap.size, 2, none⟩ = some (.string p) := bC_ R1.out 2; have f2 : w1.frozen? ⟨w.heap.size, 2, none⟩ = false := bF_ R1.out 2; have c3 : w1.cell? ⟨w.heap.size, 3, none⟩ = some (.string u) := bC_ R1.out 3; have f3 : w1.frozen? ⟨w.heap.size, 3, none⟩ = false := bF_ R1.out 3; have VO := aM_ (vh_own hrv hz (Nat.le_of_lt hz)); have V1 := aM_ (Kd.R_below HV.out hb); obtain ⟨A1, c1z, rfl, hl1, hC1⟩ := Kd.R_reads hrv; have C1 := aM_ hC1; have L1 := aM_ hl1; have D1 := aM_ (blk_new w1 (.cells #[.slice A1 gl.length c1z, .bool gs, .string gp, .string gu] 26 (0, 0))); clear hb hrv hC1 hl1)
        | (go_at_call 28; (with_reducible refine (HP.out _ _ _ (Kd.C_alloc C1.out _) L1.out).mono ?_); rintro e w2 ⟨rfl, hb⟩; have BL := aM_ (below_step (bB_ B1.out _) hb); have RL := aM_ (blk_below (bA_ R1.out _) hb); have VL := aM_ (Kd.R_below (Kd.R_below V1.out (bB_ (Below.refl _ _) _)) hb); have VOL := aM_ (Kd.R_below (Kd.R_below VO.out (bB_ (Below.refl _ _) _)) hb); have CL := aM_ (Kd.C_below (Kd.C_below C1.out (bB_ (Below.refl _ _) _)) hb); have DL := aM_ (blk_below D1.out hb); have y1 : w.heap.size < w2.heap.size := blk_lt RL.out; have y2 : w1.heap.size < w2.heap.size := blk_lt DL.out; have c0 : w2.cell? ⟨w.heap.size, 0, none⟩ = some (.slice none 0 0) := bC_ RL.out 0; have f0 : w2.frozen? ⟨w.heap.size, 0, none⟩ = false := bF_ RL.out 0; have c1 : w2.cell? ⟨w.heap.size, 1, none⟩ = some (.bool s) := bC_ RL.out 1; have f1 : w2.frozen? ⟨w.heap.size, 1, none⟩ = false := bF_ RL.out 1; have c2 : w2.cell? ⟨w.heap.size, 2, none⟩ = some (.string p) := bC_ RL.out 2; have f2 : w2.frozen? ⟨w.heap.size, 2, none⟩ = false := bF_ RL.out 2; have c3 : w2.cell? ⟨w.heap.size, 3, none⟩ = some (.string u) := bC_ RL.out 3; have f3 : w2.frozen? ⟨w.heap.size, 3, none⟩ = false := bF_ RL.out 3; have d0 : w2.cell? ⟨w1.heap.size, 0, none⟩ = some (.slice A1 gl.length c1z) := bC_ DL.out 0; have g0 : w2.frozen? ⟨w1.heap.size, 0, none⟩ = false := bF_ DL.out 0; have d1 : w2.cell? ⟨w1.heap.size, 1, none⟩ = some (.bool gs) := bC_ DL.out 1; have g1 : w2.frozen? ⟨w1.heap.size, 1, none⟩ = false := bF_ DL.out 1; have d2 : w2.cell? ⟨w1.heap.size, 2, none⟩ = some (.string gp) := bC_ DL.out 2; have g2 : w2.frozen? ⟨w1.heap.size, 2, none⟩ = false := bF_ DL.out 2; have d3 : w2.cell? ⟨w1.heap.size, 3, none⟩ = some (.string gu) := bC_ DL.out 3; have g3 : w2.frozen? ⟨w1.heap.size, 3, none⟩ = false := bF_ DL.out 3; clear hb))
       go_roundw
       case measure => rw [w9]; exact HM.out
       case rel => exact ⟨j + 1, .slice A1 gl.length c1z, gl, gs, gp, gu, HJ.out, by rw [w9]; simp, HH2, ⟨blk_put (blk_put (blk_put (blk_put RL.out 0 _ rfl) 1 _ rfl) 2 _ rfl) 3 _ rfl⟩, ⟨by repeat (first | (with_reducible exact VOL.out) | refine Kd.R_far ?_ (fun _ h => h) _)⟩, ⟨fun h => absurd h HGL.out⟩, ⟨by repeat (first | (with_reducible exact BL.out) | refine bS_ ?_ (Nat.le_refl _))⟩⟩
      ·
       rw [if_neg hb0] at hh
       obtain ⟨cc, hcc, hh⟩ := Option.bind_eq_some_iff.mp hh
       obtain ⟨g9, cap9, e9, h9a, h9b, -⟩ := Kd.R_form HV.out (List.length_pos_iff.2 hb0)
       subst e9
       have HRB := aM_ (Kd.R_reads' HV.out)
       have HQ := aM_ (fun A c A' c' w hr hc hr' hc' => spec_Versions.calls k A c b s p u A' c' gl gs gp gu cc w hr hc hr' hc' hcc)
       clear hcc hb0 h9a h9b
       by_cases hc0 : cc < 0
       ·
        rw [if_pos hc0] at hh
        have HH2 := aM_ hh
        have t3 : (cc < 0) = True := eq_true hc0
        have t4 : decide (cc < 0) = true := decide_eq_true hc0
        clear hh hc0
        go_wp2_with (first
         | (go_at_call 41; (with_reducible refine (HG.out _).mono ?_); rintro e w1 ⟨v, rfl, hrv, hb⟩; have B1 := aM_ (below_step HW.out hb); have R1 := aM_ (blk_below HB.out hb); have z1 : w.heap.size < w1.heap.size := blk_lt R1.out; have z2 : (w.heap.size = w1.heap.size) = False := eq_false (by omega); have z3 : (w1.heap.size = w.heap.size) = False := eq_false (by omega); have c0 : w1.cell? ⟨w.heap.size, 0, none⟩ = some (.slice (some ⟨g9, 0, none⟩) b.length cap9) := bC_ R1.out 0; have f0 : w1.frozen? ⟨w.heap.size, 0, none⟩ = false := bF_ R1.out 0; have c1 : w1.cell? ⟨w.heap.size, 1, none⟩ = some (.bool s) := bC_ R1.out 1; have f1 : w1.frozen? ⟨w.heap.size, 1, none⟩ = false := bF_ R1.out 1; have c2 : w1.cell? ⟨w.heap.size, 2, none⟩ = some (.string p) := bC_ R1.out 2; have f2 : w1.frozen? ⟨w.heap.size, 2, none⟩ = false := bF_ R1.out 2; have c3 : w1.cell? ⟨w.heap.size, 3, none⟩ = some (.string u) := bC_ R1.out 3; have f3 : w1.frozen? ⟨w.heap.size, 3, none⟩ = false := bF_ R1.out 3; have VO := aM_ (vh_own hrv hz (Nat.le_of_lt hz)); have V1 := aM_ (Kd.R_below HV.out hb); obtain ⟨A1, c1z, rfl, hl1, hC1⟩ := Kd.R_reads hrv; have C1 := aM_ hC1; have L1 := aM_ hl1; have D1 := aM_ (blk_new w1 (.cells #[.slice A1 gl.length c1z, .bool gs, .string gp, .string gu] 26 (0, 0))); clear hb hrv hC1 hl1)
         | (go_at_call 28; (with_reducible refine (HP.out _ _ _ (Kd.C_alloc C1.out _) L1.out).mono ?_); rintro e w2 ⟨rfl, hb⟩; have BL := aM_ (below_step (bB_ B1.out _) hb); have RL := aM_ (blk_below (bA_ R1.out _) hb); have VL := aM_ (Kd.R_below (Kd.R_below V1.out (bB_ (Below.refl _ _) _)) hb); have VOL := aM_ (Kd.R_below (Kd.R_below VO.out (bB_ (Below.refl _ _) _)) hb); have CL := aM_ (Kd.C_below (Kd.C_below C1.out (bB_ (Below.refl _ _) _)) hb); have DL := aM_ (blk_below D1.out hb); have y1 : w.heap.size < w2.heap.size := blk_lt RL.out; have y2 : w1.heap.size < w2.heap.size := blk_lt DL.out; have c0 : w2.cell? ⟨w.heap.size, 0, none⟩ = some (.slice (some ⟨g9, 0, none⟩) b.length cap9) := bC_ RL.out 0; have f0 : w2.frozen? ⟨w.heap.size, 0, none⟩ = false := bF_ RL.out 0; have c1 : w2.cell? ⟨w.heap.size, 1, none⟩ = some (.bool s) := bC_ RL.out 1; have f1 : w2.frozen? ⟨w.heap.size, 1, none⟩ = false := bF_ RL.out 1; have c2 : w2.cell? ⟨w.heap.size, 2, none⟩ = some (.string p) := bC_ RL.out 2; have f2 : w2.frozen? ⟨w.heap.size, 2, none⟩ = false := bF_ RL.out 2; have c3 : w2.cell? ⟨w.heap.size, 3, none⟩ = some (.string u) := bC_ RL.out 3; have f3 : w2.frozen? ⟨w.heap.size, 3, none⟩ = false := bF_ RL.out 3; have d0 : w2.cell? ⟨w1.heap.size, 0, none⟩ = some (.slice A1 gl.length c1z) := bC_ DL.out 0; have g0 : w2.frozen? ⟨w1.heap.size, 0, none⟩ = false := bF_ DL.out 0; have d1 : w2.cell? ⟨w1.heap.size, 1, none⟩ = some (.bool gs) := bC_ DL.out 1; have g1 : w2.frozen? ⟨w1.heap.size, 1, none⟩ = false := bF_ DL.out 1; have d2 : w2.cell? ⟨w1.heap.size, 2, none⟩ = some (.string gp) := bC_ DL.out 2; have g2 : w2.frozen? ⟨w1.heap.size, 2, none⟩ = false := bF_ DL.out 2; have d3 : w2.cell? ⟨w1.heap.size, 3, none⟩ = some (.string gu) := bC_ DL.out 3; have g3 : w2.frozen? ⟨w1.heap.size, 3, none⟩ = false := bF_ DL.out 3; clear hb)
         | (go_at_call 23; (with_reducible refine (HQ.out _ _ _ _ _ (Kd.R_reads' VL.out).2.2 (Kd.R_reads' VL.out).2.1 CL.out L1.out).mono ?_); rintro e w3 ⟨rfl, hb⟩; have BL := aM_ (below_step BL.out hb); have RL := aM_ (blk_below RL.out hb); have VL := aM_ (Kd.R_below VL.out hb); have VOL := aM_ (Kd.R_below VOL.out hb); have CL := aM_ (Kd.C_below CL.out hb); have DL := aM_ (blk_below DL.out hb); have y1 : w.heap.size < w3.heap.size := blk_lt RL.out; have y2 : w1.heap.size < w3.heap.size := blk_lt DL.out; have c0 : w3.cell? ⟨w.heap.size, 0, none⟩ = some (.slice (some ⟨g9, 0, none⟩) b.length cap9) := bC_ RL.out 0; have f0 : w3.frozen? ⟨w.heap.size, 0, none⟩ = false := bF_ RL.out 0; have c1 : w3.cell? ⟨w.heap.size, 1, none⟩ = some (.bool s) := bC_ RL.out 1; have f1 : w3.frozen? ⟨w.heap.size, 1, none⟩ = false := bF_ RL.out 1; have c2 : w3.cell? ⟨w.heap.size, 2, none⟩ = some (.string p) := bC_ RL.out 2; have f2 : w3.frozen? ⟨w.heap.size, 2, none⟩ = false := bF_ RL.out 2; have c3 : w3.cell? ⟨w.heap.size, 3, none⟩ = some (.string u) := bC_ RL.out 3; have f3 : w3.frozen? ⟨w.heap.size, 3, none⟩ = false := bF_ RL.out 3; have d0 : w3.cell? ⟨w1.heap.size, 0, none⟩ = some (.slice A1 gl.length c1z) := bC_ DL.out 0; have g0 : w3.frozen? ⟨w1.heap.size, 0, none⟩ = false := bF_ DL.out 0; have d1 : w3.cell? ⟨w1.heap.size, 1, none⟩ = some (.bool gs) := bC_ DL.out 1; have g1 : w3.frozen? ⟨w1.heap.size, 1, none⟩ = false := bF_ DL.out 1; have d2 : w3.cell? ⟨w1.heap.size, 2, none⟩ = some (.string gp) := bC_ DL.out 2; have g2 : w3.frozen? ⟨w1.heap.size, 2, none⟩ = false := bF_ DL.out 2; have d3 : w3.cell? ⟨w1.heap.size, 3, none⟩ = some (.string gu) := bC_ DL.out 3; have g3 : w3.frozen? ⟨w1.heap.size, 3, none⟩ = false := bF_ DL.out 3; clear hb))
        go_roundw
        case measure => rw [w9]; exact HM.out
        case rel => exact ⟨j + 1, .slice A1 gl.length c1z, gl, gs, gp, gu, HJ.out, by rw [w9]; simp, HH2, ⟨blk_put (blk_put (blk_put (blk_put RL.out 0 _ rfl) 1 _ rfl) 2 _ rfl) 3 _ rfl⟩, ⟨by repeat (first | (with_reducible exact VOL.out) | refine Kd.R_far ?_ (fun _ h => h) _)⟩, ⟨fun h => absurd h HGL.out⟩, ⟨by repeat (first | (with_reducible exact BL.out) | refine bS_ ?_ (Nat.le_refl _))⟩⟩
       ·
        rw [if_neg hc0] at hh
        have HH2 := aM_ hh
        have t3 : (cc < 0) = False := eq_false hc0
        have t4 : decide (cc < 0) = false := decide_eq_false hc0
        clear hh hc0
        go_wp2_with (first
         | (go_at_call 41; (with_reducible refine (HG.out _).mono ?_); rintro e w1 ⟨v, rfl, hrv, hb⟩; have B1 := aM_ (below_step HW.out hb); have R1 := aM_ (blk_below HB.out hb); have z1 : w.heap.size < w1.heap.size := blk_lt R1.out; have z2 : (w.heap.size = w1.heap.size) = False := eq_false (by omega); have z3 : (w1.heap.size = w.heap.size) = False := eq_false (by omega); have c0 : w1.cell? ⟨w.heap.size, 0, none⟩ = some (.slice (some ⟨g9, 0, none⟩) b.length cap9) := bC_ R1.out 0; have f0 : w1.frozen? ⟨w.heap.size, 0, none⟩ = false := bF_ R1.out 0; have c1 : w1.cell? ⟨w.heap.size, 1, none⟩ = some (.bool s) := bC_ R1.out 1; have f1 : w1.frozen? ⟨w.heap.size, 1, none⟩ = false := bF_ R1.out 1; have c2 : w1.cell? ⟨w.heap.size, 2, none⟩ = some (.string p) := bC_ R1.out 2; have f2 : w1.frozen? ⟨w.heap.size, 2, none⟩ = false := bF_ R1.out 2; have c3 : w1.cell? ⟨w.heap.size, 3, none⟩ = some (.string u) := bC_ R1.out 3; have f3 : w1.frozen? ⟨w.heap.size, 3, none⟩ = false := bF_ R1.out 3; have VO := aM_ (vh_own hrv hz (Nat.le_of_lt hz)); have V1 := aM_ (Kd.R_below HV.out hb); obtain ⟨A1, c1z, rfl, hl1, hC1⟩ := Kd.R_reads hrv; have C1 := aM_ hC1; have L1 := aM_ hl1; have D1 := aM_ (blk_new w1 (.cells #[.slice A1 gl.length c1z, .bool gs, .string gp, .string gu] 26 (0, 0))); clear hb hrv hC1 hl1)
         | (go_at_call 28; (with_reducible refine (HP.out _ _ _ (Kd.C_alloc C1.out _) L1.out).mono ?_); rintro e w2 ⟨rfl, hb⟩; have BL := aM_ (below_step (bB_ B1.out _) hb); have RL := aM_ (blk_below (bA_ R1.out _) hb); have VL := aM_ (Kd.R_below (Kd.R_below V1.out (bB_ (Below.refl _ _) _)) hb); have VOL := aM_ (Kd.R_below (Kd.R_below VO.out (bB_ (Below.refl _ _) _)) hb); have CL := aM_ (Kd.C_below (Kd.C_below C1.out (bB_ (Below.refl _ _) _)) hb); have DL := aM_ (blk_below D1.out hb); have y1 : w.heap.size < w2.heap.size := blk_lt RL.out; have y2 : w1.heap.size < w2.heap.size := blk_lt DL.out; have c0 : w2.cell? ⟨w.heap.size, 0, none⟩ = some (.slice (some ⟨g9, 0, none⟩) b.length cap9) := bC_ RL.out 0; have f0 : w2.frozen? ⟨w.heap.size, 0, none⟩ = false := bF_ RL.out 0; have c1 : w2.cell? ⟨w.heap.size, 1, none⟩ = some (.bool s) := bC_ RL.out 1; have f1 : w2.frozen? ⟨w.heap.size, 1, none⟩ = false := bF_ RL.out 1; have c2 : w2.cell? ⟨w.heap.size, 2, none⟩ = some (.string p) := bC_ RL.out 2; have f2 : w2.frozen? ⟨w.heap.size, 2, none⟩ = false := bF_ RL.out 2; have c3 : w2.cell? ⟨w.heap.size, 3, none⟩ = some (.string u) := bC_ RL.out 3; have f3 : w2.frozen? ⟨w.heap.size, 3, none⟩ = false := bF_ RL.out 3; have d0 : w2.cell? ⟨w1.heap.size, 0, none⟩ = some (.slice A1 gl.length c1z) := bC_ DL.out 0; have g0 : w2.frozen? ⟨w1.heap.size, 0, none⟩ = false := bF_ DL.out 0; have d1 : w2.cell? ⟨w1.heap.size, 1, none⟩ = some (.bool gs) := bC_ DL.out 1; have g1 : w2.frozen? ⟨w1.heap.size, 1, none⟩ = false := bF_ DL.out 1; have d2 : w2.cell? ⟨w1.heap.size, 2, none⟩ = some (.string gp) := bC_ DL.out 2; have g2 : w2.frozen? ⟨w1.heap.size, 2, none⟩ = false := bF_ DL.out 2; have d3 : w2.cell? ⟨w1.heap.size, 3, none⟩ = some (.string gu) := bC_ DL.out 3; have g3 : w2.frozen? ⟨w1.heap.size, 3, none⟩ = false := bF_ DL.out 3; clear hb)
         | (go_at_call 23; (with_reducible refine (HQ.out _ _ _ _ _ (Kd.R_reads' VL.out).2.2 (Kd.R_reads' VL.out).2.1 CL.out L1.out).mono ?_); rintro e w3 ⟨rfl, hb⟩; have BL := aM_ (below_step BL.out hb); have RL := aM_ (blk_below RL.out hb); have VL := aM_ (Kd.R_below VL.out hb); have VOL := aM_ (Kd.R_below VOL.out hb); have CL := aM_ (Kd.C_below CL.out hb); have DL := aM_ (blk_below DL.out hb); have y1 : w.heap.size < w3.heap.size := blk_lt RL.out; have y2 : w1.heap.size < w3.heap.size := blk_lt DL.out; have c0 : w3.cell? ⟨w.heap.size, 0, none⟩ = some (.slice (some ⟨g9, 0, none⟩) b.length cap9) := bC_ RL.out 0; have f0 : w3.frozen? ⟨w.heap.size, 0, none⟩ = false := bF_ RL.out 0; have c1 : w3.cell? ⟨w.heap.size, 1, none⟩ = some (.bool s) := bC_ RL.out 1; have f1 : w3.frozen? ⟨w.heap.size, 1, none⟩ = false := bF_ RL.out 1; have c2 : w3.cell? ⟨w.heap.size, 2, none⟩ = some (.string p) := bC_ RL.out 2; have f2 : w3.frozen? ⟨w.heap.size, 2, none⟩ = false := bF_ RL.out 2; have c3 : w3.cell? ⟨w.heap.size, 3, none⟩ = some (.string u) := bC_ RL.out 3; have f3 : w3.frozen? ⟨w.heap.size, 3, none⟩ = false := bF_ RL.out 3; have d0 : w3.cell? ⟨w1.heap.size, 0, none⟩ = some (.slice A1 gl.length c1z) := bC_ DL.out 0; have g0 : w3.frozen? ⟨w1.heap.size, 0, none⟩ = false := bF_ DL.out 0; have d1 : w3.cell? ⟨w1.heap.size, 1, none⟩ = some (.bool gs) := bC_ DL.out 1; have g1 : w3.frozen? ⟨w1.heap.size, 1, none⟩ = false := bF_ DL.out 1; have d2 : w3.cell? ⟨w1.heap.size, 2, none⟩ = some (.string gp) := bC_ DL.out 2; have g2 : w3.frozen? ⟨w1.heap.size, 2, none⟩ = false := bF_ DL.out 2; have d3 : w3.cell? ⟨w1.heap.size, 3, none⟩ = some (.string gu) := bC_ DL.out 3; have g3 : w3.frozen? ⟨w1.heap.size, 3, none⟩ = false := bF_ DL.out 3; clear hb))
        go_roundw
        case measure => rw [w9]; exact HM.out
        case rel => exact ⟨j + 1, .slice (some ⟨g9, 0, none⟩) b.length cap9, b, s, p, u, HJ.out, by rw [w9]; simp, HH2, RL, VL, HN, BL⟩
     ·
      rw [if_neg ht] at hh
      have t1 : (t ≤ 1) = False := eq_false ht
      have t2 : decide (t ≤ 1) = false := decide_eq_false ht
      have HH2 := aM_ hh
      clear ht hh
      go_wp2_with (first
       | (go_at_call 41; (with_reducible refine (HG.out _).mono ?_); rintro e w1 ⟨v, rfl, hrv, hb⟩; have B1 := aM_ (below_step HW.out hb); have R1 := aM_ (blk_below HB.out hb); have z1 : w.heap.size < w1.heap.size := blk_lt R1.out; have z2 : (w.heap.size = w1.heap.size) = False := eq_false (by omega); have z3 : (w1.heap.size = w.heap.size) = False := eq_false (by omega); have c0 : w1.cell? ⟨w.heap.size, 0, none⟩ = some (v0) := bC_ R1.out 0; have f0 : w1.frozen? ⟨w.heap.size, 0, none⟩ = false := bF_ R1.out 0; have c1 : w1.cell? ⟨w.heap.size, 1, none⟩ = some (.bool s) := bC_ R1.out 1; have f1 : w1.frozen? ⟨w.heap.size, 1, none⟩ = false := bF_ R1.out 1; have c2 : w1.cell? ⟨w.heap.size, 2, none⟩ = some (.string p) := bC_ R1.out 2; have f2 : w1.frozen? ⟨w.heap.size, 2, none⟩ = false := bF_ R1.out 2; have c3 : w1.cell? ⟨w.heap.size, 3, none⟩ = some (.string u) := bC_ R1.out 3; have f3 : w1.frozen? ⟨w.heap.size, 3, none⟩ = false := bF_ R1.out 3; have VO := aM_ (vh_own hrv hz (Nat.le_of_lt hz)); have V1 := aM_ (Kd.R_below HV.out hb); obtain ⟨A1, c1z, rfl, hl1, hC1⟩ := Kd.R_reads hrv; have C1 := aM_ hC1; have L1 := aM_ hl1; have D1 := aM_ (blk_new w1 (.cells #[.slice A1 gl.length c1z, .bool gs, .string gp, .string gu] 26 (0, 0))); clear hb hrv hC1 hl1)
       | (go_at_call 28; (with_reducible refine (HP.out _ _ _ (Kd.C_alloc C1.out _) L1.out).mono ?_); rintro e w2 ⟨rfl, hb⟩; have BL := aM_ (below_step (bB_ B1.out _) hb); have RL := aM_ (blk_below (bA_ R1.out _) hb); have VL := aM_ (Kd.R_below (Kd.R_below V1.out (bB_ (Below.refl _ _) _)) hb); have VOL := aM_ (Kd.R_below (Kd.R_below VO.out (bB_ (Below.refl _ _) _)) hb); have CL := aM_ (Kd.C_below (Kd.C_below C1.out (bB_ (Below.refl _ _) _)) hb); have DL := aM_ (blk_below D1.out hb); have y1 : w.heap.size < w2.heap.size := blk_lt RL.out; have y2 : w1.heap.size < w2.heap.size := blk_lt DL.out; have c0 : w2.cell? ⟨w.heap.size, 0, none⟩ = some (v0) := bC_ RL.out 0; have f0 : w2.frozen? ⟨w.heap.size, 0, none⟩ = false := bF_ RL.out 0; have c1 : w2.cell? ⟨w.heap.size, 1, none⟩ = some (.bool s) := bC_ RL.out 1; have f1 : w2.frozen? ⟨w.heap.size, 1, none⟩ = false := bF_ RL.out 1; have c2 : w2.cell? ⟨w.heap.size, 2, none⟩ = some (.string p) := bC_ RL.out 2; have f2 : w2.frozen? ⟨w.heap.size, 2, none⟩ = false := bF_ RL.out 2; have c3 : w2.cell? ⟨w.heap.size, 3, none⟩ = some (.string u) := bC_ RL.out 3; have f3 : w2.frozen? ⟨w.heap.size, 3, none⟩ = false := bF_ RL.out 3; have d0 : w2.cell? ⟨w1.heap.size, 0, none⟩ = some (.slice A1 gl.length c1z) := bC_ DL.out 0; have g0 : w2.frozen? ⟨w1.heap.size, 0, none⟩ = false := bF_ DL.out 0; have d1 : w2.cell? ⟨w1.heap.size, 1, none⟩ = some (.bool gs) := bC_ DL.out 1; have g1 : w2.frozen? ⟨w1.heap.size, 1, none⟩ = false := bF_ DL.out 1; have d2 : w2.cell? ⟨w1.heap.size, 2, none⟩ = some (.string gp) := bC_ DL.out 2; have g2 : w2.frozen? ⟨w1.heap.size, 2, none⟩ = false := bF_ DL.out 2; have d3 : w2.cell? ⟨w1.heap.size, 3, none⟩ = some (.string gu) := bC_ DL.out 3; have g3 : w2.frozen? ⟨w1.heap.size, 3, none⟩ = false := bF_ DL.out 3; clear hb))
      go_roundw
      case measure => rw [w9]; exact HM.out
      case rel => exact ⟨j + 1, v0, b, s, p, u, HJ.out, by rw [w9]; simp, HH2, RL, VL, HN, BL⟩
  ·
   have p1 : (0 ≤ (j : Int)) = True := eq_true (by omega)
   have q1 : ((j : Int) < (l0.length : Int)) = False := eq_false (by omega)
   have q2 : decide ((j : Int) < (l0.length : Int)) = false := decide_eq_false (by omega)
   have hh := HH.out
   rw [List.drop_eq_nil_of_le (by omega), spec_VerHighest.l0] at hh
   obtain ⟨t, hp, hh⟩ := Option.bind_eq_some_iff.mp hh
   simp only [Option.some.injEq, Prod.mk.injEq] at hh
   obtain ⟨rfl, rfl, rfl, rfl, rfl, rfl⟩ := hh
   obtain ⟨A1, c1z, rfl, hl1, hC1⟩ := Kd.R_reads HV.out
   have C1 := aM_ hC1
   have L1 := aM_ hl1
   have HP := aM_ (fun A c w hr hc => spec_Version_part.calls A c b s p u 0 t w hr hc hp)
   have c0 : wr.cell? ⟨w.heap.size, 0, none⟩ = some (.slice A1 b.length c1z) := bC_ HB.out 0
   have f0 : wr.frozen? ⟨w.heap.size, 0, none⟩ = false := bF_ HB.out 0
   have c1 : wr.cell? ⟨w.heap.size, 1, none⟩ = some (.bool s) := bC_ HB.out 1
   have f1 : wr.frozen? ⟨w.heap.size, 1, none⟩ = false := bF_ HB.out 1
   have c2 : wr.cell? ⟨w.heap.size, 2, none⟩ = some (.string p) := bC_ HB.out 2
   have f2 : wr.frozen? ⟨w.heap.size, 2, none⟩ = false := bF_ HB.out 2
   have c3 : wr.cell? ⟨w.heap.size, 3, none⟩ = some (.string u) := bC_ HB.out 3
   have f3 : wr.frozen? ⟨w.heap.size, 3, none⟩ = false := bF_ HB.out 3
   clear hp HH hj hlt hC1 hl1
   go_wp2
   go_region_held3 (fun w' => w'.cell? ⟨w.heap.size, 0, none⟩ = some (.slice A1 b.length c1z) ∧ w'.cell? ⟨w.heap.size, 1, none⟩ = some (.bool s) ∧ w'.cell? ⟨w.heap.size, 2, none⟩ = some (.string p) ∧ w'.cell? ⟨w.heap.size, 3, none⟩ = some (.string u)) (first | exact ⟨c0, c1, c2, c3⟩ | exact ⟨d0, d1, d2, d3⟩ | exact ⟨e0, e1, e2, e3⟩)
    (first | (go_at_call 28; (with_reducible refine (HP.out _ _ _ (Kd.C_below C1.out (below_drew (Below.refl _ _))) L1.out).mono ?_); rintro e w2 ⟨rfl, hb⟩; have B2 := aM_ (below_step (bE_ HW.out) hb); have R2 := aM_ (blk_below (bD_ HB.out) hb); have z1 : w.heap.size < w2.heap.size := blk_lt R2.out; have d0 : w2.cell? ⟨w.heap.size, 0, none⟩ = some (.slice A1 b.length c1z) := bC_ R2.out 0; have g0 : w2.frozen? ⟨w.heap.size, 0, none⟩ = false := bF_ R2.out 0; have d1 : w2.cell? ⟨w.heap.size, 1, none⟩ = some (.bool s) := bC_ R2.out 1; have g1 : w2.frozen? ⟨w.heap.size, 1, none⟩ = false := bF_ R2.out 1; have d2 : w2.cell? ⟨w.heap.size, 2, none⟩ = some (.string p) := bC_ R2.out 2; have g2 : w2.frozen? ⟨w.heap.size, 2, none⟩ = false := bF_ R2.out 2; have d3 : w2.cell? ⟨w.heap.size, 3, none⟩ = some (.string u) := bC_ R2.out 3; have g3 : w2.frozen? ⟨w.heap.size, 3, none⟩ = false := bF_ R2.out 3; have V2 := aM_ (Kd.R_below (kN_ HV.out 1) hb); have R3 := aM_ (blk_put (cs' := #[.slice A1 b.length c1z, .bool s, .string p, .string u]) (blk_put (cs' := #[.slice A1 b.length c1z, .bool s, .string p, .string u]) (blk_put (cs' := #[.slice A1 b.length c1z, .bool s, .string p, .string u]) (blk_put (cs' := #[.slice A1 b.length c1z, .bool s, .string p, .string u]) R2.out 0 (.slice A1 b.length c1z) rfl) 1 (.bool s) rfl) 2 (.string p) rfl) 3 (.string u) rfl); have e0 := bC_ R3.out 0; have e1 := bC_ R3.out 1; have e2 := bC_ R3.out 2; have e3 := bC_ R3.out 3; clear hb))
   all_goals go_wp2
   all_goals refine bodyPost_ret (v := .tuple #[.agg #[.slice A1 b.length c1z, .bool s, .string p, .string u], .bool (t == 1), .bool true]) (by simp [results, Tryd.results21, go_sem, e0, e1, e2, e3]) rfl ⟨_, rfl, ?_, ?_⟩
   all_goals first | (refine Kd.R_mono (ok := fun k => k ≠ w.heap.size) ?_ (fun _ _ => trivial); repeat (first | (with_reducible exact V2.out) | refine Kd.R_far ?_ (fun _ h => h) _)) | (repeat (first | (with_reducible exact B2.out) | refine bS_ ?_ (Nat.le_refl _)))
-- NOT PRINTED: function 59 (version_Version_Components)

-- NOT PRINTED: function 60 (version_Version_PreRelease)

-- NOT PRINTED: function 61 (version_Version_BuildMetadata)

-- NOT PRINTED: function 91 (bytes_Buffer_tryGrowByReslice)

-- NOT PRINTED: function 104 (bytes_Buffer_Len)

-- NOT PRINTED: function 105 (bytes_Buffer_Reset)

-- NOT PRINTED: function 106 (bytes_growSlice)

-- NOT PRINTED: function 92 (bytes_Buffer_grow)

-- NOT PRINTED: function 83 (bytes_Buffer_WriteString)

-- NOT PRINTED: function 107 (strconv_small)

-- NOT PRINTED: function 123 (strconv_log10Pow2)

-- NOT PRINTED: function 124 (bits_Len64)

-- NOT PRINTED: function 125 (strconv_bool2_int)

-- NOT PRINTED: function 108 (strconv_numDigits)

-- NOT PRINTED: function 109 (strconv_formatBase10)

-- NOT PRINTED: function 126 (strconv_isPowerOfTwo)

-- NOT PRINTED: function 132 (bits_TrailingZeros32)

-- NOT PRINTED: function 133 (bits_TrailingZeros64)

-- NOT PRINTED: function 127 (bits_TrailingZeros)

-- NOT PRINTED: function 110 (strconv_formatBits)

-- NOT PRINTED: function 93 (strconv_FormatUint_93)

-- NOT PRINTED: function 84 (strconv_FormatUint_84)

-- NOT PRINTED: function 85 (bytes_Buffer_String)

-- NOT PRINTED: function 62 (version_Version_String)

-- NOT PRINTED: function 63 (version_Version_Major)

-- NOT PRINTED: function 64 (version_Version_Minor)

-- NOT PRINTED: function 65 (version_Version_Patch)

-- NOT PRINTED: function 29 (impl_ver)

-- NOT PRINTED: function 72 (errors_New)

-- NOT PRINTED: function 111 (version_zzBlanks)

-- NOT PRINTED: function 112 (version_zzDigits)

-- NOT PRINTED: function 94 (version_zzVersion)

-- NOT PRINTED: function 113 (version_zzIndex)

-- NOT PRINTED: function 95 (version_zzSplit)

-- NOT PRINTED: function 114 (stringslite_HasPrefix)

-- NOT PRINTED: function 96 (strings_HasPrefix)

-- NOT PRINTED: function 130 (stringslite_Clone)

-- NOT PRINTED: function 118 (strconv_syntaxError)

-- NOT PRINTED: function 119 (strconv_rangeError)

-- NOT PRINTED: function 135 (strconv_FormatInt)

-- NOT PRINTED: function 134 (strconv_Itoa_134)

-- NOT PRINTED: function 131 (strconv_Itoa_131)

-- NOT PRINTED: function 120 (strconv_baseError)

-- NOT PRINTED: function 121 (strconv_bitSizeError)

-- NOT PRINTED: function 102 (strconv_toError)

-- NOT PRINTED: function 128 (strconv_lower)

-- NOT PRINTED: function 129 (strconv_underscoreOK)

-- NOT PRINTED: function 115 (strconv_ParseUint_115)

-- NOT PRINTED: function 97 (strconv_ParseUint_97)

-- NOT PRINTED: function 116 (version_zzWords)

-- NOT PRINTED: function 98 (version_zzExtra)

-- NOT PRINTED: function 86 (version_parse)

-- NOT PRINTED: function 66 (version_ParseGeneric)

-- NOT PRINTED: function 99 (version_onlyZeros)

-- NOT PRINTED: function 87 (version_Version_compareInternal)

-- NOT PRINTED: function 73 (version_Version_LessThan)

-- NOT PRINTED: function 51 (version_HighestSupportedVersion)

/-! ### impl_texts: function 52 -/
def impl_texts.f (l0 : List ByteArray) : Option (List ByteArray) := (some (([] : List ByteArray) : List ByteArray)).bind fun y133 => (if y133.length + l0.length < 8796093022208 then (some (y133 ++ l0)) else (none))
set_option maxHeartbeats 8000000 in
set_option maxRecDepth 100000 in
theorem impl_texts.calls (A0 : Option Addr) (c0 : Nat) (l0 : List ByteArray) (r : List ByteArray) (w : World) (hr0 : Kd.C Kd.string w A0 l0.length l0) (hc0 : l0.length ≤ c0) (h : impl_texts.f l0 = some r) :
  Calls Tryd.prog 52 #[.slice A0 l0.length c0] w fun e w' => ∃ v0_ : Value, e = .returned (v0_) ∧ Kd.R Kd.string 9 w' w.heap.size (fun _ => True) v0_ r ∧ Below w.heap.size w w' := by
 have HR0 := aM_ hr0
 have HC0 := aM_ hc0
 clear hr0 hc0
 have HB := aM_ (Below.refl w.heap.size w)
 have H : ((some (([] : List ByteArray) : List ByteArray)).bind fun y133 => (if y133.length + l0.length < 8796093022208 then (some (y133 ++ l0)) else (none))) = some r := h
 clear h
 obtain ⟨y133, hy133⟩ : ∃ y_ : List ByteArray, y_ = (([] : List ByteArray)) := ⟨_, rfl⟩
 replace H : (if y133.length + l0.length < 8796093022208 then (some (y133 ++ l0)) else (none)) = some r := by first | (rw [hy133]; with_reducible exact H) | (have H2_ := (Option.bind_some _ _).symm.trans H; rw [hy133]; with_reducible exact H2_) | (have H2_ := (Option.bind_some _ _).symm.trans H; with_reducible exact H2_) | with_reducible exact H | (rw [hy133]; exact H) | exact H
 have Ny133 := aM_ hy133
 clear hy133
 by_cases c2 : y133.length + l0.length < 8796093022208
 ·
  rw [if_pos c2] at H
  have LMc2 := aM_ c2
  clear c2
  obtain ⟨y136, hy136⟩ : ∃ y_ : List ByteArray, y_ = (y133 ++ l0) := ⟨_, rfl⟩
  replace H : (some y136) = some r := by first | (rw [hy136]; with_reducible exact H) | (have H2_ := (Option.bind_some _ _).symm.trans H; rw [hy136]; with_reducible exact H2_) | (have H2_ := (Option.bind_some _ _).symm.trans H; with_reducible exact H2_) | with_reducible exact H | (rw [hy136]; exact H) | exact H
  have Ny136 := aM_ hy136
  clear hy136
  obtain rfl := Option.some.inj H
  go_enter Tryd.func52, Tryd.ntmps52
  go_wp2_with (first | ((with_reducible refine gate_dst (N := 3) rfl ?_); refine Kd.R_lit Kd.string _ 9 ?hg (N := 3) ?hd (xs := ([] : List ByteArray)) (inner := []) (ok := fun _ => True) (okp := fun _ => True) ?hr ?hp (fun _ hk => hk) trivial (Below.refl _ _) (Nat.le_refl _) (by simp) ?_; (case hd => rfl); (case hg => rfl); (case hr => first | (go_simp; done) | (go_simp; rfl)); (case hp => exact (Reps.none _ _)); intro v134 w3 ho4 hb hg_ hnew_; clear hg_ hnew_; (first | rw [← Ny133.out] at ho4 | (simp only [Int.reduceToNat] at ho4; rw [← Ny133.out] at ho4)); have n0_ := aM_ (Kd.R_lower ho4 (below_size (by repeat (first | (with_reducible first | exact HB.out | apply bB_ | apply wN_ | apply bE_) | exact HB.out)))); have n1_ := aM_ (below_step (by repeat (first | (with_reducible first | exact HB.out | apply bB_ | apply wN_ | apply bE_) | exact HB.out)) hb); clear HB; have HO135 := n0_; have HB := n1_; clear n0_ n1_; clear hb ho4) | ((with_reducible refine gate_builtin (b := .append) (xs := #[.tmp 3, .tmp 4]) rfl ?_); at_builtin; refine Kd.R_append_rows Kd.string (w0 := w) w.heap.size rfl (.tmp 3) (.tmp 4) 49 9 (.string ⟨#[]⟩) 16 rfl Tryd.underlying49 info9 rfl (by decide) (by omega) v134 y133 l0 _ _ _ (fun _ => True) (fun _ => False) rfl rfl ?aO ?aR (fun _ _ h => h) (fun _ h => h.elim) ?aF ?aB ?aS ?aL ?_; (case aR => repeat (first | exact (Kd.C_below HR0.out HB.out) | (with_reducible refine Kd.C_alloc ?_ _) | (with_reducible refine Kd.C_drewN ?_ _) | (with_reducible refine Kd.C_drew ?_))); (case aB => exact (by repeat (first | (with_reducible first | exact HB.out | apply bB_ | apply wN_ | apply bE_) | exact HB.out))); (case aF => exact (fun _ _ => trivial)); (case aO => exact (by (with_reducible repeat (first | apply kA_ | apply kN_ | apply kD_)); exact HO135.out)); (case aS => exact (below_size (by repeat (first | (with_reducible first | exact HB.out | apply bB_ | apply wN_ | apply bE_) | exact HB.out)))); (case aL => have := LMc2.out; omega); intro v137 w5 ho hb hg hat; rw [← Ny136.out] at ho; have n0_ := aM_ (hb); have n1_ := aM_ (ho); clear HB; clear HO135; have HB := n0_; have HO138 := n1_; clear n0_ n1_; clear ho hb hg hat))
  go_ret
  exact ⟨_, by first | rfl | (simp [errW_none, errW_some] <;> rfl) | (simp [*, errW_none, errW_some] <;> rfl), by (with_reducible repeat (first | apply kA_ | apply kN_ | apply kD_)); exact HO138.out, by repeat (first | (with_reducible first | exact HB.out | apply bB_ | apply wN_ | apply bE_) | exact HB.out)⟩
 ·
  rw [if_neg c2] at H
  exact absurd H (by simp)

/-! ### impl_VersionHighest: function 22 -/
def impl_VersionHighest.f (l0 : List ByteArray) : Option (Bool × List Int × ByteArray × ByteArray × ByteArray × Int × Int × Int × Bool) :=
 if l0.length ≤ 549755813888 ∧ (l0.all fun s => decide (s.size ≤ 549755813888)) = true then
  match Pv.hres (l0.map Pv.Lb) with
  | none => some (false, [], ⟨#[]⟩, ⟨#[]⟩, ⟨#[]⟩, 0, 0, 0, false)
  | some q => some (true, Pv.zs q.2.1, Pv.mk q.2.2.1, Pv.mk q.2.2.2, Pv.mk (Pv.vtxt q.2.1 q.2.2.1 q.2.2.2), (Pv.pt q.2.1 0 : Int), (Pv.pt q.2.1 1 : Int), (Pv.pt q.2.1 2 : Int), true)
 else none
set_option maxHeartbeats 12800000 in
set_option maxRecDepth 100000 in
theorem impl_VersionHighest.calls (A0 : Option Addr) (c0 : Nat) (l0 : List ByteArray) (r1 : Bool) (r2 : List Int) (r3 r4 r5 : ByteArray) (r6 r7 r8 : Int) (r9 : Bool) (w : World) (hr0 : Kd.C Kd.string w A0 l0.length l0) (hc0 : l0.length ≤ c0) (h : impl_VersionHighest.f l0 = some (r1, r2, r3, r4, r5, r6, r7, r8, r9)) (hg : Pv.Good w) :
  Calls Tryd.prog 22 #[.slice A0 l0.length c0] w fun e w' => ∃ v0_ : Value, e = .returned (.tuple #[.agg #[.bool r1, v0_, .string r3, .string r4, .string r5, .int .u64 r6, .int .u64 r7, .int .u64 r8], .bool r9]) ∧ Kd.R (Kd.int .u64) 22 w' w.heap.size (fun _ => True) v0_ r2 ∧ Below w.heap.size w w' := by
 have mixed : Tryd.prog.follows .mixedOrders = true := by kernel_rfl
 have hu2 := Tryd.underlying28
 unfold impl_VersionHighest.f at h
 by_cases hs : l0.length ≤ 549755813888 ∧ (l0.all fun s => decide (s.size ≤ 549755813888)) = true
 ·
  rw [if_pos hs] at h
  have hall : ∀ s ∈ l0, s.size ≤ 549755813888 := fun s hm => of_decide_eq_true (List.all_eq_true.1 hs.2 s hm)
  have htx : impl_texts.f l0 = some l0 := by
   unfold impl_texts.f
   rw [Option.bind_some, if_pos (by rw [List.length_nil]; omega), List.nil_append]
  have HT := aM_ (fun w hr => impl_texts.calls A0 c0 l0 l0 w hr hc0 htx)
  have HH := aM_ (fun A c w hr hc hg => Pv.high_calls A c l0 w hr hc hall (by omega) hg)
  have hfit := fun q (hq : Pv.hres (l0.map Pv.Lb) = some q) => Pv.hres_fit (M := 549755813888) (l0.map Pv.Lb) (fun l hl => by obtain ⟨s, hm, rfl⟩ := List.mem_map.1 hl; have := hall s hm; have e : s.size = (Pv.Lb s).length := Go.Proofs.YtomoefldmgfaoaaDoor.Txt.size_len s; omega) q hq
  have HR := aM_ hr0
  have HG := aM_ hg
  clear hs hall htx hr0 hg hc0
  cases hk : Pv.hres (l0.map Pv.Lb) with
  | none =>
   have H1 := aM_ hk
   rw [hk] at h
   simp only [Option.some.injEq, Prod.mk.injEq] at h
   obtain ⟨rfl, rfl, rfl, rfl, rfl, rfl, rfl, rfl, rfl⟩ := h
   clear hk hfit
   go_enter Tryd.func22, Tryd.ntmps22
   go_wp2_with (first
    | (go_at_call 52; (with_reducible refine (HT.out _ (Kd.C_alloc HR.out _)).mono ?_); rintro e w1 ⟨v1, rfl, hr1, hb⟩; obtain ⟨A1, c1, rfl, hl1, hC1⟩ := Kd.R_reads hr1; have HC1 := aM_ hC1; have HL1 := aM_ hl1; have B1 := aM_ (below_step (bB_ (Below.refl w.heap.size w) _) hb); have R1 : Aside0 (w1.heap[w.heap.size]? = some Pv.zero28) := ⟨blk_below (blk_new w Pv.zero28) hb⟩; clear hb hr1 hC1 hl1)
    | (go_at_call 51; (with_reducible refine (HH.out _ _ _ HC1.out HL1.out (HG.out.below B1.out)).mono ?_); rintro e w2 ⟨ht, hb⟩; rw [H1.out] at ht; obtain ⟨T, x, rfl⟩ := ht; have B2 := aM_ (below_step B1.out hb); have R2 := aM_ (blk_below R1.out hb); clear hb))
   go_region_held3 (fun _ => True) (exact trivial)
    (first | (go_at_call 29; (with_reducible refine (Pv.ver_no _ _ _).mono ?_); rintro e w3 ⟨rfl, hb⟩; have B3 := aM_ (below_step (bE_ B2.out) hb); have R3 := aM_ (blk_below (bD_ R2.out) hb); have c0 : w3.cell? ⟨w.heap.size, 0, none⟩ = some (.bool false) := bC_ R3.out 0; have f0 := bF_ R3.out 0; have c1 : w3.cell? ⟨w.heap.size, 1, none⟩ = some (.slice none 0 0) := bC_ R3.out 1; have f1 := bF_ R3.out 1; have c2 : w3.cell? ⟨w.heap.size, 2, none⟩ = some (.string ⟨#[]⟩) := bC_ R3.out 2; have f2 := bF_ R3.out 2; have c3 : w3.cell? ⟨w.heap.size, 3, none⟩ = some (.string ⟨#[]⟩) := bC_ R3.out 3; have f3 := bF_ R3.out 3; have c4 : w3.cell? ⟨w.heap.size, 4, none⟩ = some (.string ⟨#[]⟩) := bC_ R3.out 4; have f4 := bF_ R3.out 4; have c5 : w3.cell? ⟨w.heap.size, 5, none⟩ = some (.int .u64 0) := bC_ R3.out 5; have f5 := bF_ R3.out 5; have c6 : w3.cell? ⟨w.heap.size, 6, none⟩ = some (.int .u64 0) := bC_ R3.out 6; have f6 := bF_ R3.out 6; have c7 : w3.cell? ⟨w.heap.size, 7, none⟩ = some (.int .u64 0) := bC_ R3.out 7; have f7 := bF_ R3.out 7; clear hb))
   all_goals go_wp2
   refine bodyPost_ret (v := .tuple #[Pv.verNil, .bool false]) (by simp [results, Tryd.results22, go_sem, c0, f0, c1, f1, c2, f2, c3, f3, c4, f4, c5, f5, c6, f6, c7, f7, Pv.verNil]) rfl ⟨_, rfl, Kd.R_nil _ _ _ _ _, ?_⟩
   repeat (first | (with_reducible exact B3.out) | refine bS_ ?_ (Nat.le_refl _))
  | some q =>
   have H1 := aM_ hk
   rw [hk] at h
   simp only [Option.some.injEq, Prod.mk.injEq] at h
   obtain ⟨rfl, rfl, rfl, rfl, rfl, rfl, rfl, rfl, rfl⟩ := h
   obtain ⟨hq0, f1, f2, f3, f4, f5⟩ := hfit q hk
   have HV := aM_ (fun g c w hv hg => Pv.ver_calls g c q.2.1 q.1 q.2.2.1 q.2.2.2 f1 f3 (by omega) (by omega) (by omega) w hv hg)
   have HF := aM_ f1
   clear hk hfit hq0 f1 f2 f3 f4 f5
   go_enter Tryd.func22, Tryd.ntmps22
   go_wp2_with (first
    | (go_at_call 52; (with_reducible refine (HT.out _ (Kd.C_alloc HR.out _)).mono ?_); rintro e w1 ⟨v1, rfl, hr1, hb⟩; obtain ⟨A1, c1, rfl, hl1, hC1⟩ := Kd.R_reads hr1; have HC1 := aM_ hC1; have HL1 := aM_ hl1; have B1 := aM_ (below_step (bB_ (Below.refl w.heap.size w) _) hb); have R1 : Aside0 (w1.heap[w.heap.size]? = some Pv.zero28) := ⟨blk_below (blk_new w Pv.zero28) hb⟩; clear hb hr1 hC1 hl1)
    | (go_at_call 51; (with_reducible refine (HH.out _ _ _ HC1.out HL1.out (HG.out.below B1.out)).mono ?_); rintro e w2 ⟨ht, hb⟩; rw [H1.out] at ht; obtain ⟨g, c, rfl, hv, h1, h2⟩ := ht; have V2 := aM_ hv; have B2 := aM_ (below_step B1.out hb); have R2 := aM_ (blk_below R1.out hb); clear hb hv h1 h2))
   go_region_held3 (fun _ => True) (exact trivial)
    (first | (go_at_call 29; (with_reducible refine (HV.out _ _ _ (V2.out.below (below_drew (Below.refl _ _))) (HG.out.below (bE_ B2.out))).mono ?_); rintro e w3 ⟨v0, rfl, hr, hb⟩; obtain ⟨bc, cp, e9, h9, -, -⟩ := Kd.R_form hr (by rw [List.length_map]; have := HF.out; omega); subst e9; have hlt9 : w.heap.size < w2.heap.size := blk_lt R2.out; have TR := aM_ (Pv.own_ne hr (g := w.heap.size) hlt9 B2.out.size); have B3 := aM_ (below_step (bE_ B2.out) hb); have R3 := aM_ (blk_below (bD_ R2.out) hb); have c0 : w3.cell? ⟨w.heap.size, 0, none⟩ = some (.bool false) := bC_ R3.out 0; have f0 := bF_ R3.out 0; have c1 : w3.cell? ⟨w.heap.size, 1, none⟩ = some (.slice none 0 0) := bC_ R3.out 1; have f1 := bF_ R3.out 1; have c2 : w3.cell? ⟨w.heap.size, 2, none⟩ = some (.string ⟨#[]⟩) := bC_ R3.out 2; have f2 := bF_ R3.out 2; have c3 : w3.cell? ⟨w.heap.size, 3, none⟩ = some (.string ⟨#[]⟩) := bC_ R3.out 3; have f3 := bF_ R3.out 3; have c4 : w3.cell? ⟨w.heap.size, 4, none⟩ = some (.string ⟨#[]⟩) := bC_ R3.out 4; have f4 := bF_ R3.out 4; have c5 : w3.cell? ⟨w.heap.size, 5, none⟩ = some (.int .u64 0) := bC_ R3.out 5; have f5 := bF_ R3.out 5; have c6 : w3.cell? ⟨w.heap.size, 6, none⟩ = some (.int .u64 0) := bC_ R3.out 6; have f6 := bF_ R3.out 6; have c7 : w3.cell? ⟨w.heap.size, 7, none⟩ = some (.int .u64 0) := bC_ R3.out 7; have f7 := bF_ R3.out 7; clear hb hr h9))
   all_goals go_wp2
   refine bodyPost_ret (v := .tuple #[Pv.verOut (.slice (some ⟨bc, 0, none⟩) (Pv.zs q.2.1).length cp) q.2.1 q.2.2.1 q.2.2.2, .bool true]) (by simp [results, Tryd.results22, go_sem, c0, f0, c1, f1, c2, f2, c3, f3, c4, f4, c5, f5, c6, f6, c7, f7, Pv.verOut]) rfl ⟨_, rfl, ?_, ?_⟩
   ·
    refine Kd.R_mono (ok := fun k => k ≠ w.heap.size) ?_ (fun _ _ => trivial)
    repeat (first | (with_reducible exact TR.out) | refine Kd.R_far ?_ (fun _ h => h) _)
   ·
    repeat (first | (with_reducible exact B3.out) | refine bS_ ?_ (Nat.le_refl _))
 ·
  rw [if_neg hs] at h; cases h
/-! ### laws_FnVersionHighest: function 7 -/
def laws_FnVersionHighest.f (k : Nat) (l0 : List ByteArray) : Option (Bool) := (laws_zzFits4.f k l0).bind fun t139 => (if t139 = true then ((spec_VerHighest.f k l0).bind fun bt140 => (if bt140.2.2.2.2.2 = true then ((impl_VersionHighest.f l0).bind fun bt149 => (if bt140.2.2.2.2.1 = true then (if bt149.2.2.2.2.2.2.2.2 = true then (if bt149.1 = true then ((spec_Versions.f k bt140.1 bt140.2.1 bt140.2.2.1 bt140.2.2.2.1 bt149.2.1 false (⟨#[]⟩ : ByteArray) (⟨#[]⟩ : ByteArray)).bind fun t161 => (some (t161 == 0))) else (some false)) else (some false)) else (if bt149.2.2.2.2.2.2.2.2 = true then (some false) else (some (!bt149.1))))) else (some true))) else (some true))
theorem laws_FnVersionHighest.mono : ∀ a0 k, LeO (laws_FnVersionHighest.f k a0) (laws_FnVersionHighest.f (k + 1) a0) := by
 intro a0 k
 unfold laws_FnVersionHighest.f
 repeat' first
   | (with_reducible exact laws_zzFits4.mono _ _)
   | (with_reducible exact spec_VerHighest.mono _ _)
   | (with_reducible exact spec_Versions.mono _ _ _ _ _ _ _ _ _)
   | (with_reducible exact LeO.refl _)
   | (with_reducible exact LeO.none _)
   | (with_reducible refine LeO.ite ?_ ?_)
   | (with_reducible refine LeO.bind ?_ (fun _ => ?_))
   | exact laws_zzFits4.mono _ _
   | exact spec_VerHighest.mono _ _
   | exact spec_Versions.mono _ _ _ _ _ _ _ _ _
   | exact LeO.none _
   | refine LeO.ite ?_ ?_
   | refine LeO.bind ?_ (fun _ => ?_)
set_option maxHeartbeats 8000000 in
set_option maxRecDepth 100000 in
theorem laws_FnVersionHighest.calls (k : Nat) (A0 : Option Addr) (c0 : Nat) (l0 : List ByteArray) (r : Bool) (w : World) (hr0 : Kd.C Kd.string w A0 l0.length l0) (hc0 : l0.length ≤ c0) (h : laws_FnVersionHighest.f k l0 = some r) (hgood : Pv.Good w) :
  Calls Tryd.prog 7 #[.slice A0 l0.length c0] w fun e w' => e = .returned (.bool r) ∧ Below w.heap.size w w' := by
 have HGd := aM_ hgood
 clear hgood
 have hu26 := Tryd.underlying26
 have hu28 := Tryd.underlying28
 have HR0 := aM_ hr0
 have HC0 := aM_ hc0
 clear hr0 hc0
 have HB := aM_ (Below.refl w.heap.size w)
 have H : ((laws_zzFits4.f k l0).bind fun t139 => (if t139 = true then ((spec_VerHighest.f k l0).bind fun bt140 => (if bt140.2.2.2.2.2 = true then ((impl_VersionHighest.f l0).bind fun bt149 => (if bt140.2.2.2.2.1 = true then (if bt149.2.2.2.2.2.2.2.2 = true then (if bt149.1 = true then ((spec_Versions.f k bt140.1 bt140.2.1 bt140.2.2.1 bt140.2.2.2.1 bt149.2.1 false (⟨#[]⟩ : ByteArray) (⟨#[]⟩ : ByteArray)).bind fun t161 => (some (t161 == 0))) else (some false)) else (some false)) else (if bt149.2.2.2.2.2.2.2.2 = true then (some false) else (some (!bt149.1))))) else (some true))) else (some true))) = some r := h
 clear h
 replace H := Option.bind_eq_some_iff.mp H
 obtain ⟨t139, A20, H⟩ := H
 replace H : (if t139 = true then ((spec_VerHighest.f k l0).bind fun bt140 => (if bt140.2.2.2.2.2 = true then ((impl_VersionHighest.f l0).bind fun bt149 => (if bt140.2.2.2.2.1 = true then (if bt149.2.2.2.2.2.2.2.2 = true then (if bt149.1 = true then ((spec_Versions.f k bt140.1 bt140.2.1 bt140.2.2.1 bt140.2.2.2.1 bt149.2.1 false (⟨#[]⟩ : ByteArray) (⟨#[]⟩ : ByteArray)).bind fun t161 => (some (t161 == 0))) else (some false)) else (some false)) else (if bt149.2.2.2.2.2.2.2.2 = true then (some false) else (some (!bt149.1))))) else (some true))) else (some true)) = some r := H
 have A2 := aM_ A20
 clear A20
 by_cases c3 : t139 = true
 ·
  subst c3
  have H1 : ((spec_VerHighest.f k l0).bind fun bt140 => (if bt140.2.2.2.2.2 = true then ((impl_VersionHighest.f l0).bind fun bt149 => (if bt140.2.2.2.2.1 = true then (if bt149.2.2.2.2.2.2.2.2 = true then (if bt149.1 = true then ((spec_Versions.f k bt140.1 bt140.2.1 bt140.2.2.1 bt140.2.2.2.1 bt149.2.1 false (⟨#[]⟩ : ByteArray) (⟨#[]⟩ : ByteArray)).bind fun t161 => (some (t161 == 0))) else (some false)) else (some false)) else (if bt149.2.2.2.2.2.2.2.2 = true then (some false) else (some (!bt149.1))))) else (some true))) = some r := by rw [if_pos rfl] at H; exact H
  clear H
  have H := H1
  clear H1
  replace H := Option.bind_eq_some_iff.mp H
  obtain ⟨⟨t140, t143, t144, t145, t146, t147⟩, A40, H⟩ := H
  replace H : (if t147 = true then ((impl_VersionHighest.f l0).bind fun bt149 => (if t146 = true then (if bt149.2.2.2.2.2.2.2.2 = true then (if bt149.1 = true then ((spec_Versions.f k t140 t143 t144 t145 bt149.2.1 false (⟨#[]⟩ : ByteArray) (⟨#[]⟩ : ByteArray)).bind fun t161 => (some (t161 == 0))) else (some false)) else (some false)) else (if bt149.2.2.2.2.2.2.2.2 = true then (some false) else (some (!bt149.1))))) else (some true)) = some r := H
  have A4 := aM_ A40
  clear A40
  by_cases c5 : t147 = true
  ·
   subst c5
   have H1 : ((impl_VersionHighest.f l0).bind fun bt149 => (if t146 = true then (if bt149.2.2.2.2.2.2.2.2 = true then (if bt149.1 = true then ((spec_Versions.f k t140 t143 t144 t145 bt149.2.1 false (⟨#[]⟩ : ByteArray) (⟨#[]⟩ : ByteArray)).bind fun t161 => (some (t161 == 0))) else (some false)) else (some false)) else (if bt149.2.2.2.2.2.2.2.2 = true then (some false) else (some (!bt149.1))))) = some r := by rw [if_pos rfl] at H; exact H
   clear H
   have H := H1
   clear H1
   replace H := Option.bind_eq_some_iff.mp H
   obtain ⟨⟨t149, t150, t153, t154, t155, t156, t157, t158, t159⟩, A60, H⟩ := H
   replace H : (if t146 = true then (if t159 = true then (if t149 = true then ((spec_Versions.f k t140 t143 t144 t145 t150 false (⟨#[]⟩ : ByteArray) (⟨#[]⟩ : ByteArray)).bind fun t161 => (some (t161 == 0))) else (some false)) else (some false)) else (if t159 = true then (some false) else (some (!t149)))) = some r := H
   have A6 := aM_ A60
   clear A60
   by_cases c7 : t146 = true
   ·
    subst c7
    have H1 : (if t159 = true then (if t149 = true then ((spec_Versions.f k t140 t143 t144 t145 t150 false (⟨#[]⟩ : ByteArray) (⟨#[]⟩ : ByteArray)).bind fun t161 => (some (t161 == 0))) else (some false)) else (some false)) = some r := by rw [if_pos rfl] at H; exact H
    clear H
    have H := H1
    clear H1
    by_cases c8 : t159 = true
    ·
     subst c8
     have H1 : (if t149 = true then ((spec_Versions.f k t140 t143 t144 t145 t150 false (⟨#[]⟩ : ByteArray) (⟨#[]⟩ : ByteArray)).bind fun t161 => (some (t161 == 0))) else (some false)) = some r := by rw [if_pos rfl] at H; exact H
     clear H
     have H := H1
     clear H1
     by_cases c9 : t149 = true
     ·
      subst c9
      have H1 : ((spec_Versions.f k t140 t143 t144 t145 t150 false (⟨#[]⟩ : ByteArray) (⟨#[]⟩ : ByteArray)).bind fun t161 => (some (t161 == 0))) = some r := by rw [if_pos rfl] at H; exact H
      clear H
      have H := H1
      clear H1
      replace H := Option.bind_eq_some_iff.mp H
      obtain ⟨t161, A100, H⟩ := H
      replace H : (some (t161 == 0)) = some r := H
      have A10 := aM_ A100
      clear A100
      obtain rfl := Option.some.inj H
      go_enter Tryd.func7, Tryd.ntmps7
      go_wp2_with (first | ((with_reducible refine gate_callee (f := 20) rfl ?_); refine goesL_ (some 9) rfl rfl Tryd.func20 (by kernel_rfl) rfl #[.slice A0 l0.length c0] rfl (by (try simp only [List.map_toArray, List.map_cons, List.map_nil]); first | done | rfl | (simp only [List.length_drop, List.length_take]; rfl)) ?_; (with_reducible refine (laws_zzFits4.calls k _ _ l0 true _ ?side1 ?side2 A2.out).mono ?_); (case side1 => repeat (first | exact HR0.out | (with_reducible refine Kd.C_alloc ?_ _) | (with_reducible refine Kd.C_drewN ?_ _) | (with_reducible refine Kd.C_drew ?_))); (case side2 => exact HC0.out); rintro e w' ⟨rfl, ⟨nd, rfl⟩⟩; refine ⟨_, rfl, ?_⟩) | ((with_reducible refine gate_callee (f := 21) rfl ?_); refine goesL_ (some 13) rfl rfl Tryd.func21 (by kernel_rfl) rfl #[.slice A0 l0.length c0] rfl (by (try simp only [List.map_toArray, List.map_cons, List.map_nil]); first | done | rfl | (simp only [List.length_drop, List.length_take]; rfl)) ?_; (with_reducible refine (spec_VerHighest.calls k _ _ l0 t140 t143 t144 t145 true true _ ?side1 ?side2 A4.out).mono ?_); (case side1 => repeat (first | exact HR0.out | (with_reducible refine Kd.C_alloc ?_ _) | (with_reducible refine Kd.C_drewN ?_ _) | (with_reducible refine Kd.C_drew ?_))); (case side2 => exact HC0.out); rintro e w11 ⟨v141, rfl, ho0, hb⟩; refine ⟨_, rfl, ?_⟩; have n0_ := aM_ (Kd.R_lower ho0 (below_size (by repeat (first | (with_reducible first | exact HB.out | apply bB_ | apply wN_ | apply bE_) | exact HB.out)))); have n1_ := aM_ (below_step (by repeat (first | (with_reducible first | exact HB.out | apply bB_ | apply wN_ | apply bE_) | exact HB.out)) hb); clear HB; have HO142 := n0_; have HB := n1_; clear n0_ n1_; (try clear hb); (try clear hb2); (try clear hk); (try clear hi); (try clear ho0)) | ((with_reducible refine gate_dst (N := 3) rfl ?_); refine box_event ?hg (N := 3) ?hd (cs := #[.slice none 0 0, .bool false, .string (⟨#[]⟩ : ByteArray), .string (⟨#[]⟩ : ByteArray)]) (t := 26) ?hr ?_; (case hd => rfl); (case hg => rfl); (case hr => first | (go_simp; done) | (go_simp; rfl)); intro gb148 hg w12 hbox hb; have n0_ := aM_ (Kd.R_below (by (with_reducible repeat (first | apply kA_ | apply kN_ | apply kD_)); exact HO142.out) hb); have n1_ := aM_ (below_step (by repeat (first | (with_reducible first | exact HB.out | apply bB_ | apply wN_ | apply bE_) | exact HB.out)) hb); have n2_ := aM_ (hbox); have n3_ := aM_ ((by rw [hg]; exact (below_size (by repeat (first | (with_reducible first | exact HB.out | apply bB_ | apply wN_ | apply bE_) | exact HB.out))) : w.heap.size ≤ gb148)); have n4_ := aM_ ((by rw [hg]; exact (below_size (by repeat (first | (with_reducible first | exact HB.out | apply bB_ | apply wN_ | apply bE_) | exact HB.out))) : w.heap.size ≤ gb148)); clear HO142; clear HB; have HO142 := n0_; have HB := n1_; have BK148 := n2_; have GW148 := n3_; have GE148 := n4_; clear n0_ n1_ n2_ n3_ n4_; clear hb hbox hg; obtain ⟨Ao13, co13, eo13⟩ := Kd.R_slice HO142.out; subst eo13; have hcz14_0 : w12.cell? ⟨gb148, 0, none⟩ = some (.slice none 0 0) := (bC_ BK148.out 0).trans rfl; have hcz14_1 : w12.cell? ⟨gb148, 1, none⟩ = some (.bool false) := (bC_ BK148.out 1).trans rfl; have hcz14_2 : w12.cell? ⟨gb148, 2, none⟩ = some (.string (⟨#[]⟩ : ByteArray)) := (bC_ BK148.out 2).trans rfl; have hcz14_3 : w12.cell? ⟨gb148, 3, none⟩ = some (.string (⟨#[]⟩ : ByteArray)) := (bC_ BK148.out 3).trans rfl; have hfz14_0 := bF_ BK148.out 0; have hfz14_1 := bF_ BK148.out 1; have hfz14_2 := bF_ BK148.out 2; have hfz14_3 := bF_ BK148.out 3) | ((with_reducible refine gate_callee (f := 22) rfl ?_); refine goesL_ (some 21) rfl rfl Tryd.func22 (by kernel_rfl) rfl #[.slice A0 l0.length c0] rfl (by (try simp only [List.map_toArray, List.map_cons, List.map_nil]); first | done | rfl | (simp only [List.length_drop, List.length_take]; rfl)) ?_; (with_reducible refine (impl_VersionHighest.calls _ _ l0 true t150 t153 t154 t155 t156 t157 t158 true _ ?side1 ?side2 A6.out (HGd.out.below (by repeat (first | (with_reducible first | exact HB.out | apply bB_ | apply wN_ | apply bE_ | refine bS_ ?_ GE148.out) | exact HB.out)))).mono ?_); (case side1 => exact Kd.C_below HR0.out (by repeat (first | (with_reducible first | exact HB.out | apply bB_ | apply wN_ | apply bE_ | refine bS_ ?_ GE148.out) | exact HB.out))); (case side2 => exact HC0.out); rintro e w15 ⟨v151, rfl, ho0, hb⟩; refine ⟨_, rfl, ?_⟩; have n0_ := aM_ (Kd.R_elder' (by (with_reducible repeat (first | apply kA_ | apply kN_ | apply kD_)); exact (Kd.R_mono (Kd.R_far (p := ⟨gb148, 3, none⟩) (Kd.R_far (p := ⟨gb148, 2, none⟩) (Kd.R_far (p := ⟨gb148, 1, none⟩) (Kd.R_far (p := ⟨gb148, 0, none⟩) (Kd.R_types HO142.out BK148.out (by decide)) (fun _ hk => hk.2) (.slice Ao13 t140.length co13)) (fun _ hk => hk.2) (.bool t143)) (fun _ hk => hk.2) (.string t144)) (fun _ hk => hk.2) (.string t145)) (fun _ h_ => h_.1))) (Kd.R_base ho0) hb); have n1_ := aM_ (Kd.R_lower (Kd.R_new' ho0 (Kd.R_lt (by (with_reducible repeat (first | apply kA_ | apply kN_ | apply kD_)); exact (Kd.R_mono (Kd.R_far (p := ⟨gb148, 3, none⟩) (Kd.R_far (p := ⟨gb148, 2, none⟩) (Kd.R_far (p := ⟨gb148, 1, none⟩) (Kd.R_far (p := ⟨gb148, 0, none⟩) (Kd.R_types HO142.out BK148.out (by decide)) (fun _ hk => hk.2) (.slice Ao13 t140.length co13)) (fun _ hk => hk.2) (.bool t143)) (fun _ hk => hk.2) (.string t144)) (fun _ hk => hk.2) (.string t145)) (fun _ h_ => h_.1))))) (below_size (by repeat (first | (with_reducible first | exact HB.out | apply bB_ | apply wN_ | apply bE_ | refine bS_ ?_ GE148.out) | exact HB.out)))); have n2_ := aM_ (blk_below (g := gb148) (o := .cells #[.slice Ao13 t140.length co13, .bool t143, .string t144, .string t145] 26 (0, 0)) (by (with_reducible repeat (first | refine bN_ ?_ _ | refine bD_ ?_ | refine bA_ ?_ _)); refine blk_put (cs := #[.slice Ao13 t140.length co13, .bool t143, .string t144, .string (⟨#[]⟩ : ByteArray)]) ?_ 3 _ rfl; (with_reducible repeat (first | refine bN_ ?_ _ | refine bD_ ?_ | refine bA_ ?_ _)); refine blk_put (cs := #[.slice Ao13 t140.length co13, .bool t143, .string (⟨#[]⟩ : ByteArray), .string (⟨#[]⟩ : ByteArray)]) ?_ 2 _ rfl; (with_reducible repeat (first | refine bN_ ?_ _ | refine bD_ ?_ | refine bA_ ?_ _)); refine blk_put (cs := #[.slice Ao13 t140.length co13, .bool false, .string (⟨#[]⟩ : ByteArray), .string (⟨#[]⟩ : ByteArray)]) ?_ 1 _ rfl; (with_reducible repeat (first | refine bN_ ?_ _ | refine bD_ ?_ | refine bA_ ?_ _)); refine blk_put (cs := #[.slice none 0 0, .bool false, .string (⟨#[]⟩ : ByteArray), .string (⟨#[]⟩ : ByteArray)]) ?_ 0 _ rfl; (with_reducible repeat (first | refine bN_ ?_ _ | refine bD_ ?_ | refine bA_ ?_ _)); exact BK148.out) hb); have n3_ := aM_ (below_step (by repeat (first | (with_reducible first | exact HB.out | apply bB_ | apply wN_ | apply bE_ | refine bS_ ?_ GE148.out) | exact HB.out)) hb); clear HO142; clear BK148; clear HB; have HO142 := n0_; have HO152 := n1_; have BK148 := n2_; have HB := n3_; clear n0_ n1_ n2_ n3_; (try clear hb); (try clear hb2); (try clear hk); (try clear hi); (try clear ho0)) | ((with_reducible refine gate_dst (N := 6) rfl ?_); refine box_event ?hg (N := 6) ?hd (cs := #[.bool false, .slice none 0 0, .string (⟨#[]⟩ : ByteArray), .string (⟨#[]⟩ : ByteArray), .string (⟨#[]⟩ : ByteArray), .int .u64 0, .int .u64 0, .int .u64 0]) (t := 28) ?hr ?_; (case hd => rfl); (case hg => rfl); (case hr => first | (go_simp; done) | (go_simp; rfl)); intro gb160 hg w16 hbox hb; have n0_ := aM_ (Kd.R_below (by (with_reducible repeat (first | apply kA_ | apply kN_ | apply kD_)); exact HO142.out) hb); have n1_ := aM_ (Kd.R_below (by (with_reducible repeat (first | apply kA_ | apply kN_ | apply kD_)); exact HO152.out) hb); have n2_ := aM_ (blk_below (g := gb148) (o := .cells #[.slice Ao13 t140.length co13, .bool t143, .string t144, .string t145] 26 (0, 0)) (by (with_reducible repeat (first | refine bN_ ?_ _ | refine bD_ ?_ | refine bA_ ?_ _)); exact BK148.out) hb); have n3_ := aM_ (below_step (by repeat (first | (with_reducible first | exact HB.out | apply bB_ | apply wN_ | apply bE_ | refine bS_ ?_ GE148.out) | exact HB.out)) hb); have n4_ := aM_ (hbox); have n5_ := aM_ ((by rw [hg]; exact (below_size (by repeat (first | (with_reducible first | exact HB.out | apply bB_ | apply wN_ | apply bE_ | refine bS_ ?_ GE148.out) | exact HB.out))) : w.heap.size ≤ gb160)); have n6_ := aM_ ((by rw [hg]; exact (below_size (by repeat (first | (with_reducible first | exact HB.out | apply bB_ | apply wN_ | apply bE_ | refine bS_ ?_ GE148.out) | exact HB.out))) : w.heap.size ≤ gb160)); have n7_ := aM_ ((by rw [hg]; exact Nat.ne_of_lt (blk_lt (g := gb148) (o := .cells #[.slice Ao13 t140.length co13, .bool t143, .string t144, .string t145] 26 (0, 0)) (by (with_reducible repeat (first | refine bN_ ?_ _ | refine bD_ ?_ | refine bA_ ?_ _)); exact BK148.out)) : gb148 ≠ gb160)); have n8_ := aM_ ((by rw [hg]; exact Nat.ne_of_gt (blk_lt (g := gb148) (o := .cells #[.slice Ao13 t140.length co13, .bool t143, .string t144, .string t145] 26 (0, 0)) (by (with_reducible repeat (first | refine bN_ ?_ _ | refine bD_ ?_ | refine bA_ ?_ _)); exact BK148.out)) : gb160 ≠ gb148)); clear HO142; clear HO152; clear BK148; clear HB; have HO142 := n0_; have HO152 := n1_; have BK148 := n2_; have HB := n3_; have BK160 := n4_; have GW160 := n5_; have GE160 := n6_; have NB148_160 := n7_; have NB160_148 := n8_; clear n0_ n1_ n2_ n3_ n4_ n5_ n6_ n7_ n8_; clear hb hbox hg; have hnb17 := NB160_148.out; have hnc17 := NB148_160.out; have hcz18_0 : w16.cell? ⟨gb160, 0, none⟩ = some (.bool false) := (bC_ BK160.out 0).trans rfl; have hcz18_1 : w16.cell? ⟨gb160, 1, none⟩ = some (.slice none 0 0) := (bC_ BK160.out 1).trans rfl; have hcz18_2 : w16.cell? ⟨gb160, 2, none⟩ = some (.string (⟨#[]⟩ : ByteArray)) := (bC_ BK160.out 2).trans rfl; have hcz18_3 : w16.cell? ⟨gb160, 3, none⟩ = some (.string (⟨#[]⟩ : ByteArray)) := (bC_ BK160.out 3).trans rfl; have hcz18_4 : w16.cell? ⟨gb160, 4, none⟩ = some (.string (⟨#[]⟩ : ByteArray)) := (bC_ BK160.out 4).trans rfl; have hcz18_5 : w16.cell? ⟨gb160, 5, none⟩ = some (.int .u64 0) := (bC_ BK160.out 5).trans rfl; have hcz18_6 : w16.cell? ⟨gb160, 6, none⟩ = some (.int .u64 0) := (bC_ BK160.out 6).trans rfl; have hcz18_7 : w16.cell? ⟨gb160, 7, none⟩ = some (.int .u64 0) := (bC_ BK160.out 7).trans rfl; have hfz18_0 := bF_ BK160.out 0; have hfz18_1 := bF_ BK160.out 1; have hfz18_2 := bF_ BK160.out 2; have hfz18_3 := bF_ BK160.out 3; have hfz18_4 := bF_ BK160.out 4; have hfz18_5 := bF_ BK160.out 5; have hfz18_6 := bF_ BK160.out 6; have hfz18_7 := bF_ BK160.out 7; obtain ⟨Ao19, co19, eo19⟩ := Kd.R_slice HO152.out; subst eo19; have hcz20_0 : w16.cell? ⟨gb148, 0, none⟩ = some (.slice Ao13 t140.length co13) := (bC_ BK148.out 0).trans rfl; have hcz20_1 : w16.cell? ⟨gb148, 1, none⟩ = some (.bool t143) := (bC_ BK148.out 1).trans rfl; have hcz20_2 : w16.cell? ⟨gb148, 2, none⟩ = some (.string t144) := (bC_ BK148.out 2).trans rfl; have hcz20_3 : w16.cell? ⟨gb148, 3, none⟩ = some (.string t145) := (bC_ BK148.out 3).trans rfl; have hfz20_0 := bF_ BK148.out 0; have hfz20_1 := bF_ BK148.out 1; have hfz20_2 := bF_ BK148.out 2; have hfz20_3 := bF_ BK148.out 3) | (go_at_call 23; (with_reducible refine (spec_Versions.calls k _ _ t140 t143 t144 t145 _ _ t150 false (⟨#[]⟩ : ByteArray) (⟨#[]⟩ : ByteArray) t161 _ ?side1 ?side2 ?side3 ?side4 A10.out).mono ?_); (case side1 => refine (Kd.R_reads' (e := 22) (base := w.heap.size) (ok := fun k_ => (True ∧ some k_ ≠ (.slice Ao19 t150.length co19 : Value).ownBlock)) (n := t140.length) (c := co13) ?_).2.2; exact (by (with_reducible repeat (first | apply kA_ | apply kN_ | apply kD_)); exact (Kd.R_mono (Kd.R_far (p := ⟨gb160, 7, none⟩) (Kd.R_far (p := ⟨gb160, 6, none⟩) (Kd.R_far (p := ⟨gb160, 5, none⟩) (Kd.R_far (p := ⟨gb160, 4, none⟩) (Kd.R_far (p := ⟨gb160, 3, none⟩) (Kd.R_far (p := ⟨gb160, 2, none⟩) (Kd.R_far (p := ⟨gb160, 1, none⟩) (Kd.R_far (p := ⟨gb160, 0, none⟩) (Kd.R_types HO142.out BK160.out (by decide)) (fun _ hk => hk.2) (.bool true)) (fun _ hk => hk.2) (.slice Ao19 t150.length co19)) (fun _ hk => hk.2) (.string t153)) (fun _ hk => hk.2) (.string t154)) (fun _ hk => hk.2) (.string t155)) (fun _ hk => hk.2) (.int .u64 t156)) (fun _ hk => hk.2) (.int .u64 t157)) (fun _ hk => hk.2) (.int .u64 t158)) (fun _ h_ => h_.1)))); (case side2 => exact (Kd.R_reads' HO142.out).2.1); (case side3 => refine (Kd.R_reads' (e := 22) (base := w.heap.size) (ok := fun k_ => (True ∧ some k_ ≠ (.slice Ao13 t140.length co13 : Value).ownBlock)) (n := t150.length) (c := co19) ?_).2.2; exact (by (with_reducible repeat (first | apply kA_ | apply kN_ | apply kD_)); exact (Kd.R_mono (Kd.R_far (p := ⟨gb160, 7, none⟩) (Kd.R_far (p := ⟨gb160, 6, none⟩) (Kd.R_far (p := ⟨gb160, 5, none⟩) (Kd.R_far (p := ⟨gb160, 4, none⟩) (Kd.R_far (p := ⟨gb160, 3, none⟩) (Kd.R_far (p := ⟨gb160, 2, none⟩) (Kd.R_far (p := ⟨gb160, 1, none⟩) (Kd.R_far (p := ⟨gb160, 0, none⟩) (Kd.R_types HO152.out BK160.out (by decide)) (fun _ hk => hk.2) (.bool true)) (fun _ hk => hk.2) (.slice Ao19 t150.length co19)) (fun _ hk => hk.2) (.string t153)) (fun _ hk => hk.2) (.string t154)) (fun _ hk => hk.2) (.string t155)) (fun _ hk => hk.2) (.int .u64 t156)) (fun _ hk => hk.2) (.int .u64 t157)) (fun _ hk => hk.2) (.int .u64 t158)) (fun _ h_ => h_.1)))); (case side4 => exact (Kd.R_reads' HO152.out).2.1); rintro e w21 ⟨rfl, hb⟩; have n0_ := aM_ (Kd.R_below (by (with_reducible repeat (first | apply kA_ | apply kN_ | apply kD_)); exact (Kd.R_mono (Kd.R_far (p := ⟨gb160, 7, none⟩) (Kd.R_far (p := ⟨gb160, 6, none⟩) (Kd.R_far (p := ⟨gb160, 5, none⟩) (Kd.R_far (p := ⟨gb160, 4, none⟩) (Kd.R_far (p := ⟨gb160, 3, none⟩) (Kd.R_far (p := ⟨gb160, 2, none⟩) (Kd.R_far (p := ⟨gb160, 1, none⟩) (Kd.R_far (p := ⟨gb160, 0, none⟩) (Kd.R_types HO142.out BK160.out (by decide)) (fun _ hk => hk.2) (.bool true)) (fun _ hk => hk.2) (.slice Ao19 t150.length co19)) (fun _ hk => hk.2) (.string t153)) (fun _ hk => hk.2) (.string t154)) (fun _ hk => hk.2) (.string t155)) (fun _ hk => hk.2) (.int .u64 t156)) (fun _ hk => hk.2) (.int .u64 t157)) (fun _ hk => hk.2) (.int .u64 t158)) (fun _ h_ => h_.1))) hb); have n1_ := aM_ (Kd.R_below (by (with_reducible repeat (first | apply kA_ | apply kN_ | apply kD_)); exact (Kd.R_mono (Kd.R_far (p := ⟨gb160, 7, none⟩) (Kd.R_far (p := ⟨gb160, 6, none⟩) (Kd.R_far (p := ⟨gb160, 5, none⟩) (Kd.R_far (p := ⟨gb160, 4, none⟩) (Kd.R_far (p := ⟨gb160, 3, none⟩) (Kd.R_far (p := ⟨gb160, 2, none⟩) (Kd.R_far (p := ⟨gb160, 1, none⟩) (Kd.R_far (p := ⟨gb160, 0, none⟩) (Kd.R_types HO152.out BK160.out (by decide)) (fun _ hk => hk.2) (.bool true)) (fun _ hk => hk.2) (.slice Ao19 t150.length co19)) (fun _ hk => hk.2) (.string t153)) (fun _ hk => hk.2) (.string t154)) (fun _ hk => hk.2) (.string t155)) (fun _ hk => hk.2) (.int .u64 t156)) (fun _ hk => hk.2) (.int .u64 t157)) (fun _ hk => hk.2) (.int .u64 t158)) (fun _ h_ => h_.1))) hb); have n2_ := aM_ (blk_below (g := gb148) (o := .cells #[.slice Ao13 t140.length co13, .bool t143, .string t144, .string t145] 26 (0, 0)) (by (with_reducible repeat (first | refine bN_ ?_ _ | refine bD_ ?_ | refine bA_ ?_ _)); refine blk_far ?_ NB148_160.out _; (with_reducible repeat (first | refine bN_ ?_ _ | refine bD_ ?_ | refine bA_ ?_ _)); refine blk_far ?_ NB148_160.out _; (with_reducible repeat (first | refine bN_ ?_ _ | refine bD_ ?_ | refine bA_ ?_ _)); refine blk_far ?_ NB148_160.out _; (with_reducible repeat (first | refine bN_ ?_ _ | refine bD_ ?_ | refine bA_ ?_ _)); refine blk_far ?_ NB148_160.out _; (with_reducible repeat (first | refine bN_ ?_ _ | refine bD_ ?_ | refine bA_ ?_ _)); refine blk_far ?_ NB148_160.out _; (with_reducible repeat (first | refine bN_ ?_ _ | refine bD_ ?_ | refine bA_ ?_ _)); refine blk_far ?_ NB148_160.out _; (with_reducible repeat (first | refine bN_ ?_ _ | refine bD_ ?_ | refine bA_ ?_ _)); refine blk_far ?_ NB148_160.out _; (with_reducible repeat (first | refine bN_ ?_ _ | refine bD_ ?_ | refine bA_ ?_ _)); refine blk_far ?_ NB148_160.out _; (with_reducible repeat (first | refine bN_ ?_ _ | refine bD_ ?_ | refine bA_ ?_ _)); exact BK148.out) hb); have n3_ := aM_ (blk_below (g := gb160) (o := .cells #[.bool true, .slice Ao19 t150.length co19, .string t153, .string t154, .string t155, .int .u64 t156, .int .u64 t157, .int .u64 t158] 28 (0, 0)) (by (with_reducible repeat (first | refine bN_ ?_ _ | refine bD_ ?_ | refine bA_ ?_ _)); refine blk_put (cs := #[.bool true, .slice Ao19 t150.length co19, .string t153, .string t154, .string t155, .int .u64 t156, .int .u64 t157, .int .u64 0]) ?_ 7 _ rfl; (with_reducible repeat (first | refine bN_ ?_ _ | refine bD_ ?_ | refine bA_ ?_ _)); refine blk_put (cs := #[.bool true, .slice Ao19 t150.length co19, .string t153, .string t154, .string t155, .int .u64 t156, .int .u64 0, .int .u64 0]) ?_ 6 _ rfl; (with_reducible repeat (first | refine bN_ ?_ _ | refine bD_ ?_ | refine bA_ ?_ _)); refine blk_put (cs := #[.bool true, .slice Ao19 t150.length co19, .string t153, .string t154, .string t155, .int .u64 0, .int .u64 0, .int .u64 0]) ?_ 5 _ rfl; (with_reducible repeat (first | refine bN_ ?_ _ | refine bD_ ?_ | refine bA_ ?_ _)); refine blk_put (cs := #[.bool true, .slice Ao19 t150.length co19, .string t153, .string t154, .string (⟨#[]⟩ : ByteArray), .int .u64 0, .int .u64 0, .int .u64 0]) ?_ 4 _ rfl; (with_reducible repeat (first | refine bN_ ?_ _ | refine bD_ ?_ | refine bA_ ?_ _)); refine blk_put (cs := #[.bool true, .slice Ao19 t150.length co19, .string t153, .string (⟨#[]⟩ : ByteArray), .string (⟨#[]⟩ : ByteArray), .int .u64 0, .int .u64 0, .int .u64 0]) ?_ 3 _ rfl; (with_reducible repeat (first | refine bN_ ?_ _ | refine bD_ ?_ | refine bA_ ?_ _)); refine blk_put (cs := #[.bool true, .slice Ao19 t150.length co19, .string (⟨#[]⟩ : ByteArray), .string (⟨#[]⟩ : ByteArray), .string (⟨#[]⟩ : ByteArray), .int .u64 0, .int .u64 0, .int .u64 0]) ?_ 2 _ rfl; (with_reducible repeat (first | refine bN_ ?_ _ | refine bD_ ?_ | refine bA_ ?_ _)); refine blk_put (cs := #[.bool true, .slice none 0 0, .string (⟨#[]⟩ : ByteArray), .string (⟨#[]⟩ : ByteArray), .string (⟨#[]⟩ : ByteArray), .int .u64 0, .int .u64 0, .int .u64 0]) ?_ 1 _ rfl; (with_reducible repeat (first | refine bN_ ?_ _ | refine bD_ ?_ | refine bA_ ?_ _)); refine blk_put (cs := #[.bool false, .slice none 0 0, .string (⟨#[]⟩ : ByteArray), .string (⟨#[]⟩ : ByteArray), .string (⟨#[]⟩ : ByteArray), .int .u64 0, .int .u64 0, .int .u64 0]) ?_ 0 _ rfl; (with_reducible repeat (first | refine bN_ ?_ _ | refine bD_ ?_ | refine bA_ ?_ _)); exact BK160.out) hb); have n4_ := aM_ (below_step (by repeat (first | (with_reducible first | exact HB.out | apply bB_ | apply wN_ | apply bE_ | refine bS_ ?_ GE148.out | refine bS_ ?_ GE160.out) | exact HB.out)) hb); clear HO142; clear HO152; clear BK148; clear BK160; clear HB; have HO142 := n0_; have HO152 := n1_; have BK148 := n2_; have BK160 := n3_; have HB := n4_; clear n0_ n1_ n2_ n3_ n4_; (try clear hb); (try clear hb2); (try clear hk); (try clear hi)))
      go_ret
      exact ⟨by first | rfl | (simp [errW_none, errW_some] <;> rfl) | (simp [*, errW_none, errW_some] <;> rfl) | (exfalso; contradiction), by repeat (first | (with_reducible first | exact HB.out | apply bB_ | apply wN_ | apply bE_ | refine bS_ ?_ GE148.out | refine bS_ ?_ GE160.out) | exact HB.out)⟩
     ·
      replace c9 := Bool.eq_false_iff.mpr c9
      subst c9
      have H1 : (some false) = some r := by rw [if_neg (show ¬ (false = true) by decide)] at H; exact H
      clear H
      have H := H1
      clear H1
      obtain rfl := Option.some.inj H
      go_enter Tryd.func7, Tryd.ntmps7
      go_wp2_with (first | ((with_reducible refine gate_callee (f := 20) rfl ?_); refine goesL_ (some 9) rfl rfl Tryd.func20 (by kernel_rfl) rfl #[.slice A0 l0.length c0] rfl (by (try simp only [List.map_toArray, List.map_cons, List.map_nil]); first | done | rfl | (simp only [List.length_drop, List.length_take]; rfl)) ?_; (with_reducible refine (laws_zzFits4.calls k _ _ l0 true _ ?side1 ?side2 A2.out).mono ?_); (case side1 => repeat (first | exact HR0.out | (with_reducible refine Kd.C_alloc ?_ _) | (with_reducible refine Kd.C_drewN ?_ _) | (with_reducible refine Kd.C_drew ?_))); (case side2 => exact HC0.out); rintro e w' ⟨rfl, ⟨nd, rfl⟩⟩; refine ⟨_, rfl, ?_⟩) | ((with_reducible refine gate_callee (f := 21) rfl ?_); refine goesL_ (some 13) rfl rfl Tryd.func21 (by kernel_rfl) rfl #[.slice A0 l0.length c0] rfl (by (try simp only [List.map_toArray, List.map_cons, List.map_nil]); first | done | rfl | (simp only [List.length_drop, List.length_take]; rfl)) ?_; (with_reducible refine (spec_VerHighest.calls k _ _ l0 t140 t143 t144 t145 true true _ ?side1 ?side2 A4.out).mono ?_); (case side1 => repeat (first | exact HR0.out | (with_reducible refine Kd.C_alloc ?_ _) | (with_reducible refine Kd.C_drewN ?_ _) | (with_reducible refine Kd.C_drew ?_))); (case side2 => exact HC0.out); rintro e w22 ⟨v141, rfl, ho0, hb⟩; refine ⟨_, rfl, ?_⟩; have n0_ := aM_ (Kd.R_lower ho0 (below_size (by repeat (first | (with_reducible first | exact HB.out | apply bB_ | apply wN_ | apply bE_) | exact HB.out)))); have n1_ := aM_ (below_step (by repeat (first | (with_reducible first | exact HB.out | apply bB_ | apply wN_ | apply bE_) | exact HB.out)) hb); clear HB; have HO142 := n0_; have HB := n1_; clear n0_ n1_; (try clear hb); (try clear hb2); (try clear hk); (try clear hi); (try clear ho0)) | ((with_reducible refine gate_dst (N := 3) rfl ?_); refine box_event ?hg (N := 3) ?hd (cs := #[.slice none 0 0, .bool false, .string (⟨#[]⟩ : ByteArray), .string (⟨#[]⟩ : ByteArray)]) (t := 26) ?hr ?_; (case hd => rfl); (case hg => rfl); (case hr => first | (go_simp; done) | (go_simp; rfl)); intro gb148 hg w23 hbox hb; have n0_ := aM_ (Kd.R_below (by (with_reducible repeat (first | apply kA_ | apply kN_ | apply kD_)); exact HO142.out) hb); have n1_ := aM_ (below_step (by repeat (first | (with_reducible first | exact HB.out | apply bB_ | apply wN_ | apply bE_) | exact HB.out)) hb); have n2_ := aM_ (hbox); have n3_ := aM_ ((by rw [hg]; exact (below_size (by repeat (first | (with_reducible first | exact HB.out | apply bB_ | apply wN_ | apply bE_) | exact HB.out))) : w.heap.size ≤ gb148)); have n4_ := aM_ ((by rw [hg]; exact (below_size (by repeat (first | (with_reducible first | exact HB.out | apply bB_ | apply wN_ | apply bE_) | exact HB.out))) : w.heap.size ≤ gb148)); clear HO142; clear HB; have HO142 := n0_; have HB := n1_; have BK148 := n2_; have GW148 := n3_; have GE148 := n4_; clear n0_ n1_ n2_ n3_ n4_; clear hb hbox hg; obtain ⟨Ao24, co24, eo24⟩ := Kd.R_slice HO142.out; subst eo24; have hcz25_0 : w23.cell? ⟨gb148, 0, none⟩ = some (.slice none 0 0) := (bC_ BK148.out 0).trans rfl; have hcz25_1 : w23.cell? ⟨gb148, 1, none⟩ = some (.bool false) := (bC_ BK148.out 1).trans rfl; have hcz25_2 : w23.cell? ⟨gb148, 2, none⟩ = some (.string (⟨#[]⟩ : ByteArray)) := (bC_ BK148.out 2).trans rfl; have hcz25_3 : w23.cell? ⟨gb148, 3, none⟩ = some (.string (⟨#[]⟩ : ByteArray)) := (bC_ BK148.out 3).trans rfl; have hfz25_0 := bF_ BK148.out 0; have hfz25_1 := bF_ BK148.out 1; have hfz25_2 := bF_ BK148.out 2; have hfz25_3 := bF_ BK148.out 3) | ((with_reducible refine gate_callee (f := 22) rfl ?_); refine goesL_ (some 21) rfl rfl Tryd.func22 (by kernel_rfl) rfl #[.slice A0 l0.length c0] rfl (by (try simp only [List.map_toArray, List.map_cons, List.map_nil]); first | done | rfl | (simp only [List.length_drop, List.length_take]; rfl)) ?_; (with_reducible refine (impl_VersionHighest.calls _ _ l0 false t150 t153 t154 t155 t156 t157 t158 true _ ?side1 ?side2 A6.out (HGd.out.below (by repeat (first | (with_reducible first | exact HB.out | apply bB_ | apply wN_ | apply bE_ | refine bS_ ?_ GE148.out) | exact HB.out)))).mono ?_); (case side1 => exact Kd.C_below HR0.out (by repeat (first | (with_reducible first | exact HB.out | apply bB_ | apply wN_ | apply bE_ | refine bS_ ?_ GE148.out) | exact HB.out))); (case side2 => exact HC0.out); rintro e w26 ⟨v151, rfl, ho0, hb⟩; refine ⟨_, rfl, ?_⟩; have n0_ := aM_ (Kd.R_elder' (by (with_reducible repeat (first | apply kA_ | apply kN_ | apply kD_)); exact (Kd.R_mono (Kd.R_far (p := ⟨gb148, 3, none⟩) (Kd.R_far (p := ⟨gb148, 2, none⟩) (Kd.R_far (p := ⟨gb148, 1, none⟩) (Kd.R_far (p := ⟨gb148, 0, none⟩) (Kd.R_types HO142.out BK148.out (by decide)) (fun _ hk => hk.2) (.slice Ao24 t140.length co24)) (fun _ hk => hk.2) (.bool t143)) (fun _ hk => hk.2) (.string t144)) (fun _ hk => hk.2) (.string t145)) (fun _ h_ => h_.1))) (Kd.R_base ho0) hb); have n1_ := aM_ (Kd.R_lower (Kd.R_new' ho0 (Kd.R_lt (by (with_reducible repeat (first | apply kA_ | apply kN_ | apply kD_)); exact (Kd.R_mono (Kd.R_far (p := ⟨gb148, 3, none⟩) (Kd.R_far (p := ⟨gb148, 2, none⟩) (Kd.R_far (p := ⟨gb148, 1, none⟩) (Kd.R_far (p := ⟨gb148, 0, none⟩) (Kd.R_types HO142.out BK148.out (by decide)) (fun _ hk => hk.2) (.slice Ao24 t140.length co24)) (fun _ hk => hk.2) (.bool t143)) (fun _ hk => hk.2) (.string t144)) (fun _ hk => hk.2) (.string t145)) (fun _ h_ => h_.1))))) (below_size (by repeat (first | (with_reducible first | exact HB.out | apply bB_ | apply wN_ | apply bE_ | refine bS_ ?_ GE148.out) | exact HB.out)))); have n2_ := aM_ (blk_below (g := gb148) (o := .cells #[.slice Ao24 t140.length co24, .bool t143, .string t144, .string t145] 26 (0, 0)) (by (with_reducible repeat (first | refine bN_ ?_ _ | refine bD_ ?_ | refine bA_ ?_ _)); refine blk_put (cs := #[.slice Ao24 t140.length co24, .bool t143, .string t144, .string (⟨#[]⟩ : ByteArray)]) ?_ 3 _ rfl; (with_reducible repeat (first | refine bN_ ?_ _ | refine bD_ ?_ | refine bA_ ?_ _)); refine blk_put (cs := #[.slice Ao24 t140.length co24, .bool t143, .string (⟨#[]⟩ : ByteArray), .string (⟨#[]⟩ : ByteArray)]) ?_ 2 _ rfl; (with_reducible repeat (first | refine bN_ ?_ _ | refine bD_ ?_ | refine bA_ ?_ _)); refine blk_put (cs := #[.slice Ao24 t140.length co24, .bool false, .string (⟨#[]⟩ : ByteArray), .string (⟨#[]⟩ : ByteArray)]) ?_ 1 _ rfl; (with_reducible repeat (first | refine bN_ ?_ _ | refine bD_ ?_ | refine bA_ ?_ _)); refine blk_put (cs := #[.slice none 0 0, .bool false, .string (⟨#[]⟩ : ByteArray), .string (⟨#[]⟩ : ByteArray)]) ?_ 0 _ rfl; (with_reducible repeat (first | refine bN_ ?_ _ | refine bD_ ?_ | refine bA_ ?_ _)); exact BK148.out) hb); have n3_ := aM_ (below_step (by repeat (first | (with_reducible first | exact HB.out | apply bB_ | apply wN_ | apply bE_ | refine bS_ ?_ GE148.out) | exact HB.out)) hb); clear HO142; clear BK148; clear HB; have HO142 := n0_; have HO152 := n1_; have BK148 := n2_; have HB := n3_; clear n0_ n1_ n2_ n3_; (try clear hb); (try clear hb2); (try clear hk); (try clear hi); (try clear ho0)) | ((with_reducible refine gate_dst (N := 6) rfl ?_); refine box_event ?hg (N := 6) ?hd (cs := #[.bool false, .slice none 0 0, .string (⟨#[]⟩ : ByteArray), .string (⟨#[]⟩ : ByteArray), .string (⟨#[]⟩ : ByteArray), .int .u64 0, .int .u64 0, .int .u64 0]) (t := 28) ?hr ?_; (case hd => rfl); (case hg => rfl); (case hr => first | (go_simp; done) | (go_simp; rfl)); intro gb160 hg w27 hbox hb; have n0_ := aM_ (Kd.R_below (by (with_reducible repeat (first | apply kA_ | apply kN_ | apply kD_)); exact HO142.out) hb); have n1_ := aM_ (Kd.R_below (by (with_reducible repeat (first | apply kA_ | apply kN_ | apply kD_)); exact HO152.out) hb); have n2_ := aM_ (blk_below (g := gb148) (o := .cells #[.slice Ao24 t140.length co24, .bool t143, .string t144, .string t145] 26 (0, 0)) (by (with_reducible repeat (first | refine bN_ ?_ _ | refine bD_ ?_ | refine bA_ ?_ _)); exact BK148.out) hb); have n3_ := aM_ (below_step (by repeat (first | (with_reducible first | exact HB.out | apply bB_ | apply wN_ | apply bE_ | refine bS_ ?_ GE148.out) | exact HB.out)) hb); have n4_ := aM_ (hbox); have n5_ := aM_ ((by rw [hg]; exact (below_size (by repeat (first | (with_reducible first | exact HB.out | apply bB_ | apply wN_ | apply bE_ | refine bS_ ?_ GE148.out) | exact HB.out))) : w.heap.size ≤ gb160)); have n6_ := aM_ ((by rw [hg]; exact (below_size (by repeat (first | (with_reducible first | exact HB.out | apply bB_ | apply wN_ | apply bE_ | refine bS_ ?_ GE148.out) | exact HB.out))) : w.heap.size ≤ gb160)); have n7_ := aM_ ((by rw [hg]; exact Nat.ne_of_lt (blk_lt (g := gb148) (o := .cells #[.slice Ao24 t140.length co24, .bool t143, .string t144, .string t145] 26 (0, 0)) (by (with_reducible repeat (first | refine bN_ ?_ _ | refine bD_ ?_ | refine bA_ ?_ _)); exact BK148.out)) : gb148 ≠ gb160)); have n8_ := aM_ ((by rw [hg]; exact Nat.ne_of_gt (blk_lt (g := gb148) (o := .cells #[.slice Ao24 t140.length co24, .bool t143, .string t144, .string t145] 26 (0, 0)) (by (with_reducible repeat (first | refine bN_ ?_ _ | refine bD_ ?_ | refine bA_ ?_ _)); exact BK148.out)) : gb160 ≠ gb148)); clear HO142; clear HO152; clear BK148; clear HB; have HO142 := n0_; have HO152 := n1_; have BK148 := n2_; have HB := n3_; have BK160 := n4_; have GW160 := n5_; have GE160 := n6_; have NB148_160 := n7_; have NB160_148 := n8_; clear n0_ n1_ n2_ n3_ n4_ n5_ n6_ n7_ n8_; clear hb hbox hg; have hnb28 := NB160_148.out; have hnc28 := NB148_160.out; have hcz29_0 : w27.cell? ⟨gb160, 0, none⟩ = some (.bool false) := (bC_ BK160.out 0).trans rfl; have hcz29_1 : w27.cell? ⟨gb160, 1, none⟩ = some (.slice none 0 0) := (bC_ BK160.out 1).trans rfl; have hcz29_2 : w27.cell? ⟨gb160, 2, none⟩ = some (.string (⟨#[]⟩ : ByteArray)) := (bC_ BK160.out 2).trans rfl; have hcz29_3 : w27.cell? ⟨gb160, 3, none⟩ = some (.string (⟨#[]⟩ : ByteArray)) := (bC_ BK160.out 3).trans rfl; have hcz29_4 : w27.cell? ⟨gb160, 4, none⟩ = some (.string (⟨#[]⟩ : ByteArray)) := (bC_ BK160.out 4).trans rfl; have hcz29_5 : w27.cell? ⟨gb160, 5, none⟩ = some (.int .u64 0) := (bC_ BK160.out 5).trans rfl; have hcz29_6 : w27.cell? ⟨gb160, 6, none⟩ = some (.int .u64 0) := (bC_ BK160.out 6).trans rfl; have hcz29_7 : w27.cell? ⟨gb160, 7, none⟩ = some (.int .u64 0) := (bC_ BK160.out 7).trans rfl; have hfz29_0 := bF_ BK160.out 0; have hfz29_1 := bF_ BK160.out 1; have hfz29_2 := bF_ BK160.out 2; have hfz29_3 := bF_ BK160.out 3; have hfz29_4 := bF_ BK160.out 4; have hfz29_5 := bF_ BK160.out 5; have hfz29_6 := bF_ BK160.out 6; have hfz29_7 := bF_ BK160.out 7; obtain ⟨Ao30, co30, eo30⟩ := Kd.R_slice HO152.out; subst eo30))
      go_ret
      exact ⟨by first | rfl | (simp [errW_none, errW_some] <;> rfl) | (simp [*, errW_none, errW_some] <;> rfl) | (exfalso; contradiction), by repeat (first | (with_reducible first | exact HB.out | apply bB_ | apply wN_ | apply bE_ | refine bS_ ?_ GE148.out | refine bS_ ?_ GE160.out) | exact HB.out)⟩
    ·
     replace c8 := Bool.eq_false_iff.mpr c8
     subst c8
     have H1 : (some false) = some r := by rw [if_neg (show ¬ (false = true) by decide)] at H; exact H
     clear H
     have H := H1
     clear H1
     obtain rfl := Option.some.inj H
     go_enter Tryd.func7, Tryd.ntmps7
     go_wp2_with (first | ((with_reducible refine gate_callee (f := 20) rfl ?_); refine goesL_ (some 9) rfl rfl Tryd.func20 (by kernel_rfl) rfl #[.slice A0 l0.length c0] rfl (by (try simp only [List.map_toArray, List.map_cons, List.map_nil]); first | done | rfl | (simp only [List.length_drop, List.length_take]; rfl)) ?_; (with_reducible refine (laws_zzFits4.calls k _ _ l0 true _ ?side1 ?side2 A2.out).mono ?_); (case side1 => repeat (first | exact HR0.out | (with_reducible refine Kd.C_alloc ?_ _) | (with_reducible refine Kd.C_drewN ?_ _) | (with_reducible refine Kd.C_drew ?_))); (case side2 => exact HC0.out); rintro e w' ⟨rfl, ⟨nd, rfl⟩⟩; refine ⟨_, rfl, ?_⟩) | ((with_reducible refine gate_callee (f := 21) rfl ?_); refine goesL_ (some 13) rfl rfl Tryd.func21 (by kernel_rfl) rfl #[.slice A0 l0.length c0] rfl (by (try simp only [List.map_toArray, List.map_cons, List.map_nil]); first | done | rfl | (simp only [List.length_drop, List.length_take]; rfl)) ?_; (with_reducible refine (spec_VerHighest.calls k _ _ l0 t140 t143 t144 t145 true true _ ?side1 ?side2 A4.out).mono ?_); (case side1 => repeat (first | exact HR0.out | (with_reducible refine Kd.C_alloc ?_ _) | (with_reducible refine Kd.C_drewN ?_ _) | (with_reducible refine Kd.C_drew ?_))); (case side2 => exact HC0.out); rintro e w31 ⟨v141, rfl, ho0, hb⟩; refine ⟨_, rfl, ?_⟩; have n0_ := aM_ (Kd.R_lower ho0 (below_size (by repeat (first | (with_reducible first | exact HB.out | apply bB_ | apply wN_ | apply bE_) | exact HB.out)))); have n1_ := aM_ (below_step (by repeat (first | (with_reducible first | exact HB.out | apply bB_ | apply wN_ | apply bE_) | exact HB.out)) hb); clear HB; have HO142 := n0_; have HB := n1_; clear n0_ n1_; (try clear hb); (try clear hb2); (try clear hk); (try clear hi); (try clear ho0)) | ((with_reducible refine gate_dst (N := 3) rfl ?_); refine box_event ?hg (N := 3) ?hd (cs := #[.slice none 0 0, .bool false, .string (⟨#[]⟩ : ByteArray), .string (⟨#[]⟩ : ByteArray)]) (t := 26) ?hr ?_; (case hd => rfl); (case hg => rfl); (case hr => first | (go_simp; done) | (go_simp; rfl)); intro gb148 hg w32 hbox hb; have n0_ := aM_ (Kd.R_below (by (with_reducible repeat (first | apply kA_ | apply kN_ | apply kD_)); exact HO142.out) hb); have n1_ := aM_ (below_step (by repeat (first | (with_reducible first | exact HB.out | apply bB_ | apply wN_ | apply bE_) | exact HB.out)) hb); have n2_ := aM_ (hbox); have n3_ := aM_ ((by rw [hg]; exact (below_size (by repeat (first | (with_reducible first | exact HB.out | apply bB_ | apply wN_ | apply bE_) | exact HB.out))) : w.heap.size ≤ gb148)); have n4_ := aM_ ((by rw [hg]; exact (below_size (by repeat (first | (with_reducible first | exact HB.out | apply bB_ | apply wN_ | apply bE_) | exact HB.out))) : w.heap.size ≤ gb148)); clear HO142; clear HB; have HO142 := n0_; have HB := n1_; have BK148 := n2_; have GW148 := n3_; have GE148 := n4_; clear n0_ n1_ n2_ n3_ n4_; clear hb hbox hg; obtain ⟨Ao33, co33, eo33⟩ := Kd.R_slice HO142.out; subst eo33; have hcz34_0 : w32.cell? ⟨gb148, 0, none⟩ = some (.slice none 0 0) := (bC_ BK148.out 0).trans rfl; have hcz34_1 : w32.cell? ⟨gb148, 1, none⟩ = some (.bool false) := (bC_ BK148.out 1).trans rfl; have hcz34_2 : w32.cell? ⟨gb148, 2, none⟩ = some (.string (⟨#[]⟩ : ByteArray)) := (bC_ BK148.out 2).trans rfl; have hcz34_3 : w32.cell? ⟨gb148, 3, none⟩ = some (.string (⟨#[]⟩ : ByteArray)) := (bC_ BK148.out 3).trans rfl; have hfz34_0 := bF_ BK148.out 0; have hfz34_1 := bF_ BK148.out 1; have hfz34_2 := bF_ BK148.out 2; have hfz34_3 := bF_ BK148.out 3) | ((with_reducible refine gate_callee (f := 22) rfl ?_); refine goesL_ (some 21) rfl rfl Tryd.func22 (by kernel_rfl) rfl #[.slice A0 l0.length c0] rfl (by (try simp only [List.map_toArray, List.map_cons, List.map_nil]); first | done | rfl | (simp only [List.length_drop, List.length_take]; rfl)) ?_; (with_reducible refine (impl_VersionHighest.calls _ _ l0 t149 t150 t153 t154 t155 t156 t157 t158 false _ ?side1 ?side2 A6.out (HGd.out.below (by repeat (first | (with_reducible first | exact HB.out | apply bB_ | apply wN_ | apply bE_ | refine bS_ ?_ GE148.out) | exact HB.out)))).mono ?_); (case side1 => exact Kd.C_below HR0.out (by repeat (first | (with_reducible first | exact HB.out | apply bB_ | apply wN_ | apply bE_ | refine bS_ ?_ GE148.out) | exact HB.out))); (case side2 => exact HC0.out); rintro e w35 ⟨v151, rfl, ho0, hb⟩; refine ⟨_, rfl, ?_⟩; have n0_ := aM_ (Kd.R_elder' (by (with_reducible repeat (first | apply kA_ | apply kN_ | apply kD_)); exact (Kd.R_mono (Kd.R_far (p := ⟨gb148, 3, none⟩) (Kd.R_far (p := ⟨gb148, 2, none⟩) (Kd.R_far (p := ⟨gb148, 1, none⟩) (Kd.R_far (p := ⟨gb148, 0, none⟩) (Kd.R_types HO142.out BK148.out (by decide)) (fun _ hk => hk.2) (.slice Ao33 t140.length co33)) (fun _ hk => hk.2) (.bool t143)) (fun _ hk => hk.2) (.string t144)) (fun _ hk => hk.2) (.string t145)) (fun _ h_ => h_.1))) (Kd.R_base ho0) hb); have n1_ := aM_ (Kd.R_lower (Kd.R_new' ho0 (Kd.R_lt (by (with_reducible repeat (first | apply kA_ | apply kN_ | apply kD_)); exact (Kd.R_mono (Kd.R_far (p := ⟨gb148, 3, none⟩) (Kd.R_far (p := ⟨gb148, 2, none⟩) (Kd.R_far (p := ⟨gb148, 1, none⟩) (Kd.R_far (p := ⟨gb148, 0, none⟩) (Kd.R_types HO142.out BK148.out (by decide)) (fun _ hk => hk.2) (.slice Ao33 t140.length co33)) (fun _ hk => hk.2) (.bool t143)) (fun _ hk => hk.2) (.string t144)) (fun _ hk => hk.2) (.string t145)) (fun _ h_ => h_.1))))) (below_size (by repeat (first | (with_reducible first | exact HB.out | apply bB_ | apply wN_ | apply bE_ | refine bS_ ?_ GE148.out) | exact HB.out)))); have n2_ := aM_ (blk_below (g := gb148) (o := .cells #[.slice Ao33 t140.length co33, .bool t143, .string t144, .string t145] 26 (0, 0)) (by (with_reducible repeat (first | refine bN_ ?_ _ | refine bD_ ?_ | refine bA_ ?_ _)); refine blk_put (cs := #[.slice Ao33 t140.length co33, .bool t143, .string t144, .string (⟨#[]⟩ : ByteArray)]) ?_ 3 _ rfl; (with_reducible repeat (first | refine bN_ ?_ _ | refine bD_ ?_ | refine bA_ ?_ _)); refine blk_put (cs := #[.slice Ao33 t140.length co33, .bool t143, .string (⟨#[]⟩ : ByteArray), .string (⟨#[]⟩ : ByteArray)]) ?_ 2 _ rfl; (with_reducible repeat (first | refine bN_ ?_ _ | refine bD_ ?_ | refine bA_ ?_ _)); refine blk_put (cs := #[.slice Ao33 t140.length co33, .bool false, .string (⟨#[]⟩ : ByteArray), .string (⟨#[]⟩ : ByteArray)]) ?_ 1 _ rfl; (with_reducible repeat (first | refine bN_ ?_ _ | refine bD_ ?_ | refine bA_ ?_ _)); refine blk_put (cs := #[.slice none 0 0, .bool false, .string (⟨#[]⟩ : ByteArray), .string (⟨#[]⟩ : ByteArray)]) ?_ 0 _ rfl; (with_reducible repeat (first | refine bN_ ?_ _ | refine bD_ ?_ | refine bA_ ?_ _)); exact BK148.out) hb); have n3_ := aM_ (below_step (by repeat (first | (with_reducible first | exact HB.out | apply bB_ | apply wN_ | apply bE_ | refine bS_ ?_ GE148.out) | exact HB.out)) hb); clear HO142; clear BK148; clear HB; have HO142 := n0_; have HO152 := n1_; have BK148 := n2_; have HB := n3_; clear n0_ n1_ n2_ n3_; (try clear hb); (try clear hb2); (try clear hk); (try clear hi); (try clear ho0)) | ((with_reducible refine gate_dst (N := 6) rfl ?_); refine box_event ?hg (N := 6) ?hd (cs := #[.bool false, .slice none 0 0, .string (⟨#[]⟩ : ByteArray), .string (⟨#[]⟩ : ByteArray), .string (⟨#[]⟩ : ByteArray), .int .u64 0, .int .u64 0, .int .u64 0]) (t := 28) ?hr ?_; (case hd => rfl); (case hg => rfl); (case hr => first | (go_simp; done) | (go_simp; rfl)); intro gb160 hg w36 hbox hb; have n0_ := aM_ (Kd.R_below (by (with_reducible repeat (first | apply kA_ | apply kN_ | apply kD_)); exact HO142.out) hb); have n1_ := aM_ (Kd.R_below (by (with_reducible repeat (first | apply kA_ | apply kN_ | apply kD_)); exact HO152.out) hb); have n2_ := aM_ (blk_below (g := gb148) (o := .cells #[.slice Ao33 t140.length co33, .bool t143, .string t144, .string t145] 26 (0, 0)) (by (with_reducible repeat (first | refine bN_ ?_ _ | refine bD_ ?_ | refine bA_ ?_ _)); exact BK148.out) hb); have n3_ := aM_ (below_step (by repeat (first | (with_reducible first | exact HB.out | apply bB_ | apply wN_ | apply bE_ | refine bS_ ?_ GE148.out) | exact HB.out)) hb); have n4_ := aM_ (hbox); have n5_ := aM_ ((by rw [hg]; exact (below_size (by repeat (first | (with_reducible first | exact HB.out | apply bB_ | apply wN_ | apply bE_ | refine bS_ ?_ GE148.out) | exact HB.out))) : w.heap.size ≤ gb160)); have n6_ := aM_ ((by rw [hg]; exact (below_size (by repeat (first | (with_reducible first | exact HB.out | apply bB_ | apply wN_ | apply bE_ | refine bS_ ?_ GE148.out) | exact HB.out))) : w.heap.size ≤ gb160)); have n7_ := aM_ ((by rw [hg]; exact Nat.ne_of_lt (blk_lt (g := gb148) (o := .cells #[.slice Ao33 t140.length co33, .bool t143, .string t144, .string t145] 26 (0, 0)) (by (with_reducible repeat (first | refine bN_ ?_ _ | refine bD_ ?_ | refine bA_ ?_ _)); exact BK148.out)) : gb148 ≠ gb160)); have n8_ := aM_ ((by rw [hg]; exact Nat.ne_of_gt (blk_lt (g := gb148) (o := .cells #[.slice Ao33 t140.length co33, .bool t143, .string t144, .string t145] 26 (0, 0)) (by (with_reducible repeat (first | refine bN_ ?_ _ | refine bD_ ?_ | refine bA_ ?_ _)); exact BK148.out)) : gb160 ≠ gb148)); clear HO142; clear HO152; clear BK148; clear HB; have HO142 := n0_; have HO152 := n1_; have BK148 := n2_; have HB := n3_; have BK160 := n4_; have GW160 := n5_; have GE160 := n6_; have NB148_160 := n7_; have NB160_148 := n8_; clear n0_ n1_ n2_ n3_ n4_ n5_ n6_ n7_ n8_; clear hb hbox hg; have hnb37 := NB160_148.out; have hnc37 := NB148_160.out; have hcz38_0 : w36.cell? ⟨gb160, 0, none⟩ = some (.bool false) := (bC_ BK160.out 0).trans rfl; have hcz38_1 : w36.cell? ⟨gb160, 1, none⟩ = some (.slice none 0 0) := (bC_ BK160.out 1).trans rfl; have hcz38_2 : w36.cell? ⟨gb160, 2, none⟩ = some (.string (⟨#[]⟩ : ByteArray)) := (bC_ BK160.out 2).trans rfl; have hcz38_3 : w36.cell? ⟨gb160, 3, none⟩ = some (.string (⟨#[]⟩ : ByteArray)) := (bC_ BK160.out 3).trans rfl; have hcz38_4 : w36.cell? ⟨gb160, 4, none⟩ = some (.string (⟨#[]⟩ : ByteArray)) := (bC_ BK160.out 4).trans rfl; have hcz38_5 : w36.cell? ⟨gb160, 5, none⟩ = some (.int .u64 0) := (bC_ BK160.out 5).trans rfl; have hcz38_6 : w36.cell? ⟨gb160, 6, none⟩ = some (.int .u64 0) := (bC_ BK160.out 6).trans rfl; have hcz38_7 : w36.cell? ⟨gb160, 7, none⟩ = some (.int .u64 0) := (bC_ BK160.out 7).trans rfl; have hfz38_0 := bF_ BK160.out 0; have hfz38_1 := bF_ BK160.out 1; have hfz38_2 := bF_ BK160.out 2; have hfz38_3 := bF_ BK160.out 3; have hfz38_4 := bF_ BK160.out 4; have hfz38_5 := bF_ BK160.out 5; have hfz38_6 := bF_ BK160.out 6; have hfz38_7 := bF_ BK160.out 7; obtain ⟨Ao39, co39, eo39⟩ := Kd.R_slice HO152.out; subst eo39))
     go_ret
     exact ⟨by first | rfl | (simp [errW_none, errW_some] <;> rfl) | (simp [*, errW_none, errW_some] <;> rfl) | (exfalso; contradiction), by repeat (first | (with_reducible first | exact HB.out | apply bB_ | apply wN_ | apply bE_ | refine bS_ ?_ GE148.out | refine bS_ ?_ GE160.out) | exact HB.out)⟩
   ·
    replace c7 := Bool.eq_false_iff.mpr c7
    subst c7
    have H1 : (if t159 = true then (some false) else (some (!t149))) = some r := by rw [if_neg (show ¬ (false = true) by decide)] at H; exact H
    clear H
    have H := H1
    clear H1
    by_cases c40 : t159 = true
    ·
     subst c40
     have H1 : (some false) = some r := by rw [if_pos rfl] at H; exact H
     clear H
     have H := H1
     clear H1
     obtain rfl := Option.some.inj H
     go_enter Tryd.func7, Tryd.ntmps7
     go_wp2_with (first | ((with_reducible refine gate_callee (f := 20) rfl ?_); refine goesL_ (some 9) rfl rfl Tryd.func20 (by kernel_rfl) rfl #[.slice A0 l0.length c0] rfl (by (try simp only [List.map_toArray, List.map_cons, List.map_nil]); first | done | rfl | (simp only [List.length_drop, List.length_take]; rfl)) ?_; (with_reducible refine (laws_zzFits4.calls k _ _ l0 true _ ?side1 ?side2 A2.out).mono ?_); (case side1 => repeat (first | exact HR0.out | (with_reducible refine Kd.C_alloc ?_ _) | (with_reducible refine Kd.C_drewN ?_ _) | (with_reducible refine Kd.C_drew ?_))); (case side2 => exact HC0.out); rintro e w' ⟨rfl, ⟨nd, rfl⟩⟩; refine ⟨_, rfl, ?_⟩) | ((with_reducible refine gate_callee (f := 21) rfl ?_); refine goesL_ (some 13) rfl rfl Tryd.func21 (by kernel_rfl) rfl #[.slice A0 l0.length c0] rfl (by (try simp only [List.map_toArray, List.map_cons, List.map_nil]); first | done | rfl | (simp only [List.length_drop, List.length_take]; rfl)) ?_; (with_reducible refine (spec_VerHighest.calls k _ _ l0 t140 t143 t144 t145 false true _ ?side1 ?side2 A4.out).mono ?_); (case side1 => repeat (first | exact HR0.out | (with_reducible refine Kd.C_alloc ?_ _) | (with_reducible refine Kd.C_drewN ?_ _) | (with_reducible refine Kd.C_drew ?_))); (case side2 => exact HC0.out); rintro e w41 ⟨v141, rfl, ho0, hb⟩; refine ⟨_, rfl, ?_⟩; have n0_ := aM_ (Kd.R_lower ho0 (below_size (by repeat (first | (with_reducible first | exact HB.out | apply bB_ | apply wN_ | apply bE_) | exact HB.out)))); have n1_ := aM_ (below_step (by repeat (first | (with_reducible first | exact HB.out | apply bB_ | apply wN_ | apply bE_) | exact HB.out)) hb); clear HB; have HO142 := n0_; have HB := n1_; clear n0_ n1_; (try clear hb); (try clear hb2); (try clear hk); (try clear hi); (try clear ho0)) | ((with_reducible refine gate_dst (N := 3) rfl ?_); refine box_event ?hg (N := 3) ?hd (cs := #[.slice none 0 0, .bool false, .string (⟨#[]⟩ : ByteArray), .string (⟨#[]⟩ : ByteArray)]) (t := 26) ?hr ?_; (case hd => rfl); (case hg => rfl); (case hr => first | (go_simp; done) | (go_simp; rfl)); intro gb148 hg w42 hbox hb; have n0_ := aM_ (Kd.R_below (by (with_reducible repeat (first | apply kA_ | apply kN_ | apply kD_)); exact HO142.out) hb); have n1_ := aM_ (below_step (by repeat (first | (with_reducible first | exact HB.out | apply bB_ | apply wN_ | apply bE_) | exact HB.out)) hb); have n2_ := aM_ (hbox); have n3_ := aM_ ((by rw [hg]; exact (below_size (by repeat (first | (with_reducible first | exact HB.out | apply bB_ | apply wN_ | apply bE_) | exact HB.out))) : w.heap.size ≤ gb148)); have n4_ := aM_ ((by rw [hg]; exact (below_size (by repeat (first | (with_reducible first | exact HB.out | apply bB_ | apply wN_ | apply bE_) | exact HB.out))) : w.heap.size ≤ gb148)); clear HO142; clear HB; have HO142 := n0_; have HB := n1_; have BK148 := n2_; have GW148 := n3_; have GE148 := n4_; clear n0_ n1_ n2_ n3_ n4_; clear hb hbox hg; obtain ⟨Ao43, co43, eo43⟩ := Kd.R_slice HO142.out; subst eo43; have hcz44_0 : w42.cell? ⟨gb148, 0, none⟩ = some (.slice none 0 0) := (bC_ BK148.out 0).trans rfl; have hcz44_1 : w42.cell? ⟨gb148, 1, none⟩ = some (.bool false) := (bC_ BK148.out 1).trans rfl; have hcz44_2 : w42.cell? ⟨gb148, 2, none⟩ = some (.string (⟨#[]⟩ : ByteArray)) := (bC_ BK148.out 2).trans rfl; have hcz44_3 : w42.cell? ⟨gb148, 3, none⟩ = some (.string (⟨#[]⟩ : ByteArray)) := (bC_ BK148.out 3).trans rfl; have hfz44_0 := bF_ BK148.out 0; have hfz44_1 := bF_ BK148.out 1; have hfz44_2 := bF_ BK148.out 2; have hfz44_3 := bF_ BK148.out 3) | ((with_reducible refine gate_callee (f := 22) rfl ?_); refine goesL_ (some 21) rfl rfl Tryd.func22 (by kernel_rfl) rfl #[.slice A0 l0.length c0] rfl (by (try simp only [List.map_toArray, List.map_cons, List.map_nil]); first | done | rfl | (simp only [List.length_drop, List.length_take]; rfl)) ?_; (with_reducible refine (impl_VersionHighest.calls _ _ l0 t149 t150 t153 t154 t155 t156 t157 t158 true _ ?side1 ?side2 A6.out (HGd.out.below (by repeat (first | (with_reducible first | exact HB.out | apply bB_ | apply wN_ | apply bE_ | refine bS_ ?_ GE148.out) | exact HB.out)))).mono ?_); (case side1 => exact Kd.C_below HR0.out (by repeat (first | (with_reducible first | exact HB.out | apply bB_ | apply wN_ | apply bE_ | refine bS_ ?_ GE148.out) | exact HB.out))); (case side2 => exact HC0.out); rintro e w45 ⟨v151, rfl, ho0, hb⟩; refine ⟨_, rfl, ?_⟩; have n0_ := aM_ (Kd.R_elder' (by (with_reducible repeat (first | apply kA_ | apply kN_ | apply kD_)); exact (Kd.R_mono (Kd.R_far (p := ⟨gb148, 3, none⟩) (Kd.R_far (p := ⟨gb148, 2, none⟩) (Kd.R_far (p := ⟨gb148, 1, none⟩) (Kd.R_far (p := ⟨gb148, 0, none⟩) (Kd.R_types HO142.out BK148.out (by decide)) (fun _ hk => hk.2) (.slice Ao43 t140.length co43)) (fun _ hk => hk.2) (.bool t143)) (fun _ hk => hk.2) (.string t144)) (fun _ hk => hk.2) (.string t145)) (fun _ h_ => h_.1))) (Kd.R_base ho0) hb); have n1_ := aM_ (Kd.R_lower (Kd.R_new' ho0 (Kd.R_lt (by (with_reducible repeat (first | apply kA_ | apply kN_ | apply kD_)); exact (Kd.R_mono (Kd.R_far (p := ⟨gb148, 3, none⟩) (Kd.R_far (p := ⟨gb148, 2, none⟩) (Kd.R_far (p := ⟨gb148, 1, none⟩) (Kd.R_far (p := ⟨gb148, 0, none⟩) (Kd.R_types HO142.out BK148.out (by decide)) (fun _ hk => hk.2) (.slice Ao43 t140.length co43)) (fun _ hk => hk.2) (.bool t143)) (fun _ hk => hk.2) (.string t144)) (fun _ hk => hk.2) (.string t145)) (fun _ h_ => h_.1))))) (below_size (by repeat (first | (with_reducible first | exact HB.out | apply bB_ | apply wN_ | apply bE_ | refine bS_ ?_ GE148.out) | exact HB.out)))); have n2_ := aM_ (blk_below (g := gb148) (o := .cells #[.slice Ao43 t140.length co43, .bool t143, .string t144, .string t145] 26 (0, 0)) (by (with_reducible repeat (first | refine bN_ ?_ _ | refine bD_ ?_ | refine bA_ ?_ _)); refine blk_put (cs := #[.slice Ao43 t140.length co43, .bool t143, .string t144, .string (⟨#[]⟩ : ByteArray)]) ?_ 3 _ rfl; (with_reducible repeat (first | refine bN_ ?_ _ | refine bD_ ?_ | refine bA_ ?_ _)); refine blk_put (cs := #[.slice Ao43 t140.length co43, .bool t143, .string (⟨#[]⟩ : ByteArray), .string (⟨#[]⟩ : ByteArray)]) ?_ 2 _ rfl; (with_reducible repeat (first | refine bN_ ?_ _ | refine bD_ ?_ | refine bA_ ?_ _)); refine blk_put (cs := #[.slice Ao43 t140.length co43, .bool false, .string (⟨#[]⟩ : ByteArray), .string (⟨#[]⟩ : ByteArray)]) ?_ 1 _ rfl; (with_reducible repeat (first | refine bN_ ?_ _ | refine bD_ ?_ | refine bA_ ?_ _)); refine blk_put (cs := #[.slice none 0 0, .bool false, .string (⟨#[]⟩ : ByteArray), .string (⟨#[]⟩ : ByteArray)]) ?_ 0 _ rfl; (with_reducible repeat (first | refine bN_ ?_ _ | refine bD_ ?_ | refine bA_ ?_ _)); exact BK148.out) hb); have n3_ := aM_ (below_step (by repeat (first | (with_reducible first | exact HB.out | apply bB_ | apply wN_ | apply bE_ | refine bS_ ?_ GE148.out) | exact HB.out)) hb); clear HO142; clear BK148; clear HB; have HO142 := n0_; have HO152 := n1_; have BK148 := n2_; have HB := n3_; clear n0_ n1_ n2_ n3_; (try clear hb); (try clear hb2); (try clear hk); (try clear hi); (try clear ho0)) | ((with_reducible refine gate_dst (N := 6) rfl ?_); refine box_event ?hg (N := 6) ?hd (cs := #[.bool false, .slice none 0 0, .string (⟨#[]⟩ : ByteArray), .string (⟨#[]⟩ : ByteArray), .string (⟨#[]⟩ : ByteArray), .int .u64 0, .int .u64 0, .int .u64 0]) (t := 28) ?hr ?_; (case hd => rfl); (case hg => rfl); (case hr => first | (go_simp; done) | (go_simp; rfl)); intro gb160 hg w46 hbox hb; have n0_ := aM_ (Kd.R_below (by (with_reducible repeat (first | apply kA_ | apply kN_ | apply kD_)); exact HO142.out) hb); have n1_ := aM_ (Kd.R_below (by (with_reducible repeat (first | apply kA_ | apply kN_ | apply kD_)); exact HO152.out) hb); have n2_ := aM_ (blk_below (g := gb148) (o := .cells #[.slice Ao43 t140.length co43, .bool t143, .string t144, .string t145] 26 (0, 0)) (by (with_reducible repeat (first | refine bN_ ?_ _ | refine bD_ ?_ | refine bA_ ?_ _)); exact BK148.out) hb); have n3_ := aM_ (below_step (by repeat (first | (with_reducible first | exact HB.out | apply bB_ | apply wN_ | apply bE_ | refine bS_ ?_ GE148.out) | exact HB.out)) hb); have n4_ := aM_ (hbox); have n5_ := aM_ ((by rw [hg]; exact (below_size (by repeat (first | (with_reducible first | exact HB.out | apply bB_ | apply wN_ | apply bE_ | refine bS_ ?_ GE148.out) | exact HB.out))) : w.heap.size ≤ gb160)); have n6_ := aM_ ((by rw [hg]; exact (below_size (by repeat (first | (with_reducible first | exact HB.out | apply bB_ | apply wN_ | apply bE_ | refine bS_ ?_ GE148.out) | exact HB.out))) : w.heap.size ≤ gb160)); have n7_ := aM_ ((by rw [hg]; exact Nat.ne_of_lt (blk_lt (g := gb148) (o := .cells #[.slice Ao43 t140.length co43, .bool t143, .string t144, .string t145] 26 (0, 0)) (by (with_reducible repeat (first | refine bN_ ?_ _ | refine bD_ ?_ | refine bA_ ?_ _)); exact BK148.out)) : gb148 ≠ gb160)); have n8_ := aM_ ((by rw [hg]; exact Nat.ne_of_gt (blk_lt (g := gb148) (o := .cells #[.slice Ao43 t140.length co43, .bool t143, .string t144, .string t145] 26 (0, 0)) (by (with_reducible repeat (first | refine bN_ ?_ _ | refine bD_ ?_ | refine bA_ ?_ _)); exact BK148.out)) : gb160 ≠ gb148)); clear HO142; clear HO152; clear BK148; clear HB; have HO142 := n0_; have HO152 := n1_; have BK148 := n2_; have HB := n3_; have BK160 := n4_; have GW160 := n5_; have GE160 := n6_; have NB148_160 := n7_; have NB160_148 := n8_; clear n0_ n1_ n2_ n3_ n4_ n5_ n6_ n7_ n8_; clear hb hbox hg; have hnb47 := NB160_148.out; have hnc47 := NB148_160.out; have hcz48_0 : w46.cell? ⟨gb160, 0, none⟩ = some (.bool false) := (bC_ BK160.out 0).trans rfl; have hcz48_1 : w46.cell? ⟨gb160, 1, none⟩ = some (.slice none 0 0) := (bC_ BK160.out 1).trans rfl; have hcz48_2 : w46.cell? ⟨gb160, 2, none⟩ = some (.string (⟨#[]⟩ : ByteArray)) := (bC_ BK160.out 2).trans rfl; have hcz48_3 : w46.cell? ⟨gb160, 3, none⟩ = some (.string (⟨#[]⟩ : ByteArray)) := (bC_ BK160.out 3).trans rfl; have hcz48_4 : w46.cell? ⟨gb160, 4, none⟩ = some (.string (⟨#[]⟩ : ByteArray)) := (bC_ BK160.out 4).trans rfl; have hcz48_5 : w46.cell? ⟨gb160, 5, none⟩ = some (.int .u64 0) := (bC_ BK160.out 5).trans rfl; have hcz48_6 : w46.cell? ⟨gb160, 6, none⟩ = some (.int .u64 0) := (bC_ BK160.out 6).trans rfl; have hcz48_7 : w46.cell? ⟨gb160, 7, none⟩ = some (.int .u64 0) := (bC_ BK160.out 7).trans rfl; have hfz48_0 := bF_ BK160.out 0; have hfz48_1 := bF_ BK160.out 1; have hfz48_2 := bF_ BK160.out 2; have hfz48_3 := bF_ BK160.out 3; have hfz48_4 := bF_ BK160.out 4; have hfz48_5 := bF_ BK160.out 5; have hfz48_6 := bF_ BK160.out 6; have hfz48_7 := bF_ BK160.out 7; obtain ⟨Ao49, co49, eo49⟩ := Kd.R_slice HO152.out; subst eo49))
     go_ret
     exact ⟨by first | rfl | (simp [errW_none, errW_some] <;> rfl) | (simp [*, errW_none, errW_some] <;> rfl) | (exfalso; contradiction), by repeat (first | (with_reducible first | exact HB.out | apply bB_ | apply wN_ | apply bE_ | refine bS_ ?_ GE148.out | refine bS_ ?_ GE160.out) | exact HB.out)⟩
    ·
     replace c40 := Bool.eq_false_iff.mpr c40
     subst c40
     have H1 : (some (!t149)) = some r := by rw [if_neg (show ¬ (false = true) by decide)] at H; exact H
     clear H
     have H := H1
     clear H1
     obtain rfl := Option.some.inj H
     go_enter Tryd.func7, Tryd.ntmps7
     go_wp2_with (first | ((with_reducible refine gate_callee (f := 20) rfl ?_); refine goesL_ (some 9) rfl rfl Tryd.func20 (by kernel_rfl) rfl #[.slice A0 l0.length c0] rfl (by (try simp only [List.map_toArray, List.map_cons, List.map_nil]); first | done | rfl | (simp only [List.length_drop, List.length_take]; rfl)) ?_; (with_reducible refine (laws_zzFits4.calls k _ _ l0 true _ ?side1 ?side2 A2.out).mono ?_); (case side1 => repeat (first | exact HR0.out | (with_reducible refine Kd.C_alloc ?_ _) | (with_reducible refine Kd.C_drewN ?_ _) | (with_reducible refine Kd.C_drew ?_))); (case side2 => exact HC0.out); rintro e w' ⟨rfl, ⟨nd, rfl⟩⟩; refine ⟨_, rfl, ?_⟩) | ((with_reducible refine gate_callee (f := 21) rfl ?_); refine goesL_ (some 13) rfl rfl Tryd.func21 (by kernel_rfl) rfl #[.slice A0 l0.length c0] rfl (by (try simp only [List.map_toArray, List.map_cons, List.map_nil]); first | done | rfl | (simp only [List.length_drop, List.length_take]; rfl)) ?_; (with_reducible refine (spec_VerHighest.calls k _ _ l0 t140 t143 t144 t145 false true _ ?side1 ?side2 A4.out).mono ?_); (case side1 => repeat (first | exact HR0.out | (with_reducible refine Kd.C_alloc ?_ _) | (with_reducible refine Kd.C_drewN ?_ _) | (with_reducible refine Kd.C_drew ?_))); (case side2 => exact HC0.out); rintro e w50 ⟨v141, rfl, ho0, hb⟩; refine ⟨_, rfl, ?_⟩; have n0_ := aM_ (Kd.R_lower ho0 (below_size (by repeat (first | (with_reducible first | exact HB.out | apply bB_ | apply wN_ | apply bE_) | exact HB.out)))); have n1_ := aM_ (below_step (by repeat (first | (with_reducible first | exact HB.out | apply bB_ | apply wN_ | apply bE_) | exact HB.out)) hb); clear HB; have HO142 := n0_; have HB := n1_; clear n0_ n1_; (try clear hb); (try clear hb2); (try clear hk); (try clear hi); (try clear ho0)) | ((with_reducible refine gate_dst (N := 3) rfl ?_); refine box_event ?hg (N := 3) ?hd (cs := #[.slice none 0 0, .bool false, .string (⟨#[]⟩ : ByteArray), .string (⟨#[]⟩ : ByteArray)]) (t := 26) ?hr ?_; (case hd => rfl); (case hg => rfl); (case hr => first | (go_simp; done) | (go_simp; rfl)); intro gb148 hg w51 hbox hb; have n0_ := aM_ (Kd.R_below (by (with_reducible repeat (first | apply kA_ | apply kN_ | apply kD_)); exact HO142.out) hb); have n1_ := aM_ (below_step (by repeat (first | (with_reducible first | exact HB.out | apply bB_ | apply wN_ | apply bE_) | exact HB.out)) hb); have n2_ := aM_ (hbox); have n3_ := aM_ ((by rw [hg]; exact (below_size (by repeat (first | (with_reducible first | exact HB.out | apply bB_ | apply wN_ | apply bE_) | exact HB.out))) : w.heap.size ≤ gb148)); have n4_ := aM_ ((by rw [hg]; exact (below_size (by repeat (first | (with_reducible first | exact HB.out | apply bB_ | apply wN_ | apply bE_) | exact HB.out))) : w.heap.size ≤ gb148)); clear HO142; clear HB; have HO142 := n0_; have HB := n1_; have BK148 := n2_; have GW148 := n3_; have GE148 := n4_; clear n0_ n1_ n2_ n3_ n4_; clear hb hbox hg; obtain ⟨Ao52, co52, eo52⟩ := Kd.R_slice HO142.out; subst eo52; have hcz53_0 : w51.cell? ⟨gb148, 0, none⟩ = some (.slice none 0 0) := (bC_ BK148.out 0).trans rfl; have hcz53_1 : w51.cell? ⟨gb148, 1, none⟩ = some (.bool false) := (bC_ BK148.out 1).trans rfl; have hcz53_2 : w51.cell? ⟨gb148, 2, none⟩ = some (.string (⟨#[]⟩ : ByteArray)) := (bC_ BK148.out 2).trans rfl; have hcz53_3 : w51.cell? ⟨gb148, 3, none⟩ = some (.string (⟨#[]⟩ : ByteArray)) := (bC_ BK148.out 3).trans rfl; have hfz53_0 := bF_ BK148.out 0; have hfz53_1 := bF_ BK148.out 1; have hfz53_2 := bF_ BK148.out 2; have hfz53_3 := bF_ BK148.out 3) | ((with_reducible refine gate_callee (f := 22) rfl ?_); refine goesL_ (some 21) rfl rfl Tryd.func22 (by kernel_rfl) rfl #[.slice A0 l0.length c0] rfl (by (try simp only [List.map_toArray, List.map_cons, List.map_nil]); first | done | rfl | (simp only [List.length_drop, List.length_take]; rfl)) ?_; (with_reducible refine (impl_VersionHighest.calls _ _ l0 t149 t150 t153 t154 t155 t156 t157 t158 false _ ?side1 ?side2 A6.out (HGd.out.below (by repeat (first | (with_reducible first | exact HB.out | apply bB_ | apply wN_ | apply bE_ | refine bS_ ?_ GE148.out) | exact HB.out)))).mono ?_); (case side1 => exact Kd.C_below HR0.out (by repeat (first | (with_reducible first | exact HB.out | apply bB_ | apply wN_ | apply bE_ | refine bS_ ?_ GE148.out) | exact HB.out))); (case side2 => exact HC0.out); rintro e w54 ⟨v151, rfl, ho0, hb⟩; refine ⟨_, rfl, ?_⟩; have n0_ := aM_ (Kd.R_elder' (by (with_reducible repeat (first | apply kA_ | apply kN_ | apply kD_)); exact (Kd.R_mono (Kd.R_far (p := ⟨gb148, 3, none⟩) (Kd.R_far (p := ⟨gb148, 2, none⟩) (Kd.R_far (p := ⟨gb148, 1, none⟩) (Kd.R_far (p := ⟨gb148, 0, none⟩) (Kd.R_types HO142.out BK148.out (by decide)) (fun _ hk => hk.2) (.slice Ao52 t140.length co52)) (fun _ hk => hk.2) (.bool t143)) (fun _ hk => hk.2) (.string t144)) (fun _ hk => hk.2) (.string t145)) (fun _ h_ => h_.1))) (Kd.R_base ho0) hb); have n1_ := aM_ (Kd.R_lower (Kd.R_new' ho0 (Kd.R_lt (by (with_reducible repeat (first | apply kA_ | apply kN_ | apply kD_)); exact (Kd.R_mono (Kd.R_far (p := ⟨gb148, 3, none⟩) (Kd.R_far (p := ⟨gb148, 2, none⟩) (Kd.R_far (p := ⟨gb148, 1, none⟩) (Kd.R_far (p := ⟨gb148, 0, none⟩) (Kd.R_types HO142.out BK148.out (by decide)) (fun _ hk => hk.2) (.slice Ao52 t140.length co52)) (fun _ hk => hk.2) (.bool t143)) (fun _ hk => hk.2) (.string t144)) (fun _ hk => hk.2) (.string t145)) (fun _ h_ => h_.1))))) (below_size (by repeat (first | (with_reducible first | exact HB.out | apply bB_ | apply wN_ | apply bE_ | refine bS_ ?_ GE148.out) | exact HB.out)))); have n2_ := aM_ (blk_below (g := gb148) (o := .cells #[.slice Ao52 t140.length co52, .bool t143, .string t144, .string t145] 26 (0, 0)) (by (with_reducible repeat (first | refine bN_ ?_ _ | refine bD_ ?_ | refine bA_ ?_ _)); refine blk_put (cs := #[.slice Ao52 t140.length co52, .bool t143, .string t144, .string (⟨#[]⟩ : ByteArray)]) ?_ 3 _ rfl; (with_reducible repeat (first | refine bN_ ?_ _ | refine bD_ ?_ | refine bA_ ?_ _)); refine blk_put (cs := #[.slice Ao52 t140.length co52, .bool t143, .string (⟨#[]⟩ : ByteArray), .string (⟨#[]⟩ : ByteArray)]) ?_ 2 _ rfl; (with_reducible repeat (first | refine bN_ ?_ _ | refine bD_ ?_ | refine bA_ ?_ _)); refine blk_put (cs := #[.slice Ao52 t140.length co52, .bool false, .string (⟨#[]⟩ : ByteArray), .string (⟨#[]⟩ : ByteArray)]) ?_ 1 _ rfl; (with_reducible repeat (first | refine bN_ ?_ _ | refine bD_ ?_ | refine bA_ ?_ _)); refine blk_put (cs := #[.slice none 0 0, .bool false, .string (⟨#[]⟩ : ByteArray), .string (⟨#[]⟩ : ByteArray)]) ?_ 0 _ rfl; (with_reducible repeat (first | refine bN_ ?_ _ | refine bD_ ?_ | refine bA_ ?_ _)); exact BK148.out) hb); have n3_ := aM_ (below_step (by repeat (first | (with_reducible first | exact HB.out | apply bB_ | apply wN_ | apply bE_ | refine bS_ ?_ GE148.out) | exact HB.out)) hb); clear HO142; clear BK148; clear HB; have HO142 := n0_; have HO152 := n1_; have BK148 := n2_; have HB := n3_; clear n0_ n1_ n2_ n3_; (try clear hb); (try clear hb2); (try clear hk); (try clear hi); (try clear ho0)) | ((with_reducible refine gate_dst (N := 6) rfl ?_); refine box_event ?hg (N := 6) ?hd (cs := #[.bool false, .slice none 0 0, .string (⟨#[]⟩ : ByteArray), .string (⟨#[]⟩ : ByteArray), .string (⟨#[]⟩ : ByteArray), .int .u64 0, .int .u64 0, .int .u64 0]) (t := 28) ?hr ?_; (case hd => rfl); (case hg => rfl); (case hr => first | (go_simp; done) | (go_simp; rfl)); intro gb160 hg w55 hbox hb; have n0_ := aM_ (Kd.R_below (by (with_reducible repeat (first | apply kA_ | apply kN_ | apply kD_)); exact HO142.out) hb); have n1_ := aM_ (Kd.R_below (by (with_reducible repeat (first | apply kA_ | apply kN_ | apply kD_)); exact HO152.out) hb); have n2_ := aM_ (blk_below (g := gb148) (o := .cells #[.slice Ao52 t140.length co52, .bool t143, .string t144, .string t145] 26 (0, 0)) (by (with_reducible repeat (first | refine bN_ ?_ _ | refine bD_ ?_ | refine bA_ ?_ _)); exact BK148.out) hb); have n3_ := aM_ (below_step (by repeat (first | (with_reducible first | exact HB.out | apply bB_ | apply wN_ | apply bE_ | refine bS_ ?_ GE148.out) | exact HB.out)) hb); have n4_ := aM_ (hbox); have n5_ := aM_ ((by rw [hg]; exact (below_size (by repeat (first | (with_reducible first | exact HB.out | apply bB_ | apply wN_ | apply bE_ | refine bS_ ?_ GE148.out) | exact HB.out))) : w.heap.size ≤ gb160)); have n6_ := aM_ ((by rw [hg]; exact (below_size (by repeat (first | (with_reducible first | exact HB.out | apply bB_ | apply wN_ | apply bE_ | refine bS_ ?_ GE148.out) | exact HB.out))) : w.heap.size ≤ gb160)); have n7_ := aM_ ((by rw [hg]; exact Nat.ne_of_lt (blk_lt (g := gb148) (o := .cells #[.slice Ao52 t140.length co52, .bool t143, .string t144, .string t145] 26 (0, 0)) (by (with_reducible repeat (first | refine bN_ ?_ _ | refine bD_ ?_ | refine bA_ ?_ _)); exact BK148.out)) : gb148 ≠ gb160)); have n8_ := aM_ ((by rw [hg]; exact Nat.ne_of_gt (blk_lt (g := gb148) (o := .cells #[.slice Ao52 t140.length co52, .bool t143, .string t144, .string t145] 26 (0, 0)) (by (with_reducible repeat (first | refine bN_ ?_ _ | refine bD_ ?_ | refine bA_ ?_ _)); exact BK148.out)) : gb160 ≠ gb148)); clear HO142; clear HO152; clear BK148; clear HB; have HO142 := n0_; have HO152 := n1_; have BK148 := n2_; have HB := n3_; have BK160 := n4_; have GW160 := n5_; have GE160 := n6_; have NB148_160 := n7_; have NB160_148 := n8_; clear n0_ n1_ n2_ n3_ n4_ n5_ n6_ n7_ n8_; clear hb hbox hg; have hnb56 := NB160_148.out; have hnc56 := NB148_160.out; have hcz57_0 : w55.cell? ⟨gb160, 0, none⟩ = some (.bool false) := (bC_ BK160.out 0).trans rfl; have hcz57_1 : w55.cell? ⟨gb160, 1, none⟩ = some (.slice none 0 0) := (bC_ BK160.out 1).trans rfl; have hcz57_2 : w55.cell? ⟨gb160, 2, none⟩ = some (.string (⟨#[]⟩ : ByteArray)) := (bC_ BK160.out 2).trans rfl; have hcz57_3 : w55.cell? ⟨gb160, 3, none⟩ = some (.string (⟨#[]⟩ : ByteArray)) := (bC_ BK160.out 3).trans rfl; have hcz57_4 : w55.cell? ⟨gb160, 4, none⟩ = some (.string (⟨#[]⟩ : ByteArray)) := (bC_ BK160.out 4).trans rfl; have hcz57_5 : w55.cell? ⟨gb160, 5, none⟩ = some (.int .u64 0) := (bC_ BK160.out 5).trans rfl; have hcz57_6 : w55.cell? ⟨gb160, 6, none⟩ = some (.int .u64 0) := (bC_ BK160.out 6).trans rfl; have hcz57_7 : w55.cell? ⟨gb160, 7, none⟩ = some (.int .u64 0) := (bC_ BK160.out 7).trans rfl; have hfz57_0 := bF_ BK160.out 0; have hfz57_1 := bF_ BK160.out 1; have hfz57_2 := bF_ BK160.out 2; have hfz57_3 := bF_ BK160.out 3; have hfz57_4 := bF_ BK160.out 4; have hfz57_5 := bF_ BK160.out 5; have hfz57_6 := bF_ BK160.out 6; have hfz57_7 := bF_ BK160.out 7; obtain ⟨Ao58, co58, eo58⟩ := Kd.R_slice HO152.out; subst eo58))
     go_ret
     exact ⟨by first | rfl | (simp [errW_none, errW_some] <;> rfl) | (simp [*, errW_none, errW_some] <;> rfl) | (exfalso; contradiction), by repeat (first | (with_reducible first | exact HB.out | apply bB_ | apply wN_ | apply bE_ | refine bS_ ?_ GE148.out | refine bS_ ?_ GE160.out) | exact HB.out)⟩
  ·
   replace c5 := Bool.eq_false_iff.mpr c5
   subst c5
   have H1 : (some true) = some r := by rw [if_neg (show ¬ (false = true) by decide)] at H; exact H
   clear H
   have H := H1
   clear H1
   obtain rfl := Option.some.inj H
   go_enter Tryd.func7, Tryd.ntmps7
   go_wp2_with (first | ((with_reducible refine gate_callee (f := 20) rfl ?_); refine goesL_ (some 9) rfl rfl Tryd.func20 (by kernel_rfl) rfl #[.slice A0 l0.length c0] rfl (by (try simp only [List.map_toArray, List.map_cons, List.map_nil]); first | done | rfl | (simp only [List.length_drop, List.length_take]; rfl)) ?_; (with_reducible refine (laws_zzFits4.calls k _ _ l0 true _ ?side1 ?side2 A2.out).mono ?_); (case side1 => repeat (first | exact HR0.out | (with_reducible refine Kd.C_alloc ?_ _) | (with_reducible refine Kd.C_drewN ?_ _) | (with_reducible refine Kd.C_drew ?_))); (case side2 => exact HC0.out); rintro e w' ⟨rfl, ⟨nd, rfl⟩⟩; refine ⟨_, rfl, ?_⟩) | ((with_reducible refine gate_callee (f := 21) rfl ?_); refine goesL_ (some 13) rfl rfl Tryd.func21 (by kernel_rfl) rfl #[.slice A0 l0.length c0] rfl (by (try simp only [List.map_toArray, List.map_cons, List.map_nil]); first | done | rfl | (simp only [List.length_drop, List.length_take]; rfl)) ?_; (with_reducible refine (spec_VerHighest.calls k _ _ l0 t140 t143 t144 t145 t146 false _ ?side1 ?side2 A4.out).mono ?_); (case side1 => repeat (first | exact HR0.out | (with_reducible refine Kd.C_alloc ?_ _) | (with_reducible refine Kd.C_drewN ?_ _) | (with_reducible refine Kd.C_drew ?_))); (case side2 => exact HC0.out); rintro e w59 ⟨v141, rfl, ho0, hb⟩; refine ⟨_, rfl, ?_⟩; have n0_ := aM_ (Kd.R_lower ho0 (below_size (by repeat (first | (with_reducible first | exact HB.out | apply bB_ | apply wN_ | apply bE_) | exact HB.out)))); have n1_ := aM_ (below_step (by repeat (first | (with_reducible first | exact HB.out | apply bB_ | apply wN_ | apply bE_) | exact HB.out)) hb); clear HB; have HO142 := n0_; have HB := n1_; clear n0_ n1_; (try clear hb); (try clear hb2); (try clear hk); (try clear hi); (try clear ho0)) | ((with_reducible refine gate_dst (N := 3) rfl ?_); refine box_event ?hg (N := 3) ?hd (cs := #[.slice none 0 0, .bool false, .string (⟨#[]⟩ : ByteArray), .string (⟨#[]⟩ : ByteArray)]) (t := 26) ?hr ?_; (case hd => rfl); (case hg => rfl); (case hr => first | (go_simp; done) | (go_simp; rfl)); intro gb148 hg w60 hbox hb; have n0_ := aM_ (Kd.R_below (by (with_reducible repeat (first | apply kA_ | apply kN_ | apply kD_)); exact HO142.out) hb); have n1_ := aM_ (below_step (by repeat (first | (with_reducible first | exact HB.out | apply bB_ | apply wN_ | apply bE_) | exact HB.out)) hb); have n2_ := aM_ (hbox); have n3_ := aM_ ((by rw [hg]; exact (below_size (by repeat (first | (with_reducible first | exact HB.out | apply bB_ | apply wN_ | apply bE_) | exact HB.out))) : w.heap.size ≤ gb148)); have n4_ := aM_ ((by rw [hg]; exact (below_size (by repeat (first | (with_reducible first | exact HB.out | apply bB_ | apply wN_ | apply bE_) | exact HB.out))) : w.heap.size ≤ gb148)); clear HO142; clear HB; have HO142 := n0_; have HB := n1_; have BK148 := n2_; have GW148 := n3_; have GE148 := n4_; clear n0_ n1_ n2_ n3_ n4_; clear hb hbox hg; obtain ⟨Ao61, co61, eo61⟩ := Kd.R_slice HO142.out; subst eo61; have hcz62_0 : w60.cell? ⟨gb148, 0, none⟩ = some (.slice none 0 0) := (bC_ BK148.out 0).trans rfl; have hcz62_1 : w60.cell? ⟨gb148, 1, none⟩ = some (.bool false) := (bC_ BK148.out 1).trans rfl; have hcz62_2 : w60.cell? ⟨gb148, 2, none⟩ = some (.string (⟨#[]⟩ : ByteArray)) := (bC_ BK148.out 2).trans rfl; have hcz62_3 : w60.cell? ⟨gb148, 3, none⟩ = some (.string (⟨#[]⟩ : ByteArray)) := (bC_ BK148.out 3).trans rfl; have hfz62_0 := bF_ BK148.out 0; have hfz62_1 := bF_ BK148.out 1; have hfz62_2 := bF_ BK148.out 2; have hfz62_3 := bF_ BK148.out 3))
   go_ret
   exact ⟨by first | rfl | (simp [errW_none, errW_some] <;> rfl) | (simp [*, errW_none, errW_some] <;> rfl) | (exfalso; contradiction), by repeat (first | (with_reducible first | exact HB.out | apply bB_ | apply wN_ | apply bE_ | refine bS_ ?_ GE148.out) | exact HB.out)⟩
 ·
  replace c3 := Bool.eq_false_iff.mpr c3
  subst c3
  have H1 : (some true) = some r := by rw [if_neg (show ¬ (false = true) by decide)] at H; exact H
  clear H
  have H := H1
  clear H1
  obtain rfl := Option.some.inj H
  go_enter Tryd.func7, Tryd.ntmps7
  go_wp2_with (first | ((with_reducible refine gate_callee (f := 20) rfl ?_); refine goesL_ (some 9) rfl rfl Tryd.func20 (by kernel_rfl) rfl #[.slice A0 l0.length c0] rfl (by (try simp only [List.map_toArray, List.map_cons, List.map_nil]); first | done | rfl | (simp only [List.length_drop, List.length_take]; rfl)) ?_; (with_reducible refine (laws_zzFits4.calls k _ _ l0 false _ ?side1 ?side2 A2.out).mono ?_); (case side1 => repeat (first | exact HR0.out | (with_reducible refine Kd.C_alloc ?_ _) | (with_reducible refine Kd.C_drewN ?_ _) | (with_reducible refine Kd.C_drew ?_))); (case side2 => exact HC0.out); rintro e w' ⟨rfl, ⟨nd, rfl⟩⟩; refine ⟨_, rfl, ?_⟩))
  go_ret
  exact ⟨by first | rfl | (simp [errW_none, errW_some] <;> rfl) | (simp [*, errW_none, errW_some] <;> rfl) | (exfalso; contradiction), by repeat (first | (with_reducible first | exact HB.out | apply bB_ | apply wN_ | apply bE_) | exact HB.out)⟩

/-- THE ONE PURE STATEMENT of laws_FnVersionHighest: yours. -/
def laws_FnVersionHighest.Pure : Prop := ∀ (l0 : List ByteArray), (l0.length ≤ maxLen ∧ ∀ x_ ∈ l0, x_.size ≤ maxLen) → ∃ k, laws_FnVersionHighest.f k l0 = some true
theorem laws_FnVersionHighest.walk (P : laws_FnVersionHighest.Pure) (A0 : Option Addr) (c0 : Nat) (l0 : List ByteArray) (w : World) (hr0 : Kd.C Kd.string w A0 l0.length l0) (hc0 : l0.length ≤ c0) (w0 : (l0.length ≤ maxLen ∧ ∀ x_ ∈ l0, x_.size ≤ maxLen)) (hgood : Pv.Good w) :
  Calls Tryd.prog 7 #[.slice A0 l0.length c0] w fun e w' => e = .returned (.bool true) ∧ Below w.heap.size w w' := by
 obtain ⟨k, h⟩ := P l0 w0
 refine (laws_FnVersionHighest.calls k _ _ l0 true w hr0 hc0 h hgood).mono ?_
 rintro e w' ⟨rfl, hd⟩
 exact ⟨rfl, hd⟩

end Go.Proofs.YtomoefldmgfaoaaDoor.PFnVersionHighest
