/- Functions of the program as plain Lean functions, and that the machine's calls do what these say: written for this claim by wip/myprint.py over the kit's print.py. -/
import Derived.Test.YtomoefldmgfaoaaDoorPFnVersionStepsx0
import Derived.Test.YtomoefldmgfaoaaDoorPFnVersionStepsx5
import Derived.Test.YtomoefldmgfaoaaDoorPFnVersionStepsx6
namespace Go.Proofs.YtomoefldmgfaoaaDoor.PFnVersionSteps
open Go.RowKit Go.Proofs.YtomoefldmgfaoaaDoorW.PrintWords Go.Proofs.YtomoefldmgfaoaaDoorW.PrintLast Go.Proofs.YtomoefldmgfaoaaDoorW.PrintMore
attribute [local go_sem] max2_int min2_int max_two min_two max_three min_three max_four min_four   -- for this text's walks alone
set_option linter.unusedVariables false
set_option linter.unusedSimpArgs false

/-! ### spec_VerGeneric: function 41 -/
mutual
def spec_VerGeneric.j0 : Nat → List ByteArray → Bool → Bool → ByteArray → ByteArray → Option (List Int × Bool × ByteArray × ByteArray × Bool × Bool)
 | 0, _, _, _, _, _ => none
 | k + 1, x5, x29, x175001, x175002, x175003 => if x29 = true then (some (([] : List Int), false, (⟨#[]⟩ : ByteArray), (⟨#[]⟩ : ByteArray), false, true)) else (spec_VerGeneric.l0 k x5 0 ([] : List Int) x175001 x175002 x175003)
def spec_VerGeneric.l0 : Nat → List ByteArray → Int → List Int → Bool → ByteArray → ByteArray → Option (List Int × Bool × ByteArray × ByteArray × Bool × Bool)
 | 0, _, _, _, _, _, _ => none
 | k + 1, x5, x7, x175000, x175001, x175002, x175003 => if x7 < (x5.length : Int) then (if 0 ≤ x7 then ((spec_VerUint.f k (rdOf ByteArray.empty x5 x7)).bind fun bt184 => (if bt184.2 = true then (if x175000.length < 17592186044416 then (spec_VerGeneric.l0 k x5 (wrap64 (x7 + 1)) (x175000 ++ [bt184.1]) x175001 x175002 x175003) else (none)) else (some (([] : List Int), false, (⟨#[]⟩ : ByteArray), (⟨#[]⟩ : ByteArray), false, true)))) else (none)) else (some (x175000, x175001, x175002, x175003, true, true))
end
def spec_VerGeneric.f (k : Nat) (a0 : ByteArray) : Option (List Int × Bool × ByteArray × ByteArray × Bool × Bool) := (spec_verAhead.f k a0).bind fun t175 => ((spec_verFields.f k t175).bind fun bt176 => ((spec_verPlace.f k bt176.2 10).bind fun t180 => (if t180 ≥ 0 then (some (([] : List Int), false, (⟨#[]⟩ : ByteArray), (⟨#[]⟩ : ByteArray), false, false)) else (if (bt176.1.length : Int) < 2 then (spec_VerGeneric.j0 k bt176.1 true false (⟨#[]⟩ : ByteArray) (⟨#[]⟩ : ByteArray)) else (if 0 < (bt176.1.length : Int) then ((spec_VerPlainly.f (rdOf ByteArray.empty bt176.1 0)).bind fun t182 => (spec_VerGeneric.j0 k bt176.1 (!t182) false (⟨#[]⟩ : ByteArray) (⟨#[]⟩ : ByteArray))) else (none))))))
set_option maxHeartbeats 8000000 in
set_option maxRecDepth 100000 in
theorem spec_VerGeneric.calls (k : Nat) (a0 : ByteArray) (r1 : List Int) (r2 : Bool) (r3 : ByteArray) (r4 : ByteArray) (r5 : Bool) (r6 : Bool) (w : World) (h : spec_VerGeneric.f k a0 = some (r1, r2, r3, r4, r5, r6)) :
  Calls Tryd.prog 41 #[.string a0] w fun e w' => ∃ v0_ : Value, e = .returned (.tuple #[.agg #[v0_, .bool r2, .string r3, .string r4], .bool r5, .bool r6]) ∧ Kd.R (Kd.int .u64) 22 w' w.heap.size (fun _ => True) v0_ r1 ∧ Below w.heap.size w w' := by
 have hu26 := Tryd.underlying26
 have HB := aM_ (Below.refl w.heap.size w)
 have H : ((spec_verAhead.f k a0).bind fun t175 => ((spec_verFields.f k t175).bind fun bt176 => ((spec_verPlace.f k bt176.2 10).bind fun t180 => (if t180 ≥ 0 then (some (([] : List Int), false, (⟨#[]⟩ : ByteArray), (⟨#[]⟩ : ByteArray), false, false)) else (if (bt176.1.length : Int) < 2 then (spec_VerGeneric.j0 k bt176.1 true false (⟨#[]⟩ : ByteArray) (⟨#[]⟩ : ByteArray)) else (if 0 < (bt176.1.length : Int) then ((spec_VerPlainly.f (rdOf ByteArray.empty bt176.1 0)).bind fun t182 => (spec_VerGeneric.j0 k bt176.1 (!t182) false (⟨#[]⟩ : ByteArray) (⟨#[]⟩ : ByteArray))) else (none))))))) = some (r1, r2, r3, r4, r5, r6) := h
 clear h
 replace H := Option.bind_eq_some_iff.mp H
 obtain ⟨t175, A20, H⟩ := H
 replace H : ((spec_verFields.f k t175).bind fun bt176 => ((spec_verPlace.f k bt176.2 10).bind fun t180 => (if t180 ≥ 0 then (some (([] : List Int), false, (⟨#[]⟩ : ByteArray), (⟨#[]⟩ : ByteArray), false, false)) else (if (bt176.1.length : Int) < 2 then (spec_VerGeneric.j0 k bt176.1 true false (⟨#[]⟩ : ByteArray) (⟨#[]⟩ : ByteArray)) else (if 0 < (bt176.1.length : Int) then ((spec_VerPlainly.f (rdOf ByteArray.empty bt176.1 0)).bind fun t182 => (spec_VerGeneric.j0 k bt176.1 (!t182) false (⟨#[]⟩ : ByteArray) (⟨#[]⟩ : ByteArray))) else (none)))))) = some (r1, r2, r3, r4, r5, r6) := H
 have A2 := aM_ A20
 clear A20
 replace H := Option.bind_eq_some_iff.mp H
 obtain ⟨⟨t176, t177⟩, A30, H⟩ := H
 replace H : ((spec_verPlace.f k t177 10).bind fun t180 => (if t180 ≥ 0 then (some (([] : List Int), false, (⟨#[]⟩ : ByteArray), (⟨#[]⟩ : ByteArray), false, false)) else (if (t176.length : Int) < 2 then (spec_VerGeneric.j0 k t176 true false (⟨#[]⟩ : ByteArray) (⟨#[]⟩ : ByteArray)) else (if 0 < (t176.length : Int) then ((spec_VerPlainly.f (rdOf ByteArray.empty t176 0)).bind fun t182 => (spec_VerGeneric.j0 k t176 (!t182) false (⟨#[]⟩ : ByteArray) (⟨#[]⟩ : ByteArray))) else (none))))) = some (r1, r2, r3, r4, r5, r6) := H
 have A3 := aM_ A30
 clear A30
 replace H := Option.bind_eq_some_iff.mp H
 obtain ⟨t180, A40, H⟩ := H
 replace H : (if t180 ≥ 0 then (some (([] : List Int), false, (⟨#[]⟩ : ByteArray), (⟨#[]⟩ : ByteArray), false, false)) else (if (t176.length : Int) < 2 then (spec_VerGeneric.j0 k t176 true false (⟨#[]⟩ : ByteArray) (⟨#[]⟩ : ByteArray)) else (if 0 < (t176.length : Int) then ((spec_VerPlainly.f (rdOf ByteArray.empty t176 0)).bind fun t182 => (spec_VerGeneric.j0 k t176 (!t182) false (⟨#[]⟩ : ByteArray) (⟨#[]⟩ : ByteArray))) else (none)))) = some (r1, r2, r3, r4, r5, r6) := H
 have A4 := aM_ A40
 clear A40
 by_cases c5 : t180 ≥ 0
 ·
  rw [if_pos c5] at H
  have c5b0 : decide (0 ≤ t180) = true := decide_eq_true c5
  clear c5
  simp only [Option.some.injEq, Prod.mk.injEq] at H
  obtain ⟨rfl, rfl, rfl, rfl, rfl, rfl⟩ := H
  go_enter Tryd.func41, Tryd.ntmps41
  go_wp2_with (first | ((with_reducible refine gate_dst (N := 2) rfl ?_); refine box_event ?hg (N := 2) ?hd (cs := #[.slice none 0 0, .bool false, .string (⟨#[]⟩ : ByteArray), .string (⟨#[]⟩ : ByteArray)]) (t := 26) ?hr ?_; (case hd => rfl); (case hg => rfl); (case hr => first | (go_simp; done) | (go_simp; rfl)); intro gb174 hg w6 hbox hb; have n0_ := aM_ (below_step (by repeat (first | (with_reducible first | exact HB.out | apply bB_ | apply wN_ | apply bE_) | exact HB.out)) hb); have n1_ := aM_ (hbox); have n2_ := aM_ ((by rw [hg]; exact (below_size (by repeat (first | (with_reducible first | exact HB.out | apply bB_ | apply wN_ | apply bE_) | exact HB.out))) : w.heap.size ≤ gb174)); have n3_ := aM_ ((by rw [hg]; exact (below_size (by repeat (first | (with_reducible first | exact HB.out | apply bB_ | apply wN_ | apply bE_) | exact HB.out))) : w.heap.size ≤ gb174)); clear HB; have HB := n0_; have BK174 := n1_; have GW174 := n2_; have GE174 := n3_; clear n0_ n1_ n2_ n3_; clear hb hbox hg) | ((with_reducible refine gate_callee (f := 38) rfl ?_); refine goesL_ (some 12) rfl rfl Tryd.func38 (by kernel_rfl) rfl #[.string a0] rfl (by (try simp only [List.map_toArray, List.map_cons, List.map_nil]); first | done | rfl | (simp only [List.length_drop, List.length_take]; rfl)) ?_; (with_reducible refine (spec_verAhead.calls k a0 t175 _ A2.out).mono ?_); rintro e w' ⟨rfl, ⟨nd, rfl⟩⟩; refine ⟨_, rfl, ?_⟩; (try (rw [drewN_self w6]; generalize hq_ : World.drewN w6 _ = w6; have n0_ : Aside0 (w6.heap[gb174]? = some (.cells #[.slice none 0 0, .bool false, .string (⟨#[]⟩ : ByteArray), .string (⟨#[]⟩ : ByteArray)] 26 (0, 0))) := ⟨by rw [← hq_]; exact (by (with_reducible repeat (first | refine bN_ ?_ _ | refine bD_ ?_ | refine bA_ ?_ _)); exact BK174.out)⟩; have n1_ : Aside0 (Below w.heap.size w w6) := ⟨by rw [← hq_]; exact (by repeat (first | (with_reducible first | exact HB.out | apply bB_ | apply wN_ | apply bE_ | refine bS_ ?_ GE174.out) | exact HB.out))⟩; clear BK174 HB hq_; have BK174 := n0_; have HB := n1_; clear n0_ n1_))) | ((with_reducible refine gate_callee (f := 37) rfl ?_); refine goesL_ (some 13) rfl rfl Tryd.func37 (by kernel_rfl) rfl #[.string t175] rfl (by (try simp only [List.map_toArray, List.map_cons, List.map_nil]); first | done | rfl | (simp only [List.length_drop, List.length_take]; rfl)) ?_; (with_reducible refine (spec_verFields.calls k t175 t176 t177 _ A3.out).mono ?_); rintro e w7 ⟨v178, rfl, ho0, hb⟩; refine ⟨_, rfl, ?_⟩; have n0_ := aM_ (Kd.R_lower ho0 (below_size (by repeat (first | (with_reducible first | exact HB.out | apply bB_ | apply wN_ | apply bE_ | refine bS_ ?_ GE174.out) | exact HB.out)))); have n1_ := aM_ (blk_below (g := gb174) (o := .cells #[.slice none 0 0, .bool false, .string (⟨#[]⟩ : ByteArray), .string (⟨#[]⟩ : ByteArray)] 26 (0, 0)) (by (with_reducible repeat (first | refine bN_ ?_ _ | refine bD_ ?_ | refine bA_ ?_ _)); exact BK174.out) hb); have n2_ := aM_ (below_step (by repeat (first | (with_reducible first | exact HB.out | apply bB_ | apply wN_ | apply bE_ | refine bS_ ?_ GE174.out) | exact HB.out)) hb); clear BK174; clear HB; have HO179 := n0_; have BK174 := n1_; have HB := n2_; clear n0_ n1_ n2_; (try clear hb); (try clear hb2); (try clear hk); (try clear hi); (try clear ho0)) | ((with_reducible refine gate_callee (f := 39) rfl ?_); refine goesL_ (some 17) rfl rfl Tryd.func39 (by kernel_rfl) rfl #[.string t177, .int .u8 10] rfl (by (try simp only [List.map_toArray, List.map_cons, List.map_nil]); first | done | rfl | (simp only [List.length_drop, List.length_take]; rfl)) ?_; (with_reducible refine (spec_verPlace.calls k t177 10 t180 _ A4.out).mono ?_); rintro e w' ⟨rfl, ⟨nd, rfl⟩⟩; refine ⟨_, rfl, ?_⟩; (try (rw [drewN_self w7]; generalize hq_ : World.drewN w7 _ = w7; have n0_ : Aside0 (Kd.R Kd.string 9 w7 w.heap.size (fun _ => True) v178 t176) := ⟨by rw [← hq_]; exact (by (with_reducible repeat (first | apply kA_ | apply kN_ | apply kD_)); exact HO179.out)⟩; have n1_ : Aside0 (w7.heap[gb174]? = some (.cells #[.slice none 0 0, .bool false, .string (⟨#[]⟩ : ByteArray), .string (⟨#[]⟩ : ByteArray)] 26 (0, 0))) := ⟨by rw [← hq_]; exact (by (with_reducible repeat (first | refine bN_ ?_ _ | refine bD_ ?_ | refine bA_ ?_ _)); exact BK174.out)⟩; have n2_ : Aside0 (Below w.heap.size w w7) := ⟨by rw [← hq_]; exact (by repeat (first | (with_reducible first | exact HB.out | apply bB_ | apply wN_ | apply bE_ | refine bS_ ?_ GE174.out) | exact HB.out))⟩; clear HO179 BK174 HB hq_; have HO179 := n0_; have BK174 := n1_; have HB := n2_; clear n0_ n1_ n2_)); have hcz8_0 : w7.cell? ⟨gb174, 0, none⟩ = some (.slice none 0 0) := (bC_ BK174.out 0).trans rfl; have hcz8_1 : w7.cell? ⟨gb174, 1, none⟩ = some (.bool false) := (bC_ BK174.out 1).trans rfl; have hcz8_2 : w7.cell? ⟨gb174, 2, none⟩ = some (.string (⟨#[]⟩ : ByteArray)) := (bC_ BK174.out 2).trans rfl; have hcz8_3 : w7.cell? ⟨gb174, 3, none⟩ = some (.string (⟨#[]⟩ : ByteArray)) := (bC_ BK174.out 3).trans rfl; have hfz8_0 := bF_ BK174.out 0; have hfz8_1 := bF_ BK174.out 1; have hfz8_2 := bF_ BK174.out 2; have hfz8_3 := bF_ BK174.out 3))
  refine bodyPost_ret (results_ctt rfl _ _ gb174 26 #[.slice none 0 0, .bool false, .string (⟨#[]⟩ : ByteArray), .string (⟨#[]⟩ : ByteArray)] (0, 0) _ rfl (by (with_reducible repeat (first | refine bN_ ?_ _ | refine bD_ ?_ | refine bA_ ?_ _)); refine blk_put (cs := #[.slice none 0 0, .bool false, .string (⟨#[]⟩ : ByteArray), .string (⟨#[]⟩ : ByteArray)]) ?_ 3 _ rfl; (with_reducible repeat (first | refine bN_ ?_ _ | refine bD_ ?_ | refine bA_ ?_ _)); refine blk_put (cs := #[.slice none 0 0, .bool false, .string (⟨#[]⟩ : ByteArray), .string (⟨#[]⟩ : ByteArray)]) ?_ 2 _ rfl; (with_reducible repeat (first | refine bN_ ?_ _ | refine bD_ ?_ | refine bA_ ?_ _)); refine blk_put (cs := #[.slice none 0 0, .bool false, .string (⟨#[]⟩ : ByteArray), .string (⟨#[]⟩ : ByteArray)]) ?_ 1 _ rfl; (with_reducible repeat (first | refine bN_ ?_ _ | refine bD_ ?_ | refine bA_ ?_ _)); refine blk_put (cs := #[.slice none 0 0, .bool false, .string (⟨#[]⟩ : ByteArray), .string (⟨#[]⟩ : ByteArray)]) ?_ 0 _ rfl; (with_reducible repeat (first | refine bN_ ?_ _ | refine bD_ ?_ | refine bA_ ?_ _)); exact BK174.out) Tryd.underlying26 rfl (by kernel_rfl)) rfl ?_
  exact ⟨_, by first | rfl | (simp [errW_none, errW_some] <;> rfl) | (simp [*, errW_none, errW_some] <;> rfl), by first | exact Kd.R_nil _ _ _ _ _ | exact Kd.N_nil _ _ _ _ _ | exact Kd.V_nil _ _ _ _ _ | exact Kd.Q_nil _ _ _ _ _ | exact Kd.S_nil _ _ _ _ _, by repeat (first | (with_reducible first | exact HB.out | apply bB_ | apply wN_ | apply bE_ | refine bS_ ?_ GE174.out) | exact HB.out)⟩
 ·
  rw [if_neg c5] at H
  have c5b0 : decide (0 ≤ t180) = false := decide_eq_false c5
  clear c5
  have HC9 := aM_ H
  clear H
  go_enter Tryd.func41, Tryd.ntmps41
  go_upto_region 4 with (first | ((with_reducible refine gate_dst (N := 2) rfl ?_); refine box_event ?hg (N := 2) ?hd (cs := #[.slice none 0 0, .bool false, .string (⟨#[]⟩ : ByteArray), .string (⟨#[]⟩ : ByteArray)]) (t := 26) ?hr ?_; (case hd => rfl); (case hg => rfl); (case hr => first | (go_simp; done) | (go_simp; rfl)); intro gb174 hg w10 hbox hb; have n0_ := aM_ (below_step (by repeat (first | (with_reducible first | exact HB.out | apply bB_ | apply wN_ | apply bE_) | exact HB.out)) hb); have n1_ := aM_ (hbox); have n2_ := aM_ ((by rw [hg]; exact (below_size (by repeat (first | (with_reducible first | exact HB.out | apply bB_ | apply wN_ | apply bE_) | exact HB.out))) : w.heap.size ≤ gb174)); have n3_ := aM_ ((by rw [hg]; exact (below_size (by repeat (first | (with_reducible first | exact HB.out | apply bB_ | apply wN_ | apply bE_) | exact HB.out))) : w.heap.size ≤ gb174)); clear HB; have HB := n0_; have BK174 := n1_; have GW174 := n2_; have GE174 := n3_; clear n0_ n1_ n2_ n3_; clear hb hbox hg) | ((with_reducible refine gate_callee (f := 38) rfl ?_); refine goesL_ (some 12) rfl rfl Tryd.func38 (by kernel_rfl) rfl #[.string a0] rfl (by (try simp only [List.map_toArray, List.map_cons, List.map_nil]); first | done | rfl | (simp only [List.length_drop, List.length_take]; rfl)) ?_; (with_reducible refine (spec_verAhead.calls k a0 t175 _ A2.out).mono ?_); rintro e w' ⟨rfl, ⟨nd, rfl⟩⟩; refine ⟨_, rfl, ?_⟩) | ((with_reducible refine gate_callee (f := 37) rfl ?_); refine goesL_ (some 13) rfl rfl Tryd.func37 (by kernel_rfl) rfl #[.string t175] rfl (by (try simp only [List.map_toArray, List.map_cons, List.map_nil]); first | done | rfl | (simp only [List.length_drop, List.length_take]; rfl)) ?_; (with_reducible refine (spec_verFields.calls k t175 t176 t177 _ A3.out).mono ?_); rintro e w11 ⟨v178, rfl, ho0, hb⟩; refine ⟨_, rfl, ?_⟩; have n0_ := aM_ (Kd.R_lower ho0 (below_size (by repeat (first | (with_reducible first | exact HB.out | apply bB_ | apply wN_ | apply bE_ | refine bS_ ?_ GE174.out) | exact HB.out)))); have n1_ := aM_ (blk_below (g := gb174) (o := .cells #[.slice none 0 0, .bool false, .string (⟨#[]⟩ : ByteArray), .string (⟨#[]⟩ : ByteArray)] 26 (0, 0)) (by (with_reducible repeat (first | refine bN_ ?_ _ | refine bD_ ?_ | refine bA_ ?_ _)); exact BK174.out) hb); have n2_ := aM_ (below_step (by repeat (first | (with_reducible first | exact HB.out | apply bB_ | apply wN_ | apply bE_ | refine bS_ ?_ GE174.out) | exact HB.out)) hb); clear BK174; clear HB; have HO179 := n0_; have BK174 := n1_; have HB := n2_; clear n0_ n1_ n2_; (try clear hb); (try clear hb2); (try clear hk); (try clear hi); (try clear ho0)) | ((with_reducible refine gate_callee (f := 39) rfl ?_); refine goesL_ (some 17) rfl rfl Tryd.func39 (by kernel_rfl) rfl #[.string t177, .int .u8 10] rfl (by (try simp only [List.map_toArray, List.map_cons, List.map_nil]); first | done | rfl | (simp only [List.length_drop, List.length_take]; rfl)) ?_; (with_reducible refine (spec_verPlace.calls k t177 10 t180 _ A4.out).mono ?_); rintro e w' ⟨rfl, ⟨nd, rfl⟩⟩; refine ⟨_, rfl, ?_⟩))
  (try simp only [Act.put, List.setIfInBounds_toArray, List.set_cons_zero, List.set_cons_succ])
  go_cut [29] (fun v29 wc => ∃ (kq : Nat) (x29_8 : Bool), v29 = .bool x29_8 ∧ Aside0 (spec_VerGeneric.j0 kq t176 x29_8 false (⟨#[]⟩ : ByteArray) (⟨#[]⟩ : ByteArray) = some (r1, r2, r3, r4, r5, r6)) ∧ Aside0 (kq ≤ k) ∧ Aside0 (Kd.R Kd.string 9 wc w.heap.size (fun _ => True) v178 t176) ∧ Aside0 (wc.heap[gb174]? = some (.cells #[(.slice none 0 0), .bool false, .string (⟨#[]⟩ : ByteArray), .string (⟨#[]⟩ : ByteArray)] 26 (0, 0))) ∧ Aside0 (Below w.heap.size w wc))
  case first =>
   have H := HC9.out
   clear HC9
   by_cases c12 : (t176.length : Int) < 2
   ·
    rw [if_pos c12] at H
    have c12b0 : decide ((t176.length : Int) < 2) = true := decide_eq_true c12
    have c12b1 : decide (t176.length < 2) = true := decide_eq_true (by omega)
    clear c12
    (first | rw [c12b0] | (simp only [i64_w, i32_w]; rw [c12b0]) | skip)
    have H' := aM_ H
    clear H
    obtain ⟨Ao13, co13, eo13⟩ := Kd.R_slice HO179.out
    subst eo13
    go_wp2
    go_meet
    case rel => exact ⟨_, (true), (by first | rfl | (simp; done) | (simp [*]; done)), H', ⟨by first | omega | exact Nat.le_refl _⟩, ⟨by (with_reducible repeat (first | apply kA_ | apply kN_ | apply kD_)); exact HO179.out⟩, ⟨by (with_reducible repeat (first | refine bN_ ?_ _ | refine bD_ ?_ | refine bA_ ?_ _)); exact BK174.out⟩, ⟨by repeat (first | (with_reducible first | exact HB.out | apply bB_ | apply wN_ | apply bE_ | refine bS_ ?_ GE174.out) | exact HB.out)⟩⟩
   ·
    rw [if_neg c12] at H
    have c12b0 : decide ((t176.length : Int) < 2) = false := decide_eq_false c12
    have c12b1 : decide (t176.length < 2) = false := decide_eq_false (by omega)
    clear c12
    (first | rw [c12b0] | (simp only [i64_w, i32_w]; rw [c12b0]) | skip)
    by_cases c14 : 0 < (t176.length : Int)
    ·
     rw [if_pos c14] at H
     have c14b0 : decide (0 < (t176.length : Int)) = true := decide_eq_true c14
     have c14b1 : decide (0 < t176.length) = true := decide_eq_true (by omega)
     clear c14
     replace H := Option.bind_eq_some_iff.mp H
     obtain ⟨t182, A150, H⟩ := H
     replace H : (spec_VerGeneric.j0 k t176 (!t182) false (⟨#[]⟩ : ByteArray) (⟨#[]⟩ : ByteArray)) = some (r1, r2, r3, r4, r5, r6) := H
     have A15 := aM_ A150
     clear A150
     have H' := aM_ H
     clear H
     obtain ⟨Ao16, co16, eo16⟩ := Kd.R_slice HO179.out
     subst eo16
     have p181 : 0 ≤ (0 : Int) := (by omega)
     have q181 : 0 < (t176.length : Int) := of_decide_eq_true (by first | (with_reducible assumption) | assumption)
     obtain ⟨ad181, e181, hx181_0⟩ := Kd.at_string (Kd.R_reads' HO179.out).2.2 0 p181 q181
     cases e181
     have qi181 : (0 < t176.length) = True := eq_true (by omega)
     (try rw [show ((0 : Int)).toNat = 0 from rfl] at hx181_0)
     (try rw [Addr.add_zero'] at hx181_0)
     replace p181 := eq_true p181
     replace q181 := eq_true q181
     go_wp2_with (first | (go_at_call 34; (with_reducible refine (spec_VerPlainly.calls (rdOf ByteArray.empty t176 0) t182 _ A15.out).mono ?_); rintro e w' ⟨rfl, ⟨nd, rfl⟩⟩))
     go_meet
     case rel => exact ⟨_, (!t182), (by first | rfl | (simp; done) | (simp [*]; done)), H', ⟨by first | omega | exact Nat.le_refl _⟩, ⟨by (with_reducible repeat (first | apply kA_ | apply kN_ | apply kD_)); exact HO179.out⟩, ⟨by (with_reducible repeat (first | refine bN_ ?_ _ | refine bD_ ?_ | refine bA_ ?_ _)); exact BK174.out⟩, ⟨by repeat (first | (with_reducible first | exact HB.out | apply bB_ | apply wN_ | apply bE_ | refine bS_ ?_ GE174.out) | exact HB.out)⟩⟩
    ·
     rw [if_neg c14] at H
     exact absurd H (by simp)
  case rest =>
   clear HC9
   try clear c1
   try clear p1
   try clear q1
   try clear hx1
   try clear qi1
   try clear p2
   try clear c3
   try clear c4
   try clear c5
   try clear c5b0
   try clear c12
   try clear c12b0
   try clear c12b1
   try clear c14
   try clear c14b0
   try clear c14b1
   try clear hcz8_0
   try clear hcz8_1
   try clear hcz8_2
   try clear hcz8_3
   try clear hfz8_0
   try clear hfz8_1
   try clear hfz8_2
   try clear hfz8_3
   try clear hx181_0
   try clear p181
   try clear q181
   obtain ⟨kq, x29_8, rfl, HA, HJ8, HO_5, BK174, HB⟩ := hcut
   cases kq with
   | zero => exact absurd HA.out (by simp [spec_VerGeneric.j0])
   | succ kj8 =>
    have H := HA.out
    clear HA
    simp only [spec_VerGeneric.j0] at H
    by_cases c17 : x29_8 = true
    ·
     subst c17
     have H1 : (some (([] : List Int), false, (⟨#[]⟩ : ByteArray), (⟨#[]⟩ : ByteArray), false, true)) = some (r1, r2, r3, r4, r5, r6) := by rw [if_pos rfl] at H; exact H
     clear H
     have H := H1
     clear H1
     simp only [Option.some.injEq, Prod.mk.injEq] at H
     obtain ⟨rfl, rfl, rfl, rfl, rfl, rfl⟩ := H
     have hcz18_0 : wc.cell? ⟨gb174, 0, none⟩ = some (.slice none 0 0) := (bC_ BK174.out 0).trans rfl
     have hcz18_1 : wc.cell? ⟨gb174, 1, none⟩ = some (.bool false) := (bC_ BK174.out 1).trans rfl
     have hcz18_2 : wc.cell? ⟨gb174, 2, none⟩ = some (.string (⟨#[]⟩ : ByteArray)) := (bC_ BK174.out 2).trans rfl
     have hcz18_3 : wc.cell? ⟨gb174, 3, none⟩ = some (.string (⟨#[]⟩ : ByteArray)) := (bC_ BK174.out 3).trans rfl
     have hfz18_0 := bF_ BK174.out 0
     have hfz18_1 := bF_ BK174.out 1
     have hfz18_2 := bF_ BK174.out 2
     have hfz18_3 := bF_ BK174.out 3
     go_wp2
     refine bodyPost_ret (results_ctt rfl _ _ gb174 26 #[.slice none 0 0, .bool false, .string (⟨#[]⟩ : ByteArray), .string (⟨#[]⟩ : ByteArray)] (0, 0) _ rfl (by (with_reducible repeat (first | refine bN_ ?_ _ | refine bD_ ?_ | refine bA_ ?_ _)); refine blk_put (cs := #[.slice none 0 0, .bool false, .string (⟨#[]⟩ : ByteArray), .string (⟨#[]⟩ : ByteArray)]) ?_ 3 _ rfl; (with_reducible repeat (first | refine bN_ ?_ _ | refine bD_ ?_ | refine bA_ ?_ _)); refine blk_put (cs := #[.slice none 0 0, .bool false, .string (⟨#[]⟩ : ByteArray), .string (⟨#[]⟩ : ByteArray)]) ?_ 2 _ rfl; (with_reducible repeat (first | refine bN_ ?_ _ | refine bD_ ?_ | refine bA_ ?_ _)); refine blk_put (cs := #[.slice none 0 0, .bool false, .string (⟨#[]⟩ : ByteArray), .string (⟨#[]⟩ : ByteArray)]) ?_ 1 _ rfl; (with_reducible repeat (first | refine bN_ ?_ _ | refine bD_ ?_ | refine bA_ ?_ _)); refine blk_put (cs := #[.slice none 0 0, .bool false, .string (⟨#[]⟩ : ByteArray), .string (⟨#[]⟩ : ByteArray)]) ?_ 0 _ rfl; (with_reducible repeat (first | refine bN_ ?_ _ | refine bD_ ?_ | refine bA_ ?_ _)); exact BK174.out) Tryd.underlying26 rfl (by kernel_rfl)) rfl ?_
     exact ⟨_, by first | rfl | (simp [errW_none, errW_some] <;> rfl) | (simp [*, errW_none, errW_some] <;> rfl), by first | exact Kd.R_nil _ _ _ _ _ | exact Kd.N_nil _ _ _ _ _ | exact Kd.V_nil _ _ _ _ _ | exact Kd.Q_nil _ _ _ _ _ | exact Kd.S_nil _ _ _ _ _, by repeat (first | (with_reducible first | exact HB.out | apply bB_ | apply wN_ | apply bE_ | refine bS_ ?_ GE174.out) | exact HB.out)⟩
    ·
     replace c17 := Bool.eq_false_iff.mpr c17
     subst c17
     have H1 : (spec_VerGeneric.l0 kj8 t176 0 ([] : List Int) false (⟨#[]⟩ : ByteArray) (⟨#[]⟩ : ByteArray)) = some (r1, r2, r3, r4, r5, r6) := by rw [if_neg (show ¬ (false = true) by decide)] at H; exact H
     clear H
     have H := H1
     clear H1
     have H' := aM_ H
     clear H
     go_wp2
     go_loopg [7] kj8 (fun kq v7 w' => ∃ (x7_2 : Int) (x175000_2 : List Int) (x175001_2 : Bool) (x175002_2 : ByteArray) (x175003_2 : ByteArray) (u175000 : Value), v7 = .int .i64 x7_2 ∧ Aside0 (spec_VerGeneric.l0 kq t176 x7_2 x175000_2 x175001_2 x175002_2 x175003_2 = some (r1, r2, r3, r4, r5, r6)) ∧ Aside0 (kq ≤ kj8) ∧ Aside0 (Kd.R Kd.string 9 w' w.heap.size (fun _ => True) v178 t176) ∧ Aside0 (Kd.R (Kd.int .u64) 22 w' w.heap.size (fun _ => True) u175000 x175000_2) ∧ Aside0 (w'.heap[gb174]? = some (.cells #[u175000, .bool x175001_2, .string x175002_2, .string x175003_2] 26 (0, 0))) ∧ Aside0 (Below w.heap.size w w'))
     case atStart => exact ⟨(0), (([] : List Int)), (false), ((⟨#[]⟩ : ByteArray)), ((⟨#[]⟩ : ByteArray)), (.slice none 0 0), (by first | rfl | (simp; done) | (simp [*]; done)), H', ⟨Nat.le_refl _⟩, ⟨by (with_reducible repeat (first | apply kA_ | apply kN_ | apply kD_)); exact HO_5.out⟩, ⟨by first | exact Kd.R_nil _ _ _ _ _ | exact Kd.N_nil _ _ _ _ _ | exact Kd.V_nil _ _ _ _ _ | exact Kd.Q_nil _ _ _ _ _ | exact Kd.S_nil _ _ _ _ _⟩, ⟨by (with_reducible repeat (first | refine bN_ ?_ _ | refine bD_ ?_ | refine bA_ ?_ _)); exact BK174.out⟩, ⟨by repeat (first | (with_reducible first | exact HB.out | apply bB_ | apply wN_ | apply bE_ | refine bS_ ?_ GE174.out) | exact HB.out)⟩⟩
     case round =>
      clear H'
      try clear c1
      try clear p1
      try clear q1
      try clear hx1
      try clear qi1
      try clear p2
      try clear c3
      try clear c4
      try clear c5
      try clear c5b0
      try clear c12
      try clear c12b0
      try clear c12b1
      try clear c14
      try clear c14b0
      try clear c14b1
      try clear c17
      try clear p18
      try clear q18
      try clear hx18
      try clear qi18
      try clear hcz18_0
      try clear hcz18_1
      try clear hcz18_2
      try clear hcz18_3
      try clear hcz8_0
      try clear hcz8_1
      try clear hcz8_2
      try clear hcz8_3
      try clear hfz18_0
      try clear hfz18_1
      try clear hfz18_2
      try clear hfz18_3
      try clear hfz8_0
      try clear hfz8_1
      try clear hfz8_2
      try clear hfz8_3
      try clear hx181_0
      try clear p1
      try clear p181
      try clear p2
      try clear q1
      try clear q181
      obtain ⟨x7_2, x175000_2, x175001_2, x175002_2, x175003_2, u175000, rfl, HA, HK2, HO_5, HO_175000, BK174, HB⟩ := hrel
      cases gk with
      | zero => exact absurd HA.out (by simp [spec_VerGeneric.l0])
      | succ k2 =>
       have H := HA.out
       clear HA
       simp only [spec_VerGeneric.l0] at H
       by_cases c19 : x7_2 < (t176.length : Int)
       ·
        rw [if_pos c19] at H
        have c19b0 : decide (x7_2 < (t176.length : Int)) = true := decide_eq_true c19
        clear c19
        by_cases c20 : 0 ≤ x7_2
        ·
         rw [if_pos c20] at H
         have c20b0 : decide (0 ≤ x7_2) = true := decide_eq_true c20
         clear c20
         replace H := Option.bind_eq_some_iff.mp H
         obtain ⟨⟨t184, t185⟩, A210, H⟩ := H
         replace H : (if t185 = true then (if x175000_2.length < 17592186044416 then (spec_VerGeneric.l0 k2 t176 (wrap64 (x7_2 + 1)) (x175000_2 ++ [t184]) x175001_2 x175002_2 x175003_2) else (none)) else (some (([] : List Int), false, (⟨#[]⟩ : ByteArray), (⟨#[]⟩ : ByteArray), false, true))) = some (r1, r2, r3, r4, r5, r6) := H
         have A21 := aM_ A210
         clear A210
         by_cases c22 : t185 = true
         ·
          subst c22
          have H1 : (if x175000_2.length < 17592186044416 then (spec_VerGeneric.l0 k2 t176 (wrap64 (x7_2 + 1)) (x175000_2 ++ [t184]) x175001_2 x175002_2 x175003_2) else (none)) = some (r1, r2, r3, r4, r5, r6) := by rw [if_pos rfl] at H; exact H
          clear H
          have H := H1
          clear H1
          by_cases c23 : x175000_2.length < 17592186044416
          ·
           rw [if_pos c23] at H
           have LMc23 := aM_ c23
           clear c23
           obtain ⟨y186, hy186⟩ : ∃ y_ : List Int, y_ = (x175000_2 ++ [t184]) := ⟨_, rfl⟩
           replace H : (spec_VerGeneric.l0 k2 t176 (wrap64 (x7_2 + 1)) y186 x175001_2 x175002_2 x175003_2) = some (r1, r2, r3, r4, r5, r6) := by first | (rw [hy186]; with_reducible exact H) | (have H2_ := (Option.bind_some _ _).symm.trans H; rw [hy186]; with_reducible exact H2_) | (have H2_ := (Option.bind_some _ _).symm.trans H; with_reducible exact H2_) | with_reducible exact H | (rw [hy186]; exact H) | exact H
           have Ny186 := aM_ hy186
           clear hy186
           have H' := aM_ H
           clear H
           obtain ⟨Ao24, co24, eo24⟩ := Kd.R_slice HO_5.out
           subst eo24
           have p183 : 0 ≤ (x7_2 : Int) := of_decide_eq_true (by first | (with_reducible assumption) | assumption)
           have q183 : x7_2 < (t176.length : Int) := of_decide_eq_true (by first | (with_reducible assumption) | assumption)
           obtain ⟨ad183, e183, hx183_0⟩ := Kd.at_string (Kd.R_reads' HO_5.out).2.2 x7_2 p183 q183
           cases e183
           replace p183 := eq_true p183
           replace q183 := eq_true q183
           go_wp2_with (first | ((with_reducible refine gate_callee (f := 71) rfl ?_); refine goesL_ (some 42) rfl rfl Tryd.func71 (by kernel_rfl) rfl #[.string (rdOf ByteArray.empty t176 x7_2)] rfl (by (try simp only [List.map_toArray, List.map_cons, List.map_nil]); first | done | rfl | (simp only [List.length_drop, List.length_take]; rfl)) ?_; (with_reducible refine (spec_VerUint.calls k2 (rdOf ByteArray.empty t176 x7_2) t184 true _ A21.out).mono ?_); rintro e w' ⟨rfl, ⟨nd, rfl⟩⟩; refine ⟨_, rfl, ?_⟩; (try (rw [drewN_self wr]; generalize hq_ : World.drewN wr _ = wr; have n0_ : Aside0 (Kd.R (Kd.int .u64) 22 wr w.heap.size (fun _ => True) u175000 x175000_2) := ⟨by rw [← hq_]; exact (by (with_reducible repeat (first | apply kA_ | apply kN_ | apply kD_)); exact HO_175000.out)⟩; have n1_ : Aside0 (Kd.R Kd.string 9 wr w.heap.size (fun _ => True) (.slice (some ad183) t176.length co24) t176) := ⟨by rw [← hq_]; exact (by (with_reducible repeat (first | apply kA_ | apply kN_ | apply kD_)); exact HO_5.out)⟩; have n2_ : Aside0 (wr.heap[gb174]? = some (.cells #[u175000, .bool x175001_2, .string x175002_2, .string x175003_2] 26 (0, 0))) := ⟨by rw [← hq_]; exact (by (with_reducible repeat (first | refine bN_ ?_ _ | refine bD_ ?_ | refine bA_ ?_ _)); exact BK174.out)⟩; have n3_ : Aside0 (Below w.heap.size w wr) := ⟨by rw [← hq_]; exact (by repeat (first | (with_reducible first | exact HB.out | apply bB_ | apply wN_ | apply bE_ | refine bS_ ?_ GE174.out) | exact HB.out))⟩; clear HO_175000 HO_5 BK174 HB hq_; have HO_175000 := n0_; have HO_5 := n1_; have BK174 := n2_; have HB := n3_; clear n0_ n1_ n2_ n3_)); have hcz25_0 : wr.cell? ⟨gb174, 0, none⟩ = some (u175000) := (bC_ BK174.out 0).trans rfl; have hcz25_1 : wr.cell? ⟨gb174, 1, none⟩ = some (.bool x175001_2) := (bC_ BK174.out 1).trans rfl; have hcz25_2 : wr.cell? ⟨gb174, 2, none⟩ = some (.string x175002_2) := (bC_ BK174.out 2).trans rfl; have hcz25_3 : wr.cell? ⟨gb174, 3, none⟩ = some (.string x175003_2) := (bC_ BK174.out 3).trans rfl; have hfz25_0 := bF_ BK174.out 0; have hfz25_1 := bF_ BK174.out 1; have hfz25_2 := bF_ BK174.out 2; have hfz25_3 := bF_ BK174.out 3) | ((with_reducible refine gate_builtin (b := .append) (xs := #[.tmp 49, .tmp 51]) rfl ?_); at_builtin; refine Kd.R_append (Kd.int .u64) (w0 := w) w.heap.size rfl (.tmp 49) (.tmp 51) 24 22 (.int .u64 0) 8 rfl Tryd.underlying24 info22 rfl (by decide) (by omega) u175000 x175000_2 t184 [.int .u64 t184] (fun _ => True) (fun _ => False) rfl rfl ?aP (fun _ hk => hk.elim) ?aF ?aO ?aB ?aS ?aL ?_; (case aP => exact rfl); (case aB => exact (by repeat (first | (with_reducible first | exact HB.out | apply bB_ | apply wN_ | apply bE_ | refine bS_ ?_ GE174.out) | exact HB.out))); (case aF => exact (fun _ _ => trivial)); (case aO => exact (by (with_reducible repeat (first | apply kA_ | apply kN_ | apply kD_)); exact HO_175000.out)); (case aS => exact (below_size (by repeat (first | (with_reducible first | exact HB.out | apply bB_ | apply wN_ | apply bE_ | refine bS_ ?_ GE174.out) | exact HB.out)))); (case aL => have := LMc23.out; omega); intro v187 w26 ho hb hg hat; rw [← Ny186.out] at ho; have n0_ := aM_ (Kd.R_over' (by (with_reducible repeat (first | apply kA_ | apply kN_ | apply kD_)); exact HO_5.out) (Kd.R_typed (by (with_reducible repeat (first | apply kA_ | apply kN_ | apply kD_)); exact HO_175000.out)) (by decide) hg); have n1_ := aM_ (blk_grown (g := gb174) (o := .cells #[u175000, .bool x175001_2, .string x175002_2, .string x175003_2] 26 (0, 0)) (by (with_reducible repeat (first | refine bN_ ?_ _ | refine bD_ ?_ | refine bA_ ?_ _)); exact BK174.out) hg (Kd.R_ne HO_175000.out BK174.out (by decide))); have n2_ := aM_ (hb); have n3_ := aM_ (ho); clear HO_5; clear BK174; clear HB; clear HO_175000; have HO_5 := n0_; have BK174 := n1_; have HB := n2_; have HO188 := n3_; clear n0_ n1_ n2_ n3_; clear ho hb hg hat; obtain ⟨Ao27, co27, eo27⟩ := Kd.R_slice HO188.out; subst eo27; have hcz28_0 : w26.cell? ⟨gb174, 0, none⟩ = some (u175000) := (bC_ BK174.out 0).trans rfl; have hcz28_1 : w26.cell? ⟨gb174, 1, none⟩ = some (.bool x175001_2) := (bC_ BK174.out 1).trans rfl; have hcz28_2 : w26.cell? ⟨gb174, 2, none⟩ = some (.string x175002_2) := (bC_ BK174.out 2).trans rfl; have hcz28_3 : w26.cell? ⟨gb174, 3, none⟩ = some (.string x175003_2) := (bC_ BK174.out 3).trans rfl; have hfz28_0 := bF_ BK174.out 0; have hfz28_1 := bF_ BK174.out 1; have hfz28_2 := bF_ BK174.out 2; have hfz28_3 := bF_ BK174.out 3))
           go_roundg k2
           case measure => have := HJ8.out; have := HK2.out; omega
           case rel => exact ⟨(wrap64 (x7_2 + 1)), (y186), (x175001_2), (x175002_2), (x175003_2), (.slice Ao27 y186.length co27), (by first | rfl | (simp; done) | (simp [*]; done)), H', ⟨by have := HJ8.out; have := HK2.out; omega⟩, ⟨by (with_reducible repeat (first | apply kA_ | apply kN_ | apply kD_)); exact Kd.R_mono (Kd.R_far (p := ⟨gb174, 0, none⟩) (Kd.R_types HO_5.out BK174.out (by decide)) (fun _ hk => hk.2) (.slice Ao27 y186.length co27)) (fun _ hk => trivial)⟩, ⟨by (with_reducible repeat (first | apply kA_ | apply kN_ | apply kD_)); exact Kd.R_mono (Kd.R_far (p := ⟨gb174, 0, none⟩) (Kd.R_types HO188.out BK174.out (by decide)) (fun _ hk => hk.2) (.slice Ao27 y186.length co27)) (fun _ hk => trivial)⟩, ⟨by (with_reducible repeat (first | refine bN_ ?_ _ | refine bD_ ?_ | refine bA_ ?_ _)); refine blk_put (cs := #[u175000, .bool x175001_2, .string x175002_2, .string x175003_2]) ?_ 0 _ rfl; (with_reducible repeat (first | refine bN_ ?_ _ | refine bD_ ?_ | refine bA_ ?_ _)); exact BK174.out⟩, ⟨by repeat (first | (with_reducible first | exact HB.out | apply bB_ | apply wN_ | apply bE_ | refine bS_ ?_ GE174.out) | exact HB.out)⟩⟩
          ·
           rw [if_neg c23] at H
           exact absurd H (by simp)
         ·
          replace c22 := Bool.eq_false_iff.mpr c22
          subst c22
          have H1 : (some (([] : List Int), false, (⟨#[]⟩ : ByteArray), (⟨#[]⟩ : ByteArray), false, true)) = some (r1, r2, r3, r4, r5, r6) := by rw [if_neg (show ¬ (false = true) by decide)] at H; exact H
          clear H
          have H := H1
          clear H1
          simp only [Option.some.injEq, Prod.mk.injEq] at H
          obtain ⟨rfl, rfl, rfl, rfl, rfl, rfl⟩ := H
          obtain ⟨Ao29, co29, eo29⟩ := Kd.R_slice HO_5.out
          subst eo29
          have p183 : 0 ≤ (x7_2 : Int) := of_decide_eq_true (by first | (with_reducible assumption) | assumption)
          have q183 : x7_2 < (t176.length : Int) := of_decide_eq_true (by first | (with_reducible assumption) | assumption)
          obtain ⟨ad183, e183, hx183_0⟩ := Kd.at_string (Kd.R_reads' HO_5.out).2.2 x7_2 p183 q183
          cases e183
          replace p183 := eq_true p183
          replace q183 := eq_true q183
          go_wp2_with (first | ((with_reducible refine gate_callee (f := 71) rfl ?_); refine goesL_ (some 42) rfl rfl Tryd.func71 (by kernel_rfl) rfl #[.string (rdOf ByteArray.empty t176 x7_2)] rfl (by (try simp only [List.map_toArray, List.map_cons, List.map_nil]); first | done | rfl | (simp only [List.length_drop, List.length_take]; rfl)) ?_; (with_reducible refine (spec_VerUint.calls k2 (rdOf ByteArray.empty t176 x7_2) t184 false _ A21.out).mono ?_); rintro e w' ⟨rfl, ⟨nd, rfl⟩⟩; refine ⟨_, rfl, ?_⟩; (try (rw [drewN_self wr]; generalize hq_ : World.drewN wr _ = wr; have n0_ : Aside0 (Kd.R (Kd.int .u64) 22 wr w.heap.size (fun _ => True) u175000 x175000_2) := ⟨by rw [← hq_]; exact (by (with_reducible repeat (first | apply kA_ | apply kN_ | apply kD_)); exact HO_175000.out)⟩; have n1_ : Aside0 (Kd.R Kd.string 9 wr w.heap.size (fun _ => True) (.slice (some ad183) t176.length co29) t176) := ⟨by rw [← hq_]; exact (by (with_reducible repeat (first | apply kA_ | apply kN_ | apply kD_)); exact HO_5.out)⟩; have n2_ : Aside0 (wr.heap[gb174]? = some (.cells #[u175000, .bool x175001_2, .string x175002_2, .string x175003_2] 26 (0, 0))) := ⟨by rw [← hq_]; exact (by (with_reducible repeat (first | refine bN_ ?_ _ | refine bD_ ?_ | refine bA_ ?_ _)); exact BK174.out)⟩; have n3_ : Aside0 (Below w.heap.size w wr) := ⟨by rw [← hq_]; exact (by repeat (first | (with_reducible first | exact HB.out | apply bB_ | apply wN_ | apply bE_ | refine bS_ ?_ GE174.out) | exact HB.out))⟩; clear HO_175000 HO_5 BK174 HB hq_; have HO_175000 := n0_; have HO_5 := n1_; have BK174 := n2_; have HB := n3_; clear n0_ n1_ n2_ n3_)); have hcz30_0 : wr.cell? ⟨gb174, 0, none⟩ = some (u175000) := (bC_ BK174.out 0).trans rfl; have hcz30_1 : wr.cell? ⟨gb174, 1, none⟩ = some (.bool x175001_2) := (bC_ BK174.out 1).trans rfl; have hcz30_2 : wr.cell? ⟨gb174, 2, none⟩ = some (.string x175002_2) := (bC_ BK174.out 2).trans rfl; have hcz30_3 : wr.cell? ⟨gb174, 3, none⟩ = some (.string x175003_2) := (bC_ BK174.out 3).trans rfl; have hfz30_0 := bF_ BK174.out 0; have hfz30_1 := bF_ BK174.out 1; have hfz30_2 := bF_ BK174.out 2; have hfz30_3 := bF_ BK174.out 3))
          refine bodyPost_ret (results_ctt rfl _ _ gb174 26 #[.slice none 0 0, .bool false, .string (⟨#[]⟩ : ByteArray), .string (⟨#[]⟩ : ByteArray)] (0, 0) _ rfl (by (with_reducible repeat (first | refine bN_ ?_ _ | refine bD_ ?_ | refine bA_ ?_ _)); refine blk_put (cs := #[.slice none 0 0, .bool false, .string (⟨#[]⟩ : ByteArray), .string x175003_2]) ?_ 3 _ rfl; (with_reducible repeat (first | refine bN_ ?_ _ | refine bD_ ?_ | refine bA_ ?_ _)); refine blk_put (cs := #[.slice none 0 0, .bool false, .string x175002_2, .string x175003_2]) ?_ 2 _ rfl; (with_reducible repeat (first | refine bN_ ?_ _ | refine bD_ ?_ | refine bA_ ?_ _)); refine blk_put (cs := #[.slice none 0 0, .bool x175001_2, .string x175002_2, .string x175003_2]) ?_ 1 _ rfl; (with_reducible repeat (first | refine bN_ ?_ _ | refine bD_ ?_ | refine bA_ ?_ _)); refine blk_put (cs := #[u175000, .bool x175001_2, .string x175002_2, .string x175003_2]) ?_ 0 _ rfl; (with_reducible repeat (first | refine bN_ ?_ _ | refine bD_ ?_ | refine bA_ ?_ _)); exact BK174.out) Tryd.underlying26 rfl (by kernel_rfl)) rfl ?_
          exact ⟨_, by first | rfl | (simp [errW_none, errW_some] <;> rfl) | (simp [*, errW_none, errW_some] <;> rfl), by first | exact Kd.R_nil _ _ _ _ _ | exact Kd.N_nil _ _ _ _ _ | exact Kd.V_nil _ _ _ _ _ | exact Kd.Q_nil _ _ _ _ _ | exact Kd.S_nil _ _ _ _ _, by repeat (first | (with_reducible first | exact HB.out | apply bB_ | apply wN_ | apply bE_ | refine bS_ ?_ GE174.out) | exact HB.out)⟩
        ·
         rw [if_neg c20] at H
         exact absurd H (by simp)
       ·
        rw [if_neg c19] at H
        have c19b0 : decide (x7_2 < (t176.length : Int)) = false := decide_eq_false c19
        clear c19
        simp only [Option.some.injEq, Prod.mk.injEq] at H
        obtain ⟨rfl, rfl, rfl, rfl, rfl, rfl⟩ := H
        obtain ⟨Ao31, co31, eo31⟩ := Kd.R_slice HO_5.out
        subst eo31
        have hcz32_0 : wr.cell? ⟨gb174, 0, none⟩ = some (u175000) := (bC_ BK174.out 0).trans rfl
        have hcz32_1 : wr.cell? ⟨gb174, 1, none⟩ = some (.bool x175001_2) := (bC_ BK174.out 1).trans rfl
        have hcz32_2 : wr.cell? ⟨gb174, 2, none⟩ = some (.string x175002_2) := (bC_ BK174.out 2).trans rfl
        have hcz32_3 : wr.cell? ⟨gb174, 3, none⟩ = some (.string x175003_2) := (bC_ BK174.out 3).trans rfl
        have hfz32_0 := bF_ BK174.out 0
        have hfz32_1 := bF_ BK174.out 1
        have hfz32_2 := bF_ BK174.out 2
        have hfz32_3 := bF_ BK174.out 3
        obtain ⟨Ao33, co33, eo33⟩ := Kd.R_slice HO_175000.out
        subst eo33
        go_wp2
        refine bodyPost_ret (results_ctt rfl _ _ gb174 26 #[.slice Ao33 x175000_2.length co33, .bool x175001_2, .string x175002_2, .string x175003_2] (0, 0) _ rfl (by (with_reducible repeat (first | refine bN_ ?_ _ | refine bD_ ?_ | refine bA_ ?_ _)); refine blk_put (cs := #[.slice Ao33 x175000_2.length co33, .bool x175001_2, .string x175002_2, .string x175003_2]) ?_ 3 _ rfl; (with_reducible repeat (first | refine bN_ ?_ _ | refine bD_ ?_ | refine bA_ ?_ _)); refine blk_put (cs := #[.slice Ao33 x175000_2.length co33, .bool x175001_2, .string x175002_2, .string x175003_2]) ?_ 2 _ rfl; (with_reducible repeat (first | refine bN_ ?_ _ | refine bD_ ?_ | refine bA_ ?_ _)); refine blk_put (cs := #[.slice Ao33 x175000_2.length co33, .bool x175001_2, .string x175002_2, .string x175003_2]) ?_ 1 _ rfl; (with_reducible repeat (first | refine bN_ ?_ _ | refine bD_ ?_ | refine bA_ ?_ _)); refine blk_put (cs := #[.slice Ao33 x175000_2.length co33, .bool x175001_2, .string x175002_2, .string x175003_2]) ?_ 0 _ rfl; (with_reducible repeat (first | refine bN_ ?_ _ | refine bD_ ?_ | refine bA_ ?_ _)); exact BK174.out) Tryd.underlying26 rfl (by kernel_rfl)) rfl ?_
        exact ⟨_, by first | rfl | (simp [errW_none, errW_some] <;> rfl) | (simp [*, errW_none, errW_some] <;> rfl), by (with_reducible repeat (first | apply kA_ | apply kN_ | apply kD_)); exact Kd.R_mono (Kd.R_far (p := ⟨gb174, 3, none⟩) (Kd.R_far (p := ⟨gb174, 2, none⟩) (Kd.R_far (p := ⟨gb174, 1, none⟩) (Kd.R_far (p := ⟨gb174, 0, none⟩) (Kd.R_types HO_175000.out BK174.out (by decide)) (fun _ hk => hk.2) (.slice Ao33 x175000_2.length co33)) (fun _ hk => hk.2) (.bool x175001_2)) (fun _ hk => hk.2) (.string x175002_2)) (fun _ hk => hk.2) (.string x175003_2)) (fun _ hk => trivial), by repeat (first | (with_reducible first | exact HB.out | apply bB_ | apply wN_ | apply bE_ | refine bS_ ?_ GE174.out) | exact HB.out)⟩

end Go.Proofs.YtomoefldmgfaoaaDoor.PFnVersionSteps

namespace Go.Proofs.YtomoefldmgfaoaaDoor.PFnVersionSteps
open Go.RowKit Go.Proofs.YtomoefldmgfaoaaDoorW.PrintWords Go.Proofs.YtomoefldmgfaoaaDoorW.PrintLast Go.Proofs.YtomoefldmgfaoaaDoorW.PrintMore
attribute [local go_sem] max2_int min2_int max_two min_two max_three min_three max_four min_four   -- for this text's walks alone
set_option linter.unusedVariables false
set_option linter.unusedSimpArgs false

/-! ### spec_VerParsed: function 16 -/
mutual
def spec_VerParsed.j0 : Nat → Int → ByteArray → Bool → Option (List Int × Bool × ByteArray × ByteArray × Bool × Bool)
 | 0, _, _, _ => none
 | k + 1, x0, x1, x31 => if x31 = true then (some (([] : List Int), false, (⟨#[]⟩ : ByteArray), (⟨#[]⟩ : ByteArray), false, false)) else (if x0 = 1 then (spec_VerParsed.j1 k x0 x1 false) else (spec_VerParsed.j1 k x0 x1 (x0 != 3)))
def spec_VerParsed.j1 : Nat → Int → ByteArray → Bool → Option (List Int × Bool × ByteArray × ByteArray × Bool × Bool)
 | 0, _, _, _ => none
 | k + 1, x0, x1, x38 => if x38 = true then ((spec_VerSemantic.f k x1).bind fun bt197 => (if bt197.2.2.2.2 = true then (spec_VerParsed.j2 k x0 x1 bt197.2.2.2.2 true bt197.1 bt197.2.1 bt197.2.2.1 bt197.2.2.2.1) else (spec_VerParsed.j2 k x0 x1 bt197.2.2.2.2 (x0 == 2) bt197.1 bt197.2.1 bt197.2.2.1 bt197.2.2.2.1))) else ((spec_VerGeneric.f k x1).bind fun bt216 => (if bt216.2.2.2.2.1 = true then (if x0 = 3 then (if 2 ≤ (bt216.1.length : Int) then (some ((bt216.1.take (2 : Int).toNat), bt216.2.1, bt216.2.2.1, bt216.2.2.2.1, bt216.2.2.2.2.1, bt216.2.2.2.2.2)) else (none)) else (some (bt216.1, bt216.2.1, bt216.2.2.1, bt216.2.2.2.1, bt216.2.2.2.2.1, bt216.2.2.2.2.2))) else (some (bt216.1, bt216.2.1, bt216.2.2.1, bt216.2.2.2.1, bt216.2.2.2.2.1, bt216.2.2.2.2.2))))
def spec_VerParsed.j2 : Nat → Int → ByteArray → Bool → Bool → List Int → Bool → ByteArray → ByteArray → Option (List Int × Bool × ByteArray × ByteArray × Bool × Bool)
 | 0, _, _, _, _, _, _, _, _ => none
 | k + 1, x0, x1, x10, x48, x205000, x205001, x205002, x205003 => if x48 = true then (some (x205000, x205001, x205002, x205003, x10, true)) else ((spec_VerGeneric.f k x1).bind fun bt205 => (if bt205.2.2.2.2.1 = true then (if x0 = 3 then (if 2 ≤ (bt205.1.length : Int) then (some ((bt205.1.take (2 : Int).toNat), bt205.2.1, bt205.2.2.1, bt205.2.2.2.1, bt205.2.2.2.2.1, bt205.2.2.2.2.2)) else (none)) else (some (bt205.1, bt205.2.1, bt205.2.2.1, bt205.2.2.2.1, bt205.2.2.2.2.1, bt205.2.2.2.2.2))) else (some (bt205.1, bt205.2.1, bt205.2.2.1, bt205.2.2.2.1, bt205.2.2.2.2.1, bt205.2.2.2.2.2))))
end
def spec_VerParsed.f (k : Nat) (a0 : Int) (a1 : ByteArray) : Option (List Int × Bool × ByteArray × ByteArray × Bool × Bool) := (spec_verAhead.f k a1).bind fun t190 => ((spec_verFields.f k t190).bind fun bt191 => ((spec_verPlace.f k bt191.2 10).bind fun t195 => (if t195 ≥ 0 then (spec_VerParsed.j0 k a0 a1 true) else (if a0 = 1 then (spec_VerParsed.j0 k a0 a1 false) else (if a0 = 3 then (spec_VerParsed.j0 k a0 a1 false) else ((spec_VerLong.f k bt191.2).bind fun t196 => (spec_VerParsed.j0 k a0 a1 t196)))))))
set_option maxHeartbeats 8000000 in
set_option maxRecDepth 100000 in
theorem spec_VerParsed.calls (k : Nat) (a0 : Int) (a1 : ByteArray) (r1 : List Int) (r2 : Bool) (r3 : ByteArray) (r4 : ByteArray) (r5 : Bool) (r6 : Bool) (w : World) (h : spec_VerParsed.f k a0 a1 = some (r1, r2, r3, r4, r5, r6)) :
  Calls Tryd.prog 16 #[.int .i64 a0, .string a1] w fun e w' => ∃ v0_ : Value, e = .returned (.tuple #[.agg #[v0_, .bool r2, .string r3, .string r4], .bool r5, .bool r6]) ∧ Kd.R (Kd.int .u64) 22 w' w.heap.size (fun _ => True) v0_ r1 ∧ Below w.heap.size w w' := by
 have hu26 := Tryd.underlying26
 have HB := aM_ (Below.refl w.heap.size w)
 have H : ((spec_verAhead.f k a1).bind fun t190 => ((spec_verFields.f k t190).bind fun bt191 => ((spec_verPlace.f k bt191.2 10).bind fun t195 => (if t195 ≥ 0 then (spec_VerParsed.j0 k a0 a1 true) else (if a0 = 1 then (spec_VerParsed.j0 k a0 a1 false) else (if a0 = 3 then (spec_VerParsed.j0 k a0 a1 false) else ((spec_VerLong.f k bt191.2).bind fun t196 => (spec_VerParsed.j0 k a0 a1 t196)))))))) = some (r1, r2, r3, r4, r5, r6) := h
 clear h
 replace H := Option.bind_eq_some_iff.mp H
 obtain ⟨t190, A30, H⟩ := H
 replace H : ((spec_verFields.f k t190).bind fun bt191 => ((spec_verPlace.f k bt191.2 10).bind fun t195 => (if t195 ≥ 0 then (spec_VerParsed.j0 k a0 a1 true) else (if a0 = 1 then (spec_VerParsed.j0 k a0 a1 false) else (if a0 = 3 then (spec_VerParsed.j0 k a0 a1 false) else ((spec_VerLong.f k bt191.2).bind fun t196 => (spec_VerParsed.j0 k a0 a1 t196))))))) = some (r1, r2, r3, r4, r5, r6) := H
 have A3 := aM_ A30
 clear A30
 replace H := Option.bind_eq_some_iff.mp H
 obtain ⟨⟨t191, t192⟩, A40, H⟩ := H
 replace H : ((spec_verPlace.f k t192 10).bind fun t195 => (if t195 ≥ 0 then (spec_VerParsed.j0 k a0 a1 true) else (if a0 = 1 then (spec_VerParsed.j0 k a0 a1 false) else (if a0 = 3 then (spec_VerParsed.j0 k a0 a1 false) else ((spec_VerLong.f k t192).bind fun t196 => (spec_VerParsed.j0 k a0 a1 t196)))))) = some (r1, r2, r3, r4, r5, r6) := H
 have A4 := aM_ A40
 clear A40
 have HC5 := aM_ H
 clear H
 go_enter Tryd.func16, Tryd.ntmps16
 go_upto_region 2 with (first | ((with_reducible refine gate_dst (N := 4) rfl ?_); refine box_event ?hg (N := 4) ?hd (cs := #[.slice none 0 0, .bool false, .string (⟨#[]⟩ : ByteArray), .string (⟨#[]⟩ : ByteArray)]) (t := 26) ?hr ?_; (case hd => rfl); (case hg => rfl); (case hr => first | (go_simp; done) | (go_simp; rfl)); intro gb189 hg w6 hbox hb; have n0_ := aM_ (below_step (by repeat (first | (with_reducible first | exact HB.out | apply bB_ | apply wN_ | apply bE_) | exact HB.out)) hb); have n1_ := aM_ (hbox); have n2_ := aM_ ((by rw [hg]; exact (below_size (by repeat (first | (with_reducible first | exact HB.out | apply bB_ | apply wN_ | apply bE_) | exact HB.out))) : w.heap.size ≤ gb189)); have n3_ := aM_ ((by rw [hg]; exact (below_size (by repeat (first | (with_reducible first | exact HB.out | apply bB_ | apply wN_ | apply bE_) | exact HB.out))) : w.heap.size ≤ gb189)); clear HB; have HB := n0_; have BK189 := n1_; have GW189 := n2_; have GE189 := n3_; clear n0_ n1_ n2_ n3_; clear hb hbox hg) | ((with_reducible refine gate_callee (f := 38) rfl ?_); refine goesL_ (some 13) rfl rfl Tryd.func38 (by kernel_rfl) rfl #[.string a1] rfl (by (try simp only [List.map_toArray, List.map_cons, List.map_nil]); first | done | rfl | (simp only [List.length_drop, List.length_take]; rfl)) ?_; (with_reducible refine (spec_verAhead.calls k a1 t190 _ A3.out).mono ?_); rintro e w' ⟨rfl, ⟨nd, rfl⟩⟩; refine ⟨_, rfl, ?_⟩) | ((with_reducible refine gate_callee (f := 37) rfl ?_); refine goesL_ (some 14) rfl rfl Tryd.func37 (by kernel_rfl) rfl #[.string t190] rfl (by (try simp only [List.map_toArray, List.map_cons, List.map_nil]); first | done | rfl | (simp only [List.length_drop, List.length_take]; rfl)) ?_; (with_reducible refine (spec_verFields.calls k t190 t191 t192 _ A4.out).mono ?_); rintro e w7 ⟨v193, rfl, ho0, hb⟩; refine ⟨_, rfl, ?_⟩; have n0_ := aM_ (Kd.R_lower ho0 (below_size (by repeat (first | (with_reducible first | exact HB.out | apply bB_ | apply wN_ | apply bE_ | refine bS_ ?_ GE189.out) | exact HB.out)))); have n1_ := aM_ (blk_below (g := gb189) (o := .cells #[.slice none 0 0, .bool false, .string (⟨#[]⟩ : ByteArray), .string (⟨#[]⟩ : ByteArray)] 26 (0, 0)) (by (with_reducible repeat (first | refine bN_ ?_ _ | refine bD_ ?_ | refine bA_ ?_ _)); exact BK189.out) hb); have n2_ := aM_ (below_step (by repeat (first | (with_reducible first | exact HB.out | apply bB_ | apply wN_ | apply bE_ | refine bS_ ?_ GE189.out) | exact HB.out)) hb); clear BK189; clear HB; have HO194 := n0_; have BK189 := n1_; have HB := n2_; clear n0_ n1_ n2_; (try clear hb); (try clear hb2); (try clear hk); (try clear hi); (try clear ho0)))
 (try simp only [Act.put, List.setIfInBounds_toArray, List.set_cons_zero, List.set_cons_succ])
 go_cut [31] (fun v31 wc => ∃ (kq : Nat) (x31_4 : Bool), v31 = .bool x31_4 ∧ Aside0 (spec_VerParsed.j0 kq a0 a1 x31_4 = some (r1, r2, r3, r4, r5, r6)) ∧ Aside0 (kq ≤ k) ∧ Aside0 (wc.heap[gb189]? = some (.cells #[(.slice none 0 0), .bool false, .string (⟨#[]⟩ : ByteArray), .string (⟨#[]⟩ : ByteArray)] 26 (0, 0))) ∧ Aside0 (Below w.heap.size w wc))
 case first =>
  have H := HC5.out
  clear HC5
  replace H := Option.bind_eq_some_iff.mp H
  obtain ⟨t195, A80, H⟩ := H
  replace H : (if t195 ≥ 0 then (spec_VerParsed.j0 k a0 a1 true) else (if a0 = 1 then (spec_VerParsed.j0 k a0 a1 false) else (if a0 = 3 then (spec_VerParsed.j0 k a0 a1 false) else ((spec_VerLong.f k t192).bind fun t196 => (spec_VerParsed.j0 k a0 a1 t196))))) = some (r1, r2, r3, r4, r5, r6) := H
  have A8 := aM_ A80
  clear A80
  by_cases c9 : t195 ≥ 0
  ·
   rw [if_pos c9] at H
   have c9b0 : decide (0 ≤ t195) = true := decide_eq_true c9
   clear c9
   (first | rw [c9b0] | (simp only [i64_w, i32_w]; rw [c9b0]) | skip)
   have H' := aM_ H
   clear H
   go_wp2_with (first | ((with_reducible refine gate_callee (f := 39) rfl ?_); refine goesL_ (some 18) rfl rfl Tryd.func39 (by kernel_rfl) rfl #[.string t192, .int .u8 10] rfl (by (try simp only [List.map_toArray, List.map_cons, List.map_nil]); first | done | rfl | (simp only [List.length_drop, List.length_take]; rfl)) ?_; (with_reducible refine (spec_verPlace.calls k t192 10 t195 _ A8.out).mono ?_); rintro e w' ⟨rfl, ⟨nd, rfl⟩⟩; refine ⟨_, rfl, ?_⟩))
   go_meet
   case rel => exact ⟨_, (true), (by first | rfl | (simp; done) | (simp [*]; done)), H', ⟨by first | omega | exact Nat.le_refl _⟩, ⟨by (with_reducible repeat (first | refine bN_ ?_ _ | refine bD_ ?_ | refine bA_ ?_ _)); exact BK189.out⟩, ⟨by repeat (first | (with_reducible first | exact HB.out | apply bB_ | apply wN_ | apply bE_ | refine bS_ ?_ GE189.out) | exact HB.out)⟩⟩
  ·
   rw [if_neg c9] at H
   have c9b0 : decide (0 ≤ t195) = false := decide_eq_false c9
   clear c9
   (first | rw [c9b0] | (simp only [i64_w, i32_w]; rw [c9b0]) | skip)
   by_cases c10 : a0 = 1
   ·
    rw [if_pos c10] at H
    have c10b0 : (a0 == 1) = true := beq_iff_eq.mpr c10
    have c10b1 : (a0 != 1) = false := bne_eq_false_iff_eq.mpr c10
    clear c10
    have H' := aM_ H
    clear H
    go_wp2_with (first | ((with_reducible refine gate_callee (f := 39) rfl ?_); refine goesL_ (some 18) rfl rfl Tryd.func39 (by kernel_rfl) rfl #[.string t192, .int .u8 10] rfl (by (try simp only [List.map_toArray, List.map_cons, List.map_nil]); first | done | rfl | (simp only [List.length_drop, List.length_take]; rfl)) ?_; (with_reducible refine (spec_verPlace.calls k t192 10 t195 _ A8.out).mono ?_); rintro e w' ⟨rfl, ⟨nd, rfl⟩⟩; refine ⟨_, rfl, ?_⟩))
    go_meet
    case rel => exact ⟨_, (false), (by first | rfl | (simp; done) | (simp [*]; done)), H', ⟨by first | omega | exact Nat.le_refl _⟩, ⟨by (with_reducible repeat (first | refine bN_ ?_ _ | refine bD_ ?_ | refine bA_ ?_ _)); exact BK189.out⟩, ⟨by repeat (first | (with_reducible first | exact HB.out | apply bB_ | apply wN_ | apply bE_ | refine bS_ ?_ GE189.out) | exact HB.out)⟩⟩
   ·
    rw [if_neg c10] at H
    have c10b0 : (a0 == 1) = false := beq_eq_false_iff_ne.mpr c10
    have c10b1 : (a0 != 1) = true := bne_iff_ne.mpr c10
    by_cases c11 : a0 = 3
    ·
     rw [if_pos c11] at H
     have c11b0 : (a0 == 3) = true := beq_iff_eq.mpr c11
     have c11b1 : (a0 != 3) = false := bne_eq_false_iff_eq.mpr c11
     clear c11
     have H' := aM_ H
     clear H
     go_wp2_with (first | ((with_reducible refine gate_callee (f := 39) rfl ?_); refine goesL_ (some 18) rfl rfl Tryd.func39 (by kernel_rfl) rfl #[.string t192, .int .u8 10] rfl (by (try simp only [List.map_toArray, List.map_cons, List.map_nil]); first | done | rfl | (simp only [List.length_drop, List.length_take]; rfl)) ?_; (with_reducible refine (spec_verPlace.calls k t192 10 t195 _ A8.out).mono ?_); rintro e w' ⟨rfl, ⟨nd, rfl⟩⟩; refine ⟨_, rfl, ?_⟩))
     go_meet
     case rel => exact ⟨_, (false), (by first | rfl | (simp; done) | (simp [*]; done)), H', ⟨by first | omega | exact Nat.le_refl _⟩, ⟨by (with_reducible repeat (first | refine bN_ ?_ _ | refine bD_ ?_ | refine bA_ ?_ _)); exact BK189.out⟩, ⟨by repeat (first | (with_reducible first | exact HB.out | apply bB_ | apply wN_ | apply bE_ | refine bS_ ?_ GE189.out) | exact HB.out)⟩⟩
    ·
     rw [if_neg c11] at H
     have c11b0 : (a0 == 3) = false := beq_eq_false_iff_ne.mpr c11
     have c11b1 : (a0 != 3) = true := bne_iff_ne.mpr c11
     replace H := Option.bind_eq_some_iff.mp H
     obtain ⟨t196, A120, H⟩ := H
     replace H : (spec_VerParsed.j0 k a0 a1 t196) = some (r1, r2, r3, r4, r5, r6) := H
     have A12 := aM_ A120
     clear A120
     have H' := aM_ H
     clear H
     go_wp2_with (first | ((with_reducible refine gate_callee (f := 39) rfl ?_); refine goesL_ (some 18) rfl rfl Tryd.func39 (by kernel_rfl) rfl #[.string t192, .int .u8 10] rfl (by (try simp only [List.map_toArray, List.map_cons, List.map_nil]); first | done | rfl | (simp only [List.length_drop, List.length_take]; rfl)) ?_; (with_reducible refine (spec_verPlace.calls k t192 10 t195 _ A8.out).mono ?_); rintro e w' ⟨rfl, ⟨nd, rfl⟩⟩; refine ⟨_, rfl, ?_⟩) | (go_at_call 12; (with_reducible refine (spec_VerLong.calls k t192 t196 _ A12.out).mono ?_); rintro e w' ⟨rfl, ⟨nd, rfl⟩⟩))
     go_meet
     case rel => exact ⟨_, (t196), (by first | rfl | (simp; done) | (simp [*]; done)), H', ⟨by first | omega | exact Nat.le_refl _⟩, ⟨by (with_reducible repeat (first | refine bN_ ?_ _ | refine bD_ ?_ | refine bA_ ?_ _)); exact BK189.out⟩, ⟨by repeat (first | (with_reducible first | exact HB.out | apply bB_ | apply wN_ | apply bE_ | refine bS_ ?_ GE189.out) | exact HB.out)⟩⟩
 case rest =>
  clear HC5
  try clear c1
  try clear p2
  try clear c3
  try clear c9
  try clear c9b0
  try clear c10
  try clear c10b0
  try clear c10b1
  try clear c11
  try clear c11b0
  try clear c11b1
  obtain ⟨kq, x31_4, rfl, HA, HJ4, BK189, HB⟩ := hcut
  cases kq with
  | zero => exact absurd HA.out (by simp [spec_VerParsed.j0])
  | succ kj4 =>
   have H := HA.out
   clear HA
   simp only [spec_VerParsed.j0] at H
   by_cases c13 : x31_4 = true
   ·
    subst c13
    have H1 : (some (([] : List Int), false, (⟨#[]⟩ : ByteArray), (⟨#[]⟩ : ByteArray), false, false)) = some (r1, r2, r3, r4, r5, r6) := by rw [if_pos rfl] at H; exact H
    clear H
    have H := H1
    clear H1
    simp only [Option.some.injEq, Prod.mk.injEq] at H
    obtain ⟨rfl, rfl, rfl, rfl, rfl, rfl⟩ := H
    have hcz14_0 : wc.cell? ⟨gb189, 0, none⟩ = some (.slice none 0 0) := (bC_ BK189.out 0).trans rfl
    have hcz14_1 : wc.cell? ⟨gb189, 1, none⟩ = some (.bool false) := (bC_ BK189.out 1).trans rfl
    have hcz14_2 : wc.cell? ⟨gb189, 2, none⟩ = some (.string (⟨#[]⟩ : ByteArray)) := (bC_ BK189.out 2).trans rfl
    have hcz14_3 : wc.cell? ⟨gb189, 3, none⟩ = some (.string (⟨#[]⟩ : ByteArray)) := (bC_ BK189.out 3).trans rfl
    have hfz14_0 := bF_ BK189.out 0
    have hfz14_1 := bF_ BK189.out 1
    have hfz14_2 := bF_ BK189.out 2
    have hfz14_3 := bF_ BK189.out 3
    go_wp2
    refine bodyPost_ret (results_ctt rfl _ _ gb189 26 #[.slice none 0 0, .bool false, .string (⟨#[]⟩ : ByteArray), .string (⟨#[]⟩ : ByteArray)] (0, 0) _ rfl (by (with_reducible repeat (first | refine bN_ ?_ _ | refine bD_ ?_ | refine bA_ ?_ _)); refine blk_put (cs := #[.slice none 0 0, .bool false, .string (⟨#[]⟩ : ByteArray), .string (⟨#[]⟩ : ByteArray)]) ?_ 3 _ rfl; (with_reducible repeat (first | refine bN_ ?_ _ | refine bD_ ?_ | refine bA_ ?_ _)); refine blk_put (cs := #[.slice none 0 0, .bool false, .string (⟨#[]⟩ : ByteArray), .string (⟨#[]⟩ : ByteArray)]) ?_ 2 _ rfl; (with_reducible repeat (first | refine bN_ ?_ _ | refine bD_ ?_ | refine bA_ ?_ _)); refine blk_put (cs := #[.slice none 0 0, .bool false, .string (⟨#[]⟩ : ByteArray), .string (⟨#[]⟩ : ByteArray)]) ?_ 1 _ rfl; (with_reducible repeat (first | refine bN_ ?_ _ | refine bD_ ?_ | refine bA_ ?_ _)); refine blk_put (cs := #[.slice none 0 0, .bool false, .string (⟨#[]⟩ : ByteArray), .string (⟨#[]⟩ : ByteArray)]) ?_ 0 _ rfl; (with_reducible repeat (first | refine bN_ ?_ _ | refine bD_ ?_ | refine bA_ ?_ _)); exact BK189.out) Tryd.underlying26 rfl (by kernel_rfl)) rfl ?_
    exact ⟨_, by first | rfl | (simp [errW_none, errW_some] <;> rfl) | (simp [*, errW_none, errW_some] <;> rfl), by first | exact Kd.R_nil _ _ _ _ _ | exact Kd.N_nil _ _ _ _ _ | exact Kd.V_nil _ _ _ _ _ | exact Kd.Q_nil _ _ _ _ _ | exact Kd.S_nil _ _ _ _ _, by repeat (first | (with_reducible first | exact HB.out | apply bB_ | apply wN_ | apply bE_ | refine bS_ ?_ GE189.out) | exact HB.out)⟩
   ·
    replace c13 := Bool.eq_false_iff.mpr c13
    subst c13
    have H1 : (if a0 = 1 then (spec_VerParsed.j1 kj4 a0 a1 false) else (spec_VerParsed.j1 kj4 a0 a1 (a0 != 3))) = some (r1, r2, r3, r4, r5, r6) := by rw [if_neg (show ¬ (false = true) by decide)] at H; exact H
    clear H
    have H := H1
    clear H1
    have HC15 := aM_ H
    clear H
    go_upto_region 4 with (fail)
    go_cut [38] (fun v38 wc => ∃ (kq : Nat) (x38_14 : Bool), v38 = .bool x38_14 ∧ Aside0 (spec_VerParsed.j1 kq a0 a1 x38_14 = some (r1, r2, r3, r4, r5, r6)) ∧ Aside0 (kq ≤ kj4) ∧ Aside0 (wc.heap[gb189]? = some (.cells #[(.slice none 0 0), .bool false, .string (⟨#[]⟩ : ByteArray), .string (⟨#[]⟩ : ByteArray)] 26 (0, 0))) ∧ Aside0 (Below w.heap.size w wc))
    case first =>
     have H := HC15.out
     clear HC15
     by_cases c16 : a0 = 1
     ·
      rw [if_pos c16] at H
      have c16b0 : (a0 == 1) = true := beq_iff_eq.mpr c16
      have c16b1 : (a0 != 1) = false := bne_eq_false_iff_eq.mpr c16
      clear c16
      (first | rw [c16b0] | (simp only [i64_w, i32_w]; rw [c16b0]) | skip)
      have H' := aM_ H
      clear H
      go_wp2
      go_meet
      case rel => exact ⟨_, (false), (by first | rfl | (simp; done) | (simp [*]; done)), H', ⟨by have := HJ4.out; first | omega | exact Nat.le_refl _⟩, ⟨by (with_reducible repeat (first | refine bN_ ?_ _ | refine bD_ ?_ | refine bA_ ?_ _)); exact BK189.out⟩, ⟨by repeat (first | (with_reducible first | exact HB.out | apply bB_ | apply wN_ | apply bE_ | refine bS_ ?_ GE189.out) | exact HB.out)⟩⟩
     ·
      rw [if_neg c16] at H
      have c16b0 : (a0 == 1) = false := beq_eq_false_iff_ne.mpr c16
      have c16b1 : (a0 != 1) = true := bne_iff_ne.mpr c16
      (first | rw [c16b0] | (simp only [i64_w, i32_w]; rw [c16b0]) | skip)
      have H' := aM_ H
      clear H
      go_wp2
      go_meet
      case rel => exact ⟨_, ((a0 != 3)), (by first | rfl | (simp; done) | (simp [*]; done)), H', ⟨by have := HJ4.out; first | omega | exact Nat.le_refl _⟩, ⟨by (with_reducible repeat (first | refine bN_ ?_ _ | refine bD_ ?_ | refine bA_ ?_ _)); exact BK189.out⟩, ⟨by repeat (first | (with_reducible first | exact HB.out | apply bB_ | apply wN_ | apply bE_ | refine bS_ ?_ GE189.out) | exact HB.out)⟩⟩
    case rest =>
     clear HC15
     try clear c1
     try clear p2
     try clear c3
     try clear c9
     try clear c9b0
     try clear c10
     try clear c10b0
     try clear c10b1
     try clear c11
     try clear c11b0
     try clear c11b1
     try clear c13
     try clear c16
     try clear c16b0
     try clear c16b1
     try clear hcz14_0
     try clear hcz14_1
     try clear hcz14_2
     try clear hcz14_3
     try clear hfz14_0
     try clear hfz14_1
     try clear hfz14_2
     try clear hfz14_3
     try clear p2
     obtain ⟨kq, x38_14, rfl, HA, HJ14, BK189, HB⟩ := hcut
     cases kq with
     | zero => exact absurd HA.out (by simp [spec_VerParsed.j1])
     | succ kj14 =>
      have H := HA.out
      clear HA
      simp only [spec_VerParsed.j1] at H
      by_cases c17 : x38_14 = true
      ·
       subst c17
       have H1 : ((spec_VerSemantic.f kj14 a1).bind fun bt197 => (if bt197.2.2.2.2 = true then (spec_VerParsed.j2 kj14 a0 a1 bt197.2.2.2.2 true bt197.1 bt197.2.1 bt197.2.2.1 bt197.2.2.2.1) else (spec_VerParsed.j2 kj14 a0 a1 bt197.2.2.2.2 (a0 == 2) bt197.1 bt197.2.1 bt197.2.2.1 bt197.2.2.2.1))) = some (r1, r2, r3, r4, r5, r6) := by rw [if_pos rfl] at H; exact H
       clear H
       have H := H1
       clear H1
       replace H := Option.bind_eq_some_iff.mp H
       obtain ⟨⟨t197, t200, t201, t202, t203⟩, A180, H⟩ := H
       replace H : (if t203 = true then (spec_VerParsed.j2 kj14 a0 a1 t203 true t197 t200 t201 t202) else (spec_VerParsed.j2 kj14 a0 a1 t203 (a0 == 2) t197 t200 t201 t202)) = some (r1, r2, r3, r4, r5, r6) := H
       have A18 := aM_ A180
       clear A180
       have HC19 := aM_ H
       clear H
       go_upto_region 6 with (first | ((with_reducible refine gate_callee (f := 40) rfl ?_); refine goesL_ (some 41) rfl rfl Tryd.func40 (by kernel_rfl) rfl #[.string a1] rfl (by (try simp only [List.map_toArray, List.map_cons, List.map_nil]); first | done | rfl | (simp only [List.length_drop, List.length_take]; rfl)) ?_; (with_reducible refine (spec_VerSemantic.calls kj14 a1 t197 t200 t201 t202 t203 _ A18.out).mono ?_); rintro e w20 ⟨v198, rfl, ho0, hb⟩; refine ⟨_, rfl, ?_⟩; have n0_ := aM_ (Kd.R_lower ho0 (below_size (by repeat (first | (with_reducible first | exact HB.out | apply bB_ | apply wN_ | apply bE_ | refine bS_ ?_ GE189.out) | exact HB.out)))); have n1_ := aM_ (blk_below (g := gb189) (o := .cells #[.slice none 0 0, .bool false, .string (⟨#[]⟩ : ByteArray), .string (⟨#[]⟩ : ByteArray)] 26 (0, 0)) (by (with_reducible repeat (first | refine bN_ ?_ _ | refine bD_ ?_ | refine bA_ ?_ _)); exact BK189.out) hb); have n2_ := aM_ (below_step (by repeat (first | (with_reducible first | exact HB.out | apply bB_ | apply wN_ | apply bE_ | refine bS_ ?_ GE189.out) | exact HB.out)) hb); clear BK189; clear HB; have HO199 := n0_; have BK189 := n1_; have HB := n2_; clear n0_ n1_ n2_; (try clear hb); (try clear hb2); (try clear hk); (try clear hi); (try clear ho0)) | ((with_reducible refine gate_dst (N := 9) rfl ?_); refine box_event ?hg (N := 9) ?hd (cs := #[.slice none 0 0, .bool false, .string (⟨#[]⟩ : ByteArray), .string (⟨#[]⟩ : ByteArray)]) (t := 26) ?hr ?_; (case hd => rfl); (case hg => rfl); (case hr => first | (go_simp; done) | (go_simp; rfl)); intro gb204 hg w21 hbox hb; have n0_ := aM_ (Kd.R_below (by (with_reducible repeat (first | apply kA_ | apply kN_ | apply kD_)); exact HO199.out) hb); have n1_ := aM_ (blk_below (g := gb189) (o := .cells #[.slice none 0 0, .bool false, .string (⟨#[]⟩ : ByteArray), .string (⟨#[]⟩ : ByteArray)] 26 (0, 0)) (by (with_reducible repeat (first | refine bN_ ?_ _ | refine bD_ ?_ | refine bA_ ?_ _)); exact BK189.out) hb); have n2_ := aM_ (below_step (by repeat (first | (with_reducible first | exact HB.out | apply bB_ | apply wN_ | apply bE_ | refine bS_ ?_ GE189.out) | exact HB.out)) hb); have n3_ := aM_ (hbox); have n4_ := aM_ ((by rw [hg]; exact (below_size (by repeat (first | (with_reducible first | exact HB.out | apply bB_ | apply wN_ | apply bE_ | refine bS_ ?_ GE189.out) | exact HB.out))) : w.heap.size ≤ gb204)); have n5_ := aM_ ((by rw [hg]; exact (below_size (by repeat (first | (with_reducible first | exact HB.out | apply bB_ | apply wN_ | apply bE_ | refine bS_ ?_ GE189.out) | exact HB.out))) : w.heap.size ≤ gb204)); have n6_ := aM_ ((by rw [hg]; exact Nat.ne_of_lt (blk_lt (g := gb189) (o := .cells #[.slice none 0 0, .bool false, .string (⟨#[]⟩ : ByteArray), .string (⟨#[]⟩ : ByteArray)] 26 (0, 0)) (by (with_reducible repeat (first | refine bN_ ?_ _ | refine bD_ ?_ | refine bA_ ?_ _)); exact BK189.out)) : gb189 ≠ gb204)); have n7_ := aM_ ((by rw [hg]; exact Nat.ne_of_gt (blk_lt (g := gb189) (o := .cells #[.slice none 0 0, .bool false, .string (⟨#[]⟩ : ByteArray), .string (⟨#[]⟩ : ByteArray)] 26 (0, 0)) (by (with_reducible repeat (first | refine bN_ ?_ _ | refine bD_ ?_ | refine bA_ ?_ _)); exact BK189.out)) : gb204 ≠ gb189)); clear HO199; clear BK189; clear HB; have HO199 := n0_; have BK189 := n1_; have HB := n2_; have BK204 := n3_; have GW204 := n4_; have GE204 := n5_; have NB189_204 := n6_; have NB204_189 := n7_; clear n0_ n1_ n2_ n3_ n4_ n5_ n6_ n7_; clear hb hbox hg; obtain ⟨Ao22, co22, eo22⟩ := Kd.R_slice HO199.out; subst eo22; have hnb23 := NB204_189.out; have hnc23 := NB189_204.out; have hcz24_0 : w21.cell? ⟨gb204, 0, none⟩ = some (.slice none 0 0) := (bC_ BK204.out 0).trans rfl; have hcz24_1 : w21.cell? ⟨gb204, 1, none⟩ = some (.bool false) := (bC_ BK204.out 1).trans rfl; have hcz24_2 : w21.cell? ⟨gb204, 2, none⟩ = some (.string (⟨#[]⟩ : ByteArray)) := (bC_ BK204.out 2).trans rfl; have hcz24_3 : w21.cell? ⟨gb204, 3, none⟩ = some (.string (⟨#[]⟩ : ByteArray)) := (bC_ BK204.out 3).trans rfl; have hfz24_0 := bF_ BK204.out 0; have hfz24_1 := bF_ BK204.out 1; have hfz24_2 := bF_ BK204.out 2; have hfz24_3 := bF_ BK204.out 3))
       (try simp only [Act.put, List.setIfInBounds_toArray, List.set_cons_zero, List.set_cons_succ])
       go_cut [48] (fun v48 wc => ∃ (kq : Nat) (x48_18 : Bool), v48 = .bool x48_18 ∧ Aside0 (spec_VerParsed.j2 kq a0 a1 t203 x48_18 t197 t200 t201 t202 = some (r1, r2, r3, r4, r5, r6)) ∧ Aside0 (kq ≤ kj14) ∧ Aside0 (Kd.R (Kd.int .u64) 22 wc w.heap.size (fun _ => True) (.slice Ao22 t197.length co22) t197) ∧ Aside0 (wc.heap[gb189]? = some (.cells #[(.slice none 0 0), .bool false, .string (⟨#[]⟩ : ByteArray), .string (⟨#[]⟩ : ByteArray)] 26 (0, 0))) ∧ Aside0 (wc.heap[gb204]? = some (.cells #[(.slice Ao22 t197.length co22), .bool t200, .string t201, .string t202] 26 (0, 0))) ∧ Aside0 (Below w.heap.size w wc))
       case first =>
        have H := HC19.out
        clear HC19
        by_cases c25 : t203 = true
        ·
         subst c25
         have H1 : (spec_VerParsed.j2 kj14 a0 a1 true true t197 t200 t201 t202) = some (r1, r2, r3, r4, r5, r6) := by rw [if_pos rfl] at H; exact H
         clear H
         have H := H1
         clear H1
         have H' := aM_ H
         clear H
         go_wp2
         go_meet
         case rel => exact ⟨_, (true), (by first | rfl | (simp; done) | (simp [*]; done)), H', ⟨by have := HJ4.out; have := HJ14.out; first | omega | exact Nat.le_refl _⟩, ⟨by (with_reducible repeat (first | apply kA_ | apply kN_ | apply kD_)); exact Kd.R_mono (Kd.R_far (p := ⟨gb204, 3, none⟩) (Kd.R_far (p := ⟨gb204, 2, none⟩) (Kd.R_far (p := ⟨gb204, 1, none⟩) (Kd.R_far (p := ⟨gb204, 0, none⟩) (Kd.R_types HO199.out BK204.out (by decide)) (fun _ hk => hk.2) (.slice Ao22 t197.length co22)) (fun _ hk => hk.2) (.bool t200)) (fun _ hk => hk.2) (.string t201)) (fun _ hk => hk.2) (.string t202)) (fun _ hk => trivial)⟩, ⟨by (with_reducible repeat (first | refine bN_ ?_ _ | refine bD_ ?_ | refine bA_ ?_ _)); refine blk_far ?_ NB189_204.out _; (with_reducible repeat (first | refine bN_ ?_ _ | refine bD_ ?_ | refine bA_ ?_ _)); refine blk_far ?_ NB189_204.out _; (with_reducible repeat (first | refine bN_ ?_ _ | refine bD_ ?_ | refine bA_ ?_ _)); refine blk_far ?_ NB189_204.out _; (with_reducible repeat (first | refine bN_ ?_ _ | refine bD_ ?_ | refine bA_ ?_ _)); refine blk_far ?_ NB189_204.out _; (with_reducible repeat (first | refine bN_ ?_ _ | refine bD_ ?_ | refine bA_ ?_ _)); exact BK189.out⟩, ⟨by (with_reducible repeat (first | refine bN_ ?_ _ | refine bD_ ?_ | refine bA_ ?_ _)); refine blk_put (cs := #[.slice Ao22 t197.length co22, .bool t200, .string t201, .string (⟨#[]⟩ : ByteArray)]) ?_ 3 _ rfl; (with_reducible repeat (first | refine bN_ ?_ _ | refine bD_ ?_ | refine bA_ ?_ _)); refine blk_put (cs := #[.slice Ao22 t197.length co22, .bool t200, .string (⟨#[]⟩ : ByteArray), .string (⟨#[]⟩ : ByteArray)]) ?_ 2 _ rfl; (with_reducible repeat (first | refine bN_ ?_ _ | refine bD_ ?_ | refine bA_ ?_ _)); refine blk_put (cs := #[.slice Ao22 t197.length co22, .bool false, .string (⟨#[]⟩ : ByteArray), .string (⟨#[]⟩ : ByteArray)]) ?_ 1 _ rfl; (with_reducible repeat (first | refine bN_ ?_ _ | refine bD_ ?_ | refine bA_ ?_ _)); refine blk_put (cs := #[.slice none 0 0, .bool false, .string (⟨#[]⟩ : ByteArray), .string (⟨#[]⟩ : ByteArray)]) ?_ 0 _ rfl; (with_reducible repeat (first | refine bN_ ?_ _ | refine bD_ ?_ | refine bA_ ?_ _)); exact BK204.out⟩, ⟨by repeat (first | (with_reducible first | exact HB.out | apply bB_ | apply wN_ | apply bE_ | refine bS_ ?_ GE189.out | refine bS_ ?_ GE204.out) | exact HB.out)⟩⟩
        ·
         replace c25 := Bool.eq_false_iff.mpr c25
         subst c25
         have H1 : (spec_VerParsed.j2 kj14 a0 a1 false (a0 == 2) t197 t200 t201 t202) = some (r1, r2, r3, r4, r5, r6) := by rw [if_neg (show ¬ (false = true) by decide)] at H; exact H
         clear H
         have H := H1
         clear H1
         have H' := aM_ H
         clear H
         go_wp2
         go_meet
         case rel => exact ⟨_, ((a0 == 2)), (by first | rfl | (simp; done) | (simp [*]; done)), H', ⟨by have := HJ4.out; have := HJ14.out; first | omega | exact Nat.le_refl _⟩, ⟨by (with_reducible repeat (first | apply kA_ | apply kN_ | apply kD_)); exact Kd.R_mono (Kd.R_far (p := ⟨gb204, 3, none⟩) (Kd.R_far (p := ⟨gb204, 2, none⟩) (Kd.R_far (p := ⟨gb204, 1, none⟩) (Kd.R_far (p := ⟨gb204, 0, none⟩) (Kd.R_types HO199.out BK204.out (by decide)) (fun _ hk => hk.2) (.slice Ao22 t197.length co22)) (fun _ hk => hk.2) (.bool t200)) (fun _ hk => hk.2) (.string t201)) (fun _ hk => hk.2) (.string t202)) (fun _ hk => trivial)⟩, ⟨by (with_reducible repeat (first | refine bN_ ?_ _ | refine bD_ ?_ | refine bA_ ?_ _)); refine blk_far ?_ NB189_204.out _; (with_reducible repeat (first | refine bN_ ?_ _ | refine bD_ ?_ | refine bA_ ?_ _)); refine blk_far ?_ NB189_204.out _; (with_reducible repeat (first | refine bN_ ?_ _ | refine bD_ ?_ | refine bA_ ?_ _)); refine blk_far ?_ NB189_204.out _; (with_reducible repeat (first | refine bN_ ?_ _ | refine bD_ ?_ | refine bA_ ?_ _)); refine blk_far ?_ NB189_204.out _; (with_reducible repeat (first | refine bN_ ?_ _ | refine bD_ ?_ | refine bA_ ?_ _)); exact BK189.out⟩, ⟨by (with_reducible repeat (first | refine bN_ ?_ _ | refine bD_ ?_ | refine bA_ ?_ _)); refine blk_put (cs := #[.slice Ao22 t197.length co22, .bool t200, .string t201, .string (⟨#[]⟩ : ByteArray)]) ?_ 3 _ rfl; (with_reducible repeat (first | refine bN_ ?_ _ | refine bD_ ?_ | refine bA_ ?_ _)); refine blk_put (cs := #[.slice Ao22 t197.length co22, .bool t200, .string (⟨#[]⟩ : ByteArray), .string (⟨#[]⟩ : ByteArray)]) ?_ 2 _ rfl; (with_reducible repeat (first | refine bN_ ?_ _ | refine bD_ ?_ | refine bA_ ?_ _)); refine blk_put (cs := #[.slice Ao22 t197.length co22, .bool false, .string (⟨#[]⟩ : ByteArray), .string (⟨#[]⟩ : ByteArray)]) ?_ 1 _ rfl; (with_reducible repeat (first | refine bN_ ?_ _ | refine bD_ ?_ | refine bA_ ?_ _)); refine blk_put (cs := #[.slice none 0 0, .bool false, .string (⟨#[]⟩ : ByteArray), .string (⟨#[]⟩ : ByteArray)]) ?_ 0 _ rfl; (with_reducible repeat (first | refine bN_ ?_ _ | refine bD_ ?_ | refine bA_ ?_ _)); exact BK204.out⟩, ⟨by repeat (first | (with_reducible first | exact HB.out | apply bB_ | apply wN_ | apply bE_ | refine bS_ ?_ GE189.out | refine bS_ ?_ GE204.out) | exact HB.out)⟩⟩
       case rest =>
        clear HC19
        try clear c1
        try clear c2
        try clear p2
        try clear c3
        try clear c4
        try clear c9
        try clear c9b0
        try clear c10
        try clear c10b0
        try clear c10b1
        try clear c11
        try clear c11b0
        try clear c11b1
        try clear c13
        try clear c16
        try clear c16b0
        try clear c16b1
        try clear c17
        try clear c23
        try clear c25
        try clear hcz14_0
        try clear hcz14_1
        try clear hcz14_2
        try clear hcz14_3
        try clear hcz24_0
        try clear hcz24_1
        try clear hcz24_2
        try clear hcz24_3
        try clear hfz14_0
        try clear hfz14_1
        try clear hfz14_2
        try clear hfz14_3
        try clear hfz24_0
        try clear hfz24_1
        try clear hfz24_2
        try clear hfz24_3
        try clear p2
        obtain ⟨kq, x48_18, rfl, HA, HJ18, HO_205000, BK189, BK204, HB⟩ := hcut
        cases kq with
        | zero => exact absurd HA.out (by simp [spec_VerParsed.j2])
        | succ kj18 =>
         have H := HA.out
         clear HA
         simp only [spec_VerParsed.j2] at H
         by_cases c26 : x48_18 = true
         ·
          subst c26
          have H1 : (some (t197, t200, t201, t202, t203, true)) = some (r1, r2, r3, r4, r5, r6) := by rw [if_pos rfl] at H; exact H
          clear H
          have H := H1
          clear H1
          simp only [Option.some.injEq, Prod.mk.injEq] at H
          obtain ⟨rfl, rfl, rfl, rfl, rfl, rfl⟩ := H
          have hnb27 := NB204_189.out
          have hnc27 := NB189_204.out
          have hcz28_0 : wc.cell? ⟨gb204, 0, none⟩ = some (.slice Ao22 t197.length co22) := (bC_ BK204.out 0).trans rfl
          have hcz28_1 : wc.cell? ⟨gb204, 1, none⟩ = some (.bool t200) := (bC_ BK204.out 1).trans rfl
          have hcz28_2 : wc.cell? ⟨gb204, 2, none⟩ = some (.string t201) := (bC_ BK204.out 2).trans rfl
          have hcz28_3 : wc.cell? ⟨gb204, 3, none⟩ = some (.string t202) := (bC_ BK204.out 3).trans rfl
          have hfz28_0 := bF_ BK204.out 0
          have hfz28_1 := bF_ BK204.out 1
          have hfz28_2 := bF_ BK204.out 2
          have hfz28_3 := bF_ BK204.out 3
          have hcz29_0 : wc.cell? ⟨gb189, 0, none⟩ = some (.slice none 0 0) := (bC_ BK189.out 0).trans rfl
          have hcz29_1 : wc.cell? ⟨gb189, 1, none⟩ = some (.bool false) := (bC_ BK189.out 1).trans rfl
          have hcz29_2 : wc.cell? ⟨gb189, 2, none⟩ = some (.string (⟨#[]⟩ : ByteArray)) := (bC_ BK189.out 2).trans rfl
          have hcz29_3 : wc.cell? ⟨gb189, 3, none⟩ = some (.string (⟨#[]⟩ : ByteArray)) := (bC_ BK189.out 3).trans rfl
          have hfz29_0 := bF_ BK189.out 0
          have hfz29_1 := bF_ BK189.out 1
          have hfz29_2 := bF_ BK189.out 2
          have hfz29_3 := bF_ BK189.out 3
          go_wp2
          refine bodyPost_ret (results_ctt rfl _ _ gb189 26 #[.slice Ao22 t197.length co22, .bool t200, .string t201, .string t202] (0, 0) _ rfl (by (with_reducible repeat (first | refine bN_ ?_ _ | refine bD_ ?_ | refine bA_ ?_ _)); refine blk_put (cs := #[.slice Ao22 t197.length co22, .bool t200, .string t201, .string (⟨#[]⟩ : ByteArray)]) ?_ 3 _ rfl; (with_reducible repeat (first | refine bN_ ?_ _ | refine bD_ ?_ | refine bA_ ?_ _)); refine blk_put (cs := #[.slice Ao22 t197.length co22, .bool t200, .string (⟨#[]⟩ : ByteArray), .string (⟨#[]⟩ : ByteArray)]) ?_ 2 _ rfl; (with_reducible repeat (first | refine bN_ ?_ _ | refine bD_ ?_ | refine bA_ ?_ _)); refine blk_put (cs := #[.slice Ao22 t197.length co22, .bool false, .string (⟨#[]⟩ : ByteArray), .string (⟨#[]⟩ : ByteArray)]) ?_ 1 _ rfl; (with_reducible repeat (first | refine bN_ ?_ _ | refine bD_ ?_ | refine bA_ ?_ _)); refine blk_put (cs := #[.slice none 0 0, .bool false, .string (⟨#[]⟩ : ByteArray), .string (⟨#[]⟩ : ByteArray)]) ?_ 0 _ rfl; (with_reducible repeat (first | refine bN_ ?_ _ | refine bD_ ?_ | refine bA_ ?_ _)); exact BK189.out) Tryd.underlying26 rfl (by kernel_rfl)) rfl ?_
          exact ⟨_, by first | rfl | (simp [errW_none, errW_some] <;> rfl) | (simp [*, errW_none, errW_some] <;> rfl), by (with_reducible repeat (first | apply kA_ | apply kN_ | apply kD_)); exact Kd.R_mono (Kd.R_far (p := ⟨gb189, 3, none⟩) (Kd.R_far (p := ⟨gb189, 2, none⟩) (Kd.R_far (p := ⟨gb189, 1, none⟩) (Kd.R_far (p := ⟨gb189, 0, none⟩) (Kd.R_types HO_205000.out BK189.out (by decide)) (fun _ hk => hk.2) (.slice Ao22 t197.length co22)) (fun _ hk => hk.2) (.bool t200)) (fun _ hk => hk.2) (.string t201)) (fun _ hk => hk.2) (.string t202)) (fun _ hk => trivial), by repeat (first | (with_reducible first | exact HB.out | apply bB_ | apply wN_ | apply bE_ | refine bS_ ?_ GE189.out | refine bS_ ?_ GE204.out) | exact HB.out)⟩
         ·
          replace c26 := Bool.eq_false_iff.mpr c26
          subst c26
          have H1 : ((spec_VerGeneric.f kj18 a1).bind fun bt205 => (if bt205.2.2.2.2.1 = true then (if a0 = 3 then (if 2 ≤ (bt205.1.length : Int) then (some ((bt205.1.take (2 : Int).toNat), bt205.2.1, bt205.2.2.1, bt205.2.2.2.1, bt205.2.2.2.2.1, bt205.2.2.2.2.2)) else (none)) else (some (bt205.1, bt205.2.1, bt205.2.2.1, bt205.2.2.2.1, bt205.2.2.2.2.1, bt205.2.2.2.2.2))) else (some (bt205.1, bt205.2.1, bt205.2.2.1, bt205.2.2.2.1, bt205.2.2.2.2.1, bt205.2.2.2.2.2)))) = some (r1, r2, r3, r4, r5, r6) := by rw [if_neg (show ¬ (false = true) by decide)] at H; exact H
          clear H
          have H := H1
          clear H1
          replace H := Option.bind_eq_some_iff.mp H
          obtain ⟨⟨t205, t208, t209, t210, t211, t212⟩, A300, H⟩ := H
          replace H : (if t211 = true then (if a0 = 3 then (if 2 ≤ (t205.length : Int) then (some ((t205.take (2 : Int).toNat), t208, t209, t210, t211, t212)) else (none)) else (some (t205, t208, t209, t210, t211, t212))) else (some (t205, t208, t209, t210, t211, t212))) = some (r1, r2, r3, r4, r5, r6) := H
          have A30 := aM_ A300
          clear A300
          by_cases c31 : t211 = true
          ·
           subst c31
           have H1 : (if a0 = 3 then (if 2 ≤ (t205.length : Int) then (some ((t205.take (2 : Int).toNat), t208, t209, t210, true, t212)) else (none)) else (some (t205, t208, t209, t210, true, t212))) = some (r1, r2, r3, r4, r5, r6) := by rw [if_pos rfl] at H; exact H
           clear H
           have H := H1
           clear H1
           by_cases c32 : a0 = 3
           ·
            rw [if_pos c32] at H
            have c32b0 : (a0 == 3) = true := beq_iff_eq.mpr c32
            have c32b1 : (a0 != 3) = false := bne_eq_false_iff_eq.mpr c32
            clear c32
            by_cases c33 : 2 ≤ (t205.length : Int)
            ·
             rw [if_pos c33] at H
             have c33b0 := eq_true c33
             have c33b1 : decide (2 ≤ (t205.length : Int)) = true := decide_eq_true c33
             clear c33
             obtain ⟨y213, hy213⟩ : ∃ y_ : List Int, y_ = (t205.take (2 : Int).toNat) := ⟨_, rfl⟩
             replace H : (some (y213, t208, t209, t210, true, t212)) = some (r1, r2, r3, r4, r5, r6) := by first | (rw [hy213]; with_reducible exact H) | (have H2_ := (Option.bind_some _ _).symm.trans H; rw [hy213]; with_reducible exact H2_) | (have H2_ := (Option.bind_some _ _).symm.trans H; with_reducible exact H2_) | with_reducible exact H | (rw [hy213]; exact H) | exact H
             have Ny213 := aM_ hy213
             clear hy213
             simp only [Option.some.injEq, Prod.mk.injEq] at H
             obtain ⟨rfl, rfl, rfl, rfl, rfl, rfl⟩ := H
             go_wp2_with (first | ((with_reducible refine gate_callee (f := 41) rfl ?_); refine goesL_ (some 53) rfl rfl Tryd.func41 (by kernel_rfl) rfl #[.string a1] rfl (by (try simp only [List.map_toArray, List.map_cons, List.map_nil]); first | done | rfl | (simp only [List.length_drop, List.length_take]; rfl)) ?_; (with_reducible refine (spec_VerGeneric.calls kj18 a1 t205 t208 t209 t210 true t212 _ A30.out).mono ?_); rintro e w34 ⟨v206, rfl, ho0, hb⟩; refine ⟨_, rfl, ?_⟩; have n0_ := aM_ (Kd.R_elder' (by (with_reducible repeat (first | apply kA_ | apply kN_ | apply kD_)); exact HO_205000.out) (Kd.R_base ho0) hb); have n1_ := aM_ (Kd.R_lower (Kd.R_new' ho0 (Kd.R_lt (by (with_reducible repeat (first | apply kA_ | apply kN_ | apply kD_)); exact HO_205000.out))) (below_size (by repeat (first | (with_reducible first | exact HB.out | apply bB_ | apply wN_ | apply bE_ | refine bS_ ?_ GE189.out | refine bS_ ?_ GE204.out) | exact HB.out)))); have n2_ := aM_ (blk_below (g := gb189) (o := .cells #[.slice none 0 0, .bool false, .string (⟨#[]⟩ : ByteArray), .string (⟨#[]⟩ : ByteArray)] 26 (0, 0)) (by (with_reducible repeat (first | refine bN_ ?_ _ | refine bD_ ?_ | refine bA_ ?_ _)); exact BK189.out) hb); have n3_ := aM_ (blk_below (g := gb204) (o := .cells #[.slice Ao22 t197.length co22, .bool t200, .string t201, .string t202] 26 (0, 0)) (by (with_reducible repeat (first | refine bN_ ?_ _ | refine bD_ ?_ | refine bA_ ?_ _)); exact BK204.out) hb); have n4_ := aM_ (below_step (by repeat (first | (with_reducible first | exact HB.out | apply bB_ | apply wN_ | apply bE_ | refine bS_ ?_ GE189.out | refine bS_ ?_ GE204.out) | exact HB.out)) hb); clear HO_205000; clear BK189; clear BK204; clear HB; have HO_205000 := n0_; have HO207 := n1_; have BK189 := n2_; have BK204 := n3_; have HB := n4_; clear n0_ n1_ n2_ n3_ n4_; (try clear hb); (try clear hb2); (try clear hk); (try clear hi); (try clear ho0); obtain ⟨Ao35, co35, eo35⟩ := Kd.R_slice HO207.out; subst eo35; have hnb36 := NB189_204.out; have hnc36 := NB204_189.out; have hcz37_0 : w34.cell? ⟨gb189, 0, none⟩ = some (.slice none 0 0) := (bC_ BK189.out 0).trans rfl; have hcz37_1 : w34.cell? ⟨gb189, 1, none⟩ = some (.bool false) := (bC_ BK189.out 1).trans rfl; have hcz37_2 : w34.cell? ⟨gb189, 2, none⟩ = some (.string (⟨#[]⟩ : ByteArray)) := (bC_ BK189.out 2).trans rfl; have hcz37_3 : w34.cell? ⟨gb189, 3, none⟩ = some (.string (⟨#[]⟩ : ByteArray)) := (bC_ BK189.out 3).trans rfl; have hfz37_0 := bF_ BK189.out 0; have hfz37_1 := bF_ BK189.out 1; have hfz37_2 := bF_ BK189.out 2; have hfz37_3 := bF_ BK189.out 3) | ((with_reducible refine gate_store (t := 26) (p := 4) rfl ?_); refine store_event (t := 26) (p := 4) (v := ?vo_w38) (w1 := ((((w34.setCell ⟨gb189, 0, none⟩ (.slice Ao35 t205.length co35)).setCell ⟨gb189, 1, none⟩ (.bool t208)).setCell ⟨gb189, 2, none⟩ (.string t209)).setCell ⟨gb189, 3, none⟩ (.string t210))) ?hg ?ho ?hn ?hr ?_; (case ho => rfl); (case hg => rfl); (case hn => rfl); (case hr => first | (go_simp; done) | (go_simp; rfl)); intro w38 hw; have n0_ : Aside0 (Kd.R (Kd.int .u64) 22 w38 w.heap.size (fun k_ => some k_ ≠ (.slice Ao35 t205.length co35 : Value).ownBlock) (.slice Ao22 t197.length co22) t197) := ⟨(by rw [hw]; exact (by (with_reducible repeat (first | apply kA_ | apply kN_ | apply kD_)); exact Kd.R_mono (Kd.R_far (p := ⟨gb189, 3, none⟩) (Kd.R_far (p := ⟨gb189, 2, none⟩) (Kd.R_far (p := ⟨gb189, 1, none⟩) (Kd.R_far (p := ⟨gb189, 0, none⟩) (Kd.R_types HO_205000.out BK189.out (by decide)) (fun _ hk => hk.2) (.slice Ao35 t205.length co35)) (fun _ hk => hk.2) (.bool t208)) (fun _ hk => hk.2) (.string t209)) (fun _ hk => hk.2) (.string t210)) (fun _ hk => hk.1.2)))⟩; have n1_ : Aside0 (Kd.R (Kd.int .u64) 22 w38 w.heap.size (fun k_ => some k_ ≠ (.slice Ao22 t197.length co22 : Value).ownBlock) (.slice Ao35 t205.length co35) t205) := ⟨(by rw [hw]; exact (by (with_reducible repeat (first | apply kA_ | apply kN_ | apply kD_)); exact Kd.R_mono (Kd.R_far (p := ⟨gb189, 3, none⟩) (Kd.R_far (p := ⟨gb189, 2, none⟩) (Kd.R_far (p := ⟨gb189, 1, none⟩) (Kd.R_far (p := ⟨gb189, 0, none⟩) (Kd.R_types HO207.out BK189.out (by decide)) (fun _ hk => hk.2) (.slice Ao35 t205.length co35)) (fun _ hk => hk.2) (.bool t208)) (fun _ hk => hk.2) (.string t209)) (fun _ hk => hk.2) (.string t210)) (fun _ hk => hk.1.2)))⟩; have n2_ : Aside0 (w38.heap[gb189]? = some (.cells #[.slice Ao35 t205.length co35, .bool t208, .string t209, .string t210] 26 (0, 0))) := ⟨(by rw [hw]; exact (by (with_reducible repeat (first | refine bN_ ?_ _ | refine bD_ ?_ | refine bA_ ?_ _)); refine blk_put (cs := #[.slice Ao35 t205.length co35, .bool t208, .string t209, .string (⟨#[]⟩ : ByteArray)]) ?_ 3 _ rfl; (with_reducible repeat (first | refine bN_ ?_ _ | refine bD_ ?_ | refine bA_ ?_ _)); refine blk_put (cs := #[.slice Ao35 t205.length co35, .bool t208, .string (⟨#[]⟩ : ByteArray), .string (⟨#[]⟩ : ByteArray)]) ?_ 2 _ rfl; (with_reducible repeat (first | refine bN_ ?_ _ | refine bD_ ?_ | refine bA_ ?_ _)); refine blk_put (cs := #[.slice Ao35 t205.length co35, .bool false, .string (⟨#[]⟩ : ByteArray), .string (⟨#[]⟩ : ByteArray)]) ?_ 1 _ rfl; (with_reducible repeat (first | refine bN_ ?_ _ | refine bD_ ?_ | refine bA_ ?_ _)); refine blk_put (cs := #[.slice none 0 0, .bool false, .string (⟨#[]⟩ : ByteArray), .string (⟨#[]⟩ : ByteArray)]) ?_ 0 _ rfl; (with_reducible repeat (first | refine bN_ ?_ _ | refine bD_ ?_ | refine bA_ ?_ _)); exact BK189.out))⟩; have n3_ : Aside0 (w38.heap[gb204]? = some (.cells #[.slice Ao22 t197.length co22, .bool t200, .string t201, .string t202] 26 (0, 0))) := ⟨(by rw [hw]; exact (by (with_reducible repeat (first | refine bN_ ?_ _ | refine bD_ ?_ | refine bA_ ?_ _)); refine blk_far ?_ NB204_189.out _; (with_reducible repeat (first | refine bN_ ?_ _ | refine bD_ ?_ | refine bA_ ?_ _)); refine blk_far ?_ NB204_189.out _; (with_reducible repeat (first | refine bN_ ?_ _ | refine bD_ ?_ | refine bA_ ?_ _)); refine blk_far ?_ NB204_189.out _; (with_reducible repeat (first | refine bN_ ?_ _ | refine bD_ ?_ | refine bA_ ?_ _)); refine blk_far ?_ NB204_189.out _; (with_reducible repeat (first | refine bN_ ?_ _ | refine bD_ ?_ | refine bA_ ?_ _)); exact BK204.out))⟩; have n4_ : Aside0 (Below w.heap.size w w38) := ⟨(by rw [hw]; exact (by repeat (first | (with_reducible first | exact HB.out | apply bB_ | apply wN_ | apply bE_ | refine bS_ ?_ GE189.out | refine bS_ ?_ GE204.out) | exact HB.out)))⟩; clear hw; clear HO_205000; clear HO207; clear BK189; clear BK204; clear HB; have HO_205000 := n0_; have HO207 := n1_; have BK189 := n2_; have BK204 := n3_; have HB := n4_; clear n0_ n1_ n2_ n3_ n4_; have hcz39_0 : w38.cell? ⟨gb189, 0, none⟩ = some (.slice Ao35 t205.length co35) := (bC_ BK189.out 0).trans rfl; have hcz39_1 : w38.cell? ⟨gb189, 1, none⟩ = some (.bool t208) := (bC_ BK189.out 1).trans rfl; have hcz39_2 : w38.cell? ⟨gb189, 2, none⟩ = some (.string t209) := (bC_ BK189.out 2).trans rfl; have hcz39_3 : w38.cell? ⟨gb189, 3, none⟩ = some (.string t210) := (bC_ BK189.out 3).trans rfl; have hfz39_0 := bF_ BK189.out 0; have hfz39_1 := bF_ BK189.out 1; have hfz39_2 := bF_ BK189.out 2; have hfz39_3 := bF_ BK189.out 3; have q40 : (2 : Int) ≤ ((t205.length : Int) : Int) := of_decide_eq_true (by first | (with_reducible assumption) | assumption); obtain ⟨i040, hi040, _, hsz40, _⟩ := info_parts info22; have hcut40 := cut_to (P := Tryd.prog) 24 22 .i64 Tryd.underlying24 hi040 Ao35 t205.length co35 2 (by omega) q40 (Kd.R_reads' HO207.out).2.1; have hr40 := Kd.R_take (m := (2 : Int).toNat) HO207.out (by omega); have hy40 : y213.length = (2 : Int).toNat := (by rw [Ny213.out, List.length_take]; omega); rw [← Ny213.out] at hr40; rw [← hy40] at hr40 hcut40; clear hy40 hi040 hsz40 HO207; have HO215 := aM_ hr40; clear hr40; replace q40 := eq_true q40))
             refine bodyPost_ret (results_ctt rfl _ _ gb189 26 #[.slice Ao35 y213.length co35, .bool t208, .string t209, .string t210] (0, 0) _ rfl (by (with_reducible repeat (first | refine bN_ ?_ _ | refine bD_ ?_ | refine bA_ ?_ _)); refine blk_put (cs := #[.slice Ao35 y213.length co35, .bool t208, .string t209, .string t210]) ?_ 3 _ rfl; (with_reducible repeat (first | refine bN_ ?_ _ | refine bD_ ?_ | refine bA_ ?_ _)); refine blk_put (cs := #[.slice Ao35 y213.length co35, .bool t208, .string t209, .string t210]) ?_ 2 _ rfl; (with_reducible repeat (first | refine bN_ ?_ _ | refine bD_ ?_ | refine bA_ ?_ _)); refine blk_put (cs := #[.slice Ao35 y213.length co35, .bool t208, .string t209, .string t210]) ?_ 1 _ rfl; (with_reducible repeat (first | refine bN_ ?_ _ | refine bD_ ?_ | refine bA_ ?_ _)); refine blk_put (cs := #[.slice Ao35 y213.length co35, .bool t208, .string t209, .string t210]) ?_ 0 _ rfl; (with_reducible repeat (first | refine bN_ ?_ _ | refine bD_ ?_ | refine bA_ ?_ _)); refine blk_put (cs := #[.slice Ao35 t205.length co35, .bool t208, .string t209, .string t210]) ?_ 0 _ rfl; (with_reducible repeat (first | refine bN_ ?_ _ | refine bD_ ?_ | refine bA_ ?_ _)); exact BK189.out) Tryd.underlying26 rfl (by kernel_rfl)) rfl ?_
             exact ⟨_, by first | rfl | (simp [errW_none, errW_some] <;> rfl) | (simp [*, errW_none, errW_some] <;> rfl), by (with_reducible repeat (first | apply kA_ | apply kN_ | apply kD_)); exact Kd.R_mono (Kd.R_far (p := ⟨gb189, 3, none⟩) (Kd.R_far (p := ⟨gb189, 2, none⟩) (Kd.R_far (p := ⟨gb189, 1, none⟩) (Kd.R_far (p := ⟨gb189, 0, none⟩) (Kd.R_far (p := ⟨gb189, 0, none⟩) (Kd.R_types HO215.out BK189.out (by decide)) (fun _ hk => hk.2) (.slice Ao35 y213.length co35)) (fun _ hk => hk.2) (.slice Ao35 y213.length co35)) (fun _ hk => hk.2) (.bool t208)) (fun _ hk => hk.2) (.string t209)) (fun _ hk => hk.2) (.string t210)) (fun _ hk => trivial), by repeat (first | (with_reducible first | exact HB.out | apply bB_ | apply wN_ | apply bE_ | refine bS_ ?_ GE189.out | refine bS_ ?_ GE204.out) | exact HB.out)⟩
            ·
             rw [if_neg c33] at H
             exact absurd H (by simp)
           ·
            rw [if_neg c32] at H
            have c32b0 : (a0 == 3) = false := beq_eq_false_iff_ne.mpr c32
            have c32b1 : (a0 != 3) = true := bne_iff_ne.mpr c32
            simp only [Option.some.injEq, Prod.mk.injEq] at H
            obtain ⟨rfl, rfl, rfl, rfl, rfl, rfl⟩ := H
            go_wp2_with (first | ((with_reducible refine gate_callee (f := 41) rfl ?_); refine goesL_ (some 53) rfl rfl Tryd.func41 (by kernel_rfl) rfl #[.string a1] rfl (by (try simp only [List.map_toArray, List.map_cons, List.map_nil]); first | done | rfl | (simp only [List.length_drop, List.length_take]; rfl)) ?_; (with_reducible refine (spec_VerGeneric.calls kj18 a1 t205 t208 t209 t210 true t212 _ A30.out).mono ?_); rintro e w41 ⟨v206, rfl, ho0, hb⟩; refine ⟨_, rfl, ?_⟩; have n0_ := aM_ (Kd.R_elder' (by (with_reducible repeat (first | apply kA_ | apply kN_ | apply kD_)); exact HO_205000.out) (Kd.R_base ho0) hb); have n1_ := aM_ (Kd.R_lower (Kd.R_new' ho0 (Kd.R_lt (by (with_reducible repeat (first | apply kA_ | apply kN_ | apply kD_)); exact HO_205000.out))) (below_size (by repeat (first | (with_reducible first | exact HB.out | apply bB_ | apply wN_ | apply bE_ | refine bS_ ?_ GE189.out | refine bS_ ?_ GE204.out) | exact HB.out)))); have n2_ := aM_ (blk_below (g := gb189) (o := .cells #[.slice none 0 0, .bool false, .string (⟨#[]⟩ : ByteArray), .string (⟨#[]⟩ : ByteArray)] 26 (0, 0)) (by (with_reducible repeat (first | refine bN_ ?_ _ | refine bD_ ?_ | refine bA_ ?_ _)); exact BK189.out) hb); have n3_ := aM_ (blk_below (g := gb204) (o := .cells #[.slice Ao22 t197.length co22, .bool t200, .string t201, .string t202] 26 (0, 0)) (by (with_reducible repeat (first | refine bN_ ?_ _ | refine bD_ ?_ | refine bA_ ?_ _)); exact BK204.out) hb); have n4_ := aM_ (below_step (by repeat (first | (with_reducible first | exact HB.out | apply bB_ | apply wN_ | apply bE_ | refine bS_ ?_ GE189.out | refine bS_ ?_ GE204.out) | exact HB.out)) hb); clear HO_205000; clear BK189; clear BK204; clear HB; have HO_205000 := n0_; have HO207 := n1_; have BK189 := n2_; have BK204 := n3_; have HB := n4_; clear n0_ n1_ n2_ n3_ n4_; (try clear hb); (try clear hb2); (try clear hk); (try clear hi); (try clear ho0); obtain ⟨Ao42, co42, eo42⟩ := Kd.R_slice HO207.out; subst eo42; have hnb43 := NB189_204.out; have hnc43 := NB204_189.out; have hcz44_0 : w41.cell? ⟨gb189, 0, none⟩ = some (.slice none 0 0) := (bC_ BK189.out 0).trans rfl; have hcz44_1 : w41.cell? ⟨gb189, 1, none⟩ = some (.bool false) := (bC_ BK189.out 1).trans rfl; have hcz44_2 : w41.cell? ⟨gb189, 2, none⟩ = some (.string (⟨#[]⟩ : ByteArray)) := (bC_ BK189.out 2).trans rfl; have hcz44_3 : w41.cell? ⟨gb189, 3, none⟩ = some (.string (⟨#[]⟩ : ByteArray)) := (bC_ BK189.out 3).trans rfl; have hfz44_0 := bF_ BK189.out 0; have hfz44_1 := bF_ BK189.out 1; have hfz44_2 := bF_ BK189.out 2; have hfz44_3 := bF_ BK189.out 3))
            refine bodyPost_ret (results_ctt rfl _ _ gb189 26 #[.slice Ao42 t205.length co42, .bool t208, .string t209, .string t210] (0, 0) _ rfl (by (with_reducible repeat (first | refine bN_ ?_ _ | refine bD_ ?_ | refine bA_ ?_ _)); refine blk_put (cs := #[.slice Ao42 t205.length co42, .bool t208, .string t209, .string t210]) ?_ 3 _ rfl; (with_reducible repeat (first | refine bN_ ?_ _ | refine bD_ ?_ | refine bA_ ?_ _)); refine blk_put (cs := #[.slice Ao42 t205.length co42, .bool t208, .string t209, .string t210]) ?_ 2 _ rfl; (with_reducible repeat (first | refine bN_ ?_ _ | refine bD_ ?_ | refine bA_ ?_ _)); refine blk_put (cs := #[.slice Ao42 t205.length co42, .bool t208, .string t209, .string t210]) ?_ 1 _ rfl; (with_reducible repeat (first | refine bN_ ?_ _ | refine bD_ ?_ | refine bA_ ?_ _)); refine blk_put (cs := #[.slice Ao42 t205.length co42, .bool t208, .string t209, .string t210]) ?_ 0 _ rfl; (with_reducible repeat (first | refine bN_ ?_ _ | refine bD_ ?_ | refine bA_ ?_ _)); refine blk_put (cs := #[.slice Ao42 t205.length co42, .bool t208, .string t209, .string (⟨#[]⟩ : ByteArray)]) ?_ 3 _ rfl; (with_reducible repeat (first | refine bN_ ?_ _ | refine bD_ ?_ | refine bA_ ?_ _)); refine blk_put (cs := #[.slice Ao42 t205.length co42, .bool t208, .string (⟨#[]⟩ : ByteArray), .string (⟨#[]⟩ : ByteArray)]) ?_ 2 _ rfl; (with_reducible repeat (first | refine bN_ ?_ _ | refine bD_ ?_ | refine bA_ ?_ _)); refine blk_put (cs := #[.slice Ao42 t205.length co42, .bool false, .string (⟨#[]⟩ : ByteArray), .string (⟨#[]⟩ : ByteArray)]) ?_ 1 _ rfl; (with_reducible repeat (first | refine bN_ ?_ _ | refine bD_ ?_ | refine bA_ ?_ _)); refine blk_put (cs := #[.slice none 0 0, .bool false, .string (⟨#[]⟩ : ByteArray), .string (⟨#[]⟩ : ByteArray)]) ?_ 0 _ rfl; (with_reducible repeat (first | refine bN_ ?_ _ | refine bD_ ?_ | refine bA_ ?_ _)); exact BK189.out) Tryd.underlying26 rfl (by kernel_rfl)) rfl ?_
            exact ⟨_, by first | rfl | (simp [errW_none, errW_some] <;> rfl) | (simp [*, errW_none, errW_some] <;> rfl), by (with_reducible repeat (first | apply kA_ | apply kN_ | apply kD_)); exact Kd.R_mono (Kd.R_far (p := ⟨gb189, 3, none⟩) (Kd.R_far (p := ⟨gb189, 2, none⟩) (Kd.R_far (p := ⟨gb189, 1, none⟩) (Kd.R_far (p := ⟨gb189, 0, none⟩) (Kd.R_far (p := ⟨gb189, 3, none⟩) (Kd.R_far (p := ⟨gb189, 2, none⟩) (Kd.R_far (p := ⟨gb189, 1, none⟩) (Kd.R_far (p := ⟨gb189, 0, none⟩) (Kd.R_types HO207.out BK189.out (by decide)) (fun _ hk => hk.2) (.slice Ao42 t205.length co42)) (fun _ hk => hk.2) (.bool t208)) (fun _ hk => hk.2) (.string t209)) (fun _ hk => hk.2) (.string t210)) (fun _ hk => hk.2) (.slice Ao42 t205.length co42)) (fun _ hk => hk.2) (.bool t208)) (fun _ hk => hk.2) (.string t209)) (fun _ hk => hk.2) (.string t210)) (fun _ hk => trivial), by repeat (first | (with_reducible first | exact HB.out | apply bB_ | apply wN_ | apply bE_ | refine bS_ ?_ GE189.out | refine bS_ ?_ GE204.out) | exact HB.out)⟩
          ·
           replace c31 := Bool.eq_false_iff.mpr c31
           subst c31
           have H1 : (some (t205, t208, t209, t210, false, t212)) = some (r1, r2, r3, r4, r5, r6) := by rw [if_neg (show ¬ (false = true) by decide)] at H; exact H
           clear H
           have H := H1
           clear H1
           simp only [Option.some.injEq, Prod.mk.injEq] at H
           obtain ⟨rfl, rfl, rfl, rfl, rfl, rfl⟩ := H
           go_wp2_with (first | ((with_reducible refine gate_callee (f := 41) rfl ?_); refine goesL_ (some 53) rfl rfl Tryd.func41 (by kernel_rfl) rfl #[.string a1] rfl (by (try simp only [List.map_toArray, List.map_cons, List.map_nil]); first | done | rfl | (simp only [List.length_drop, List.length_take]; rfl)) ?_; (with_reducible refine (spec_VerGeneric.calls kj18 a1 t205 t208 t209 t210 false t212 _ A30.out).mono ?_); rintro e w45 ⟨v206, rfl, ho0, hb⟩; refine ⟨_, rfl, ?_⟩; have n0_ := aM_ (Kd.R_elder' (by (with_reducible repeat (first | apply kA_ | apply kN_ | apply kD_)); exact HO_205000.out) (Kd.R_base ho0) hb); have n1_ := aM_ (Kd.R_lower (Kd.R_new' ho0 (Kd.R_lt (by (with_reducible repeat (first | apply kA_ | apply kN_ | apply kD_)); exact HO_205000.out))) (below_size (by repeat (first | (with_reducible first | exact HB.out | apply bB_ | apply wN_ | apply bE_ | refine bS_ ?_ GE189.out | refine bS_ ?_ GE204.out) | exact HB.out)))); have n2_ := aM_ (blk_below (g := gb189) (o := .cells #[.slice none 0 0, .bool false, .string (⟨#[]⟩ : ByteArray), .string (⟨#[]⟩ : ByteArray)] 26 (0, 0)) (by (with_reducible repeat (first | refine bN_ ?_ _ | refine bD_ ?_ | refine bA_ ?_ _)); exact BK189.out) hb); have n3_ := aM_ (blk_below (g := gb204) (o := .cells #[.slice Ao22 t197.length co22, .bool t200, .string t201, .string t202] 26 (0, 0)) (by (with_reducible repeat (first | refine bN_ ?_ _ | refine bD_ ?_ | refine bA_ ?_ _)); exact BK204.out) hb); have n4_ := aM_ (below_step (by repeat (first | (with_reducible first | exact HB.out | apply bB_ | apply wN_ | apply bE_ | refine bS_ ?_ GE189.out | refine bS_ ?_ GE204.out) | exact HB.out)) hb); clear HO_205000; clear BK189; clear BK204; clear HB; have HO_205000 := n0_; have HO207 := n1_; have BK189 := n2_; have BK204 := n3_; have HB := n4_; clear n0_ n1_ n2_ n3_ n4_; (try clear hb); (try clear hb2); (try clear hk); (try clear hi); (try clear ho0); obtain ⟨Ao46, co46, eo46⟩ := Kd.R_slice HO207.out; subst eo46; have hnb47 := NB189_204.out; have hnc47 := NB204_189.out; have hcz48_0 : w45.cell? ⟨gb189, 0, none⟩ = some (.slice none 0 0) := (bC_ BK189.out 0).trans rfl; have hcz48_1 : w45.cell? ⟨gb189, 1, none⟩ = some (.bool false) := (bC_ BK189.out 1).trans rfl; have hcz48_2 : w45.cell? ⟨gb189, 2, none⟩ = some (.string (⟨#[]⟩ : ByteArray)) := (bC_ BK189.out 2).trans rfl; have hcz48_3 : w45.cell? ⟨gb189, 3, none⟩ = some (.string (⟨#[]⟩ : ByteArray)) := (bC_ BK189.out 3).trans rfl; have hfz48_0 := bF_ BK189.out 0; have hfz48_1 := bF_ BK189.out 1; have hfz48_2 := bF_ BK189.out 2; have hfz48_3 := bF_ BK189.out 3))
           refine bodyPost_ret (results_ctt rfl _ _ gb189 26 #[.slice Ao46 t205.length co46, .bool t208, .string t209, .string t210] (0, 0) _ rfl (by (with_reducible repeat (first | refine bN_ ?_ _ | refine bD_ ?_ | refine bA_ ?_ _)); refine blk_put (cs := #[.slice Ao46 t205.length co46, .bool t208, .string t209, .string t210]) ?_ 3 _ rfl; (with_reducible repeat (first | refine bN_ ?_ _ | refine bD_ ?_ | refine bA_ ?_ _)); refine blk_put (cs := #[.slice Ao46 t205.length co46, .bool t208, .string t209, .string t210]) ?_ 2 _ rfl; (with_reducible repeat (first | refine bN_ ?_ _ | refine bD_ ?_ | refine bA_ ?_ _)); refine blk_put (cs := #[.slice Ao46 t205.length co46, .bool t208, .string t209, .string t210]) ?_ 1 _ rfl; (with_reducible repeat (first | refine bN_ ?_ _ | refine bD_ ?_ | refine bA_ ?_ _)); refine blk_put (cs := #[.slice Ao46 t205.length co46, .bool t208, .string t209, .string t210]) ?_ 0 _ rfl; (with_reducible repeat (first | refine bN_ ?_ _ | refine bD_ ?_ | refine bA_ ?_ _)); refine blk_put (cs := #[.slice Ao46 t205.length co46, .bool t208, .string t209, .string (⟨#[]⟩ : ByteArray)]) ?_ 3 _ rfl; (with_reducible repeat (first | refine bN_ ?_ _ | refine bD_ ?_ | refine bA_ ?_ _)); refine blk_put (cs := #[.slice Ao46 t205.length co46, .bool t208, .string (⟨#[]⟩ : ByteArray), .string (⟨#[]⟩ : ByteArray)]) ?_ 2 _ rfl; (with_reducible repeat (first | refine bN_ ?_ _ | refine bD_ ?_ | refine bA_ ?_ _)); refine blk_put (cs := #[.slice Ao46 t205.length co46, .bool false, .string (⟨#[]⟩ : ByteArray), .string (⟨#[]⟩ : ByteArray)]) ?_ 1 _ rfl; (with_reducible repeat (first | refine bN_ ?_ _ | refine bD_ ?_ | refine bA_ ?_ _)); refine blk_put (cs := #[.slice none 0 0, .bool false, .string (⟨#[]⟩ : ByteArray), .string (⟨#[]⟩ : ByteArray)]) ?_ 0 _ rfl; (with_reducible repeat (first | refine bN_ ?_ _ | refine bD_ ?_ | refine bA_ ?_ _)); exact BK189.out) Tryd.underlying26 rfl (by kernel_rfl)) rfl ?_
           exact ⟨_, by first | rfl | (simp [errW_none, errW_some] <;> rfl) | (simp [*, errW_none, errW_some] <;> rfl), by (with_reducible repeat (first | apply kA_ | apply kN_ | apply kD_)); exact Kd.R_mono (Kd.R_far (p := ⟨gb189, 3, none⟩) (Kd.R_far (p := ⟨gb189, 2, none⟩) (Kd.R_far (p := ⟨gb189, 1, none⟩) (Kd.R_far (p := ⟨gb189, 0, none⟩) (Kd.R_far (p := ⟨gb189, 3, none⟩) (Kd.R_far (p := ⟨gb189, 2, none⟩) (Kd.R_far (p := ⟨gb189, 1, none⟩) (Kd.R_far (p := ⟨gb189, 0, none⟩) (Kd.R_types HO207.out BK189.out (by decide)) (fun _ hk => hk.2) (.slice Ao46 t205.length co46)) (fun _ hk => hk.2) (.bool t208)) (fun _ hk => hk.2) (.string t209)) (fun _ hk => hk.2) (.string t210)) (fun _ hk => hk.2) (.slice Ao46 t205.length co46)) (fun _ hk => hk.2) (.bool t208)) (fun _ hk => hk.2) (.string t209)) (fun _ hk => hk.2) (.string t210)) (fun _ hk => trivial), by repeat (first | (with_reducible first | exact HB.out | apply bB_ | apply wN_ | apply bE_ | refine bS_ ?_ GE189.out | refine bS_ ?_ GE204.out) | exact HB.out)⟩
      ·
       replace c17 := Bool.eq_false_iff.mpr c17
       subst c17
       have H1 : ((spec_VerGeneric.f kj14 a1).bind fun bt216 => (if bt216.2.2.2.2.1 = true then (if a0 = 3 then (if 2 ≤ (bt216.1.length : Int) then (some ((bt216.1.take (2 : Int).toNat), bt216.2.1, bt216.2.2.1, bt216.2.2.2.1, bt216.2.2.2.2.1, bt216.2.2.2.2.2)) else (none)) else (some (bt216.1, bt216.2.1, bt216.2.2.1, bt216.2.2.2.1, bt216.2.2.2.2.1, bt216.2.2.2.2.2))) else (some (bt216.1, bt216.2.1, bt216.2.2.1, bt216.2.2.2.1, bt216.2.2.2.2.1, bt216.2.2.2.2.2)))) = some (r1, r2, r3, r4, r5, r6) := by rw [if_neg (show ¬ (false = true) by decide)] at H; exact H
       clear H
       have H := H1
       clear H1
       replace H := Option.bind_eq_some_iff.mp H
       obtain ⟨⟨t216, t219, t220, t221, t222, t223⟩, A490, H⟩ := H
       replace H : (if t222 = true then (if a0 = 3 then (if 2 ≤ (t216.length : Int) then (some ((t216.take (2 : Int).toNat), t219, t220, t221, t222, t223)) else (none)) else (some (t216, t219, t220, t221, t222, t223))) else (some (t216, t219, t220, t221, t222, t223))) = some (r1, r2, r3, r4, r5, r6) := H
       have A49 := aM_ A490
       clear A490
       by_cases c50 : t222 = true
       ·
        subst c50
        have H1 : (if a0 = 3 then (if 2 ≤ (t216.length : Int) then (some ((t216.take (2 : Int).toNat), t219, t220, t221, true, t223)) else (none)) else (some (t216, t219, t220, t221, true, t223))) = some (r1, r2, r3, r4, r5, r6) := by rw [if_pos rfl] at H; exact H
        clear H
        have H := H1
        clear H1
        by_cases c51 : a0 = 3
        ·
         rw [if_pos c51] at H
         have c51b0 : (a0 == 3) = true := beq_iff_eq.mpr c51
         have c51b1 : (a0 != 3) = false := bne_eq_false_iff_eq.mpr c51
         clear c51
         by_cases c52 : 2 ≤ (t216.length : Int)
         ·
          rw [if_pos c52] at H
          have c52b0 := eq_true c52
          have c52b1 : decide (2 ≤ (t216.length : Int)) = true := decide_eq_true c52
          clear c52
          obtain ⟨y224, hy224⟩ : ∃ y_ : List Int, y_ = (t216.take (2 : Int).toNat) := ⟨_, rfl⟩
          replace H : (some (y224, t219, t220, t221, true, t223)) = some (r1, r2, r3, r4, r5, r6) := by first | (rw [hy224]; with_reducible exact H) | (have H2_ := (Option.bind_some _ _).symm.trans H; rw [hy224]; with_reducible exact H2_) | (have H2_ := (Option.bind_some _ _).symm.trans H; with_reducible exact H2_) | with_reducible exact H | (rw [hy224]; exact H) | exact H
          have Ny224 := aM_ hy224
          clear hy224
          simp only [Option.some.injEq, Prod.mk.injEq] at H
          obtain ⟨rfl, rfl, rfl, rfl, rfl, rfl⟩ := H
          go_wp2_with (first | ((with_reducible refine gate_callee (f := 41) rfl ?_); refine goesL_ (some 53) rfl rfl Tryd.func41 (by kernel_rfl) rfl #[.string a1] rfl (by (try simp only [List.map_toArray, List.map_cons, List.map_nil]); first | done | rfl | (simp only [List.length_drop, List.length_take]; rfl)) ?_; (with_reducible refine (spec_VerGeneric.calls kj14 a1 t216 t219 t220 t221 true t223 _ A49.out).mono ?_); rintro e w53 ⟨v217, rfl, ho0, hb⟩; refine ⟨_, rfl, ?_⟩; have n0_ := aM_ (Kd.R_lower ho0 (below_size (by repeat (first | (with_reducible first | exact HB.out | apply bB_ | apply wN_ | apply bE_ | refine bS_ ?_ GE189.out) | exact HB.out)))); have n1_ := aM_ (blk_below (g := gb189) (o := .cells #[.slice none 0 0, .bool false, .string (⟨#[]⟩ : ByteArray), .string (⟨#[]⟩ : ByteArray)] 26 (0, 0)) (by (with_reducible repeat (first | refine bN_ ?_ _ | refine bD_ ?_ | refine bA_ ?_ _)); exact BK189.out) hb); have n2_ := aM_ (below_step (by repeat (first | (with_reducible first | exact HB.out | apply bB_ | apply wN_ | apply bE_ | refine bS_ ?_ GE189.out) | exact HB.out)) hb); clear BK189; clear HB; have HO218 := n0_; have BK189 := n1_; have HB := n2_; clear n0_ n1_ n2_; (try clear hb); (try clear hb2); (try clear hk); (try clear hi); (try clear ho0); obtain ⟨Ao54, co54, eo54⟩ := Kd.R_slice HO218.out; subst eo54; have hcz55_0 : w53.cell? ⟨gb189, 0, none⟩ = some (.slice none 0 0) := (bC_ BK189.out 0).trans rfl; have hcz55_1 : w53.cell? ⟨gb189, 1, none⟩ = some (.bool false) := (bC_ BK189.out 1).trans rfl; have hcz55_2 : w53.cell? ⟨gb189, 2, none⟩ = some (.string (⟨#[]⟩ : ByteArray)) := (bC_ BK189.out 2).trans rfl; have hcz55_3 : w53.cell? ⟨gb189, 3, none⟩ = some (.string (⟨#[]⟩ : ByteArray)) := (bC_ BK189.out 3).trans rfl; have hfz55_0 := bF_ BK189.out 0; have hfz55_1 := bF_ BK189.out 1; have hfz55_2 := bF_ BK189.out 2; have hfz55_3 := bF_ BK189.out 3) | ((with_reducible refine gate_store (t := 26) (p := 4) rfl ?_); refine store_event (t := 26) (p := 4) (v := ?vo_w56) (w1 := ((((w53.setCell ⟨gb189, 0, none⟩ (.slice Ao54 t216.length co54)).setCell ⟨gb189, 1, none⟩ (.bool t219)).setCell ⟨gb189, 2, none⟩ (.string t220)).setCell ⟨gb189, 3, none⟩ (.string t221))) ?hg ?ho ?hn ?hr ?_; (case ho => rfl); (case hg => rfl); (case hn => rfl); (case hr => first | (go_simp; done) | (go_simp; rfl)); intro w56 hw; have n0_ : Aside0 (Kd.R (Kd.int .u64) 22 w56 w.heap.size (fun _ => True) (.slice Ao54 t216.length co54) t216) := ⟨(by rw [hw]; exact (by (with_reducible repeat (first | apply kA_ | apply kN_ | apply kD_)); exact Kd.R_mono (Kd.R_far (p := ⟨gb189, 3, none⟩) (Kd.R_far (p := ⟨gb189, 2, none⟩) (Kd.R_far (p := ⟨gb189, 1, none⟩) (Kd.R_far (p := ⟨gb189, 0, none⟩) (Kd.R_types HO218.out BK189.out (by decide)) (fun _ hk => hk.2) (.slice Ao54 t216.length co54)) (fun _ hk => hk.2) (.bool t219)) (fun _ hk => hk.2) (.string t220)) (fun _ hk => hk.2) (.string t221)) (fun _ hk => trivial)))⟩; have n1_ : Aside0 (w56.heap[gb189]? = some (.cells #[.slice Ao54 t216.length co54, .bool t219, .string t220, .string t221] 26 (0, 0))) := ⟨(by rw [hw]; exact (by (with_reducible repeat (first | refine bN_ ?_ _ | refine bD_ ?_ | refine bA_ ?_ _)); refine blk_put (cs := #[.slice Ao54 t216.length co54, .bool t219, .string t220, .string (⟨#[]⟩ : ByteArray)]) ?_ 3 _ rfl; (with_reducible repeat (first | refine bN_ ?_ _ | refine bD_ ?_ | refine bA_ ?_ _)); refine blk_put (cs := #[.slice Ao54 t216.length co54, .bool t219, .string (⟨#[]⟩ : ByteArray), .string (⟨#[]⟩ : ByteArray)]) ?_ 2 _ rfl; (with_reducible repeat (first | refine bN_ ?_ _ | refine bD_ ?_ | refine bA_ ?_ _)); refine blk_put (cs := #[.slice Ao54 t216.length co54, .bool false, .string (⟨#[]⟩ : ByteArray), .string (⟨#[]⟩ : ByteArray)]) ?_ 1 _ rfl; (with_reducible repeat (first | refine bN_ ?_ _ | refine bD_ ?_ | refine bA_ ?_ _)); refine blk_put (cs := #[.slice none 0 0, .bool false, .string (⟨#[]⟩ : ByteArray), .string (⟨#[]⟩ : ByteArray)]) ?_ 0 _ rfl; (with_reducible repeat (first | refine bN_ ?_ _ | refine bD_ ?_ | refine bA_ ?_ _)); exact BK189.out))⟩; have n2_ : Aside0 (Below w.heap.size w w56) := ⟨(by rw [hw]; exact (by repeat (first | (with_reducible first | exact HB.out | apply bB_ | apply wN_ | apply bE_ | refine bS_ ?_ GE189.out) | exact HB.out)))⟩; clear hw; clear HO218; clear BK189; clear HB; have HO218 := n0_; have BK189 := n1_; have HB := n2_; clear n0_ n1_ n2_; have hcz57_0 : w56.cell? ⟨gb189, 0, none⟩ = some (.slice Ao54 t216.length co54) := (bC_ BK189.out 0).trans rfl; have hcz57_1 : w56.cell? ⟨gb189, 1, none⟩ = some (.bool t219) := (bC_ BK189.out 1).trans rfl; have hcz57_2 : w56.cell? ⟨gb189, 2, none⟩ = some (.string t220) := (bC_ BK189.out 2).trans rfl; have hcz57_3 : w56.cell? ⟨gb189, 3, none⟩ = some (.string t221) := (bC_ BK189.out 3).trans rfl; have hfz57_0 := bF_ BK189.out 0; have hfz57_1 := bF_ BK189.out 1; have hfz57_2 := bF_ BK189.out 2; have hfz57_3 := bF_ BK189.out 3; have q58 : (2 : Int) ≤ ((t216.length : Int) : Int) := of_decide_eq_true (by first | (with_reducible assumption) | assumption); obtain ⟨i058, hi058, _, hsz58, _⟩ := info_parts info22; have hcut58 := cut_to (P := Tryd.prog) 24 22 .i64 Tryd.underlying24 hi058 Ao54 t216.length co54 2 (by omega) q58 (Kd.R_reads' HO218.out).2.1; have hr58 := Kd.R_take (m := (2 : Int).toNat) HO218.out (by omega); have hy58 : y224.length = (2 : Int).toNat := (by rw [Ny224.out, List.length_take]; omega); rw [← Ny224.out] at hr58; rw [← hy58] at hr58 hcut58; clear hy58 hi058 hsz58 HO218; have HO226 := aM_ hr58; clear hr58; replace q58 := eq_true q58))
          refine bodyPost_ret (results_ctt rfl _ _ gb189 26 #[.slice Ao54 y224.length co54, .bool t219, .string t220, .string t221] (0, 0) _ rfl (by (with_reducible repeat (first | refine bN_ ?_ _ | refine bD_ ?_ | refine bA_ ?_ _)); refine blk_put (cs := #[.slice Ao54 y224.length co54, .bool t219, .string t220, .string t221]) ?_ 3 _ rfl; (with_reducible repeat (first | refine bN_ ?_ _ | refine bD_ ?_ | refine bA_ ?_ _)); refine blk_put (cs := #[.slice Ao54 y224.length co54, .bool t219, .string t220, .string t221]) ?_ 2 _ rfl; (with_reducible repeat (first | refine bN_ ?_ _ | refine bD_ ?_ | refine bA_ ?_ _)); refine blk_put (cs := #[.slice Ao54 y224.length co54, .bool t219, .string t220, .string t221]) ?_ 1 _ rfl; (with_reducible repeat (first | refine bN_ ?_ _ | refine bD_ ?_ | refine bA_ ?_ _)); refine blk_put (cs := #[.slice Ao54 y224.length co54, .bool t219, .string t220, .string t221]) ?_ 0 _ rfl; (with_reducible repeat (first | refine bN_ ?_ _ | refine bD_ ?_ | refine bA_ ?_ _)); refine blk_put (cs := #[.slice Ao54 t216.length co54, .bool t219, .string t220, .string t221]) ?_ 0 _ rfl; (with_reducible repeat (first | refine bN_ ?_ _ | refine bD_ ?_ | refine bA_ ?_ _)); exact BK189.out) Tryd.underlying26 rfl (by kernel_rfl)) rfl ?_
          exact ⟨_, by first | rfl | (simp [errW_none, errW_some] <;> rfl) | (simp [*, errW_none, errW_some] <;> rfl), by (with_reducible repeat (first | apply kA_ | apply kN_ | apply kD_)); exact Kd.R_mono (Kd.R_far (p := ⟨gb189, 3, none⟩) (Kd.R_far (p := ⟨gb189, 2, none⟩) (Kd.R_far (p := ⟨gb189, 1, none⟩) (Kd.R_far (p := ⟨gb189, 0, none⟩) (Kd.R_far (p := ⟨gb189, 0, none⟩) (Kd.R_types HO226.out BK189.out (by decide)) (fun _ hk => hk.2) (.slice Ao54 y224.length co54)) (fun _ hk => hk.2) (.slice Ao54 y224.length co54)) (fun _ hk => hk.2) (.bool t219)) (fun _ hk => hk.2) (.string t220)) (fun _ hk => hk.2) (.string t221)) (fun _ hk => trivial), by repeat (first | (with_reducible first | exact HB.out | apply bB_ | apply wN_ | apply bE_ | refine bS_ ?_ GE189.out) | exact HB.out)⟩
         ·
          rw [if_neg c52] at H
          exact absurd H (by simp)
        ·
         rw [if_neg c51] at H
         have c51b0 : (a0 == 3) = false := beq_eq_false_iff_ne.mpr c51
         have c51b1 : (a0 != 3) = true := bne_iff_ne.mpr c51
         simp only [Option.some.injEq, Prod.mk.injEq] at H
         obtain ⟨rfl, rfl, rfl, rfl, rfl, rfl⟩ := H
         go_wp2_with (first | ((with_reducible refine gate_callee (f := 41) rfl ?_); refine goesL_ (some 53) rfl rfl Tryd.func41 (by kernel_rfl) rfl #[.string a1] rfl (by (try simp only [List.map_toArray, List.map_cons, List.map_nil]); first | done | rfl | (simp only [List.length_drop, List.length_take]; rfl)) ?_; (with_reducible refine (spec_VerGeneric.calls kj14 a1 t216 t219 t220 t221 true t223 _ A49.out).mono ?_); rintro e w59 ⟨v217, rfl, ho0, hb⟩; refine ⟨_, rfl, ?_⟩; have n0_ := aM_ (Kd.R_lower ho0 (below_size (by repeat (first | (with_reducible first | exact HB.out | apply bB_ | apply wN_ | apply bE_ | refine bS_ ?_ GE189.out) | exact HB.out)))); have n1_ := aM_ (blk_below (g := gb189) (o := .cells #[.slice none 0 0, .bool false, .string (⟨#[]⟩ : ByteArray), .string (⟨#[]⟩ : ByteArray)] 26 (0, 0)) (by (with_reducible repeat (first | refine bN_ ?_ _ | refine bD_ ?_ | refine bA_ ?_ _)); exact BK189.out) hb); have n2_ := aM_ (below_step (by repeat (first | (with_reducible first | exact HB.out | apply bB_ | apply wN_ | apply bE_ | refine bS_ ?_ GE189.out) | exact HB.out)) hb); clear BK189; clear HB; have HO218 := n0_; have BK189 := n1_; have HB := n2_; clear n0_ n1_ n2_; (try clear hb); (try clear hb2); (try clear hk); (try clear hi); (try clear ho0); obtain ⟨Ao60, co60, eo60⟩ := Kd.R_slice HO218.out; subst eo60; have hcz61_0 : w59.cell? ⟨gb189, 0, none⟩ = some (.slice none 0 0) := (bC_ BK189.out 0).trans rfl; have hcz61_1 : w59.cell? ⟨gb189, 1, none⟩ = some (.bool false) := (bC_ BK189.out 1).trans rfl; have hcz61_2 : w59.cell? ⟨gb189, 2, none⟩ = some (.string (⟨#[]⟩ : ByteArray)) := (bC_ BK189.out 2).trans rfl; have hcz61_3 : w59.cell? ⟨gb189, 3, none⟩ = some (.string (⟨#[]⟩ : ByteArray)) := (bC_ BK189.out 3).trans rfl; have hfz61_0 := bF_ BK189.out 0; have hfz61_1 := bF_ BK189.out 1; have hfz61_2 := bF_ BK189.out 2; have hfz61_3 := bF_ BK189.out 3))
         refine bodyPost_ret (results_ctt rfl _ _ gb189 26 #[.slice Ao60 t216.length co60, .bool t219, .string t220, .string t221] (0, 0) _ rfl (by (with_reducible repeat (first | refine bN_ ?_ _ | refine bD_ ?_ | refine bA_ ?_ _)); refine blk_put (cs := #[.slice Ao60 t216.length co60, .bool t219, .string t220, .string t221]) ?_ 3 _ rfl; (with_reducible repeat (first | refine bN_ ?_ _ | refine bD_ ?_ | refine bA_ ?_ _)); refine blk_put (cs := #[.slice Ao60 t216.length co60, .bool t219, .string t220, .string t221]) ?_ 2 _ rfl; (with_reducible repeat (first | refine bN_ ?_ _ | refine bD_ ?_ | refine bA_ ?_ _)); refine blk_put (cs := #[.slice Ao60 t216.length co60, .bool t219, .string t220, .string t221]) ?_ 1 _ rfl; (with_reducible repeat (first | refine bN_ ?_ _ | refine bD_ ?_ | refine bA_ ?_ _)); refine blk_put (cs := #[.slice Ao60 t216.length co60, .bool t219, .string t220, .string t221]) ?_ 0 _ rfl; (with_reducible repeat (first | refine bN_ ?_ _ | refine bD_ ?_ | refine bA_ ?_ _)); refine blk_put (cs := #[.slice Ao60 t216.length co60, .bool t219, .string t220, .string (⟨#[]⟩ : ByteArray)]) ?_ 3 _ rfl; (with_reducible repeat (first | refine bN_ ?_ _ | refine bD_ ?_ | refine bA_ ?_ _)); refine blk_put (cs := #[.slice Ao60 t216.length co60, .bool t219, .string (⟨#[]⟩ : ByteArray), .string (⟨#[]⟩ : ByteArray)]) ?_ 2 _ rfl; (with_reducible repeat (first | refine bN_ ?_ _ | refine bD_ ?_ | refine bA_ ?_ _)); refine blk_put (cs := #[.slice Ao60 t216.length co60, .bool false, .string (⟨#[]⟩ : ByteArray), .string (⟨#[]⟩ : ByteArray)]) ?_ 1 _ rfl; (with_reducible repeat (first | refine bN_ ?_ _ | refine bD_ ?_ | refine bA_ ?_ _)); refine blk_put (cs := #[.slice none 0 0, .bool false, .string (⟨#[]⟩ : ByteArray), .string (⟨#[]⟩ : ByteArray)]) ?_ 0 _ rfl; (with_reducible repeat (first | refine bN_ ?_ _ | refine bD_ ?_ | refine bA_ ?_ _)); exact BK189.out) Tryd.underlying26 rfl (by kernel_rfl)) rfl ?_
         exact ⟨_, by first | rfl | (simp [errW_none, errW_some] <;> rfl) | (simp [*, errW_none, errW_some] <;> rfl), by (with_reducible repeat (first | apply kA_ | apply kN_ | apply kD_)); exact Kd.R_mono (Kd.R_far (p := ⟨gb189, 3, none⟩) (Kd.R_far (p := ⟨gb189, 2, none⟩) (Kd.R_far (p := ⟨gb189, 1, none⟩) (Kd.R_far (p := ⟨gb189, 0, none⟩) (Kd.R_far (p := ⟨gb189, 3, none⟩) (Kd.R_far (p := ⟨gb189, 2, none⟩) (Kd.R_far (p := ⟨gb189, 1, none⟩) (Kd.R_far (p := ⟨gb189, 0, none⟩) (Kd.R_types HO218.out BK189.out (by decide)) (fun _ hk => hk.2) (.slice Ao60 t216.length co60)) (fun _ hk => hk.2) (.bool t219)) (fun _ hk => hk.2) (.string t220)) (fun _ hk => hk.2) (.string t221)) (fun _ hk => hk.2) (.slice Ao60 t216.length co60)) (fun _ hk => hk.2) (.bool t219)) (fun _ hk => hk.2) (.string t220)) (fun _ hk => hk.2) (.string t221)) (fun _ hk => trivial), by repeat (first | (with_reducible first | exact HB.out | apply bB_ | apply wN_ | apply bE_ | refine bS_ ?_ GE189.out) | exact HB.out)⟩
       ·
        replace c50 := Bool.eq_false_iff.mpr c50
        subst c50
        have H1 : (some (t216, t219, t220, t221, false, t223)) = some (r1, r2, r3, r4, r5, r6) := by rw [if_neg (show ¬ (false = true) by decide)] at H; exact H
        clear H
        have H := H1
        clear H1
        simp only [Option.some.injEq, Prod.mk.injEq] at H
        obtain ⟨rfl, rfl, rfl, rfl, rfl, rfl⟩ := H
        go_wp2_with (first | ((with_reducible refine gate_callee (f := 41) rfl ?_); refine goesL_ (some 53) rfl rfl Tryd.func41 (by kernel_rfl) rfl #[.string a1] rfl (by (try simp only [List.map_toArray, List.map_cons, List.map_nil]); first | done | rfl | (simp only [List.length_drop, List.length_take]; rfl)) ?_; (with_reducible refine (spec_VerGeneric.calls kj14 a1 t216 t219 t220 t221 false t223 _ A49.out).mono ?_); rintro e w62 ⟨v217, rfl, ho0, hb⟩; refine ⟨_, rfl, ?_⟩; have n0_ := aM_ (Kd.R_lower ho0 (below_size (by repeat (first | (with_reducible first | exact HB.out | apply bB_ | apply wN_ | apply bE_ | refine bS_ ?_ GE189.out) | exact HB.out)))); have n1_ := aM_ (blk_below (g := gb189) (o := .cells #[.slice none 0 0, .bool false, .string (⟨#[]⟩ : ByteArray), .string (⟨#[]⟩ : ByteArray)] 26 (0, 0)) (by (with_reducible repeat (first | refine bN_ ?_ _ | refine bD_ ?_ | refine bA_ ?_ _)); exact BK189.out) hb); have n2_ := aM_ (below_step (by repeat (first | (with_reducible first | exact HB.out | apply bB_ | apply wN_ | apply bE_ | refine bS_ ?_ GE189.out) | exact HB.out)) hb); clear BK189; clear HB; have HO218 := n0_; have BK189 := n1_; have HB := n2_; clear n0_ n1_ n2_; (try clear hb); (try clear hb2); (try clear hk); (try clear hi); (try clear ho0); obtain ⟨Ao63, co63, eo63⟩ := Kd.R_slice HO218.out; subst eo63; have hcz64_0 : w62.cell? ⟨gb189, 0, none⟩ = some (.slice none 0 0) := (bC_ BK189.out 0).trans rfl; have hcz64_1 : w62.cell? ⟨gb189, 1, none⟩ = some (.bool false) := (bC_ BK189.out 1).trans rfl; have hcz64_2 : w62.cell? ⟨gb189, 2, none⟩ = some (.string (⟨#[]⟩ : ByteArray)) := (bC_ BK189.out 2).trans rfl; have hcz64_3 : w62.cell? ⟨gb189, 3, none⟩ = some (.string (⟨#[]⟩ : ByteArray)) := (bC_ BK189.out 3).trans rfl; have hfz64_0 := bF_ BK189.out 0; have hfz64_1 := bF_ BK189.out 1; have hfz64_2 := bF_ BK189.out 2; have hfz64_3 := bF_ BK189.out 3))
        refine bodyPost_ret (results_ctt rfl _ _ gb189 26 #[.slice Ao63 t216.length co63, .bool t219, .string t220, .string t221] (0, 0) _ rfl (by (with_reducible repeat (first | refine bN_ ?_ _ | refine bD_ ?_ | refine bA_ ?_ _)); refine blk_put (cs := #[.slice Ao63 t216.length co63, .bool t219, .string t220, .string t221]) ?_ 3 _ rfl; (with_reducible repeat (first | refine bN_ ?_ _ | refine bD_ ?_ | refine bA_ ?_ _)); refine blk_put (cs := #[.slice Ao63 t216.length co63, .bool t219, .string t220, .string t221]) ?_ 2 _ rfl; (with_reducible repeat (first | refine bN_ ?_ _ | refine bD_ ?_ | refine bA_ ?_ _)); refine blk_put (cs := #[.slice Ao63 t216.length co63, .bool t219, .string t220, .string t221]) ?_ 1 _ rfl; (with_reducible repeat (first | refine bN_ ?_ _ | refine bD_ ?_ | refine bA_ ?_ _)); refine blk_put (cs := #[.slice Ao63 t216.length co63, .bool t219, .string t220, .string t221]) ?_ 0 _ rfl; (with_reducible repeat (first | refine bN_ ?_ _ | refine bD_ ?_ | refine bA_ ?_ _)); refine blk_put (cs := #[.slice Ao63 t216.length co63, .bool t219, .string t220, .string (⟨#[]⟩ : ByteArray)]) ?_ 3 _ rfl; (with_reducible repeat (first | refine bN_ ?_ _ | refine bD_ ?_ | refine bA_ ?_ _)); refine blk_put (cs := #[.slice Ao63 t216.length co63, .bool t219, .string (⟨#[]⟩ : ByteArray), .string (⟨#[]⟩ : ByteArray)]) ?_ 2 _ rfl; (with_reducible repeat (first | refine bN_ ?_ _ | refine bD_ ?_ | refine bA_ ?_ _)); refine blk_put (cs := #[.slice Ao63 t216.length co63, .bool false, .string (⟨#[]⟩ : ByteArray), .string (⟨#[]⟩ : ByteArray)]) ?_ 1 _ rfl; (with_reducible repeat (first | refine bN_ ?_ _ | refine bD_ ?_ | refine bA_ ?_ _)); refine blk_put (cs := #[.slice none 0 0, .bool false, .string (⟨#[]⟩ : ByteArray), .string (⟨#[]⟩ : ByteArray)]) ?_ 0 _ rfl; (with_reducible repeat (first | refine bN_ ?_ _ | refine bD_ ?_ | refine bA_ ?_ _)); exact BK189.out) Tryd.underlying26 rfl (by kernel_rfl)) rfl ?_
        exact ⟨_, by first | rfl | (simp [errW_none, errW_some] <;> rfl) | (simp [*, errW_none, errW_some] <;> rfl), by (with_reducible repeat (first | apply kA_ | apply kN_ | apply kD_)); exact Kd.R_mono (Kd.R_far (p := ⟨gb189, 3, none⟩) (Kd.R_far (p := ⟨gb189, 2, none⟩) (Kd.R_far (p := ⟨gb189, 1, none⟩) (Kd.R_far (p := ⟨gb189, 0, none⟩) (Kd.R_far (p := ⟨gb189, 3, none⟩) (Kd.R_far (p := ⟨gb189, 2, none⟩) (Kd.R_far (p := ⟨gb189, 1, none⟩) (Kd.R_far (p := ⟨gb189, 0, none⟩) (Kd.R_types HO218.out BK189.out (by decide)) (fun _ hk => hk.2) (.slice Ao63 t216.length co63)) (fun _ hk => hk.2) (.bool t219)) (fun _ hk => hk.2) (.string t220)) (fun _ hk => hk.2) (.string t221)) (fun _ hk => hk.2) (.slice Ao63 t216.length co63)) (fun _ hk => hk.2) (.bool t219)) (fun _ hk => hk.2) (.string t220)) (fun _ hk => hk.2) (.string t221)) (fun _ hk => trivial), by repeat (first | (with_reducible first | exact HB.out | apply bB_ | apply wN_ | apply bE_ | refine bS_ ?_ GE189.out) | exact HB.out)⟩

/-! ### laws_zzFits16: function 42 -/
def laws_zzFits16.f (a0_0 : Int) (a0_1 : Int) (a0_2 : Int) (a0_3 : ByteArray) : Option (Bool) := if (a0_3.size : Int) > 2147483647 then (some false) else (some true)
set_option maxHeartbeats 8000000 in
set_option maxRecDepth 100000 in
theorem laws_zzFits16.calls (a0_0 : Int) (a0_1 : Int) (a0_2 : Int) (a0_3 : ByteArray) (r : Bool) (w : World) (h : laws_zzFits16.f a0_0 a0_1 a0_2 a0_3 = some r) :
  Calls Tryd.prog 42 #[.agg #[.int .i64 a0_0, .int .u64 a0_1, .int .i64 a0_2, .string a0_3]] w fun e w' => e = .returned (.bool r) ∧ Below w.heap.size w w' := by
 have hu47 := Tryd.underlying47
 have HB := aM_ (Below.refl w.heap.size w)
 have H : (if (a0_3.size : Int) > 2147483647 then (some false) else (some true)) = some r := h
 clear h
 by_cases c2 : (a0_3.size : Int) > 2147483647
 ·
  rw [if_pos c2] at H
  have c2b0 : decide (2147483647 < (a0_3.size : Int)) = true := decide_eq_true c2
  have c2b1 : decide (2147483647 < a0_3.size) = true := decide_eq_true (by omega)
  clear c2
  obtain rfl := Option.some.inj H
  go_enter Tryd.func42, Tryd.ntmps42
  go_wp2_with (first | ((with_reducible refine gate_dst (N := 1) rfl ?_); refine box_event ?hg (N := 1) ?hd (cs := #[.int .i64 a0_0, .int .u64 a0_1, .int .i64 a0_2, .string a0_3]) (t := 47) ?hr ?_; (case hd => rfl); (case hg => rfl); (case hr => first | (go_simp; done) | (go_simp; rfl)); intro gb227 hg w3 hbox hb; have n0_ := aM_ (below_step (by repeat (first | (with_reducible first | exact HB.out | apply bB_ | apply wN_ | apply bE_) | exact HB.out)) hb); have n1_ := aM_ (hbox); have n2_ := aM_ ((by rw [hg]; exact (below_size (by repeat (first | (with_reducible first | exact HB.out | apply bB_ | apply wN_ | apply bE_) | exact HB.out))) : w.heap.size ≤ gb227)); have n3_ := aM_ ((by rw [hg]; exact (below_size (by repeat (first | (with_reducible first | exact HB.out | apply bB_ | apply wN_ | apply bE_) | exact HB.out))) : w.heap.size ≤ gb227)); clear HB; have HB := n0_; have BK227 := n1_; have GW227 := n2_; have GE227 := n3_; clear n0_ n1_ n2_ n3_; clear hb hbox hg; have hcz4_0 : w3.cell? ⟨gb227, 0, none⟩ = some (.int .i64 a0_0) := (bC_ BK227.out 0).trans rfl; have hcz4_1 : w3.cell? ⟨gb227, 1, none⟩ = some (.int .u64 a0_1) := (bC_ BK227.out 1).trans rfl; have hcz4_2 : w3.cell? ⟨gb227, 2, none⟩ = some (.int .i64 a0_2) := (bC_ BK227.out 2).trans rfl; have hcz4_3 : w3.cell? ⟨gb227, 3, none⟩ = some (.string a0_3) := (bC_ BK227.out 3).trans rfl; have hfz4_0 := bF_ BK227.out 0; have hfz4_1 := bF_ BK227.out 1; have hfz4_2 := bF_ BK227.out 2; have hfz4_3 := bF_ BK227.out 3))
  go_ret
  exact ⟨by first | rfl | (simp [errW_none, errW_some] <;> rfl) | (simp [*, errW_none, errW_some] <;> rfl) | (exfalso; contradiction), by repeat (first | (with_reducible first | exact HB.out | apply bB_ | apply wN_ | apply bE_ | refine bS_ ?_ GE227.out) | exact HB.out)⟩
 ·
  rw [if_neg c2] at H
  have c2b0 : decide (2147483647 < (a0_3.size : Int)) = false := decide_eq_false c2
  have c2b1 : decide (2147483647 < a0_3.size) = false := decide_eq_false (by omega)
  clear c2
  obtain rfl := Option.some.inj H
  go_enter Tryd.func42, Tryd.ntmps42
  go_wp2_with (first | ((with_reducible refine gate_dst (N := 1) rfl ?_); refine box_event ?hg (N := 1) ?hd (cs := #[.int .i64 a0_0, .int .u64 a0_1, .int .i64 a0_2, .string a0_3]) (t := 47) ?hr ?_; (case hd => rfl); (case hg => rfl); (case hr => first | (go_simp; done) | (go_simp; rfl)); intro gb227 hg w5 hbox hb; have n0_ := aM_ (below_step (by repeat (first | (with_reducible first | exact HB.out | apply bB_ | apply wN_ | apply bE_) | exact HB.out)) hb); have n1_ := aM_ (hbox); have n2_ := aM_ ((by rw [hg]; exact (below_size (by repeat (first | (with_reducible first | exact HB.out | apply bB_ | apply wN_ | apply bE_) | exact HB.out))) : w.heap.size ≤ gb227)); have n3_ := aM_ ((by rw [hg]; exact (below_size (by repeat (first | (with_reducible first | exact HB.out | apply bB_ | apply wN_ | apply bE_) | exact HB.out))) : w.heap.size ≤ gb227)); clear HB; have HB := n0_; have BK227 := n1_; have GW227 := n2_; have GE227 := n3_; clear n0_ n1_ n2_ n3_; clear hb hbox hg; have hcz6_0 : w5.cell? ⟨gb227, 0, none⟩ = some (.int .i64 a0_0) := (bC_ BK227.out 0).trans rfl; have hcz6_1 : w5.cell? ⟨gb227, 1, none⟩ = some (.int .u64 a0_1) := (bC_ BK227.out 1).trans rfl; have hcz6_2 : w5.cell? ⟨gb227, 2, none⟩ = some (.int .i64 a0_2) := (bC_ BK227.out 2).trans rfl; have hcz6_3 : w5.cell? ⟨gb227, 3, none⟩ = some (.string a0_3) := (bC_ BK227.out 3).trans rfl; have hfz6_0 := bF_ BK227.out 0; have hfz6_1 := bF_ BK227.out 1; have hfz6_2 := bF_ BK227.out 2; have hfz6_3 := bF_ BK227.out 3))
  go_ret
  exact ⟨by first | rfl | (simp [errW_none, errW_some] <;> rfl) | (simp [*, errW_none, errW_some] <;> rfl) | (exfalso; contradiction), by repeat (first | (with_reducible first | exact HB.out | apply bB_ | apply wN_ | apply bE_ | refine bS_ ?_ GE227.out) | exact HB.out)⟩

/-! ### laws_zzFits15: function 17 -/
def laws_zzFits15.l0 : Nat → List (S47) → Int → Int → Option (Bool)
 | 0, _, _, _ => none
 | k + 1, x8, x9, x10 => if x10 < x9 then (if 0 ≤ x10 then (if x10 < (x8.length : Int) then ((laws_zzFits16.f ((rd_T47 x8 x10).f0) ((rd_T47 x8 x10).f1) ((rd_T47 x8 x10).f2) ((rd_T47 x8 x10).f3)).bind fun t230 => (if t230 = true then (laws_zzFits15.l0 k x8 x9 (wrap64 (x10 + 1))) else (some false))) else (none)) else (none)) else (some true)
def laws_zzFits15.f (k : Nat) (l0 : List (S47)) : Option (Bool) := if (l0.length : Int) > 2147483647 then (some false) else (laws_zzFits15.l0 k l0 (l0.length : Int) 0)
set_option maxHeartbeats 8000000 in
set_option maxRecDepth 100000 in
theorem laws_zzFits15.calls (k : Nat) (A0 : Option Addr) (c0 : Nat) (l0 : List (S47)) (r : Bool) (w : World) (hr0 : Kd.C k47 w A0 l0.length l0) (hc0 : l0.length ≤ c0) (h : laws_zzFits15.f k l0 = some r) :
  Calls Tryd.prog 17 #[.slice A0 l0.length c0] w fun e w' => e = .returned (.bool r) ∧ Below w.heap.size w w' := by
 have hu47 := Tryd.underlying47
 have HR0 := aM_ hr0
 have HC0 := aM_ hc0
 clear hr0 hc0
 have HB := aM_ (Below.refl w.heap.size w)
 have H : (if (l0.length : Int) > 2147483647 then (some false) else (laws_zzFits15.l0 k l0 (l0.length : Int) 0)) = some r := h
 clear h
 by_cases c2 : (l0.length : Int) > 2147483647
 ·
  rw [if_pos c2] at H
  have c2b0 : decide (2147483647 < (l0.length : Int)) = true := decide_eq_true c2
  have c2b1 : decide (2147483647 < l0.length) = true := decide_eq_true (by omega)
  clear c2
  obtain rfl := Option.some.inj H
  go_enter Tryd.func17, Tryd.ntmps17
  go_wp2
  go_ret
  exact ⟨by first | rfl | (simp [errW_none, errW_some] <;> rfl) | (simp [*, errW_none, errW_some] <;> rfl) | (exfalso; contradiction), by repeat (first | (with_reducible first | exact HB.out | apply bB_ | apply wN_ | apply bE_) | exact HB.out)⟩
 ·
  rw [if_neg c2] at H
  have c2b0 : decide (2147483647 < (l0.length : Int)) = false := decide_eq_false c2
  have c2b1 : decide (2147483647 < l0.length) = false := decide_eq_false (by omega)
  clear c2
  have H' := aM_ H
  clear H
  go_enter Tryd.func17, Tryd.ntmps17
  go_wp2
  go_loopg [10] k (fun kq v10 w' => ∃ (x10_1 : Int), v10 = .int .i64 x10_1 ∧ Aside0 (laws_zzFits15.l0 kq l0 (l0.length : Int) x10_1 = some r) ∧ Aside0 (kq ≤ k) ∧ Aside0 (Below w.heap.size w w'))
  case atStart => exact ⟨(0), (by first | rfl | (simp; done) | (simp [*]; done)), H', ⟨Nat.le_refl _⟩, ⟨by repeat (first | (with_reducible first | exact HB.out | apply bB_ | apply wN_ | apply bE_) | exact HB.out)⟩⟩
  case round =>
   clear H'
   try clear c1
   try clear c2
   try clear c2b0
   try clear c2b1
   try clear p2
   obtain ⟨x10_1, rfl, HA, HK1, HB⟩ := hrel
   cases gk with
   | zero => exact absurd HA.out (by simp [laws_zzFits15.l0])
   | succ k1 =>
    have H := HA.out
    clear HA
    simp only [laws_zzFits15.l0] at H
    by_cases c3 : x10_1 < (l0.length : Int)
    ·
     rw [if_pos c3] at H
     have c3b0 : decide (x10_1 < (l0.length : Int)) = true := decide_eq_true c3
     clear c3
     by_cases c4 : 0 ≤ x10_1
     ·
      rw [if_pos c4] at H
      have c4b0 : decide (0 ≤ x10_1) = true := decide_eq_true c4
      clear c4
      by_cases c5 : x10_1 < (l0.length : Int)
      ·
       rw [if_pos c5] at H
       have c5b0 : decide (x10_1 < (l0.length : Int)) = true := decide_eq_true c5
       clear c5
       replace H := Option.bind_eq_some_iff.mp H
       obtain ⟨t230, A60, H⟩ := H
       replace H : (if t230 = true then (laws_zzFits15.l0 k1 l0 (l0.length : Int) (wrap64 (x10_1 + 1))) else (some false)) = some r := H
       have A6 := aM_ A60
       clear A60
       by_cases c7 : t230 = true
       ·
        subst c7
        have H1 : (laws_zzFits15.l0 k1 l0 (l0.length : Int) (wrap64 (x10_1 + 1))) = some r := by rw [if_pos rfl] at H; exact H
        clear H
        have H := H1
        clear H1
        have H' := aM_ H
        clear H
        have p228 : 0 ≤ (x10_1 : Int) := of_decide_eq_true (by first | (with_reducible assumption) | assumption)
        have q228 : x10_1 < (l0.length : Int) := of_decide_eq_true (by first | (with_reducible assumption) | assumption)
        obtain ⟨ad228, e228, hx228_0, hx228_1, hx228_2, hx228_3⟩ := at_T47 HR0.out x10_1 p228 q228
        cases e228
        replace hx228_0 := (HB.out.cell (World.block_lt_of_cell? w _ hx228_0)).trans hx228_0
        replace hx228_1 := (HB.out.cell (World.block_lt_of_cell? w _ hx228_1)).trans hx228_1
        replace hx228_2 := (HB.out.cell (World.block_lt_of_cell? w _ hx228_2)).trans hx228_2
        replace hx228_3 := (HB.out.cell (World.block_lt_of_cell? w _ hx228_3)).trans hx228_3
        replace p228 := eq_true p228
        replace q228 := eq_true q228
        go_wp2_with (first | ((with_reducible refine gate_dst (N := 4) rfl ?_); refine box_event ?hg (N := 4) ?hd (cs := #[.int .i64 0, .int .u64 0, .int .i64 0, .string (⟨#[]⟩ : ByteArray)]) (t := 47) ?hr ?_; (case hd => rfl); (case hg => rfl); (case hr => first | (go_simp; done) | (go_simp; rfl)); intro gb229 hg w8 hbox hb; have n0_ := aM_ (below_step (by repeat (first | (with_reducible first | exact HB.out | apply bB_ | apply wN_ | apply bE_) | exact HB.out)) hb); have n1_ := aM_ (hbox); have n2_ := aM_ ((by rw [hg]; exact (below_size (by repeat (first | (with_reducible first | exact HB.out | apply bB_ | apply wN_ | apply bE_) | exact HB.out))) : w.heap.size ≤ gb229)); have n3_ := aM_ ((by rw [hg]; exact (below_size (by repeat (first | (with_reducible first | exact HB.out | apply bB_ | apply wN_ | apply bE_) | exact HB.out))) : w.heap.size ≤ gb229)); clear HB; have HB := n0_; have BK229 := n1_; have GW229 := n2_; have GE229 := n3_; clear n0_ n1_ n2_ n3_; clear hb hbox hg; have hcz9_0 : w8.cell? ⟨gb229, 0, none⟩ = some (.int .i64 0) := (bC_ BK229.out 0).trans rfl; have hcz9_1 : w8.cell? ⟨gb229, 1, none⟩ = some (.int .u64 0) := (bC_ BK229.out 1).trans rfl; have hcz9_2 : w8.cell? ⟨gb229, 2, none⟩ = some (.int .i64 0) := (bC_ BK229.out 2).trans rfl; have hcz9_3 : w8.cell? ⟨gb229, 3, none⟩ = some (.string (⟨#[]⟩ : ByteArray)) := (bC_ BK229.out 3).trans rfl; have hfz9_0 := bF_ BK229.out 0; have hfz9_1 := bF_ BK229.out 1; have hfz9_2 := bF_ BK229.out 2; have hfz9_3 := bF_ BK229.out 3) | ((with_reducible refine gate_callee (f := 42) rfl ?_); refine goesL_ (some 15) rfl rfl Tryd.func42 (by kernel_rfl) rfl #[.agg #[.int .i64 ((rd_T47 l0 x10_1).f0), .int .u64 ((rd_T47 l0 x10_1).f1), .int .i64 ((rd_T47 l0 x10_1).f2), .string ((rd_T47 l0 x10_1).f3)]] rfl (by (try simp only [List.map_toArray, List.map_cons, List.map_nil]); first | done | rfl | (simp only [List.length_drop, List.length_take]; rfl)) ?_; (with_reducible refine (laws_zzFits16.calls ((rd_T47 l0 x10_1).f0) ((rd_T47 l0 x10_1).f1) ((rd_T47 l0 x10_1).f2) ((rd_T47 l0 x10_1).f3) true _ A6.out).mono ?_); rintro e w10 ⟨rfl, hb⟩; refine ⟨_, rfl, ?_⟩; have n0_ := aM_ (blk_below (g := gb229) (o := .cells #[.int .i64 ((rd_T47 l0 x10_1).f0), .int .u64 ((rd_T47 l0 x10_1).f1), .int .i64 ((rd_T47 l0 x10_1).f2), .string ((rd_T47 l0 x10_1).f3)] 47 (0, 0)) (by (with_reducible repeat (first | refine bN_ ?_ _ | refine bD_ ?_ | refine bA_ ?_ _)); refine blk_put (cs := #[.int .i64 ((rd_T47 l0 x10_1).f0), .int .u64 ((rd_T47 l0 x10_1).f1), .int .i64 ((rd_T47 l0 x10_1).f2), .string (⟨#[]⟩ : ByteArray)]) ?_ 3 _ rfl; (with_reducible repeat (first | refine bN_ ?_ _ | refine bD_ ?_ | refine bA_ ?_ _)); refine blk_put (cs := #[.int .i64 ((rd_T47 l0 x10_1).f0), .int .u64 ((rd_T47 l0 x10_1).f1), .int .i64 0, .string (⟨#[]⟩ : ByteArray)]) ?_ 2 _ rfl; (with_reducible repeat (first | refine bN_ ?_ _ | refine bD_ ?_ | refine bA_ ?_ _)); refine blk_put (cs := #[.int .i64 ((rd_T47 l0 x10_1).f0), .int .u64 0, .int .i64 0, .string (⟨#[]⟩ : ByteArray)]) ?_ 1 _ rfl; (with_reducible repeat (first | refine bN_ ?_ _ | refine bD_ ?_ | refine bA_ ?_ _)); refine blk_put (cs := #[.int .i64 0, .int .u64 0, .int .i64 0, .string (⟨#[]⟩ : ByteArray)]) ?_ 0 _ rfl; (with_reducible repeat (first | refine bN_ ?_ _ | refine bD_ ?_ | refine bA_ ?_ _)); exact BK229.out) hb); have n1_ := aM_ (below_step (by repeat (first | (with_reducible first | exact HB.out | apply bB_ | apply wN_ | apply bE_ | refine bS_ ?_ GE229.out) | exact HB.out)) hb); clear BK229; clear HB; have BK229 := n0_; have HB := n1_; clear n0_ n1_; (try clear hb); (try clear hb2); (try clear hk); (try clear hi)))
        go_roundg k1
        case measure => have := HK1.out; omega
        case rel => exact ⟨(wrap64 (x10_1 + 1)), (by first | rfl | (simp; done) | (simp [*]; done)), H', ⟨by have := HK1.out; omega⟩, ⟨by repeat (first | (with_reducible first | exact HB.out | apply bB_ | apply wN_ | apply bE_ | refine bS_ ?_ GE229.out) | exact HB.out)⟩⟩
       ·
        replace c7 := Bool.eq_false_iff.mpr c7
        subst c7
        have H1 : (some false) = some r := by rw [if_neg (show ¬ (false = true) by decide)] at H; exact H
        clear H
        have H := H1
        clear H1
        obtain rfl := Option.some.inj H
        have p228 : 0 ≤ (x10_1 : Int) := of_decide_eq_true (by first | (with_reducible assumption) | assumption)
        have q228 : x10_1 < (l0.length : Int) := of_decide_eq_true (by first | (with_reducible assumption) | assumption)
        obtain ⟨ad228, e228, hx228_0, hx228_1, hx228_2, hx228_3⟩ := at_T47 HR0.out x10_1 p228 q228
        cases e228
        replace hx228_0 := (HB.out.cell (World.block_lt_of_cell? w _ hx228_0)).trans hx228_0
        replace hx228_1 := (HB.out.cell (World.block_lt_of_cell? w _ hx228_1)).trans hx228_1
        replace hx228_2 := (HB.out.cell (World.block_lt_of_cell? w _ hx228_2)).trans hx228_2
        replace hx228_3 := (HB.out.cell (World.block_lt_of_cell? w _ hx228_3)).trans hx228_3
        replace p228 := eq_true p228
        replace q228 := eq_true q228
        go_wp2_with (first | ((with_reducible refine gate_dst (N := 4) rfl ?_); refine box_event ?hg (N := 4) ?hd (cs := #[.int .i64 0, .int .u64 0, .int .i64 0, .string (⟨#[]⟩ : ByteArray)]) (t := 47) ?hr ?_; (case hd => rfl); (case hg => rfl); (case hr => first | (go_simp; done) | (go_simp; rfl)); intro gb229 hg w11 hbox hb; have n0_ := aM_ (below_step (by repeat (first | (with_reducible first | exact HB.out | apply bB_ | apply wN_ | apply bE_) | exact HB.out)) hb); have n1_ := aM_ (hbox); have n2_ := aM_ ((by rw [hg]; exact (below_size (by repeat (first | (with_reducible first | exact HB.out | apply bB_ | apply wN_ | apply bE_) | exact HB.out))) : w.heap.size ≤ gb229)); have n3_ := aM_ ((by rw [hg]; exact (below_size (by repeat (first | (with_reducible first | exact HB.out | apply bB_ | apply wN_ | apply bE_) | exact HB.out))) : w.heap.size ≤ gb229)); clear HB; have HB := n0_; have BK229 := n1_; have GW229 := n2_; have GE229 := n3_; clear n0_ n1_ n2_ n3_; clear hb hbox hg; have hcz12_0 : w11.cell? ⟨gb229, 0, none⟩ = some (.int .i64 0) := (bC_ BK229.out 0).trans rfl; have hcz12_1 : w11.cell? ⟨gb229, 1, none⟩ = some (.int .u64 0) := (bC_ BK229.out 1).trans rfl; have hcz12_2 : w11.cell? ⟨gb229, 2, none⟩ = some (.int .i64 0) := (bC_ BK229.out 2).trans rfl; have hcz12_3 : w11.cell? ⟨gb229, 3, none⟩ = some (.string (⟨#[]⟩ : ByteArray)) := (bC_ BK229.out 3).trans rfl; have hfz12_0 := bF_ BK229.out 0; have hfz12_1 := bF_ BK229.out 1; have hfz12_2 := bF_ BK229.out 2; have hfz12_3 := bF_ BK229.out 3) | ((with_reducible refine gate_callee (f := 42) rfl ?_); refine goesL_ (some 15) rfl rfl Tryd.func42 (by kernel_rfl) rfl #[.agg #[.int .i64 ((rd_T47 l0 x10_1).f0), .int .u64 ((rd_T47 l0 x10_1).f1), .int .i64 ((rd_T47 l0 x10_1).f2), .string ((rd_T47 l0 x10_1).f3)]] rfl (by (try simp only [List.map_toArray, List.map_cons, List.map_nil]); first | done | rfl | (simp only [List.length_drop, List.length_take]; rfl)) ?_; (with_reducible refine (laws_zzFits16.calls ((rd_T47 l0 x10_1).f0) ((rd_T47 l0 x10_1).f1) ((rd_T47 l0 x10_1).f2) ((rd_T47 l0 x10_1).f3) false _ A6.out).mono ?_); rintro e w13 ⟨rfl, hb⟩; refine ⟨_, rfl, ?_⟩; have n0_ := aM_ (blk_below (g := gb229) (o := .cells #[.int .i64 ((rd_T47 l0 x10_1).f0), .int .u64 ((rd_T47 l0 x10_1).f1), .int .i64 ((rd_T47 l0 x10_1).f2), .string ((rd_T47 l0 x10_1).f3)] 47 (0, 0)) (by (with_reducible repeat (first | refine bN_ ?_ _ | refine bD_ ?_ | refine bA_ ?_ _)); refine blk_put (cs := #[.int .i64 ((rd_T47 l0 x10_1).f0), .int .u64 ((rd_T47 l0 x10_1).f1), .int .i64 ((rd_T47 l0 x10_1).f2), .string (⟨#[]⟩ : ByteArray)]) ?_ 3 _ rfl; (with_reducible repeat (first | refine bN_ ?_ _ | refine bD_ ?_ | refine bA_ ?_ _)); refine blk_put (cs := #[.int .i64 ((rd_T47 l0 x10_1).f0), .int .u64 ((rd_T47 l0 x10_1).f1), .int .i64 0, .string (⟨#[]⟩ : ByteArray)]) ?_ 2 _ rfl; (with_reducible repeat (first | refine bN_ ?_ _ | refine bD_ ?_ | refine bA_ ?_ _)); refine blk_put (cs := #[.int .i64 ((rd_T47 l0 x10_1).f0), .int .u64 0, .int .i64 0, .string (⟨#[]⟩ : ByteArray)]) ?_ 1 _ rfl; (with_reducible repeat (first | refine bN_ ?_ _ | refine bD_ ?_ | refine bA_ ?_ _)); refine blk_put (cs := #[.int .i64 0, .int .u64 0, .int .i64 0, .string (⟨#[]⟩ : ByteArray)]) ?_ 0 _ rfl; (with_reducible repeat (first | refine bN_ ?_ _ | refine bD_ ?_ | refine bA_ ?_ _)); exact BK229.out) hb); have n1_ := aM_ (below_step (by repeat (first | (with_reducible first | exact HB.out | apply bB_ | apply wN_ | apply bE_ | refine bS_ ?_ GE229.out) | exact HB.out)) hb); clear BK229; clear HB; have BK229 := n0_; have HB := n1_; clear n0_ n1_; (try clear hb); (try clear hb2); (try clear hk); (try clear hi)))
        go_ret
        exact ⟨by first | rfl | (simp [errW_none, errW_some] <;> rfl) | (simp [*, errW_none, errW_some] <;> rfl) | (exfalso; contradiction), by repeat (first | (with_reducible first | exact HB.out | apply bB_ | apply wN_ | apply bE_ | refine bS_ ?_ GE229.out) | exact HB.out)⟩
      ·
       rw [if_neg c5] at H
       exact absurd H (by simp)
     ·
      rw [if_neg c4] at H
      exact absurd H (by simp)
    ·
     rw [if_neg c3] at H
     have c3b0 : decide (x10_1 < (l0.length : Int)) = false := decide_eq_false c3
     clear c3
     obtain rfl := Option.some.inj H
     go_wp2
     go_ret
     exact ⟨by first | rfl | (simp [errW_none, errW_some] <;> rfl) | (simp [*, errW_none, errW_some] <;> rfl) | (exfalso; contradiction), by repeat (first | (with_reducible first | exact HB.out | apply bB_ | apply wN_ | apply bE_) | exact HB.out)⟩

-- NOT PRINTED: function 59 (version_Version_Components)

-- NOT PRINTED: function 60 (version_Version_PreRelease)

-- NOT PRINTED: function 61 (version_Version_BuildMetadata)

-- NOT PRINTED: function 91 (bytes_Buffer_tryGrowByReslice)

-- NOT PRINTED: function 104 (bytes_Buffer_Len)

-- NOT PRINTED: function 105 (bytes_Buffer_Reset)

-- NOT PRINTED: function 106 (bytes_growSlice)

-- NOT PRINTED: function 92 (bytes_Buffer_grow)

-- NOT PRINTED: function 83 (bytes_Buffer_WriteString)

-- NOT PRINTED: function 107 (strconv_small)

-- NOT PRINTED: function 123 (strconv_log10Pow2)

-- NOT PRINTED: function 124 (bits_Len64)

-- NOT PRINTED: function 125 (strconv_bool2_int)

-- NOT PRINTED: function 108 (strconv_numDigits)

-- NOT PRINTED: function 109 (strconv_formatBase10)

-- NOT PRINTED: function 126 (strconv_isPowerOfTwo)

-- NOT PRINTED: function 132 (bits_TrailingZeros32)

-- NOT PRINTED: function 133 (bits_TrailingZeros64)

-- NOT PRINTED: function 127 (bits_TrailingZeros)

-- NOT PRINTED: function 110 (strconv_formatBits)

-- NOT PRINTED: function 93 (strconv_FormatUint_93)

-- NOT PRINTED: function 84 (strconv_FormatUint_84)

-- NOT PRINTED: function 85 (bytes_Buffer_String)

-- NOT PRINTED: function 62 (version_Version_String)

-- NOT PRINTED: function 63 (version_Version_Major)

-- NOT PRINTED: function 64 (version_Version_Minor)

-- NOT PRINTED: function 65 (version_Version_Patch)

-- NOT PRINTED: function 29 (impl_ver)

-- NOT PRINTED: function 72 (errors_New)

-- NOT PRINTED: function 111 (version_zzBlanks)

-- NOT PRINTED: function 112 (version_zzDigits)

-- NOT PRINTED: function 94 (version_zzVersion)

-- NOT PRINTED: function 113 (version_zzIndex)

-- NOT PRINTED: function 95 (version_zzSplit)

-- NOT PRINTED: function 114 (stringslite_HasPrefix)

-- NOT PRINTED: function 96 (strings_HasPrefix)

-- NOT PRINTED: function 130 (stringslite_Clone)

-- NOT PRINTED: function 118 (strconv_syntaxError)

-- NOT PRINTED: function 119 (strconv_rangeError)

-- NOT PRINTED: function 135 (strconv_FormatInt)

-- NOT PRINTED: function 134 (strconv_Itoa_134)

-- NOT PRINTED: function 131 (strconv_Itoa_131)

-- NOT PRINTED: function 120 (strconv_baseError)

-- NOT PRINTED: function 121 (strconv_bitSizeError)

-- NOT PRINTED: function 102 (strconv_toError)

-- NOT PRINTED: function 128 (strconv_lower)

-- NOT PRINTED: function 129 (strconv_underscoreOK)

-- NOT PRINTED: function 115 (strconv_ParseUint_115)

-- NOT PRINTED: function 97 (strconv_ParseUint_97)

-- NOT PRINTED: function 116 (version_zzWords)

-- NOT PRINTED: function 98 (version_zzExtra)

-- NOT PRINTED: function 86 (version_parse)

-- NOT PRINTED: function 66 (version_ParseGeneric)

-- NOT PRINTED: function 67 (version_ParseSemantic)

-- NOT PRINTED: function 30 (version_MajorMinor)

-- NOT PRINTED: function 68 (version_ParseMajorMinor)

-- NOT PRINTED: function 69 (version_Parse)

-- NOT PRINTED: function 36 (impl_parsed)

-- NOT PRINTED: function 43 (version_Version_WithMajor)

-- NOT PRINTED: function 44 (version_Version_WithMinor)

-- NOT PRINTED: function 45 (version_Version_WithPatch)

-- NOT PRINTED: function 46 (version_Version_WithPreRelease)

-- NOT PRINTED: function 47 (version_Version_WithBuildMetadata)

-- NOT PRINTED: function 50 (version_Version_OffsetMinor)

-- NOT PRINTED: function 48 (version_Version_AddMinor)

-- NOT PRINTED: function 49 (version_Version_SubtractMinor)

end Go.Proofs.YtomoefldmgfaoaaDoor.PFnVersionSteps
