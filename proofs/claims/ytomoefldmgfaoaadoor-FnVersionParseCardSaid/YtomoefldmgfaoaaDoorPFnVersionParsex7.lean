/- Functions of the program as plain Lean functions, and that the machine's calls do what these say: written for this claim by wip/myprint.py over the kit's print.py. -/
import Derived.Test.YtomoefldmgfaoaaDoorPFnVersionParsex0
import Derived.Test.YtomoefldmgfaoaaDoorPFnVersionParsex3
import Derived.Test.YtomoefldmgfaoaaDoorPFnVersionParsex4
import Derived.Test.YtomoefldmgfaoaaDoorPFnVersionParsex5
namespace Go.Proofs.YtomoefldmgfaoaaDoor.PFnVersionParse
open Go.RowKit Go.Proofs.YtomoefldmgfaoaaDoorW.PrintWords Go.Proofs.YtomoefldmgfaoaaDoorW.PrintLast Go.Proofs.YtomoefldmgfaoaaDoorW.PrintMore
attribute [local go_sem] max2_int min2_int max_two min_two max_three min_three max_four min_four   -- for this text's walks alone
set_option linter.unusedVariables false
set_option linter.unusedSimpArgs false

/-! ### spec_VerGeneric: function 41 -/
mutual
def spec_VerGeneric.j0 : Nat → List ByteArray → Bool → Bool → ByteArray → ByteArray → Option (List Int × Bool × ByteArray × ByteArray × Bool × Bool)
 | 0, _, _, _, _, _ => none
 | k + 1, x5, x29, x175001, x175002, x175003 => if x29 = true then (some (([] : List Int), false, (⟨#[]⟩ : ByteArray), (⟨#[]⟩ : ByteArray), false, true)) else (spec_VerGeneric.l0 k x5 0 ([] : List Int) x175001 x175002 x175003)
def spec_VerGeneric.l0 : Nat → List ByteArray → Int → List Int → Bool → ByteArray → ByteArray → Option (List Int × Bool × ByteArray × ByteArray × Bool × Bool)
 | 0, _, _, _, _, _, _ => none
 | k + 1, x5, x7, x175000, x175001, x175002, x175003 => if x7 < (x5.length : Int) then (if 0 ≤ x7 then ((spec_VerUint.f k (rdOf ByteArray.empty x5 x7)).bind fun bt184 => (if bt184.2 = true then (if x175000.length < 17592186044416 then (spec_VerGeneric.l0 k x5 (wrap64 (x7 + 1)) (x175000 ++ [bt184.1]) x175001 x175002 x175003) else (none)) else (some (([] : List Int), false, (⟨#[]⟩ : ByteArray), (⟨#[]⟩ : ByteArray), false, true)))) else (none)) else (some (x175000, x175001, x175002, x175003, true, true))
end
def spec_VerGeneric.f (k : Nat) (a0 : ByteArray) : Option (List Int × Bool × ByteArray × ByteArray × Bool × Bool) := (spec_verAhead.f k a0).bind fun t175 => ((spec_verFields.f k t175).bind fun bt176 => ((spec_verPlace.f k bt176.2 10).bind fun t180 => (if t180 ≥ 0 then (some (([] : List Int), false, (⟨#[]⟩ : ByteArray), (⟨#[]⟩ : ByteArray), false, false)) else (if (bt176.1.length : Int) < 2 then (spec_VerGeneric.j0 k bt176.1 true false (⟨#[]⟩ : ByteArray) (⟨#[]⟩ : ByteArray)) else (if 0 < (bt176.1.length : Int) then ((spec_VerPlainly.f (rdOf ByteArray.empty bt176.1 0)).bind fun t182 => (spec_VerGeneric.j0 k bt176.1 (!t182) false (⟨#[]⟩ : ByteArray) (⟨#[]⟩ : ByteArray))) else (none))))))
theorem spec_VerGeneric.mono_l : ∀ k, (∀ y0 y1 y2 y3 y4, LeO (spec_VerGeneric.j0 k y0 y1 y2 y3 y4) (spec_VerGeneric.j0 (k + 1) y0 y1 y2 y3 y4)) ∧ (∀ y0 y1 y2 y3 y4 y5, LeO (spec_VerGeneric.l0 k y0 y1 y2 y3 y4 y5) (spec_VerGeneric.l0 (k + 1) y0 y1 y2 y3 y4 y5))
 | 0 => ⟨fun _ _ _ _ _ r h => by simp [spec_VerGeneric.j0] at h, fun _ _ _ _ _ _ r h => by simp [spec_VerGeneric.l0] at h⟩
 | k + 1 => by
  obtain ⟨ih0, ih1⟩ := spec_VerGeneric.mono_l k
  refine ⟨?_, ?_⟩
  ·
   intro y0 y1 y2 y3 y4
   unfold spec_VerGeneric.j0
   repeat' first
   | (with_reducible exact ih0 _ _ _ _ _)
   | (with_reducible exact ih1 _ _ _ _ _ _)
   | (with_reducible exact spec_VerUint.mono _ _)
   | (with_reducible exact spec_verAhead.mono _ _)
   | (with_reducible exact spec_verFields.mono _ _)
   | (with_reducible exact spec_verPlace.mono _ _ _)
   | (with_reducible exact LeO.refl _)
   | (with_reducible exact LeO.none _)
   | (with_reducible refine LeO.ite ?_ ?_)
   | (with_reducible refine LeO.bind ?_ (fun _ => ?_))
   | exact ih0 _ _ _ _ _
   | exact ih1 _ _ _ _ _ _
   | exact spec_VerUint.mono _ _
   | exact spec_verAhead.mono _ _
   | exact spec_verFields.mono _ _
   | exact spec_verPlace.mono _ _ _
   | exact LeO.none _
   | refine LeO.ite ?_ ?_
   | refine LeO.bind ?_ (fun _ => ?_)
  ·
   intro y0 y1 y2 y3 y4 y5
   unfold spec_VerGeneric.l0
   repeat' first
   | (with_reducible exact ih0 _ _ _ _ _)
   | (with_reducible exact ih1 _ _ _ _ _ _)
   | (with_reducible exact spec_VerUint.mono _ _)
   | (with_reducible exact spec_verAhead.mono _ _)
   | (with_reducible exact spec_verFields.mono _ _)
   | (with_reducible exact spec_verPlace.mono _ _ _)
   | (with_reducible exact LeO.refl _)
   | (with_reducible exact LeO.none _)
   | (with_reducible refine LeO.ite ?_ ?_)
   | (with_reducible refine LeO.bind ?_ (fun _ => ?_))
   | exact ih0 _ _ _ _ _
   | exact ih1 _ _ _ _ _ _
   | exact spec_VerUint.mono _ _
   | exact spec_verAhead.mono _ _
   | exact spec_verFields.mono _ _
   | exact spec_verPlace.mono _ _ _
   | exact LeO.none _
   | refine LeO.ite ?_ ?_
   | refine LeO.bind ?_ (fun _ => ?_)
theorem spec_VerGeneric.mono : ∀ a0 k, LeO (spec_VerGeneric.f k a0) (spec_VerGeneric.f (k + 1) a0) := by
 intro a0 k
 obtain ⟨ih0, ih1⟩ := spec_VerGeneric.mono_l k
 unfold spec_VerGeneric.f
 repeat' first
   | (with_reducible exact ih0 _ _ _ _ _)
   | (with_reducible exact ih1 _ _ _ _ _ _)
   | (with_reducible exact spec_VerUint.mono _ _)
   | (with_reducible exact spec_verAhead.mono _ _)
   | (with_reducible exact spec_verFields.mono _ _)
   | (with_reducible exact spec_verPlace.mono _ _ _)
   | (with_reducible exact LeO.refl _)
   | (with_reducible exact LeO.none _)
   | (with_reducible refine LeO.ite ?_ ?_)
   | (with_reducible refine LeO.bind ?_ (fun _ => ?_))
   | exact ih0 _ _ _ _ _
   | exact ih1 _ _ _ _ _ _
   | exact spec_VerUint.mono _ _
   | exact spec_verAhead.mono _ _
   | exact spec_verFields.mono _ _
   | exact spec_verPlace.mono _ _ _
   | exact LeO.none _
   | refine LeO.ite ?_ ?_
   | refine LeO.bind ?_ (fun _ => ?_)
set_option maxHeartbeats 8000000 in
set_option maxRecDepth 100000 in
theorem spec_VerGeneric.calls (k : Nat) (a0 : ByteArray) (r1 : List Int) (r2 : Bool) (r3 : ByteArray) (r4 : ByteArray) (r5 : Bool) (r6 : Bool) (w : World) (h : spec_VerGeneric.f k a0 = some (r1, r2, r3, r4, r5, r6)) :
  Calls Tryd.prog 41 #[.string a0] w fun e w' => ∃ v0_ : Value, e = .returned (.tuple #[.agg #[v0_, .bool r2, .string r3, .string r4], .bool r5, .bool r6]) ∧ Kd.R (Kd.int .u64) 22 w' w.heap.size (fun _ => True) v0_ r1 ∧ Below w.heap.size w w' := by
 have hu26 := Tryd.underlying26
 have HB := aM_ (Below.refl w.heap.size w)
 have H : ((spec_verAhead.f k a0).bind fun t175 => ((spec_verFields.f k t175).bind fun bt176 => ((spec_verPlace.f k bt176.2 10).bind fun t180 => (if t180 ≥ 0 then (some (([] : List Int), false, (⟨#[]⟩ : ByteArray), (⟨#[]⟩ : ByteArray), false, false)) else (if (bt176.1.length : Int) < 2 then (spec_VerGeneric.j0 k bt176.1 true false (⟨#[]⟩ : ByteArray) (⟨#[]⟩ : ByteArray)) else (if 0 < (bt176.1.length : Int) then ((spec_VerPlainly.f (rdOf ByteArray.empty bt176.1 0)).bind fun t182 => (spec_VerGeneric.j0 k bt176.1 (!t182) false (⟨#[]⟩ : ByteArray) (⟨#[]⟩ : ByteArray))) else (none))))))) = some (r1, r2, r3, r4, r5, r6) := h
 clear h
 replace H := Option.bind_eq_some_iff.mp H
 obtain ⟨t175, A20, H⟩ := H
 replace H : ((spec_verFields.f k t175).bind fun bt176 => ((spec_verPlace.f k bt176.2 10).bind fun t180 => (if t180 ≥ 0 then (some (([] : List Int), false, (⟨#[]⟩ : ByteArray), (⟨#[]⟩ : ByteArray), false, false)) else (if (bt176.1.length : Int) < 2 then (spec_VerGeneric.j0 k bt176.1 true false (⟨#[]⟩ : ByteArray) (⟨#[]⟩ : ByteArray)) else (if 0 < (bt176.1.length : Int) then ((spec_VerPlainly.f (rdOf ByteArray.empty bt176.1 0)).bind fun t182 => (spec_VerGeneric.j0 k bt176.1 (!t182) false (⟨#[]⟩ : ByteArray) (⟨#[]⟩ : ByteArray))) else (none)))))) = some (r1, r2, r3, r4, r5, r6) := H
 have A2 := aM_ A20
 clear A20
 replace H := Option.bind_eq_some_iff.mp H
 obtain ⟨⟨t176, t177⟩, A30, H⟩ := H
 replace H : ((spec_verPlace.f k t177 10).bind fun t180 => (if t180 ≥ 0 then (some (([] : List Int), false, (⟨#[]⟩ : ByteArray), (⟨#[]⟩ : ByteArray), false, false)) else (if (t176.length : Int) < 2 then (spec_VerGeneric.j0 k t176 true false (⟨#[]⟩ : ByteArray) (⟨#[]⟩ : ByteArray)) else (if 0 < (t176.length : Int) then ((spec_VerPlainly.f (rdOf ByteArray.empty t176 0)).bind fun t182 => (spec_VerGeneric.j0 k t176 (!t182) false (⟨#[]⟩ : ByteArray) (⟨#[]⟩ : ByteArray))) else (none))))) = some (r1, r2, r3, r4, r5, r6) := H
 have A3 := aM_ A30
 clear A30
 replace H := Option.bind_eq_some_iff.mp H
 obtain ⟨t180, A40, H⟩ := H
 replace H : (if t180 ≥ 0 then (some (([] : List Int), false, (⟨#[]⟩ : ByteArray), (⟨#[]⟩ : ByteArray), false, false)) else (if (t176.length : Int) < 2 then (spec_VerGeneric.j0 k t176 true false (⟨#[]⟩ : ByteArray) (⟨#[]⟩ : ByteArray)) else (if 0 < (t176.length : Int) then ((spec_VerPlainly.f (rdOf ByteArray.empty t176 0)).bind fun t182 => (spec_VerGeneric.j0 k t176 (!t182) false (⟨#[]⟩ : ByteArray) (⟨#[]⟩ : ByteArray))) else (none)))) = some (r1, r2, r3, r4, r5, r6) := H
 have A4 := aM_ A40
 clear A40
 by_cases c5 : t180 ≥ 0
 ·
  rw [if_pos c5] at H
  have c5b0 : decide (0 ≤ t180) = true := decide_eq_true c5
  clear c5
  simp only [Option.some.injEq, Prod.mk.injEq] at H
  obtain ⟨rfl, rfl, rfl, rfl, rfl, rfl⟩ := H
  go_enter Tryd.func41, Tryd.ntmps41
  go_wp2_with (first | ((with_reducible refine gate_dst (N := 2) rfl ?_); refine box_event ?hg (N := 2) ?hd (cs := #[.slice none 0 0, .bool false, .string (⟨#[]⟩ : ByteArray), .string (⟨#[]⟩ : ByteArray)]) (t := 26) ?hr ?_; (case hd => rfl); (case hg => rfl); (case hr => first | (go_simp; done) | (go_simp; rfl)); intro gb174 hg w6 hbox hb; have n0_ := aM_ (below_step (by repeat (first | (with_reducible first | exact HB.out | apply bB_ | apply wN_ | apply bE_) | exact HB.out)) hb); have n1_ := aM_ (hbox); have n2_ := aM_ ((by rw [hg]; exact (below_size (by repeat (first | (with_reducible first | exact HB.out | apply bB_ | apply wN_ | apply bE_) | exact HB.out))) : w.heap.size ≤ gb174)); have n3_ := aM_ ((by rw [hg]; exact (below_size (by repeat (first | (with_reducible first | exact HB.out | apply bB_ | apply wN_ | apply bE_) | exact HB.out))) : w.heap.size ≤ gb174)); clear HB; have HB := n0_; have BK174 := n1_; have GW174 := n2_; have GE174 := n3_; clear n0_ n1_ n2_ n3_; clear hb hbox hg) | ((with_reducible refine gate_callee (f := 38) rfl ?_); refine goesL_ (some 12) rfl rfl Tryd.func38 (by kernel_rfl) rfl #[.string a0] rfl (by (try simp only [List.map_toArray, List.map_cons, List.map_nil]); first | done | rfl | (simp only [List.length_drop, List.length_take]; rfl)) ?_; (with_reducible refine (spec_verAhead.calls k a0 t175 _ A2.out).mono ?_); rintro e w' ⟨rfl, ⟨nd, rfl⟩⟩; refine ⟨_, rfl, ?_⟩; (try (rw [drewN_self w6]; generalize hq_ : World.drewN w6 _ = w6; have n0_ : Aside0 (w6.heap[gb174]? = some (.cells #[.slice none 0 0, .bool false, .string (⟨#[]⟩ : ByteArray), .string (⟨#[]⟩ : ByteArray)] 26 (0, 0))) := ⟨by rw [← hq_]; exact (by (with_reducible repeat (first | refine bN_ ?_ _ | refine bD_ ?_ | refine bA_ ?_ _)); exact BK174.out)⟩; have n1_ : Aside0 (Below w.heap.size w w6) := ⟨by rw [← hq_]; exact (by repeat (first | (with_reducible first | exact HB.out | apply bB_ | apply wN_ | apply bE_ | refine bS_ ?_ GE174.out) | exact HB.out))⟩; clear BK174 HB hq_; have BK174 := n0_; have HB := n1_; clear n0_ n1_))) | ((with_reducible refine gate_callee (f := 37) rfl ?_); refine goesL_ (some 13) rfl rfl Tryd.func37 (by kernel_rfl) rfl #[.string t175] rfl (by (try simp only [List.map_toArray, List.map_cons, List.map_nil]); first | done | rfl | (simp only [List.length_drop, List.length_take]; rfl)) ?_; (with_reducible refine (spec_verFields.calls k t175 t176 t177 _ A3.out).mono ?_); rintro e w7 ⟨v178, rfl, ho0, hb⟩; refine ⟨_, rfl, ?_⟩; have n0_ := aM_ (Kd.R_lower ho0 (below_size (by repeat (first | (with_reducible first | exact HB.out | apply bB_ | apply wN_ | apply bE_ | refine bS_ ?_ GE174.out) | exact HB.out)))); have n1_ := aM_ (blk_below (g := gb174) (o := .cells #[.slice none 0 0, .bool false, .string (⟨#[]⟩ : ByteArray), .string (⟨#[]⟩ : ByteArray)] 26 (0, 0)) (by (with_reducible repeat (first | refine bN_ ?_ _ | refine bD_ ?_ | refine bA_ ?_ _)); exact BK174.out) hb); have n2_ := aM_ (below_step (by repeat (first | (with_reducible first | exact HB.out | apply bB_ | apply wN_ | apply bE_ | refine bS_ ?_ GE174.out) | exact HB.out)) hb); clear BK174; clear HB; have HO179 := n0_; have BK174 := n1_; have HB := n2_; clear n0_ n1_ n2_; (try clear hb); (try clear hb2); (try clear hk); (try clear hi); (try clear ho0)) | ((with_reducible refine gate_callee (f := 39) rfl ?_); refine goesL_ (some 17) rfl rfl Tryd.func39 (by kernel_rfl) rfl #[.string t177, .int .u8 10] rfl (by (try simp only [List.map_toArray, List.map_cons, List.map_nil]); first | done | rfl | (simp only [List.length_drop, List.length_take]; rfl)) ?_; (with_reducible refine (spec_verPlace.calls k t177 10 t180 _ A4.out).mono ?_); rintro e w' ⟨rfl, ⟨nd, rfl⟩⟩; refine ⟨_, rfl, ?_⟩; (try (rw [drewN_self w7]; generalize hq_ : World.drewN w7 _ = w7; have n0_ : Aside0 (Kd.R Kd.string 9 w7 w.heap.size (fun _ => True) v178 t176) := ⟨by rw [← hq_]; exact (by (with_reducible repeat (first | apply kA_ | apply kN_ | apply kD_)); exact HO179.out)⟩; have n1_ : Aside0 (w7.heap[gb174]? = some (.cells #[.slice none 0 0, .bool false, .string (⟨#[]⟩ : ByteArray), .string (⟨#[]⟩ : ByteArray)] 26 (0, 0))) := ⟨by rw [← hq_]; exact (by (with_reducible repeat (first | refine bN_ ?_ _ | refine bD_ ?_ | refine bA_ ?_ _)); exact BK174.out)⟩; have n2_ : Aside0 (Below w.heap.size w w7) := ⟨by rw [← hq_]; exact (by repeat (first | (with_reducible first | exact HB.out | apply bB_ | apply wN_ | apply bE_ | refine bS_ ?_ GE174.out) | exact HB.out))⟩; clear HO179 BK174 HB hq_; have HO179 := n0_; have BK174 := n1_; have HB := n2_; clear n0_ n1_ n2_)); have hcz8_0 : w7.cell? ⟨gb174, 0, none⟩ = some (.slice none 0 0) := (bC_ BK174.out 0).trans rfl; have hcz8_1 : w7.cell? ⟨gb174, 1, none⟩ = some (.bool false) := (bC_ BK174.out 1).trans rfl; have hcz8_2 : w7.cell? ⟨gb174, 2, none⟩ = some (.string (⟨#[]⟩ : ByteArray)) := (bC_ BK174.out 2).trans rfl; have hcz8_3 : w7.cell? ⟨gb174, 3, none⟩ = some (.string (⟨#[]⟩ : ByteArray)) := (bC_ BK174.out 3).trans rfl; have hfz8_0 := bF_ BK174.out 0; have hfz8_1 := bF_ BK174.out 1; have hfz8_2 := bF_ BK174.out 2; have hfz8_3 := bF_ BK174.out 3))
  refine bodyPost_ret (results_ctt rfl _ _ gb174 26 #[.slice none 0 0, .bool false, .string (⟨#[]⟩ : ByteArray), .string (⟨#[]⟩ : ByteArray)] (0, 0) _ rfl (by (with_reducible repeat (first | refine bN_ ?_ _ | refine bD_ ?_ | refine bA_ ?_ _)); refine blk_put (cs := #[.slice none 0 0, .bool false, .string (⟨#[]⟩ : ByteArray), .string (⟨#[]⟩ : ByteArray)]) ?_ 3 _ rfl; (with_reducible repeat (first | refine bN_ ?_ _ | refine bD_ ?_ | refine bA_ ?_ _)); refine blk_put (cs := #[.slice none 0 0, .bool false, .string (⟨#[]⟩ : ByteArray), .string (⟨#[]⟩ : ByteArray)]) ?_ 2 _ rfl; (with_reducible repeat (first | refine bN_ ?_ _ | refine bD_ ?_ | refine bA_ ?_ _)); refine blk_put (cs := #[.slice none 0 0, .bool false, .string (⟨#[]⟩ : ByteArray), .string (⟨#[]⟩ : ByteArray)]) ?_ 1 _ rfl; (with_reducible repeat (first | refine bN_ ?_ _ | refine bD_ ?_ | refine bA_ ?_ _)); refine blk_put (cs := #[.slice none 0 0, .bool false, .string (⟨#[]⟩ : ByteArray), .string (⟨#[]⟩ : ByteArray)]) ?_ 0 _ rfl; (with_reducible repeat (first | refine bN_ ?_ _ | refine bD_ ?_ | refine bA_ ?_ _)); exact BK174.out) Tryd.underlying26 rfl (by kernel_rfl)) rfl ?_
  exact ⟨_, by first | rfl | (simp [errW_none, errW_some] <;> rfl) | (simp [*, errW_none, errW_some] <;> rfl), by first | exact Kd.R_nil _ _ _ _ _ | exact Kd.N_nil _ _ _ _ _ | exact Kd.V_nil _ _ _ _ _ | exact Kd.Q_nil _ _ _ _ _ | exact Kd.S_nil _ _ _ _ _, by repeat (first | (with_reducible first | exact HB.out | apply bB_ | apply wN_ | apply bE_ | refine bS_ ?_ GE174.out) | exact HB.out)⟩
 ·
  rw [if_neg c5] at H
  have c5b0 : decide (0 ≤ t180) = false := decide_eq_false c5
  clear c5
  have HC9 := aM_ H
  clear H
  go_enter Tryd.func41, Tryd.ntmps41
  go_upto_region 4 with (first | ((with_reducible refine gate_dst (N := 2) rfl ?_); refine box_event ?hg (N := 2) ?hd (cs := #[.slice none 0 0, .bool false, .string (⟨#[]⟩ : ByteArray), .string (⟨#[]⟩ : ByteArray)]) (t := 26) ?hr ?_; (case hd => rfl); (case hg => rfl); (case hr => first | (go_simp; done) | (go_simp; rfl)); intro gb174 hg w10 hbox hb; have n0_ := aM_ (below_step (by repeat (first | (with_reducible first | exact HB.out | apply bB_ | apply wN_ | apply bE_) | exact HB.out)) hb); have n1_ := aM_ (hbox); have n2_ := aM_ ((by rw [hg]; exact (below_size (by repeat (first | (with_reducible first | exact HB.out | apply bB_ | apply wN_ | apply bE_) | exact HB.out))) : w.heap.size ≤ gb174)); have n3_ := aM_ ((by rw [hg]; exact (below_size (by repeat (first | (with_reducible first | exact HB.out | apply bB_ | apply wN_ | apply bE_) | exact HB.out))) : w.heap.size ≤ gb174)); clear HB; have HB := n0_; have BK174 := n1_; have GW174 := n2_; have GE174 := n3_; clear n0_ n1_ n2_ n3_; clear hb hbox hg) | ((with_reducible refine gate_callee (f := 38) rfl ?_); refine goesL_ (some 12) rfl rfl Tryd.func38 (by kernel_rfl) rfl #[.string a0] rfl (by (try simp only [List.map_toArray, List.map_cons, List.map_nil]); first | done | rfl | (simp only [List.length_drop, List.length_take]; rfl)) ?_; (with_reducible refine (spec_verAhead.calls k a0 t175 _ A2.out).mono ?_); rintro e w' ⟨rfl, ⟨nd, rfl⟩⟩; refine ⟨_, rfl, ?_⟩) | ((with_reducible refine gate_callee (f := 37) rfl ?_); refine goesL_ (some 13) rfl rfl Tryd.func37 (by kernel_rfl) rfl #[.string t175] rfl (by (try simp only [List.map_toArray, List.map_cons, List.map_nil]); first | done | rfl | (simp only [List.length_drop, List.length_take]; rfl)) ?_; (with_reducible refine (spec_verFields.calls k t175 t176 t177 _ A3.out).mono ?_); rintro e w11 ⟨v178, rfl, ho0, hb⟩; refine ⟨_, rfl, ?_⟩; have n0_ := aM_ (Kd.R_lower ho0 (below_size (by repeat (first | (with_reducible first | exact HB.out | apply bB_ | apply wN_ | apply bE_ | refine bS_ ?_ GE174.out) | exact HB.out)))); have n1_ := aM_ (blk_below (g := gb174) (o := .cells #[.slice none 0 0, .bool false, .string (⟨#[]⟩ : ByteArray), .string (⟨#[]⟩ : ByteArray)] 26 (0, 0)) (by (with_reducible repeat (first | refine bN_ ?_ _ | refine bD_ ?_ | refine bA_ ?_ _)); exact BK174.out) hb); have n2_ := aM_ (below_step (by repeat (first | (with_reducible first | exact HB.out | apply bB_ | apply wN_ | apply bE_ | refine bS_ ?_ GE174.out) | exact HB.out)) hb); clear BK174; clear HB; have HO179 := n0_; have BK174 := n1_; have HB := n2_; clear n0_ n1_ n2_; (try clear hb); (try clear hb2); (try clear hk); (try clear hi); (try clear ho0)) | ((with_reducible refine gate_callee (f := 39) rfl ?_); refine goesL_ (some 17) rfl rfl Tryd.func39 (by kernel_rfl) rfl #[.string t177, .int .u8 10] rfl (by (try simp only [List.map_toArray, List.map_cons, List.map_nil]); first | done | rfl | (simp only [List.length_drop, List.length_take]; rfl)) ?_; (with_reducible refine (spec_verPlace.calls k t177 10 t180 _ A4.out).mono ?_); rintro e w' ⟨rfl, ⟨nd, rfl⟩⟩; refine ⟨_, rfl, ?_⟩))
  (try simp only [Act.put, List.setIfInBounds_toArray, List.set_cons_zero, List.set_cons_succ])
  go_cut [29] (fun v29 wc => ∃ (kq : Nat) (x29_8 : Bool), v29 = .bool x29_8 ∧ Aside0 (spec_VerGeneric.j0 kq t176 x29_8 false (⟨#[]⟩ : ByteArray) (⟨#[]⟩ : ByteArray) = some (r1, r2, r3, r4, r5, r6)) ∧ Aside0 (kq ≤ k) ∧ Aside0 (Kd.R Kd.string 9 wc w.heap.size (fun _ => True) v178 t176) ∧ Aside0 (wc.heap[gb174]? = some (.cells #[(.slice none 0 0), .bool false, .string (⟨#[]⟩ : ByteArray), .string (⟨#[]⟩ : ByteArray)] 26 (0, 0))) ∧ Aside0 (Below w.heap.size w wc))
  case first =>
   have H := HC9.out
   clear HC9
   by_cases c12 : (t176.length : Int) < 2
   ·
    rw [if_pos c12] at H
    have c12b0 : decide ((t176.length : Int) < 2) = true := decide_eq_true c12
    have c12b1 : decide (t176.length < 2) = true := decide_eq_true (by omega)
    clear c12
    (first | rw [c12b0] | (simp only [i64_w, i32_w]; rw [c12b0]) | skip)
    have H' := aM_ H
    clear H
    obtain ⟨Ao13, co13, eo13⟩ := Kd.R_slice HO179.out
    subst eo13
    go_wp2
    go_meet
    case rel => exact ⟨_, (true), (by first | rfl | (simp; done) | (simp [*]; done)), H', ⟨by first | omega | exact Nat.le_refl _⟩, ⟨by (with_reducible repeat (first | apply kA_ | apply kN_ | apply kD_)); exact HO179.out⟩, ⟨by (with_reducible repeat (first | refine bN_ ?_ _ | refine bD_ ?_ | refine bA_ ?_ _)); exact BK174.out⟩, ⟨by repeat (first | (with_reducible first | exact HB.out | apply bB_ | apply wN_ | apply bE_ | refine bS_ ?_ GE174.out) | exact HB.out)⟩⟩
   ·
    rw [if_neg c12] at H
    have c12b0 : decide ((t176.length : Int) < 2) = false := decide_eq_false c12
    have c12b1 : decide (t176.length < 2) = false := decide_eq_false (by omega)
    clear c12
    (first | rw [c12b0] | (simp only [i64_w, i32_w]; rw [c12b0]) | skip)
    by_cases c14 : 0 < (t176.length : Int)
    ·
     rw [if_pos c14] at H
     have c14b0 : decide (0 < (t176.length : Int)) = true := decide_eq_true c14
     have c14b1 : decide (0 < t176.length) = true := decide_eq_true (by omega)
     clear c14
     replace H := Option.bind_eq_some_iff.mp H
     obtain ⟨t182, A150, H⟩ := H
     replace H : (spec_VerGeneric.j0 k t176 (!t182) false (⟨#[]⟩ : ByteArray) (⟨#[]⟩ : ByteArray)) = some (r1, r2, r3, r4, r5, r6) := H
     have A15 := aM_ A150
     clear A150
     have H' := aM_ H
     clear H
     obtain ⟨Ao16, co16, eo16⟩ := Kd.R_slice HO179.out
     subst eo16
     have p181 : 0 ≤ (0 : Int) := (by omega)
     have q181 : 0 < (t176.length : Int) := of_decide_eq_true (by first | (with_reducible assumption) | assumption)
     obtain ⟨ad181, e181, hx181_0⟩ := Kd.at_string (Kd.R_reads' HO179.out).2.2 0 p181 q181
     cases e181
     have qi181 : (0 < t176.length) = True := eq_true (by omega)
     (try rw [show ((0 : Int)).toNat = 0 from rfl] at hx181_0)
     (try rw [Addr.add_zero'] at hx181_0)
     replace p181 := eq_true p181
     replace q181 := eq_true q181
     go_wp2_with (first | (go_at_call 34; (with_reducible refine (spec_VerPlainly.calls (rdOf ByteArray.empty t176 0) t182 _ A15.out).mono ?_); rintro e w' ⟨rfl, ⟨nd, rfl⟩⟩))
     go_meet
     case rel => exact ⟨_, (!t182), (by first | rfl | (simp; done) | (simp [*]; done)), H', ⟨by first | omega | exact Nat.le_refl _⟩, ⟨by (with_reducible repeat (first | apply kA_ | apply kN_ | apply kD_)); exact HO179.out⟩, ⟨by (with_reducible repeat (first | refine bN_ ?_ _ | refine bD_ ?_ | refine bA_ ?_ _)); exact BK174.out⟩, ⟨by repeat (first | (with_reducible first | exact HB.out | apply bB_ | apply wN_ | apply bE_ | refine bS_ ?_ GE174.out) | exact HB.out)⟩⟩
    ·
     rw [if_neg c14] at H
     exact absurd H (by simp)
  case rest =>
   clear HC9
   try clear c1
   try clear p1
   try clear q1
   try clear hx1
   try clear qi1
   try clear p2
   try clear c3
   try clear c4
   try clear c5
   try clear c5b0
   try clear c12
   try clear c12b0
   try clear c12b1
   try clear c14
   try clear c14b0
   try clear c14b1
   try clear hcz8_0
   try clear hcz8_1
   try clear hcz8_2
   try clear hcz8_3
   try clear hfz8_0
   try clear hfz8_1
   try clear hfz8_2
   try clear hfz8_3
   try clear hx181_0
   try clear p181
   try clear q181
   obtain ⟨kq, x29_8, rfl, HA, HJ8, HO_5, BK174, HB⟩ := hcut
   cases kq with
   | zero => exact absurd HA.out (by simp [spec_VerGeneric.j0])
   | succ kj8 =>
    have H := HA.out
    clear HA
    simp only [spec_VerGeneric.j0] at H
    by_cases c17 : x29_8 = true
    ·
     subst c17
     have H1 : (some (([] : List Int), false, (⟨#[]⟩ : ByteArray), (⟨#[]⟩ : ByteArray), false, true)) = some (r1, r2, r3, r4, r5, r6) := by rw [if_pos rfl] at H; exact H
     clear H
     have H := H1
     clear H1
     simp only [Option.some.injEq, Prod.mk.injEq] at H
     obtain ⟨rfl, rfl, rfl, rfl, rfl, rfl⟩ := H
     have hcz18_0 : wc.cell? ⟨gb174, 0, none⟩ = some (.slice none 0 0) := (bC_ BK174.out 0).trans rfl
     have hcz18_1 : wc.cell? ⟨gb174, 1, none⟩ = some (.bool false) := (bC_ BK174.out 1).trans rfl
     have hcz18_2 : wc.cell? ⟨gb174, 2, none⟩ = some (.string (⟨#[]⟩ : ByteArray)) := (bC_ BK174.out 2).trans rfl
     have hcz18_3 : wc.cell? ⟨gb174, 3, none⟩ = some (.string (⟨#[]⟩ : ByteArray)) := (bC_ BK174.out 3).trans rfl
     have hfz18_0 := bF_ BK174.out 0
     have hfz18_1 := bF_ BK174.out 1
     have hfz18_2 := bF_ BK174.out 2
     have hfz18_3 := bF_ BK174.out 3
     go_wp2
     refine bodyPost_ret (results_ctt rfl _ _ gb174 26 #[.slice none 0 0, .bool false, .string (⟨#[]⟩ : ByteArray), .string (⟨#[]⟩ : ByteArray)] (0, 0) _ rfl (by (with_reducible repeat (first | refine bN_ ?_ _ | refine bD_ ?_ | refine bA_ ?_ _)); refine blk_put (cs := #[.slice none 0 0, .bool false, .string (⟨#[]⟩ : ByteArray), .string (⟨#[]⟩ : ByteArray)]) ?_ 3 _ rfl; (with_reducible repeat (first | refine bN_ ?_ _ | refine bD_ ?_ | refine bA_ ?_ _)); refine blk_put (cs := #[.slice none 0 0, .bool false, .string (⟨#[]⟩ : ByteArray), .string (⟨#[]⟩ : ByteArray)]) ?_ 2 _ rfl; (with_reducible repeat (first | refine bN_ ?_ _ | refine bD_ ?_ | refine bA_ ?_ _)); refine blk_put (cs := #[.slice none 0 0, .bool false, .string (⟨#[]⟩ : ByteArray), .string (⟨#[]⟩ : ByteArray)]) ?_ 1 _ rfl; (with_reducible repeat (first | refine bN_ ?_ _ | refine bD_ ?_ | refine bA_ ?_ _)); refine blk_put (cs := #[.slice none 0 0, .bool false, .string (⟨#[]⟩ : ByteArray), .string (⟨#[]⟩ : ByteArray)]) ?_ 0 _ rfl; (with_reducible repeat (first | refine bN_ ?_ _ | refine bD_ ?_ | refine bA_ ?_ _)); exact BK174.out) Tryd.underlying26 rfl (by kernel_rfl)) rfl ?_
     exact ⟨_, by first | rfl | (simp [errW_none, errW_some] <;> rfl) | (simp [*, errW_none, errW_some] <;> rfl), by first | exact Kd.R_nil _ _ _ _ _ | exact Kd.N_nil _ _ _ _ _ | exact Kd.V_nil _ _ _ _ _ | exact Kd.Q_nil _ _ _ _ _ | exact Kd.S_nil _ _ _ _ _, by repeat (first | (with_reducible first | exact HB.out | apply bB_ | apply wN_ | apply bE_ | refine bS_ ?_ GE174.out) | exact HB.out)⟩
    ·
     replace c17 := Bool.eq_false_iff.mpr c17
     subst c17
     have H1 : (spec_VerGeneric.l0 kj8 t176 0 ([] : List Int) false (⟨#[]⟩ : ByteArray) (⟨#[]⟩ : ByteArray)) = some (r1, r2, r3, r4, r5, r6) := by rw [if_neg (show ¬ (false = true) by decide)] at H; exact H
     clear H
     have H := H1
     clear H1
     have H' := aM_ H
     clear H
     go_wp2
     go_loopg [7] kj8 (fun kq v7 w' => ∃ (x7_2 : Int) (x175000_2 : List Int) (x175001_2 : Bool) (x175002_2 : ByteArray) (x175003_2 : ByteArray) (u175000 : Value), v7 = .int .i64 x7_2 ∧ Aside0 (spec_VerGeneric.l0 kq t176 x7_2 x175000_2 x175001_2 x175002_2 x175003_2 = some (r1, r2, r3, r4, r5, r6)) ∧ Aside0 (kq ≤ kj8) ∧ Aside0 (Kd.R Kd.string 9 w' w.heap.size (fun _ => True) v178 t176) ∧ Aside0 (Kd.R (Kd.int .u64) 22 w' w.heap.size (fun _ => True) u175000 x175000_2) ∧ Aside0 (w'.heap[gb174]? = some (.cells #[u175000, .bool x175001_2, .string x175002_2, .string x175003_2] 26 (0, 0))) ∧ Aside0 (Below w.heap.size w w'))
     case atStart => exact ⟨(0), (([] : List Int)), (false), ((⟨#[]⟩ : ByteArray)), ((⟨#[]⟩ : ByteArray)), (.slice none 0 0), (by first | rfl | (simp; done) | (simp [*]; done)), H', ⟨Nat.le_refl _⟩, ⟨by (with_reducible repeat (first | apply kA_ | apply kN_ | apply kD_)); exact HO_5.out⟩, ⟨by first | exact Kd.R_nil _ _ _ _ _ | exact Kd.N_nil _ _ _ _ _ | exact Kd.V_nil _ _ _ _ _ | exact Kd.Q_nil _ _ _ _ _ | exact Kd.S_nil _ _ _ _ _⟩, ⟨by (with_reducible repeat (first | refine bN_ ?_ _ | refine bD_ ?_ | refine bA_ ?_ _)); exact BK174.out⟩, ⟨by repeat (first | (with_reducible first | exact HB.out | apply bB_ | apply wN_ | apply bE_ | refine bS_ ?_ GE174.out) | exact HB.out)⟩⟩
     case round =>
      clear H'
      try clear c1
      try clear p1
      try clear q1
      try clear hx1
      try clear qi1
      try clear p2
      try clear c3
      try clear c4
      try clear c5
      try clear c5b0
      try clear c12
      try clear c12b0
      try clear c12b1
      try clear c14
      try clear c14b0
      try clear c14b1
      try clear c17
      try clear p18
      try clear q18
      try clear hx18
      try clear qi18
      try clear hcz18_0
      try clear hcz18_1
      try clear hcz18_2
      try clear hcz18_3
      try clear hcz8_0
      try clear hcz8_1
      try clear hcz8_2
      try clear hcz8_3
      try clear hfz18_0
      try clear hfz18_1
      try clear hfz18_2
      try clear hfz18_3
      try clear hfz8_0
      try clear hfz8_1
      try clear hfz8_2
      try clear hfz8_3
      try clear hx181_0
      try clear p1
      try clear p181
      try clear p2
      try clear q1
      try clear q181
      obtain ⟨x7_2, x175000_2, x175001_2, x175002_2, x175003_2, u175000, rfl, HA, HK2, HO_5, HO_175000, BK174, HB⟩ := hrel
      cases gk with
      | zero => exact absurd HA.out (by simp [spec_VerGeneric.l0])
      | succ k2 =>
       have H := HA.out
       clear HA
       simp only [spec_VerGeneric.l0] at H
       by_cases c19 : x7_2 < (t176.length : Int)
       ·
        rw [if_pos c19] at H
        have c19b0 : decide (x7_2 < (t176.length : Int)) = true := decide_eq_true c19
        clear c19
        by_cases c20 : 0 ≤ x7_2
        ·
         rw [if_pos c20] at H
         have c20b0 : decide (0 ≤ x7_2) = true := decide_eq_true c20
         clear c20
         replace H := Option.bind_eq_some_iff.mp H
         obtain ⟨⟨t184, t185⟩, A210, H⟩ := H
         replace H : (if t185 = true then (if x175000_2.length < 17592186044416 then (spec_VerGeneric.l0 k2 t176 (wrap64 (x7_2 + 1)) (x175000_2 ++ [t184]) x175001_2 x175002_2 x175003_2) else (none)) else (some (([] : List Int), false, (⟨#[]⟩ : ByteArray), (⟨#[]⟩ : ByteArray), false, true))) = some (r1, r2, r3, r4, r5, r6) := H
         have A21 := aM_ A210
         clear A210
         by_cases c22 : t185 = true
         ·
          subst c22
          have H1 : (if x175000_2.length < 17592186044416 then (spec_VerGeneric.l0 k2 t176 (wrap64 (x7_2 + 1)) (x175000_2 ++ [t184]) x175001_2 x175002_2 x175003_2) else (none)) = some (r1, r2, r3, r4, r5, r6) := by rw [if_pos rfl] at H; exact H
          clear H
          have H := H1
          clear H1
          by_cases c23 : x175000_2.length < 17592186044416
          ·
           rw [if_pos c23] at H
           have LMc23 := aM_ c23
           clear c23
           obtain ⟨y186, hy186⟩ : ∃ y_ : List Int, y_ = (x175000_2 ++ [t184]) := ⟨_, rfl⟩
           replace H : (spec_VerGeneric.l0 k2 t176 (wrap64 (x7_2 + 1)) y186 x175001_2 x175002_2 x175003_2) = some (r1, r2, r3, r4, r5, r6) := by first | (rw [hy186]; with_reducible exact H) | (have H2_ := (Option.bind_some _ _).symm.trans H; rw [hy186]; with_reducible exact H2_) | (have H2_ := (Option.bind_some _ _).symm.trans H; with_reducible exact H2_) | with_reducible exact H | (rw [hy186]; exact H) | exact H
           have Ny186 := aM_ hy186
           clear hy186
           have H' := aM_ H
           clear H
           obtain ⟨Ao24, co24, eo24⟩ := Kd.R_slice HO_5.out
           subst eo24
           have p183 : 0 ≤ (x7_2 : Int) := of_decide_eq_true (by first | (with_reducible assumption) | assumption)
           have q183 : x7_2 < (t176.length : Int) := of_decide_eq_true (by first | (with_reducible assumption) | assumption)
           obtain ⟨ad183, e183, hx183_0⟩ := Kd.at_string (Kd.R_reads' HO_5.out).2.2 x7_2 p183 q183
           cases e183
           replace p183 := eq_true p183
           replace q183 := eq_true q183
           go_wp2_with (first | ((with_reducible refine gate_callee (f := 71) rfl ?_); refine goesL_ (some 42) rfl rfl Tryd.func71 (by kernel_rfl) rfl #[.string (rdOf ByteArray.empty t176 x7_2)] rfl (by (try simp only [List.map_toArray, List.map_cons, List.map_nil]); first | done | rfl | (simp only [List.length_drop, List.length_take]; rfl)) ?_; (with_reducible refine (spec_VerUint.calls k2 (rdOf ByteArray.empty t176 x7_2) t184 true _ A21.out).mono ?_); rintro e w' ⟨rfl, ⟨nd, rfl⟩⟩; refine ⟨_, rfl, ?_⟩; (try (rw [drewN_self wr]; generalize hq_ : World.drewN wr _ = wr; have n0_ : Aside0 (Kd.R (Kd.int .u64) 22 wr w.heap.size (fun _ => True) u175000 x175000_2) := ⟨by rw [← hq_]; exact (by (with_reducible repeat (first | apply kA_ | apply kN_ | apply kD_)); exact HO_175000.out)⟩; have n1_ : Aside0 (Kd.R Kd.string 9 wr w.heap.size (fun _ => True) (.slice (some ad183) t176.length co24) t176) := ⟨by rw [← hq_]; exact (by (with_reducible repeat (first | apply kA_ | apply kN_ | apply kD_)); exact HO_5.out)⟩; have n2_ : Aside0 (wr.heap[gb174]? = some (.cells #[u175000, .bool x175001_2, .string x175002_2, .string x175003_2] 26 (0, 0))) := ⟨by rw [← hq_]; exact (by (with_reducible repeat (first | refine bN_ ?_ _ | refine bD_ ?_ | refine bA_ ?_ _)); exact BK174.out)⟩; have n3_ : Aside0 (Below w.heap.size w wr) := ⟨by rw [← hq_]; exact (by repeat (first | (with_reducible first | exact HB.out | apply bB_ | apply wN_ | apply bE_ | refine bS_ ?_ GE174.out) | exact HB.out))⟩; clear HO_175000 HO_5 BK174 HB hq_; have HO_175000 := n0_; have HO_5 := n1_; have BK174 := n2_; have HB := n3_; clear n0_ n1_ n2_ n3_)); have hcz25_0 : wr.cell? ⟨gb174, 0, none⟩ = some (u175000) := (bC_ BK174.out 0).trans rfl; have hcz25_1 : wr.cell? ⟨gb174, 1, none⟩ = some (.bool x175001_2) := (bC_ BK174.out 1).trans rfl; have hcz25_2 : wr.cell? ⟨gb174, 2, none⟩ = some (.string x175002_2) := (bC_ BK174.out 2).trans rfl; have hcz25_3 : wr.cell? ⟨gb174, 3, none⟩ = some (.string x175003_2) := (bC_ BK174.out 3).trans rfl; have hfz25_0 := bF_ BK174.out 0; have hfz25_1 := bF_ BK174.out 1; have hfz25_2 := bF_ BK174.out 2; have hfz25_3 := bF_ BK174.out 3) | ((with_reducible refine gate_builtin (b := .append) (xs := #[.tmp 49, .tmp 51]) rfl ?_); at_builtin; refine Kd.R_append (Kd.int .u64) (w0 := w) w.heap.size rfl (.tmp 49) (.tmp 51) 24 22 (.int .u64 0) 8 rfl Tryd.underlying24 info22 rfl (by decide) (by omega) u175000 x175000_2 t184 [.int .u64 t184] (fun _ => True) (fun _ => False) rfl rfl ?aP (fun _ hk => hk.elim) ?aF ?aO ?aB ?aS ?aL ?_; (case aP => exact rfl); (case aB => exact (by repeat (first | (with_reducible first | exact HB.out | apply bB_ | apply wN_ | apply bE_ | refine bS_ ?_ GE174.out) | exact HB.out))); (case aF => exact (fun _ _ => trivial)); (case aO => exact (by (with_reducible repeat (first | apply kA_ | apply kN_ | apply kD_)); exact HO_175000.out)); (case aS => exact (below_size (by repeat (first | (with_reducible first | exact HB.out | apply bB_ | apply wN_ | apply bE_ | refine bS_ ?_ GE174.out) | exact HB.out)))); (case aL => have := LMc23.out; omega); intro v187 w26 ho hb hg hat; rw [← Ny186.out] at ho; have n0_ := aM_ (Kd.R_over' (by (with_reducible repeat (first | apply kA_ | apply kN_ | apply kD_)); exact HO_5.out) (Kd.R_typed (by (with_reducible repeat (first | apply kA_ | apply kN_ | apply kD_)); exact HO_175000.out)) (by decide) hg); have n1_ := aM_ (blk_grown (g := gb174) (o := .cells #[u175000, .bool x175001_2, .string x175002_2, .string x175003_2] 26 (0, 0)) (by (with_reducible repeat (first | refine bN_ ?_ _ | refine bD_ ?_ | refine bA_ ?_ _)); exact BK174.out) hg (Kd.R_ne HO_175000.out BK174.out (by decide))); have n2_ := aM_ (hb); have n3_ := aM_ (ho); clear HO_5; clear BK174; clear HB; clear HO_175000; have HO_5 := n0_; have BK174 := n1_; have HB := n2_; have HO188 := n3_; clear n0_ n1_ n2_ n3_; clear ho hb hg hat; obtain ⟨Ao27, co27, eo27⟩ := Kd.R_slice HO188.out; subst eo27; have hcz28_0 : w26.cell? ⟨gb174, 0, none⟩ = some (u175000) := (bC_ BK174.out 0).trans rfl; have hcz28_1 : w26.cell? ⟨gb174, 1, none⟩ = some (.bool x175001_2) := (bC_ BK174.out 1).trans rfl; have hcz28_2 : w26.cell? ⟨gb174, 2, none⟩ = some (.string x175002_2) := (bC_ BK174.out 2).trans rfl; have hcz28_3 : w26.cell? ⟨gb174, 3, none⟩ = some (.string x175003_2) := (bC_ BK174.out 3).trans rfl; have hfz28_0 := bF_ BK174.out 0; have hfz28_1 := bF_ BK174.out 1; have hfz28_2 := bF_ BK174.out 2; have hfz28_3 := bF_ BK174.out 3))
           go_roundg k2
           case measure => have := HJ8.out; have := HK2.out; omega
           case rel => exact ⟨(wrap64 (x7_2 + 1)), (y186), (x175001_2), (x175002_2), (x175003_2), (.slice Ao27 y186.length co27), (by first | rfl | (simp; done) | (simp [*]; done)), H', ⟨by have := HJ8.out; have := HK2.out; omega⟩, ⟨by (with_reducible repeat (first | apply kA_ | apply kN_ | apply kD_)); exact Kd.R_mono (Kd.R_far (p := ⟨gb174, 0, none⟩) (Kd.R_types HO_5.out BK174.out (by decide)) (fun _ hk => hk.2) (.slice Ao27 y186.length co27)) (fun _ hk => trivial)⟩, ⟨by (with_reducible repeat (first | apply kA_ | apply kN_ | apply kD_)); exact Kd.R_mono (Kd.R_far (p := ⟨gb174, 0, none⟩) (Kd.R_types HO188.out BK174.out (by decide)) (fun _ hk => hk.2) (.slice Ao27 y186.length co27)) (fun _ hk => trivial)⟩, ⟨by (with_reducible repeat (first | refine bN_ ?_ _ | refine bD_ ?_ | refine bA_ ?_ _)); refine blk_put (cs := #[u175000, .bool x175001_2, .string x175002_2, .string x175003_2]) ?_ 0 _ rfl; (with_reducible repeat (first | refine bN_ ?_ _ | refine bD_ ?_ | refine bA_ ?_ _)); exact BK174.out⟩, ⟨by repeat (first | (with_reducible first | exact HB.out | apply bB_ | apply wN_ | apply bE_ | refine bS_ ?_ GE174.out) | exact HB.out)⟩⟩
          ·
           rw [if_neg c23] at H
           exact absurd H (by simp)
         ·
          replace c22 := Bool.eq_false_iff.mpr c22
          subst c22
          have H1 : (some (([] : List Int), false, (⟨#[]⟩ : ByteArray), (⟨#[]⟩ : ByteArray), false, true)) = some (r1, r2, r3, r4, r5, r6) := by rw [if_neg (show ¬ (false = true) by decide)] at H; exact H
          clear H
          have H := H1
          clear H1
          simp only [Option.some.injEq, Prod.mk.injEq] at H
          obtain ⟨rfl, rfl, rfl, rfl, rfl, rfl⟩ := H
          obtain ⟨Ao29, co29, eo29⟩ := Kd.R_slice HO_5.out
          subst eo29
          have p183 : 0 ≤ (x7_2 : Int) := of_decide_eq_true (by first | (with_reducible assumption) | assumption)
          have q183 : x7_2 < (t176.length : Int) := of_decide_eq_true (by first | (with_reducible assumption) | assumption)
          obtain ⟨ad183, e183, hx183_0⟩ := Kd.at_string (Kd.R_reads' HO_5.out).2.2 x7_2 p183 q183
          cases e183
          replace p183 := eq_true p183
          replace q183 := eq_true q183
          go_wp2_with (first | ((with_reducible refine gate_callee (f := 71) rfl ?_); refine goesL_ (some 42) rfl rfl Tryd.func71 (by kernel_rfl) rfl #[.string (rdOf ByteArray.empty t176 x7_2)] rfl (by (try simp only [List.map_toArray, List.map_cons, List.map_nil]); first | done | rfl | (simp only [List.length_drop, List.length_take]; rfl)) ?_; (with_reducible refine (spec_VerUint.calls k2 (rdOf ByteArray.empty t176 x7_2) t184 false _ A21.out).mono ?_); rintro e w' ⟨rfl, ⟨nd, rfl⟩⟩; refine ⟨_, rfl, ?_⟩; (try (rw [drewN_self wr]; generalize hq_ : World.drewN wr _ = wr; have n0_ : Aside0 (Kd.R (Kd.int .u64) 22 wr w.heap.size (fun _ => True) u175000 x175000_2) := ⟨by rw [← hq_]; exact (by (with_reducible repeat (first | apply kA_ | apply kN_ | apply kD_)); exact HO_175000.out)⟩; have n1_ : Aside0 (Kd.R Kd.string 9 wr w.heap.size (fun _ => True) (.slice (some ad183) t176.length co29) t176) := ⟨by rw [← hq_]; exact (by (with_reducible repeat (first | apply kA_ | apply kN_ | apply kD_)); exact HO_5.out)⟩; have n2_ : Aside0 (wr.heap[gb174]? = some (.cells #[u175000, .bool x175001_2, .string x175002_2, .string x175003_2] 26 (0, 0))) := ⟨by rw [← hq_]; exact (by (with_reducible repeat (first | refine bN_ ?_ _ | refine bD_ ?_ | refine bA_ ?_ _)); exact BK174.out)⟩; have n3_ : Aside0 (Below w.heap.size w wr) := ⟨by rw [← hq_]; exact (by repeat (first | (with_reducible first | exact HB.out | apply bB_ | apply wN_ | apply bE_ | refine bS_ ?_ GE174.out) | exact HB.out))⟩; clear HO_175000 HO_5 BK174 HB hq_; have HO_175000 := n0_; have HO_5 := n1_; have BK174 := n2_; have HB := n3_; clear n0_ n1_ n2_ n3_)); have hcz30_0 : wr.cell? ⟨gb174, 0, none⟩ = some (u175000) := (bC_ BK174.out 0).trans rfl; have hcz30_1 : wr.cell? ⟨gb174, 1, none⟩ = some (.bool x175001_2) := (bC_ BK174.out 1).trans rfl; have hcz30_2 : wr.cell? ⟨gb174, 2, none⟩ = some (.string x175002_2) := (bC_ BK174.out 2).trans rfl; have hcz30_3 : wr.cell? ⟨gb174, 3, none⟩ = some (.string x175003_2) := (bC_ BK174.out 3).trans rfl; have hfz30_0 := bF_ BK174.out 0; have hfz30_1 := bF_ BK174.out 1; have hfz30_2 := bF_ BK174.out 2; have hfz30_3 := bF_ BK174.out 3))
          refine bodyPost_ret (results_ctt rfl _ _ gb174 26 #[.slice none 0 0, .bool false, .string (⟨#[]⟩ : ByteArray), .string (⟨#[]⟩ : ByteArray)] (0, 0) _ rfl (by (with_reducible repeat (first | refine bN_ ?_ _ | refine bD_ ?_ | refine bA_ ?_ _)); refine blk_put (cs := #[.slice none 0 0, .bool false, .string (⟨#[]⟩ : ByteArray), .string x175003_2]) ?_ 3 _ rfl; (with_reducible repeat (first | refine bN_ ?_ _ | refine bD_ ?_ | refine bA_ ?_ _)); refine blk_put (cs := #[.slice none 0 0, .bool false, .string x175002_2, .string x175003_2]) ?_ 2 _ rfl; (with_reducible repeat (first | refine bN_ ?_ _ | refine bD_ ?_ | refine bA_ ?_ _)); refine blk_put (cs := #[.slice none 0 0, .bool x175001_2, .string x175002_2, .string x175003_2]) ?_ 1 _ rfl; (with_reducible repeat (first | refine bN_ ?_ _ | refine bD_ ?_ | refine bA_ ?_ _)); refine blk_put (cs := #[u175000, .bool x175001_2, .string x175002_2, .string x175003_2]) ?_ 0 _ rfl; (with_reducible repeat (first | refine bN_ ?_ _ | refine bD_ ?_ | refine bA_ ?_ _)); exact BK174.out) Tryd.underlying26 rfl (by kernel_rfl)) rfl ?_
          exact ⟨_, by first | rfl | (simp [errW_none, errW_some] <;> rfl) | (simp [*, errW_none, errW_some] <;> rfl), by first | exact Kd.R_nil _ _ _ _ _ | exact Kd.N_nil _ _ _ _ _ | exact Kd.V_nil _ _ _ _ _ | exact Kd.Q_nil _ _ _ _ _ | exact Kd.S_nil _ _ _ _ _, by repeat (first | (with_reducible first | exact HB.out | apply bB_ | apply wN_ | apply bE_ | refine bS_ ?_ GE174.out) | exact HB.out)⟩
        ·
         rw [if_neg c20] at H
         exact absurd H (by simp)
       ·
        rw [if_neg c19] at H
        have c19b0 : decide (x7_2 < (t176.length : Int)) = false := decide_eq_false c19
        clear c19
        simp only [Option.some.injEq, Prod.mk.injEq] at H
        obtain ⟨rfl, rfl, rfl, rfl, rfl, rfl⟩ := H
        obtain ⟨Ao31, co31, eo31⟩ := Kd.R_slice HO_5.out
        subst eo31
        have hcz32_0 : wr.cell? ⟨gb174, 0, none⟩ = some (u175000) := (bC_ BK174.out 0).trans rfl
        have hcz32_1 : wr.cell? ⟨gb174, 1, none⟩ = some (.bool x175001_2) := (bC_ BK174.out 1).trans rfl
        have hcz32_2 : wr.cell? ⟨gb174, 2, none⟩ = some (.string x175002_2) := (bC_ BK174.out 2).trans rfl
        have hcz32_3 : wr.cell? ⟨gb174, 3, none⟩ = some (.string x175003_2) := (bC_ BK174.out 3).trans rfl
        have hfz32_0 := bF_ BK174.out 0
        have hfz32_1 := bF_ BK174.out 1
        have hfz32_2 := bF_ BK174.out 2
        have hfz32_3 := bF_ BK174.out 3
        obtain ⟨Ao33, co33, eo33⟩ := Kd.R_slice HO_175000.out
        subst eo33
        go_wp2
        refine bodyPost_ret (results_ctt rfl _ _ gb174 26 #[.slice Ao33 x175000_2.length co33, .bool x175001_2, .string x175002_2, .string x175003_2] (0, 0) _ rfl (by (with_reducible repeat (first | refine bN_ ?_ _ | refine bD_ ?_ | refine bA_ ?_ _)); refine blk_put (cs := #[.slice Ao33 x175000_2.length co33, .bool x175001_2, .string x175002_2, .string x175003_2]) ?_ 3 _ rfl; (with_reducible repeat (first | refine bN_ ?_ _ | refine bD_ ?_ | refine bA_ ?_ _)); refine blk_put (cs := #[.slice Ao33 x175000_2.length co33, .bool x175001_2, .string x175002_2, .string x175003_2]) ?_ 2 _ rfl; (with_reducible repeat (first | refine bN_ ?_ _ | refine bD_ ?_ | refine bA_ ?_ _)); refine blk_put (cs := #[.slice Ao33 x175000_2.length co33, .bool x175001_2, .string x175002_2, .string x175003_2]) ?_ 1 _ rfl; (with_reducible repeat (first | refine bN_ ?_ _ | refine bD_ ?_ | refine bA_ ?_ _)); refine blk_put (cs := #[.slice Ao33 x175000_2.length co33, .bool x175001_2, .string x175002_2, .string x175003_2]) ?_ 0 _ rfl; (with_reducible repeat (first | refine bN_ ?_ _ | refine bD_ ?_ | refine bA_ ?_ _)); exact BK174.out) Tryd.underlying26 rfl (by kernel_rfl)) rfl ?_
        exact ⟨_, by first | rfl | (simp [errW_none, errW_some] <;> rfl) | (simp [*, errW_none, errW_some] <;> rfl), by (with_reducible repeat (first | apply kA_ | apply kN_ | apply kD_)); exact Kd.R_mono (Kd.R_far (p := ⟨gb174, 3, none⟩) (Kd.R_far (p := ⟨gb174, 2, none⟩) (Kd.R_far (p := ⟨gb174, 1, none⟩) (Kd.R_far (p := ⟨gb174, 0, none⟩) (Kd.R_types HO_175000.out BK174.out (by decide)) (fun _ hk => hk.2) (.slice Ao33 x175000_2.length co33)) (fun _ hk => hk.2) (.bool x175001_2)) (fun _ hk => hk.2) (.string x175002_2)) (fun _ hk => hk.2) (.string x175003_2)) (fun _ hk => trivial), by repeat (first | (with_reducible first | exact HB.out | apply bB_ | apply wN_ | apply bE_ | refine bS_ ?_ GE174.out) | exact HB.out)⟩

end Go.Proofs.YtomoefldmgfaoaaDoor.PFnVersionParse
