-- PRINTED BY print.sh 35421559b90ae4d0a3588c463048766b98c2df88dd9212a6774a882060cdf62d: not written by this session
import Derived.Test.YtgidpggooclebaaPFnScaleProductsx0
import Derived.Test.YtgidpggooclebaaPFnScaleProductsx1
import Derived.Test.YtgidpggooclebaaPFnScaleProductsx3
import Derived.Test.YtgidpggooclebaaPFnScaleProductsx4
namespace Go.Proofs.Ytgidpggooclebaa.PFnScaleProducts
open Go.RowKit Go.Proofs.YtgidpggooclebaaW.PrintWords Go.Proofs.YtgidpggooclebaaW.PrintLast Go.Proofs.YtgidpggooclebaaW.PrintMore
attribute [local go_sem] max2_int min2_int max_two min_two max_three min_three max_four min_four   -- for this text's walks alone
set_option linter.unusedVariables false
set_option linter.unusedSimpArgs false

/-! ### laws_FnScaleProducts: function 3 -/
mutual
def laws_FnScaleProducts.j0 : Nat → Int → Int → Bool → Option (Bool)
  | 0, _, _, _ => none
  | k + 1, x0, x1, x16 => if x16 = true then (some true) else ((spec_DecimalOf.f k x0 0).bind fun bt184 => ((spec_DecimalOf.f k x1 0).bind fun bt189 => ((spec_DecimalTimes.f k bt184.1 bt184.2.1 bt184.2.2 bt189.1 bt189.2.1 bt189.2.2).bind fun bt194 => ((laws_scaleFits.f k bt194.1 bt194.2.1 bt194.2.2).bind fun bt199 => ((impl_Int64Multiply.f k x0 x1).bind fun bt201 => (if (bt201.2 != bt199.2) = true then (laws_FnScaleProducts.j1 k x0 x1 bt199.1 bt199.2 true) else (if bt201.2 = true then (laws_FnScaleProducts.j1 k x0 x1 bt199.1 bt199.2 (bt201.1 != bt199.1)) else (laws_FnScaleProducts.j1 k x0 x1 bt199.1 bt199.2 false))))))))
def laws_FnScaleProducts.j1 : Nat → Int → Int → Int → Bool → Bool → Option (Bool)
  | 0, _, _, _, _, _ => none
  | k + 1, x0, x1, x5, x6, x42 => if x42 = true then (some false) else (if x1 ≥ 1 then ((impl_Int64MultiplyScale.f k x0 x1).bind fun bt203 => (if (bt203.2 != x6) = true then (some false) else (if bt203.2 = true then (if bt203.1 = x5 then ((impl_Int64Multiply.f k 2 3).bind fun bt205 => (if bt205.2 = true then (some (bt205.1 == 6)) else (some false))) else (some false)) else ((impl_Int64Multiply.f k 2 3).bind fun bt207 => (if bt207.2 = true then (some (bt207.1 == 6)) else (some false)))))) else ((impl_Int64Multiply.f k 2 3).bind fun bt209 => (if bt209.2 = true then (some (bt209.1 == 6)) else (some false))))
end
def laws_FnScaleProducts.f (k : Nat) (a0 : Int) (a1 : Int) : Option (Bool) := if a0 = (-9223372036854775808) then (laws_FnScaleProducts.j0 k a0 a1 true) else (laws_FnScaleProducts.j0 k a0 a1 (a1 == (-9223372036854775808)))
theorem laws_FnScaleProducts.mono_l : ∀ k, (∀ y0 y1 y2, LeO (laws_FnScaleProducts.j0 k y0 y1 y2) (laws_FnScaleProducts.j0 (k + 1) y0 y1 y2)) ∧ (∀ y0 y1 y2 y3 y4, LeO (laws_FnScaleProducts.j1 k y0 y1 y2 y3 y4) (laws_FnScaleProducts.j1 (k + 1) y0 y1 y2 y3 y4))
  | 0 => ⟨fun _ _ _ r h => by simp [laws_FnScaleProducts.j0] at h, fun _ _ _ _ _ r h => by simp [laws_FnScaleProducts.j1] at h⟩
  | k + 1 => by
    obtain ⟨ih0, ih1⟩ := laws_FnScaleProducts.mono_l k
    refine ⟨?_, ?_⟩
    · intro y0 y1 y2
      unfold laws_FnScaleProducts.j0
      repeat' first
      | (with_reducible exact ih0 _ _ _)
      | (with_reducible exact ih1 _ _ _ _ _)
      | (with_reducible exact impl_Int64Multiply.mono _ _ _)
      | (with_reducible exact impl_Int64MultiplyScale.mono _ _ _)
      | (with_reducible exact laws_scaleFits.mono _ _ _ _)
      | (with_reducible exact spec_DecimalOf.mono _ _ _)
      | (with_reducible exact spec_DecimalTimes.mono _ _ _ _ _ _ _)
      | (with_reducible exact LeO.refl _)
      | (with_reducible exact LeO.none _)
      | (with_reducible refine LeO.ite ?_ ?_)
      | (with_reducible refine LeO.bind ?_ (fun _ => ?_))
      | exact ih0 _ _ _
      | exact ih1 _ _ _ _ _
      | exact impl_Int64Multiply.mono _ _ _
      | exact impl_Int64MultiplyScale.mono _ _ _
      | exact laws_scaleFits.mono _ _ _ _
      | exact spec_DecimalOf.mono _ _ _
      | exact spec_DecimalTimes.mono _ _ _ _ _ _ _
      | exact LeO.none _
      | refine LeO.ite ?_ ?_
      | refine LeO.bind ?_ (fun _ => ?_)
    · intro y0 y1 y2 y3 y4
      unfold laws_FnScaleProducts.j1
      repeat' first
      | (with_reducible exact ih0 _ _ _)
      | (with_reducible exact ih1 _ _ _ _ _)
      | (with_reducible exact impl_Int64Multiply.mono _ _ _)
      | (with_reducible exact impl_Int64MultiplyScale.mono _ _ _)
      | (with_reducible exact laws_scaleFits.mono _ _ _ _)
      | (with_reducible exact spec_DecimalOf.mono _ _ _)
      | (with_reducible exact spec_DecimalTimes.mono _ _ _ _ _ _ _)
      | (with_reducible exact LeO.refl _)
      | (with_reducible exact LeO.none _)
      | (with_reducible refine LeO.ite ?_ ?_)
      | (with_reducible refine LeO.bind ?_ (fun _ => ?_))
      | exact ih0 _ _ _
      | exact ih1 _ _ _ _ _
      | exact impl_Int64Multiply.mono _ _ _
      | exact impl_Int64MultiplyScale.mono _ _ _
      | exact laws_scaleFits.mono _ _ _ _
      | exact spec_DecimalOf.mono _ _ _
      | exact spec_DecimalTimes.mono _ _ _ _ _ _ _
      | exact LeO.none _
      | refine LeO.ite ?_ ?_
      | refine LeO.bind ?_ (fun _ => ?_)
theorem laws_FnScaleProducts.mono : ∀ a0 a1 k, LeO (laws_FnScaleProducts.f k a0 a1) (laws_FnScaleProducts.f (k + 1) a0 a1) := by
  intro a0 a1 k
  obtain ⟨ih0, ih1⟩ := laws_FnScaleProducts.mono_l k
  unfold laws_FnScaleProducts.f
  repeat' first
      | (with_reducible exact ih0 _ _ _)
      | (with_reducible exact ih1 _ _ _ _ _)
      | (with_reducible exact impl_Int64Multiply.mono _ _ _)
      | (with_reducible exact impl_Int64MultiplyScale.mono _ _ _)
      | (with_reducible exact laws_scaleFits.mono _ _ _ _)
      | (with_reducible exact spec_DecimalOf.mono _ _ _)
      | (with_reducible exact spec_DecimalTimes.mono _ _ _ _ _ _ _)
      | (with_reducible exact LeO.refl _)
      | (with_reducible exact LeO.none _)
      | (with_reducible refine LeO.ite ?_ ?_)
      | (with_reducible refine LeO.bind ?_ (fun _ => ?_))
      | exact ih0 _ _ _
      | exact ih1 _ _ _ _ _
      | exact impl_Int64Multiply.mono _ _ _
      | exact impl_Int64MultiplyScale.mono _ _ _
      | exact laws_scaleFits.mono _ _ _ _
      | exact spec_DecimalOf.mono _ _ _
      | exact spec_DecimalTimes.mono _ _ _ _ _ _ _
      | exact LeO.none _
      | refine LeO.ite ?_ ?_
      | refine LeO.bind ?_ (fun _ => ?_)
set_option maxHeartbeats 8000000 in
set_option maxRecDepth 100000 in
theorem laws_FnScaleProducts.calls (k : Nat) (a0 : Int) (a1 : Int) (r : Bool) (w : World) (h : laws_FnScaleProducts.f k a0 a1 = some r) :
    Calls Try.prog 3 #[.int .i64 a0, .int .i64 a1] w fun e w' => e = .returned (.bool r) ∧ Below w.heap.size w w' := by
  have HB := Aside0.mk (Below.refl w.heap.size w)
  have H : (if a0 = (-9223372036854775808) then (laws_FnScaleProducts.j0 k a0 a1 true) else (laws_FnScaleProducts.j0 k a0 a1 (a1 == (-9223372036854775808)))) = some r := h
  clear h
  have HC3 := Aside0.mk H
  clear H
  go_enter Try.func3, Try.ntmps3
  go_upto_region 1 with (fail)
  go_cut [16] (fun v16 wc => ∃ (kq : Nat) (x16_2 : Bool), v16 = .bool x16_2 ∧ Aside0 (laws_FnScaleProducts.j0 kq a0 a1 x16_2 = some r) ∧ Aside0 (kq ≤ k) ∧ Aside0 (Below w.heap.size w wc))
  case first =>
    have H := HC3.out
    clear HC3
    by_cases c4 : a0 = (-9223372036854775808)
    · rw [if_pos c4] at H
      have c4b0 : (a0 == (-9223372036854775808)) = true := beq_iff_eq.mpr c4
      have c4b1 : (a0 != (-9223372036854775808)) = false := bne_eq_false_iff_eq.mpr c4
      clear c4
      (first | rw [c4b0] | (simp only [i64_w, i32_w]; rw [c4b0]) | skip)
      have H' := Aside0.mk H
      clear H
      go_wp2
      go_meet
      case rel => exact ⟨_, (true), (by first | rfl | (simp; done) | (simp [*]; done)), H', ⟨by first | omega | exact Nat.le_refl _⟩, ⟨by repeat (first | (with_reducible first | exact HB.out | apply below_alloc | apply pw_below_drewN | apply below_drew1) | exact HB.out)⟩⟩
    · rw [if_neg c4] at H
      have c4b0 : (a0 == (-9223372036854775808)) = false := beq_eq_false_iff_ne.mpr c4
      have c4b1 : (a0 != (-9223372036854775808)) = true := bne_iff_ne.mpr c4
      (first | rw [c4b0] | (simp only [i64_w, i32_w]; rw [c4b0]) | skip)
      have H' := Aside0.mk H
      clear H
      go_wp2
      go_meet
      case rel => exact ⟨_, ((a1 == (-9223372036854775808))), (by first | rfl | (simp; done) | (simp [*]; done)), H', ⟨by first | omega | exact Nat.le_refl _⟩, ⟨by repeat (first | (with_reducible first | exact HB.out | apply below_alloc | apply pw_below_drewN | apply below_drew1) | exact HB.out)⟩⟩
  case rest =>
    clear HC3
    try clear p2
    try clear c3
    try clear c4
    try clear c4b0
    try clear c4b1
    obtain ⟨kq, x16_2, rfl, HA, HJ2, HB⟩ := hcut
    cases kq with
    | zero => exact absurd HA.out (by simp [laws_FnScaleProducts.j0])
    | succ kj2 =>
      have H := HA.out
      clear HA
      simp only [laws_FnScaleProducts.j0] at H
      by_cases c5 : x16_2 = true
      · subst c5
        have H1 : (some true) = some r := by rw [if_pos rfl] at H; exact H
        clear H
        have H := H1
        clear H1
        obtain rfl := Option.some.inj H
        go_wp2
        go_ret
        exact ⟨by first | rfl | (simp [errW_none, errW_some] <;> rfl) | (simp [*, errW_none, errW_some] <;> rfl), by repeat (first | (with_reducible first | exact HB.out | apply below_alloc | apply pw_below_drewN | apply below_drew1) | exact HB.out)⟩
      · replace c5 := Bool.eq_false_iff.mpr c5
        subst c5
        have H1 : ((spec_DecimalOf.f kj2 a0 0).bind fun bt184 => ((spec_DecimalOf.f kj2 a1 0).bind fun bt189 => ((spec_DecimalTimes.f kj2 bt184.1 bt184.2.1 bt184.2.2 bt189.1 bt189.2.1 bt189.2.2).bind fun bt194 => ((laws_scaleFits.f kj2 bt194.1 bt194.2.1 bt194.2.2).bind fun bt199 => ((impl_Int64Multiply.f kj2 a0 a1).bind fun bt201 => (if (bt201.2 != bt199.2) = true then (laws_FnScaleProducts.j1 kj2 a0 a1 bt199.1 bt199.2 true) else (if bt201.2 = true then (laws_FnScaleProducts.j1 kj2 a0 a1 bt199.1 bt199.2 (bt201.1 != bt199.1)) else (laws_FnScaleProducts.j1 kj2 a0 a1 bt199.1 bt199.2 false)))))))) = some r := by rw [if_neg (show ¬ (false = true) by decide)] at H; exact H
        clear H
        have H := H1
        clear H1
        replace H := Option.bind_eq_some_iff.mp H
        obtain ⟨⟨t184, t185, t188⟩, A60, H⟩ := H
        replace H : ((spec_DecimalOf.f kj2 a1 0).bind fun bt189 => ((spec_DecimalTimes.f kj2 t184 t185 t188 bt189.1 bt189.2.1 bt189.2.2).bind fun bt194 => ((laws_scaleFits.f kj2 bt194.1 bt194.2.1 bt194.2.2).bind fun bt199 => ((impl_Int64Multiply.f kj2 a0 a1).bind fun bt201 => (if (bt201.2 != bt199.2) = true then (laws_FnScaleProducts.j1 kj2 a0 a1 bt199.1 bt199.2 true) else (if bt201.2 = true then (laws_FnScaleProducts.j1 kj2 a0 a1 bt199.1 bt199.2 (bt201.1 != bt199.1)) else (laws_FnScaleProducts.j1 kj2 a0 a1 bt199.1 bt199.2 false))))))) = some r := H
        have A6 := Aside0.mk A60
        clear A60
        replace H := Option.bind_eq_some_iff.mp H
        obtain ⟨⟨t189, t190, t193⟩, A70, H⟩ := H
        replace H : ((spec_DecimalTimes.f kj2 t184 t185 t188 t189 t190 t193).bind fun bt194 => ((laws_scaleFits.f kj2 bt194.1 bt194.2.1 bt194.2.2).bind fun bt199 => ((impl_Int64Multiply.f kj2 a0 a1).bind fun bt201 => (if (bt201.2 != bt199.2) = true then (laws_FnScaleProducts.j1 kj2 a0 a1 bt199.1 bt199.2 true) else (if bt201.2 = true then (laws_FnScaleProducts.j1 kj2 a0 a1 bt199.1 bt199.2 (bt201.1 != bt199.1)) else (laws_FnScaleProducts.j1 kj2 a0 a1 bt199.1 bt199.2 false)))))) = some r := H
        have A7 := Aside0.mk A70
        clear A70
        replace H := Option.bind_eq_some_iff.mp H
        obtain ⟨⟨t194, t195, t198⟩, A80, H⟩ := H
        replace H : ((laws_scaleFits.f kj2 t194 t195 t198).bind fun bt199 => ((impl_Int64Multiply.f kj2 a0 a1).bind fun bt201 => (if (bt201.2 != bt199.2) = true then (laws_FnScaleProducts.j1 kj2 a0 a1 bt199.1 bt199.2 true) else (if bt201.2 = true then (laws_FnScaleProducts.j1 kj2 a0 a1 bt199.1 bt199.2 (bt201.1 != bt199.1)) else (laws_FnScaleProducts.j1 kj2 a0 a1 bt199.1 bt199.2 false))))) = some r := H
        have A8 := Aside0.mk A80
        clear A80
        replace H := Option.bind_eq_some_iff.mp H
        obtain ⟨⟨t199, t200⟩, A90, H⟩ := H
        replace H : ((impl_Int64Multiply.f kj2 a0 a1).bind fun bt201 => (if (bt201.2 != t200) = true then (laws_FnScaleProducts.j1 kj2 a0 a1 t199 t200 true) else (if bt201.2 = true then (laws_FnScaleProducts.j1 kj2 a0 a1 t199 t200 (bt201.1 != t199)) else (laws_FnScaleProducts.j1 kj2 a0 a1 t199 t200 false)))) = some r := H
        have A9 := Aside0.mk A90
        clear A90
        replace H := Option.bind_eq_some_iff.mp H
        obtain ⟨⟨t201, t202⟩, A100, H⟩ := H
        replace H : (if (t202 != t200) = true then (laws_FnScaleProducts.j1 kj2 a0 a1 t199 t200 true) else (if t202 = true then (laws_FnScaleProducts.j1 kj2 a0 a1 t199 t200 (t201 != t199)) else (laws_FnScaleProducts.j1 kj2 a0 a1 t199 t200 false))) = some r := H
        have A10 := Aside0.mk A100
        clear A100
        have HC11 := Aside0.mk H
        clear H
        go_upto_region 5 with (first | ((with_reducible refine gate_callee (f := 10) rfl ?_); refine goesL_ (some 19) rfl rfl Try.func10 (by kernel_rfl) rfl #[.int .i64 a0, .int .i64 0] rfl (by (try simp only [List.map_toArray, List.map_cons, List.map_nil]); first | done | rfl | (simp only [List.length_drop, List.length_take]; rfl)) ?_; (with_reducible refine (spec_DecimalOf.calls kj2 a0 0 t184 t185 t188 _ A6.out).mono ?_); rintro e w12 ⟨v186, rfl, ho0, hb⟩; refine ⟨_, rfl, ?_⟩; have n0_ := Aside0.mk (Kd.R_lower ho0 (below_size (by repeat (first | (with_reducible first | exact HB.out | apply below_alloc | apply pw_below_drewN | apply below_drew1) | exact HB.out)))); have n1_ := Aside0.mk (below_step (by repeat (first | (with_reducible first | exact HB.out | apply below_alloc | apply pw_below_drewN | apply below_drew1) | exact HB.out)) hb); clear HB; have HO187 := n0_; have HB := n1_; clear n0_ n1_; (try clear hb); (try clear hb2); (try clear hk); (try clear hi); (try clear ho0)) | ((with_reducible refine gate_callee (f := 10) rfl ?_); refine goesL_ (some 21) rfl rfl Try.func10 (by kernel_rfl) rfl #[.int .i64 a1, .int .i64 0] rfl (by (try simp only [List.map_toArray, List.map_cons, List.map_nil]); first | done | rfl | (simp only [List.length_drop, List.length_take]; rfl)) ?_; (with_reducible refine (spec_DecimalOf.calls kj2 a1 0 t189 t190 t193 _ A7.out).mono ?_); rintro e w13 ⟨v191, rfl, ho0, hb⟩; refine ⟨_, rfl, ?_⟩; have n0_ := Aside0.mk (Kd.R_elder' (by (with_reducible repeat (first | apply Kd.R_alloc | apply Kd.R_drewN | apply Kd.R_drew)); exact HO187.out) (Kd.R_base ho0) hb); have n1_ := Aside0.mk (Kd.R_lower (Kd.R_new' ho0 (Kd.R_lt (by (with_reducible repeat (first | apply Kd.R_alloc | apply Kd.R_drewN | apply Kd.R_drew)); exact HO187.out))) (below_size (by repeat (first | (with_reducible first | exact HB.out | apply below_alloc | apply pw_below_drewN | apply below_drew1) | exact HB.out)))); have n2_ := Aside0.mk (below_step (by repeat (first | (with_reducible first | exact HB.out | apply below_alloc | apply pw_below_drewN | apply below_drew1) | exact HB.out)) hb); clear HO187; clear HB; have HO187 := n0_; have HO192 := n1_; have HB := n2_; clear n0_ n1_ n2_; (try clear hb); (try clear hb2); (try clear hk); (try clear hi); (try clear ho0); obtain ⟨Ao14, co14, eo14⟩ := Kd.R_slice HO187.out; subst eo14; obtain ⟨Ao15, co15, eo15⟩ := Kd.R_slice HO192.out; subst eo15) | ((with_reducible refine gate_callee (f := 9) rfl ?_); refine goesL_ (some 22) rfl rfl Try.func9 (by kernel_rfl) rfl #[.agg #[.bool t184, .slice Ao14 t185.length co14, .int .i64 t188], .agg #[.bool t189, .slice Ao15 t190.length co15, .int .i64 t193]] rfl (by (try simp only [List.map_toArray, List.map_cons, List.map_nil]); first | done | rfl | (simp only [List.length_drop, List.length_take]; rfl)) ?_; (with_reducible refine (spec_DecimalTimes.calls kj2 t184 _ _ t185 t188 t189 _ _ t190 t193 t194 t195 t198 _ ?side1 ?side2 ?side3 ?side4 A8.out).mono ?_); (case side1 => repeat (first | exact (Kd.R_reads' HO187.out).2.2 | (with_reducible refine Kd.C_alloc ?_ _) | (with_reducible refine Kd.C_drewN ?_ _) | (with_reducible refine Kd.C_drew ?_))); (case side2 => exact (Kd.R_reads' HO187.out).2.1); (case side3 => repeat (first | exact (Kd.R_reads' HO192.out).2.2 | (with_reducible refine Kd.C_alloc ?_ _) | (with_reducible refine Kd.C_drewN ?_ _) | (with_reducible refine Kd.C_drew ?_))); (case side4 => exact (Kd.R_reads' HO192.out).2.1); rintro e w16 ⟨v196, rfl, ho0, hb⟩; refine ⟨_, rfl, ?_⟩; have n0_ := Aside0.mk (Kd.R_elder' (by (with_reducible repeat (first | apply Kd.R_alloc | apply Kd.R_drewN | apply Kd.R_drew)); exact HO187.out) (Kd.R_base ho0) hb); have n1_ := Aside0.mk (Kd.R_elder' (by (with_reducible repeat (first | apply Kd.R_alloc | apply Kd.R_drewN | apply Kd.R_drew)); exact HO192.out) (Kd.R_base ho0) hb); have n2_ := Aside0.mk (Kd.R_lower (Kd.R_new' (Kd.R_new' ho0 (Kd.R_lt (by (with_reducible repeat (first | apply Kd.R_alloc | apply Kd.R_drewN | apply Kd.R_drew)); exact HO187.out))) (Kd.R_lt (by (with_reducible repeat (first | apply Kd.R_alloc | apply Kd.R_drewN | apply Kd.R_drew)); exact HO192.out))) (below_size (by repeat (first | (with_reducible first | exact HB.out | apply below_alloc | apply pw_below_drewN | apply below_drew1) | exact HB.out)))); have n3_ := Aside0.mk (below_step (by repeat (first | (with_reducible first | exact HB.out | apply below_alloc | apply pw_below_drewN | apply below_drew1) | exact HB.out)) hb); clear HO187; clear HO192; clear HB; have HO187 := n0_; have HO192 := n1_; have HO197 := n2_; have HB := n3_; clear n0_ n1_ n2_ n3_; (try clear hb); (try clear hb2); (try clear hk); (try clear hi); (try clear ho0); obtain ⟨Ao17, co17, eo17⟩ := Kd.R_slice HO197.out; subst eo17) | ((with_reducible refine gate_callee (f := 8) rfl ?_); refine goesL_ (some 23) rfl rfl Try.func8 (by kernel_rfl) rfl #[.agg #[.bool t194, .slice Ao17 t195.length co17, .int .i64 t198]] rfl (by (try simp only [List.map_toArray, List.map_cons, List.map_nil]); first | done | rfl | (simp only [List.length_drop, List.length_take]; rfl)) ?_; (with_reducible refine (laws_scaleFits.calls kj2 t194 _ _ t195 t198 t199 t200 _ ?side1 ?side2 A9.out).mono ?_); (case side1 => repeat (first | exact (Kd.R_reads' HO197.out).2.2 | (with_reducible refine Kd.C_alloc ?_ _) | (with_reducible refine Kd.C_drewN ?_ _) | (with_reducible refine Kd.C_drew ?_))); (case side2 => exact (Kd.R_reads' HO197.out).2.1); rintro e w18 ⟨rfl, hb⟩; refine ⟨_, rfl, ?_⟩; have n0_ := Aside0.mk (Kd.R_below (by (with_reducible repeat (first | apply Kd.R_alloc | apply Kd.R_drewN | apply Kd.R_drew)); exact HO187.out) hb); have n1_ := Aside0.mk (Kd.R_below (by (with_reducible repeat (first | apply Kd.R_alloc | apply Kd.R_drewN | apply Kd.R_drew)); exact HO192.out) hb); have n2_ := Aside0.mk (Kd.R_below (by (with_reducible repeat (first | apply Kd.R_alloc | apply Kd.R_drewN | apply Kd.R_drew)); exact HO197.out) hb); have n3_ := Aside0.mk (below_step (by repeat (first | (with_reducible first | exact HB.out | apply below_alloc | apply pw_below_drewN | apply below_drew1) | exact HB.out)) hb); clear HO187; clear HO192; clear HO197; clear HB; have HO187 := n0_; have HO192 := n1_; have HO197 := n2_; have HB := n3_; clear n0_ n1_ n2_ n3_; (try clear hb); (try clear hb2); (try clear hk); (try clear hi)) | ((with_reducible refine gate_callee (f := 11) rfl ?_); refine goesL_ (some 29) rfl rfl Try.func11 (by kernel_rfl) rfl #[.int .i64 a0, .int .i64 a1] rfl (by (try simp only [List.map_toArray, List.map_cons, List.map_nil]); first | done | rfl | (simp only [List.length_drop, List.length_take]; rfl)) ?_; (with_reducible refine (impl_Int64Multiply.calls kj2 a0 a1 t201 t202 _ A10.out).mono ?_); rintro e w' ⟨rfl, ⟨nd, rfl⟩⟩; refine ⟨_, rfl, ?_⟩))
        (try simp only [Act.put, List.setIfInBounds_toArray, List.set_cons_zero, List.set_cons_succ])
        go_cut [42] (fun v42 wc => ∃ (kq : Nat) (x42_10 : Bool), v42 = .bool x42_10 ∧ Aside0 (laws_FnScaleProducts.j1 kq a0 a1 t199 t200 x42_10 = some r) ∧ Aside0 (kq ≤ kj2) ∧ Aside0 (Below w.heap.size w wc))
        case first =>
          have H := HC11.out
          clear HC11
          by_cases c19 : (t202 != t200) = true
          · rw [if_pos c19] at H
            have c19b0 : (t202 != t200) = true := c19
            (try (have c19b1 : decide (t202 = t200) = false := by simpa using c19))
            (try (have c19b2 : (t202 == t200) = false := by simpa using c19))
            (try (have c19b3 : ¬ (t202 = t200) := by simpa using c19))
            clear c19
            (first | rw [c19b0] | (simp only [i64_w, i32_w]; rw [c19b0]) | skip)
            have H' := Aside0.mk H
            clear H
            go_wp2
            go_meet
            case rel => exact ⟨_, (true), (by first | rfl | (simp; done) | (simp [*]; done)), H', ⟨by have := HJ2.out; first | omega | exact Nat.le_refl _⟩, ⟨by repeat (first | (with_reducible first | exact HB.out | apply below_alloc | apply pw_below_drewN | apply below_drew1) | exact HB.out)⟩⟩
          · rw [if_neg c19] at H
            have c19b0 : (t202 != t200) = false := by simpa using c19
            (try (have c19b1 : decide (t202 = t200) = true := by simpa using c19))
            (try (have c19b2 : (t202 == t200) = true := by simpa using c19))
            clear c19
            (first | rw [c19b0] | (simp only [i64_w, i32_w]; rw [c19b0]) | skip)
            by_cases c20 : t202 = true
            · subst c20
              have H1 : (laws_FnScaleProducts.j1 kj2 a0 a1 t199 t200 (t201 != t199)) = some r := by rw [if_pos rfl] at H; exact H
              clear H
              have H := H1
              clear H1
              have H' := Aside0.mk H
              clear H
              go_wp2
              go_meet
              case rel => exact ⟨_, ((t201 != t199)), (by first | rfl | (simp; done) | (simp [*]; done)), H', ⟨by have := HJ2.out; first | omega | exact Nat.le_refl _⟩, ⟨by repeat (first | (with_reducible first | exact HB.out | apply below_alloc | apply pw_below_drewN | apply below_drew1) | exact HB.out)⟩⟩
            · replace c20 := Bool.eq_false_iff.mpr c20
              subst c20
              have H1 : (laws_FnScaleProducts.j1 kj2 a0 a1 t199 t200 false) = some r := by rw [if_neg (show ¬ (false = true) by decide)] at H; exact H
              clear H
              have H := H1
              clear H1
              have H' := Aside0.mk H
              clear H
              go_wp2
              go_meet
              case rel => exact ⟨_, (false), (by first | rfl | (simp; done) | (simp [*]; done)), H', ⟨by have := HJ2.out; first | omega | exact Nat.le_refl _⟩, ⟨by repeat (first | (with_reducible first | exact HB.out | apply below_alloc | apply pw_below_drewN | apply below_drew1) | exact HB.out)⟩⟩
        case rest =>
          clear HC11
          try clear c1
          try clear c2
          try clear p2
          try clear c3
          try clear c4
          try clear c4b0
          try clear c4b1
          try clear c5
          try clear c8
          try clear c9
          try clear c10
          try clear c11
          try clear c19
          try clear c19b0
          try clear c19b1
          try clear c19b2
          try clear c20
          try clear p2
          obtain ⟨kq, x42_10, rfl, HA, HJ10, HB⟩ := hcut
          cases kq with
          | zero => exact absurd HA.out (by simp [laws_FnScaleProducts.j1])
          | succ kj10 =>
            have H := HA.out
            clear HA
            simp only [laws_FnScaleProducts.j1] at H
            by_cases c21 : x42_10 = true
            · subst c21
              have H1 : (some false) = some r := by rw [if_pos rfl] at H; exact H
              clear H
              have H := H1
              clear H1
              obtain rfl := Option.some.inj H
              go_wp2
              go_ret
              exact ⟨by first | rfl | (simp [errW_none, errW_some] <;> rfl) | (simp [*, errW_none, errW_some] <;> rfl), by repeat (first | (with_reducible first | exact HB.out | apply below_alloc | apply pw_below_drewN | apply below_drew1) | exact HB.out)⟩
            · replace c21 := Bool.eq_false_iff.mpr c21
              subst c21
              have H1 : (if a1 ≥ 1 then ((impl_Int64MultiplyScale.f kj10 a0 a1).bind fun bt203 => (if (bt203.2 != t200) = true then (some false) else (if bt203.2 = true then (if bt203.1 = t199 then ((impl_Int64Multiply.f kj10 2 3).bind fun bt205 => (if bt205.2 = true then (some (bt205.1 == 6)) else (some false))) else (some false)) else ((impl_Int64Multiply.f kj10 2 3).bind fun bt207 => (if bt207.2 = true then (some (bt207.1 == 6)) else (some false)))))) else ((impl_Int64Multiply.f kj10 2 3).bind fun bt209 => (if bt209.2 = true then (some (bt209.1 == 6)) else (some false)))) = some r := by rw [if_neg (show ¬ (false = true) by decide)] at H; exact H
              clear H
              have H := H1
              clear H1
              by_cases c22 : a1 ≥ 1
              · rw [if_pos c22] at H
                have c22b0 : decide (1 ≤ a1) = true := decide_eq_true c22
                clear c22
                replace H := Option.bind_eq_some_iff.mp H
                obtain ⟨⟨t203, t204⟩, A230, H⟩ := H
                replace H : (if (t204 != t200) = true then (some false) else (if t204 = true then (if t203 = t199 then ((impl_Int64Multiply.f kj10 2 3).bind fun bt205 => (if bt205.2 = true then (some (bt205.1 == 6)) else (some false))) else (some false)) else ((impl_Int64Multiply.f kj10 2 3).bind fun bt207 => (if bt207.2 = true then (some (bt207.1 == 6)) else (some false))))) = some r := H
                have A23 := Aside0.mk A230
                clear A230
                by_cases c24 : (t204 != t200) = true
                · rw [if_pos c24] at H
                  have c24b0 : (t204 != t200) = true := c24
                  (try (have c24b1 : decide (t204 = t200) = false := by simpa using c24))
                  (try (have c24b2 : (t204 == t200) = false := by simpa using c24))
                  (try (have c24b3 : ¬ (t204 = t200) := by simpa using c24))
                  clear c24
                  obtain rfl := Option.some.inj H
                  go_wp2_with (first | ((with_reducible refine gate_callee (f := 12) rfl ?_); refine goesL_ (some 48) rfl rfl Try.func12 (by kernel_rfl) rfl #[.int .i64 a0, .int .i64 a1] rfl (by (try simp only [List.map_toArray, List.map_cons, List.map_nil]); first | done | rfl | (simp only [List.length_drop, List.length_take]; rfl)) ?_; (with_reducible refine (impl_Int64MultiplyScale.calls kj10 a0 a1 t203 t204 _ A23.out).mono ?_); rintro e w' ⟨rfl, ⟨nd, rfl⟩⟩; refine ⟨_, rfl, ?_⟩))
                  go_ret
                  exact ⟨by first | rfl | (simp [errW_none, errW_some] <;> rfl) | (simp [*, errW_none, errW_some] <;> rfl), by repeat (first | (with_reducible first | exact HB.out | apply below_alloc | apply pw_below_drewN | apply below_drew1) | exact HB.out)⟩
                · rw [if_neg c24] at H
                  have c24b0 : (t204 != t200) = false := by simpa using c24
                  (try (have c24b1 : decide (t204 = t200) = true := by simpa using c24))
                  (try (have c24b2 : (t204 == t200) = true := by simpa using c24))
                  clear c24
                  by_cases c25 : t204 = true
                  · subst c25
                    have H1 : (if t203 = t199 then ((impl_Int64Multiply.f kj10 2 3).bind fun bt205 => (if bt205.2 = true then (some (bt205.1 == 6)) else (some false))) else (some false)) = some r := by rw [if_pos rfl] at H; exact H
                    clear H
                    have H := H1
                    clear H1
                    by_cases c26 : t203 = t199
                    · rw [if_pos c26] at H
                      have c26b0 : (t203 == t199) = true := beq_iff_eq.mpr c26
                      have c26b1 : (t203 != t199) = false := bne_eq_false_iff_eq.mpr c26
                      clear c26
                      replace H := Option.bind_eq_some_iff.mp H
                      obtain ⟨⟨t205, t206⟩, A270, H⟩ := H
                      replace H : (if t206 = true then (some (t205 == 6)) else (some false)) = some r := H
                      have A27 := Aside0.mk A270
                      clear A270
                      by_cases c28 : t206 = true
                      · subst c28
                        have H1 : (some (t205 == 6)) = some r := by rw [if_pos rfl] at H; exact H
                        clear H
                        have H := H1
                        clear H1
                        obtain rfl := Option.some.inj H
                        go_wp2_with (first | ((with_reducible refine gate_callee (f := 12) rfl ?_); refine goesL_ (some 48) rfl rfl Try.func12 (by kernel_rfl) rfl #[.int .i64 a0, .int .i64 a1] rfl (by (try simp only [List.map_toArray, List.map_cons, List.map_nil]); first | done | rfl | (simp only [List.length_drop, List.length_take]; rfl)) ?_; (with_reducible refine (impl_Int64MultiplyScale.calls kj10 a0 a1 t203 true _ A23.out).mono ?_); rintro e w' ⟨rfl, ⟨nd, rfl⟩⟩; refine ⟨_, rfl, ?_⟩) | ((with_reducible refine gate_callee (f := 11) rfl ?_); refine goesL_ (some 63) rfl rfl Try.func11 (by kernel_rfl) rfl #[.int .i64 2, .int .i64 3] rfl (by (try simp only [List.map_toArray, List.map_cons, List.map_nil]); first | done | rfl | (simp only [List.length_drop, List.length_take]; rfl)) ?_; (with_reducible refine (impl_Int64Multiply.calls kj10 2 3 t205 true _ A27.out).mono ?_); rintro e w' ⟨rfl, ⟨nd, rfl⟩⟩; refine ⟨_, rfl, ?_⟩))
                        go_ret
                        exact ⟨by first | rfl | (simp [errW_none, errW_some] <;> rfl) | (simp [*, errW_none, errW_some] <;> rfl), by repeat (first | (with_reducible first | exact HB.out | apply below_alloc | apply pw_below_drewN | apply below_drew1) | exact HB.out)⟩
                      · replace c28 := Bool.eq_false_iff.mpr c28
                        subst c28
                        have H1 : (some false) = some r := by rw [if_neg (show ¬ (false = true) by decide)] at H; exact H
                        clear H
                        have H := H1
                        clear H1
                        obtain rfl := Option.some.inj H
                        go_wp2_with (first | ((with_reducible refine gate_callee (f := 12) rfl ?_); refine goesL_ (some 48) rfl rfl Try.func12 (by kernel_rfl) rfl #[.int .i64 a0, .int .i64 a1] rfl (by (try simp only [List.map_toArray, List.map_cons, List.map_nil]); first | done | rfl | (simp only [List.length_drop, List.length_take]; rfl)) ?_; (with_reducible refine (impl_Int64MultiplyScale.calls kj10 a0 a1 t203 true _ A23.out).mono ?_); rintro e w' ⟨rfl, ⟨nd, rfl⟩⟩; refine ⟨_, rfl, ?_⟩) | ((with_reducible refine gate_callee (f := 11) rfl ?_); refine goesL_ (some 63) rfl rfl Try.func11 (by kernel_rfl) rfl #[.int .i64 2, .int .i64 3] rfl (by (try simp only [List.map_toArray, List.map_cons, List.map_nil]); first | done | rfl | (simp only [List.length_drop, List.length_take]; rfl)) ?_; (with_reducible refine (impl_Int64Multiply.calls kj10 2 3 t205 false _ A27.out).mono ?_); rintro e w' ⟨rfl, ⟨nd, rfl⟩⟩; refine ⟨_, rfl, ?_⟩))
                        go_ret
                        exact ⟨by first | rfl | (simp [errW_none, errW_some] <;> rfl) | (simp [*, errW_none, errW_some] <;> rfl), by repeat (first | (with_reducible first | exact HB.out | apply below_alloc | apply pw_below_drewN | apply below_drew1) | exact HB.out)⟩
                    · rw [if_neg c26] at H
                      have c26b0 : (t203 == t199) = false := beq_eq_false_iff_ne.mpr c26
                      have c26b1 : (t203 != t199) = true := bne_iff_ne.mpr c26
                      obtain rfl := Option.some.inj H
                      go_wp2_with (first | ((with_reducible refine gate_callee (f := 12) rfl ?_); refine goesL_ (some 48) rfl rfl Try.func12 (by kernel_rfl) rfl #[.int .i64 a0, .int .i64 a1] rfl (by (try simp only [List.map_toArray, List.map_cons, List.map_nil]); first | done | rfl | (simp only [List.length_drop, List.length_take]; rfl)) ?_; (with_reducible refine (impl_Int64MultiplyScale.calls kj10 a0 a1 t203 true _ A23.out).mono ?_); rintro e w' ⟨rfl, ⟨nd, rfl⟩⟩; refine ⟨_, rfl, ?_⟩))
                      go_ret
                      exact ⟨by first | rfl | (simp [errW_none, errW_some] <;> rfl) | (simp [*, errW_none, errW_some] <;> rfl), by repeat (first | (with_reducible first | exact HB.out | apply below_alloc | apply pw_below_drewN | apply below_drew1) | exact HB.out)⟩
                  · replace c25 := Bool.eq_false_iff.mpr c25
                    subst c25
                    have H1 : ((impl_Int64Multiply.f kj10 2 3).bind fun bt207 => (if bt207.2 = true then (some (bt207.1 == 6)) else (some false))) = some r := by rw [if_neg (show ¬ (false = true) by decide)] at H; exact H
                    clear H
                    have H := H1
                    clear H1
                    replace H := Option.bind_eq_some_iff.mp H
                    obtain ⟨⟨t207, t208⟩, A290, H⟩ := H
                    replace H : (if t208 = true then (some (t207 == 6)) else (some false)) = some r := H
                    have A29 := Aside0.mk A290
                    clear A290
                    by_cases c30 : t208 = true
                    · subst c30
                      have H1 : (some (t207 == 6)) = some r := by rw [if_pos rfl] at H; exact H
                      clear H
                      have H := H1
                      clear H1
                      obtain rfl := Option.some.inj H
                      go_wp2_with (first | ((with_reducible refine gate_callee (f := 12) rfl ?_); refine goesL_ (some 48) rfl rfl Try.func12 (by kernel_rfl) rfl #[.int .i64 a0, .int .i64 a1] rfl (by (try simp only [List.map_toArray, List.map_cons, List.map_nil]); first | done | rfl | (simp only [List.length_drop, List.length_take]; rfl)) ?_; (with_reducible refine (impl_Int64MultiplyScale.calls kj10 a0 a1 t203 false _ A23.out).mono ?_); rintro e w' ⟨rfl, ⟨nd, rfl⟩⟩; refine ⟨_, rfl, ?_⟩) | ((with_reducible refine gate_callee (f := 11) rfl ?_); refine goesL_ (some 63) rfl rfl Try.func11 (by kernel_rfl) rfl #[.int .i64 2, .int .i64 3] rfl (by (try simp only [List.map_toArray, List.map_cons, List.map_nil]); first | done | rfl | (simp only [List.length_drop, List.length_take]; rfl)) ?_; (with_reducible refine (impl_Int64Multiply.calls kj10 2 3 t207 true _ A29.out).mono ?_); rintro e w' ⟨rfl, ⟨nd, rfl⟩⟩; refine ⟨_, rfl, ?_⟩))
                      go_ret
                      exact ⟨by first | rfl | (simp [errW_none, errW_some] <;> rfl) | (simp [*, errW_none, errW_some] <;> rfl), by repeat (first | (with_reducible first | exact HB.out | apply below_alloc | apply pw_below_drewN | apply below_drew1) | exact HB.out)⟩
                    · replace c30 := Bool.eq_false_iff.mpr c30
                      subst c30
                      have H1 : (some false) = some r := by rw [if_neg (show ¬ (false = true) by decide)] at H; exact H
                      clear H
                      have H := H1
                      clear H1
                      obtain rfl := Option.some.inj H
                      go_wp2_with (first | ((with_reducible refine gate_callee (f := 12) rfl ?_); refine goesL_ (some 48) rfl rfl Try.func12 (by kernel_rfl) rfl #[.int .i64 a0, .int .i64 a1] rfl (by (try simp only [List.map_toArray, List.map_cons, List.map_nil]); first | done | rfl | (simp only [List.length_drop, List.length_take]; rfl)) ?_; (with_reducible refine (impl_Int64MultiplyScale.calls kj10 a0 a1 t203 false _ A23.out).mono ?_); rintro e w' ⟨rfl, ⟨nd, rfl⟩⟩; refine ⟨_, rfl, ?_⟩) | ((with_reducible refine gate_callee (f := 11) rfl ?_); refine goesL_ (some 63) rfl rfl Try.func11 (by kernel_rfl) rfl #[.int .i64 2, .int .i64 3] rfl (by (try simp only [List.map_toArray, List.map_cons, List.map_nil]); first | done | rfl | (simp only [List.length_drop, List.length_take]; rfl)) ?_; (with_reducible refine (impl_Int64Multiply.calls kj10 2 3 t207 false _ A29.out).mono ?_); rintro e w' ⟨rfl, ⟨nd, rfl⟩⟩; refine ⟨_, rfl, ?_⟩))
                      go_ret
                      exact ⟨by first | rfl | (simp [errW_none, errW_some] <;> rfl) | (simp [*, errW_none, errW_some] <;> rfl), by repeat (first | (with_reducible first | exact HB.out | apply below_alloc | apply pw_below_drewN | apply below_drew1) | exact HB.out)⟩
              · rw [if_neg c22] at H
                have c22b0 : decide (1 ≤ a1) = false := decide_eq_false c22
                clear c22
                replace H := Option.bind_eq_some_iff.mp H
                obtain ⟨⟨t209, t210⟩, A310, H⟩ := H
                replace H : (if t210 = true then (some (t209 == 6)) else (some false)) = some r := H
                have A31 := Aside0.mk A310
                clear A310
                by_cases c32 : t210 = true
                · subst c32
                  have H1 : (some (t209 == 6)) = some r := by rw [if_pos rfl] at H; exact H
                  clear H
                  have H := H1
                  clear H1
                  obtain rfl := Option.some.inj H
                  go_wp2_with (first | ((with_reducible refine gate_callee (f := 11) rfl ?_); refine goesL_ (some 63) rfl rfl Try.func11 (by kernel_rfl) rfl #[.int .i64 2, .int .i64 3] rfl (by (try simp only [List.map_toArray, List.map_cons, List.map_nil]); first | done | rfl | (simp only [List.length_drop, List.length_take]; rfl)) ?_; (with_reducible refine (impl_Int64Multiply.calls kj10 2 3 t209 true _ A31.out).mono ?_); rintro e w' ⟨rfl, ⟨nd, rfl⟩⟩; refine ⟨_, rfl, ?_⟩))
                  go_ret
                  exact ⟨by first | rfl | (simp [errW_none, errW_some] <;> rfl) | (simp [*, errW_none, errW_some] <;> rfl), by repeat (first | (with_reducible first | exact HB.out | apply below_alloc | apply pw_below_drewN | apply below_drew1) | exact HB.out)⟩
                · replace c32 := Bool.eq_false_iff.mpr c32
                  subst c32
                  have H1 : (some false) = some r := by rw [if_neg (show ¬ (false = true) by decide)] at H; exact H
                  clear H
                  have H := H1
                  clear H1
                  obtain rfl := Option.some.inj H
                  go_wp2_with (first | ((with_reducible refine gate_callee (f := 11) rfl ?_); refine goesL_ (some 63) rfl rfl Try.func11 (by kernel_rfl) rfl #[.int .i64 2, .int .i64 3] rfl (by (try simp only [List.map_toArray, List.map_cons, List.map_nil]); first | done | rfl | (simp only [List.length_drop, List.length_take]; rfl)) ?_; (with_reducible refine (impl_Int64Multiply.calls kj10 2 3 t209 false _ A31.out).mono ?_); rintro e w' ⟨rfl, ⟨nd, rfl⟩⟩; refine ⟨_, rfl, ?_⟩))
                  go_ret
                  exact ⟨by first | rfl | (simp [errW_none, errW_some] <;> rfl) | (simp [*, errW_none, errW_some] <;> rfl), by repeat (first | (with_reducible first | exact HB.out | apply below_alloc | apply pw_below_drewN | apply below_drew1) | exact HB.out)⟩

/-- THE ONE PURE STATEMENT of laws_FnScaleProducts: yours. -/
def laws_FnScaleProducts.Pure : Prop := ∀ (a0 : Int) (a1 : Int), (Lit.int .i64 a0).wf = true → (Lit.int .i64 a1).wf = true → ∃ k, laws_FnScaleProducts.f k a0 a1 = some true
theorem laws_FnScaleProducts.walk (P : laws_FnScaleProducts.Pure) (a0 : Int) (a1 : Int) (w : World) (w0 : (Lit.int .i64 a0).wf = true) (w1 : (Lit.int .i64 a1).wf = true) :
    Calls Try.prog 3 #[.int .i64 a0, .int .i64 a1] w fun e w' => e = .returned (.bool true) ∧ Below w.heap.size w w' := by
  obtain ⟨k, h⟩ := P a0 a1 w0 w1
  refine (laws_FnScaleProducts.calls k a0 a1 true w h).mono ?_
  rintro e w' ⟨rfl, hd⟩
  exact ⟨rfl, hd⟩

end Go.Proofs.Ytgidpggooclebaa.PFnScaleProducts
