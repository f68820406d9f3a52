-- PRINTED BY print.sh 35421559b90ae4d0a3588c463048766b98c2df88dd9212a6774a882060cdf62d: not written by this session
import Derived.Test.YtgidpggooclebaaPFnScaleDownsx0
import Derived.Test.YtgidpggooclebaaPFnScaleDownsx1
import Derived.Test.YtgidpggooclebaaPFnScaleDownsx3
import Derived.Test.YtgidpggooclebaaPFnScaleDownsx4
import Derived.Test.YtgidpggooclebaaPFnScaleDownsx5
namespace Go.Proofs.Ytgidpggooclebaa.PFnScaleDowns
open Go.RowKit Go.Proofs.YtgidpggooclebaaW.PrintWords Go.Proofs.YtgidpggooclebaaW.PrintLast Go.Proofs.YtgidpggooclebaaW.PrintMore
attribute [local go_sem] max2_int min2_int max_two min_two max_three min_three max_four min_four   -- for this text's walks alone
set_option linter.unusedVariables false
set_option linter.unusedSimpArgs false

/-! ### laws_FnScaleDowns: function 5 -/
def laws_FnScaleDowns.j0 : Nat → Int → Int → Bool → Option (Bool)
  | 0, _, _, _ => none
  | k + 1, x0, x1, x18 => if x18 = true then (some true) else ((spec_DecimalOf.f k x0 0).bind fun bt201 => ((spec_DecimalUp.f k bt201.1 bt201.2.1 bt201.2.2 x1).bind fun bt206 => ((spec_DecimalOf.f k 1 (wrap64 (-x1))).bind fun bt213 => ((spec_DecimalTimes.f k bt206.1 bt206.2.1 bt206.2.2.1 bt213.1 bt213.2.1 bt213.2.2).bind fun bt218 => ((laws_scaleFits.f k bt218.1 bt218.2.1 bt218.2.2).bind fun bt223 => ((impl_ScaleDown.f k x0 x1).bind fun bt225 => ((impl_ScaleDown.f k 11 1).bind fun bt227 => (if bt225.1 = bt223.1 then (if (bt225.2 == bt206.2.2.2) = true then (if bt227.1 = 2 then (some (!bt227.2)) else (some false)) else (some false)) else (some false)))))))))
def laws_FnScaleDowns.f (k : Nat) (a0 : Int) (a1 : Int) : Option (Bool) := if a1 < 0 then (laws_FnScaleDowns.j0 k a0 a1 true) else (laws_FnScaleDowns.j0 k a0 a1 (decide (a1 > 500)))
theorem laws_FnScaleDowns.mono_l : ∀ k, (∀ y0 y1 y2, LeO (laws_FnScaleDowns.j0 k y0 y1 y2) (laws_FnScaleDowns.j0 (k + 1) y0 y1 y2))
  | 0 => fun _ _ _ r h => by simp [laws_FnScaleDowns.j0] at h
  | k + 1 => by
    have ih0 := laws_FnScaleDowns.mono_l k
    · intro y0 y1 y2
      unfold laws_FnScaleDowns.j0
      repeat' first
      | (with_reducible exact ih0 _ _ _)
      | (with_reducible exact impl_ScaleDown.mono _ _ _)
      | (with_reducible exact laws_scaleFits.mono _ _ _ _)
      | (with_reducible exact spec_DecimalOf.mono _ _ _)
      | (with_reducible exact spec_DecimalTimes.mono _ _ _ _ _ _ _)
      | (with_reducible exact spec_DecimalUp.mono _ _ _ _ _)
      | (with_reducible exact LeO.refl _)
      | (with_reducible exact LeO.none _)
      | (with_reducible refine LeO.ite ?_ ?_)
      | (with_reducible refine LeO.bind ?_ (fun _ => ?_))
      | exact ih0 _ _ _
      | exact impl_ScaleDown.mono _ _ _
      | exact laws_scaleFits.mono _ _ _ _
      | exact spec_DecimalOf.mono _ _ _
      | exact spec_DecimalTimes.mono _ _ _ _ _ _ _
      | exact spec_DecimalUp.mono _ _ _ _ _
      | exact LeO.none _
      | refine LeO.ite ?_ ?_
      | refine LeO.bind ?_ (fun _ => ?_)
theorem laws_FnScaleDowns.mono : ∀ a0 a1 k, LeO (laws_FnScaleDowns.f k a0 a1) (laws_FnScaleDowns.f (k + 1) a0 a1) := by
  intro a0 a1 k
  have ih0 := laws_FnScaleDowns.mono_l k
  unfold laws_FnScaleDowns.f
  repeat' first
      | (with_reducible exact ih0 _ _ _)
      | (with_reducible exact impl_ScaleDown.mono _ _ _)
      | (with_reducible exact laws_scaleFits.mono _ _ _ _)
      | (with_reducible exact spec_DecimalOf.mono _ _ _)
      | (with_reducible exact spec_DecimalTimes.mono _ _ _ _ _ _ _)
      | (with_reducible exact spec_DecimalUp.mono _ _ _ _ _)
      | (with_reducible exact LeO.refl _)
      | (with_reducible exact LeO.none _)
      | (with_reducible refine LeO.ite ?_ ?_)
      | (with_reducible refine LeO.bind ?_ (fun _ => ?_))
      | exact ih0 _ _ _
      | exact impl_ScaleDown.mono _ _ _
      | exact laws_scaleFits.mono _ _ _ _
      | exact spec_DecimalOf.mono _ _ _
      | exact spec_DecimalTimes.mono _ _ _ _ _ _ _
      | exact spec_DecimalUp.mono _ _ _ _ _
      | exact LeO.none _
      | refine LeO.ite ?_ ?_
      | refine LeO.bind ?_ (fun _ => ?_)
def laws_FnScaleDowns.T4 : Bool × List (List Nat × List Nat) := (true, [([], []), ([], []), ([1], [1]), ([2], [2]), ([0, 3, 3], [0, 3]), ([4, 4], [4]), ([5], [5]), ([6], [6]), ([6], [6]), ([7, 5, 0, 1, 2, 3, 4, 5, 6, 7], [7]), ([8, 9, 0, 1, 2, 3, 4, 5, 6, 7, 8, 9], [8])])
def laws_FnScaleDowns.B4 : List Nat := [0, 0, 2, 6, 15, 31, 63, 127, 127, 255, 1023]
theorem laws_FnScaleDowns.tab4 : rtab .any (opsOf Try.f5 4) = laws_FnScaleDowns.T4 := by kernel_rfl
theorem laws_FnScaleDowns.bits4 : waitsOk laws_FnScaleDowns.T4.2 laws_FnScaleDowns.B4 = true := by kernel_rfl
set_option maxHeartbeats 8000000 in
set_option maxRecDepth 100000 in
theorem laws_FnScaleDowns.calls (k : Nat) (a0 : Int) (a1 : Int) (r : Bool) (w : World) (h : laws_FnScaleDowns.f k a0 a1 = some r) :
    Calls Try.prog 5 #[.int .i64 a0, .int .i64 a1] w fun e w' => e = .returned (.bool r) ∧ Below w.heap.size w w' := by
  have hu26 := Try.underlying26
  have HB := Aside0.mk (Below.refl w.heap.size w)
  have H : (if a1 < 0 then (laws_FnScaleDowns.j0 k a0 a1 true) else (laws_FnScaleDowns.j0 k a0 a1 (decide (a1 > 500)))) = some r := h
  clear h
  have HC3 := Aside0.mk H
  clear H
  go_enter Try.func5, Try.ntmps5
  go_upto_region 1 with (fail)
  go_cut [18] (fun v18 wc => ∃ (kq : Nat) (x18_2 : Bool), v18 = .bool x18_2 ∧ Aside0 (laws_FnScaleDowns.j0 kq a0 a1 x18_2 = some r) ∧ Aside0 (kq ≤ k) ∧ Aside0 (Below w.heap.size w wc))
  case first =>
    have H := HC3.out
    clear HC3
    by_cases c4 : a1 < 0
    · rw [if_pos c4] at H
      have c4b0 : decide (a1 < 0) = true := decide_eq_true c4
      clear c4
      (first | rw [c4b0] | (simp only [i64_w, i32_w]; rw [c4b0]) | skip)
      have H' := Aside0.mk H
      clear H
      go_wp2
      go_meet
      case rel => exact ⟨_, (true), (by first | rfl | (simp; done) | (simp [*]; done)), H', ⟨by first | omega | exact Nat.le_refl _⟩, ⟨by repeat (first | (with_reducible first | exact HB.out | apply below_alloc | apply pw_below_drewN | apply below_drew1) | exact HB.out)⟩⟩
    · rw [if_neg c4] at H
      have c4b0 : decide (a1 < 0) = false := decide_eq_false c4
      clear c4
      (first | rw [c4b0] | (simp only [i64_w, i32_w]; rw [c4b0]) | skip)
      have H' := Aside0.mk H
      clear H
      go_wp2
      go_meet
      case rel => exact ⟨_, (decide (a1 > 500)), (by first | rfl | (simp; done) | (simp [*]; done)), H', ⟨by first | omega | exact Nat.le_refl _⟩, ⟨by repeat (first | (with_reducible first | exact HB.out | apply below_alloc | apply pw_below_drewN | apply below_drew1) | exact HB.out)⟩⟩
  case rest =>
    clear HC3
    try clear p2
    try clear c4
    try clear c4b0
    obtain ⟨kq, x18_2, rfl, HA, HJ2, HB⟩ := hcut
    cases kq with
    | zero => exact absurd HA.out (by simp [laws_FnScaleDowns.j0])
    | succ kj2 =>
      have H := HA.out
      clear HA
      simp only [laws_FnScaleDowns.j0] at H
      by_cases c5 : x18_2 = true
      · subst c5
        have H1 : (some true) = some r := by rw [if_pos rfl] at H; exact H
        clear H
        have H := H1
        clear H1
        obtain rfl := Option.some.inj H
        go_wp2
        go_ret
        exact ⟨by first | rfl | (simp [errW_none, errW_some] <;> rfl) | (simp [*, errW_none, errW_some] <;> rfl), by repeat (first | (with_reducible first | exact HB.out | apply below_alloc | apply pw_below_drewN | apply below_drew1) | exact HB.out)⟩
      · replace c5 := Bool.eq_false_iff.mpr c5
        subst c5
        have H1 : ((spec_DecimalOf.f kj2 a0 0).bind fun bt201 => ((spec_DecimalUp.f kj2 bt201.1 bt201.2.1 bt201.2.2 a1).bind fun bt206 => ((spec_DecimalOf.f kj2 1 (wrap64 (-a1))).bind fun bt213 => ((spec_DecimalTimes.f kj2 bt206.1 bt206.2.1 bt206.2.2.1 bt213.1 bt213.2.1 bt213.2.2).bind fun bt218 => ((laws_scaleFits.f kj2 bt218.1 bt218.2.1 bt218.2.2).bind fun bt223 => ((impl_ScaleDown.f kj2 a0 a1).bind fun bt225 => ((impl_ScaleDown.f kj2 11 1).bind fun bt227 => (if bt225.1 = bt223.1 then (if (bt225.2 == bt206.2.2.2) = true then (if bt227.1 = 2 then (some (!bt227.2)) else (some false)) else (some false)) else (some false))))))))) = some r := by rw [if_neg (show ¬ (false = true) by decide)] at H; exact H
        clear H
        have H := H1
        clear H1
        replace H := Option.bind_eq_some_iff.mp H
        obtain ⟨⟨t201, t202, t205⟩, A60, H⟩ := H
        replace H : ((spec_DecimalUp.f kj2 t201 t202 t205 a1).bind fun bt206 => ((spec_DecimalOf.f kj2 1 (wrap64 (-a1))).bind fun bt213 => ((spec_DecimalTimes.f kj2 bt206.1 bt206.2.1 bt206.2.2.1 bt213.1 bt213.2.1 bt213.2.2).bind fun bt218 => ((laws_scaleFits.f kj2 bt218.1 bt218.2.1 bt218.2.2).bind fun bt223 => ((impl_ScaleDown.f kj2 a0 a1).bind fun bt225 => ((impl_ScaleDown.f kj2 11 1).bind fun bt227 => (if bt225.1 = bt223.1 then (if (bt225.2 == bt206.2.2.2) = true then (if bt227.1 = 2 then (some (!bt227.2)) else (some false)) else (some false)) else (some false)))))))) = some r := H
        have A6 := Aside0.mk A60
        clear A60
        replace H := Option.bind_eq_some_iff.mp H
        obtain ⟨⟨t206, t207, t210, t211⟩, A70, H⟩ := H
        replace H : ((spec_DecimalOf.f kj2 1 (wrap64 (-a1))).bind fun bt213 => ((spec_DecimalTimes.f kj2 t206 t207 t210 bt213.1 bt213.2.1 bt213.2.2).bind fun bt218 => ((laws_scaleFits.f kj2 bt218.1 bt218.2.1 bt218.2.2).bind fun bt223 => ((impl_ScaleDown.f kj2 a0 a1).bind fun bt225 => ((impl_ScaleDown.f kj2 11 1).bind fun bt227 => (if bt225.1 = bt223.1 then (if (bt225.2 == t211) = true then (if bt227.1 = 2 then (some (!bt227.2)) else (some false)) else (some false)) else (some false))))))) = some r := H
        have A7 := Aside0.mk A70
        clear A70
        replace H := Option.bind_eq_some_iff.mp H
        obtain ⟨⟨t213, t214, t217⟩, A80, H⟩ := H
        replace H : ((spec_DecimalTimes.f kj2 t206 t207 t210 t213 t214 t217).bind fun bt218 => ((laws_scaleFits.f kj2 bt218.1 bt218.2.1 bt218.2.2).bind fun bt223 => ((impl_ScaleDown.f kj2 a0 a1).bind fun bt225 => ((impl_ScaleDown.f kj2 11 1).bind fun bt227 => (if bt225.1 = bt223.1 then (if (bt225.2 == t211) = true then (if bt227.1 = 2 then (some (!bt227.2)) else (some false)) else (some false)) else (some false)))))) = some r := H
        have A8 := Aside0.mk A80
        clear A80
        replace H := Option.bind_eq_some_iff.mp H
        obtain ⟨⟨t218, t219, t222⟩, A90, H⟩ := H
        replace H : ((laws_scaleFits.f kj2 t218 t219 t222).bind fun bt223 => ((impl_ScaleDown.f kj2 a0 a1).bind fun bt225 => ((impl_ScaleDown.f kj2 11 1).bind fun bt227 => (if bt225.1 = bt223.1 then (if (bt225.2 == t211) = true then (if bt227.1 = 2 then (some (!bt227.2)) else (some false)) else (some false)) else (some false))))) = some r := H
        have A9 := Aside0.mk A90
        clear A90
        replace H := Option.bind_eq_some_iff.mp H
        obtain ⟨⟨t223, t224⟩, A100, H⟩ := H
        replace H : ((impl_ScaleDown.f kj2 a0 a1).bind fun bt225 => ((impl_ScaleDown.f kj2 11 1).bind fun bt227 => (if bt225.1 = t223 then (if (bt225.2 == t211) = true then (if bt227.1 = 2 then (some (!bt227.2)) else (some false)) else (some false)) else (some false)))) = some r := H
        have A10 := Aside0.mk A100
        clear A100
        replace H := Option.bind_eq_some_iff.mp H
        obtain ⟨⟨t225, t226⟩, A110, H⟩ := H
        replace H : ((impl_ScaleDown.f kj2 11 1).bind fun bt227 => (if t225 = t223 then (if (t226 == t211) = true then (if bt227.1 = 2 then (some (!bt227.2)) else (some false)) else (some false)) else (some false))) = some r := H
        have A11 := Aside0.mk A110
        clear A110
        replace H := Option.bind_eq_some_iff.mp H
        obtain ⟨⟨t227, t228⟩, A120, H⟩ := H
        replace H : (if t225 = t223 then (if (t226 == t211) = true then (if t227 = 2 then (some (!t228)) else (some false)) else (some false)) else (some false)) = some r := H
        have A12 := Aside0.mk A120
        clear A120
        by_cases c13 : t225 = t223
        · rw [if_pos c13] at H
          have c13b0 : (t225 == t223) = true := beq_iff_eq.mpr c13
          have c13b1 : (t225 != t223) = false := bne_eq_false_iff_eq.mpr c13
          clear c13
          by_cases c14 : (t226 == t211) = true
          · rw [if_pos c14] at H
            have c14b0 : (t226 == t211) = true := c14
            (try (have c14b1 : decide (t226 = t211) = true := by simpa using c14))
            (try (have c14b2 : (t226 == t211) = true := by simpa using c14))
            clear c14
            by_cases c15 : t227 = 2
            · rw [if_pos c15] at H
              have c15b0 : (t227 == 2) = true := beq_iff_eq.mpr c15
              have c15b1 : (t227 != 2) = false := bne_eq_false_iff_eq.mpr c15
              clear c15
              obtain rfl := Option.some.inj H
              try go_wp2_with (first | ((with_reducible refine gate_callee (f := 10) rfl ?_); refine goesL_ (some 21) rfl rfl Try.func10 (by kernel_rfl) rfl #[.int .i64 a0, .int .i64 0] rfl (by (try simp only [List.map_toArray, List.map_cons, List.map_nil]); first | done | rfl | (simp only [List.length_drop, List.length_take]; rfl)) ?_; (with_reducible refine (spec_DecimalOf.calls kj2 a0 0 t201 t202 t205 _ A6.out).mono ?_); rintro e w16 ⟨v203, rfl, ho0, hb⟩; refine ⟨_, rfl, ?_⟩; have n0_ := Aside0.mk (Kd.R_lower ho0 (below_size (by repeat (first | (with_reducible first | exact HB.out | apply below_alloc | apply pw_below_drewN | apply below_drew1) | exact HB.out)))); have n1_ := Aside0.mk (below_step (by repeat (first | (with_reducible first | exact HB.out | apply below_alloc | apply pw_below_drewN | apply below_drew1) | exact HB.out)) hb); clear HB; have HO204 := n0_; have HB := n1_; clear n0_ n1_; (try clear hb); (try clear hb2); (try clear hk); (try clear hi); (try clear ho0); obtain ⟨Ao17, co17, eo17⟩ := Kd.R_slice HO204.out; subst eo17) | ((with_reducible refine gate_callee (f := 16) rfl ?_); refine goesL_ (some 23) rfl rfl Try.func16 (by kernel_rfl) rfl #[.agg #[.bool t201, .slice Ao17 t202.length co17, .int .i64 t205], .int .i64 a1] rfl (by (try simp only [List.map_toArray, List.map_cons, List.map_nil]); first | done | rfl | (simp only [List.length_drop, List.length_take]; rfl)) ?_; (with_reducible refine (spec_DecimalUp.calls kj2 t201 (fun k_ => some k_ = (.slice Ao17 t202.length co17 : Value).ownBlock) (.slice Ao17 t202.length co17) t202 t205 a1 t206 t207 t210 t211 w _ ?side1 ?side2 A7.out).mono ?_); (case side1 => repeat (first | (with_reducible first | exact HB.out | apply below_alloc | apply pw_below_drewN | apply below_drew1) | exact HB.out)); (case side2 => exact Kd.R_tight rfl HO204.out); rintro e w18 ⟨v208, rfl, ho0, hb, hkp⟩; refine ⟨_, rfl, ?_⟩; have n0_ := Aside0.mk (Kd.R_mono (ok' := fun k_ => True) ho0 (fun k_ hk_ => trivial)); have n1_ := Aside0.mk (hb); clear HB; clear HO204; have HO209 := n0_; have HB := n1_; clear n0_ n1_; (try clear hb); (try clear hkp); (try clear ho0)) | ((with_reducible refine gate_dst (N := 5) rfl ?_); refine box_event ?hg (N := 5) ?hd (cs := #[.bool false, .slice none 0 0, .int .i64 0]) (t := 26) ?hr ?_; (case hd => rfl); (case hg => rfl); (case hr => first | (go_simp; done) | (go_simp; rfl)); intro gb212 hg w19 hbox hb; have n0_ := Aside0.mk (Kd.R_below (by (with_reducible repeat (first | apply Kd.R_alloc | apply Kd.R_drewN | apply Kd.R_drew)); exact HO209.out) hb); have n1_ := Aside0.mk (below_step (by repeat (first | (with_reducible first | exact HB.out | apply below_alloc | apply pw_below_drewN | apply below_drew1) | exact HB.out)) hb); have n2_ := Aside0.mk (hbox); have n3_ := Aside0.mk ((by rw [hg]; exact (below_size (by repeat (first | (with_reducible first | exact HB.out | apply below_alloc | apply pw_below_drewN | apply below_drew1) | exact HB.out))) : w.heap.size ≤ gb212)); have n4_ := Aside0.mk ((by rw [hg]; exact (below_size (by repeat (first | (with_reducible first | exact HB.out | apply below_alloc | apply pw_below_drewN | apply below_drew1) | exact HB.out))) : w.heap.size ≤ gb212)); clear HO209; clear HB; have HO209 := n0_; have HB := n1_; have BK212 := n2_; have GW212 := n3_; have GE212 := n4_; clear n0_ n1_ n2_ n3_ n4_; clear hb hbox hg; have hcz20_0 : w19.cell? ⟨gb212, 0, none⟩ = some (.bool false) := (blk_cell BK212.out 0).trans rfl; have hcz20_1 : w19.cell? ⟨gb212, 1, none⟩ = some (.slice none 0 0) := (blk_cell BK212.out 1).trans rfl; have hcz20_2 : w19.cell? ⟨gb212, 2, none⟩ = some (.int .i64 0) := (blk_cell BK212.out 2).trans rfl; have hfz20_0 := blk_frozen BK212.out 0; have hfz20_1 := blk_frozen BK212.out 1; have hfz20_2 := blk_frozen BK212.out 2; obtain ⟨Ao21, co21, eo21⟩ := Kd.R_slice HO209.out; subst eo21))
              have n0_ : Aside0 (Kd.R (Kd.int .i64) 3 (((w19.setCell ⟨gb212, 0, none⟩ (.bool t206)).setCell ⟨gb212, 1, none⟩ (.slice Ao21 t207.length co21)).setCell ⟨gb212, 2, none⟩ (.int .i64 t210)) w.heap.size (fun _ => True) (.slice Ao21 t207.length co21) t207) := ⟨by (with_reducible repeat (first | apply Kd.R_alloc | apply Kd.R_drewN | apply Kd.R_drew)); exact Kd.R_mono (Kd.R_far (p := ⟨gb212, 2, none⟩) (Kd.R_far (p := ⟨gb212, 1, none⟩) (Kd.R_far (p := ⟨gb212, 0, none⟩) (Kd.R_types HO209.out BK212.out (by decide)) (fun _ hk => hk.2) (.bool t206)) (fun _ hk => hk.2) (.slice Ao21 t207.length co21)) (fun _ hk => hk.2) (.int .i64 t210)) (fun _ hk => trivial)⟩
              have n1_ : Aside0 ((((w19.setCell ⟨gb212, 0, none⟩ (.bool t206)).setCell ⟨gb212, 1, none⟩ (.slice Ao21 t207.length co21)).setCell ⟨gb212, 2, none⟩ (.int .i64 t210)).heap[gb212]? = some (.cells #[.bool t206, .slice Ao21 t207.length co21, .int .i64 t210] 26 (0, 0))) := ⟨by (with_reducible repeat (first | refine blk_drewN ?_ _ | refine blk_drew ?_ | refine blk_alloc ?_ _)); refine blk_put (cs := #[.bool t206, .slice Ao21 t207.length co21, .int .i64 0]) ?_ 2 _ rfl; (with_reducible repeat (first | refine blk_drewN ?_ _ | refine blk_drew ?_ | refine blk_alloc ?_ _)); refine blk_put (cs := #[.bool t206, .slice none 0 0, .int .i64 0]) ?_ 1 _ rfl; (with_reducible repeat (first | refine blk_drewN ?_ _ | refine blk_drew ?_ | refine blk_alloc ?_ _)); refine blk_put (cs := #[.bool false, .slice none 0 0, .int .i64 0]) ?_ 0 _ rfl; (with_reducible repeat (first | refine blk_drewN ?_ _ | refine blk_drew ?_ | refine blk_alloc ?_ _)); exact BK212.out⟩
              have n2_ : Aside0 (Below w.heap.size w (((w19.setCell ⟨gb212, 0, none⟩ (.bool t206)).setCell ⟨gb212, 1, none⟩ (.slice Ao21 t207.length co21)).setCell ⟨gb212, 2, none⟩ (.int .i64 t210))) := ⟨by repeat (first | (with_reducible first | exact HB.out | apply below_alloc | apply pw_below_drewN | apply below_drew1 | refine below_set ?_ GE212.out) | exact HB.out)⟩
              (try clear HO209)
              (try clear BK212)
              (try clear HB)
              generalize (((w19.setCell ⟨gb212, 0, none⟩ (.bool t206)).setCell ⟨gb212, 1, none⟩ (.slice Ao21 t207.length co21)).setCell ⟨gb212, 2, none⟩ (.int .i64 t210)) = w22 at n0_ n1_ n2_ ⊢
              have HO209 := n0_
              have BK212 := n1_
              have HB := n2_
              clear n0_ n1_ n2_
              have n0_ := Aside0.mk (Kd.R_drew HO209.out)
              have n1_ := Aside0.mk (blk_drew BK212.out)
              have n2_ := Aside0.mk (below_drew1 HB.out)
              clear HO209
              clear BK212
              clear HB
              have HO209 := n0_
              have BK212 := n1_
              have HB := n2_
              clear n0_ n1_ n2_
              refine start_ (n := 11) (S := fun w' => w'.cell? ⟨gb212, 0, none⟩ = some (.bool t206) ∧ w'.cell? ⟨gb212, 1, none⟩ = some (.slice Ao21 t207.length co21) ∧ w'.cell? ⟨gb212, 2, none⟩ = some (.int .i64 t210)) (ds := []) #[false, false, false, false, false, false, false, false, false, false, false] (by kernel_rfl) rfl rfl ⟨(blk_cell BK212.out 0).trans rfl, (blk_cell BK212.out 1).trans rfl, (blk_cell BK212.out 2).trans rfl⟩ (fun hHeld => ?_); refine with_tabW laws_FnScaleDowns.tab4 laws_FnScaleDowns.bits4 (fun HT_ HW_ => ?_)
              generalize w22.drew = w23 at HO209 BK212 HB hHeld ⊢
              refine pure_ (i := 1) (N := some 28) (v := ?_) (a' := ?_) #[false, true, false, false, false, false, false, false, false, false, false] rfl rfl (any_of HT_.out (by kernel_rfl)) (fun _ _ _ h => h) (Or.inl ⟨by rfl, ?_⟩) ?_ ?_
              rotate_left
              · intro w'
                go_simp
                with_reducible rfl
              rotate_left
              · simp only [Act.put, List.setIfInBounds_toArray, List.set_cons_zero, List.set_cons_succ, i64_w, i32_w]
                rfl
              refine pure_ (i := 2) (N := some 29) (v := ?_) (a' := ?_) #[false, true, true, false, false, false, false, false, false, false, false] rfl rfl (any_of HT_.out (by kernel_rfl)) (fun _ _ _ h => h) (Or.inl ⟨by rfl, ?_⟩) ?_ ?_
              rotate_left
              · intro w'
                go_simp
                with_reducible rfl
              rotate_left
              · simp only [Act.put, List.setIfInBounds_toArray, List.set_cons_zero, List.set_cons_succ, i64_w, i32_w]
                rfl
              refine take_ (i := 0) (N := some 27) (v := ?_) (a' := ?_) #[true, true, true, false, false, false, false, false, false, false, false] rfl rfl (take_ofW HT_.out HW_.out (by kernel_rfl)) (fun _ _ _ h => h) (Or.inl ⟨by rfl, ?_⟩) hHeld ?_ ?_
              rotate_left
              · rintro w' ⟨s0, s1, s2⟩
                go_simp
                with_reducible rfl
              rotate_left
              · simp only [Act.put, List.setIfInBounds_toArray, List.set_cons_zero, List.set_cons_succ, i64_w, i32_w]
                rfl
              refine one_ (i := 3) (N := some 30) #[true, true, true, true, false, false, false, false, false, false, false] rfl rfl (one_of HT_.out (by kernel_rfl)) (by decide) (fun K hK => ?_)
              refine goes_ Try.func10 (by kernel_rfl) rfl #[.int .i64 1, .int .i64 (wrap64 (-a1))] (by rfl) rfl rfl (by (try simp only [List.map_toArray, List.map_cons, List.map_nil]); first | done | rfl | (simp only [List.length_drop, List.length_take]; rfl)) ?_
              with_reducible refine (spec_DecimalOf.calls kj2 1 (wrap64 (-a1)) t213 t214 t217 _ A8.out).mono ?_
              rintro e w24 ⟨v215, rfl, ho0, hb⟩
              refine ⟨_, rfl, ?_⟩
              have n0_ := Aside0.mk (Kd.R_elder' (by (with_reducible repeat (first | apply Kd.R_alloc | apply Kd.R_drewN | apply Kd.R_drew)); exact HO209.out) (Kd.R_base ho0) hb)
              have n1_ := Aside0.mk (Kd.R_lower (Kd.R_new' ho0 (Kd.R_lt (by (with_reducible repeat (first | apply Kd.R_alloc | apply Kd.R_drewN | apply Kd.R_drew)); exact HO209.out))) (below_size (by repeat (first | (with_reducible first | exact HB.out | apply below_alloc | apply pw_below_drewN | apply below_drew1 | refine below_set ?_ GE212.out) | exact HB.out))))
              have n2_ := Aside0.mk (blk_below (g := gb212) (o := .cells #[.bool t206, .slice Ao21 t207.length co21, .int .i64 t210] 26 (0, 0)) (by (with_reducible repeat (first | refine blk_drewN ?_ _ | refine blk_drew ?_ | refine blk_alloc ?_ _)); exact BK212.out) hb)
              have n3_ := Aside0.mk (below_step (by repeat (first | (with_reducible first | exact HB.out | apply below_alloc | apply pw_below_drewN | apply below_drew1 | refine below_set ?_ GE212.out) | exact HB.out)) hb)
              clear HO209
              clear BK212
              clear HB
              have HO209 := n0_
              have HO216 := n1_
              have BK212 := n2_
              have HB := n3_
              clear n0_ n1_ n2_ n3_
              (try clear hb)
              (try clear hb2)
              (try clear hk)
              (try clear hi)
              (try clear ho0)
              obtain ⟨Ao25, co25, eo25⟩ := Kd.R_slice HO216.out
              (first | subst eo25 | (injection eo25 with f1_ f2_ f3_; have f4_ := f1_.symm; have f5_ := f3_.symm; clear f1_ f2_ f3_; subst f4_; subst f5_))
              refine hK.out _ _ ⟨(blk_cell BK212.out 0).trans rfl, (blk_cell BK212.out 1).trans rfl, (blk_cell BK212.out 2).trans rfl⟩ (fun hHeld => ?_)
              clear hK K
              refine norm_ (a' := ?_) ?_ ?_
              rotate_left
              · show Act.put _ (some 30) _ = _
                simp only [Act.put, List.setIfInBounds_toArray, List.set_cons_zero, List.set_cons_succ, i64_w, i32_w]
                rfl
              refine one_ (i := 4) (N := some 31) #[true, true, true, true, true, false, false, false, false, false, false] rfl rfl (one_of HT_.out (by kernel_rfl)) (by decide) (fun K hK => ?_)
              refine goes_ Try.func9 (by kernel_rfl) rfl #[.agg #[.bool t206, .slice Ao21 t207.length co21, .int .i64 t210], .agg #[.bool t213, .slice Ao25 t214.length co25, .int .i64 t217]] (by rfl) rfl rfl (by (try simp only [List.map_toArray, List.map_cons, List.map_nil]); first | done | rfl | (simp only [List.length_drop, List.length_take]; rfl)) ?_
              with_reducible refine (spec_DecimalTimes.calls kj2 t206 _ _ t207 t210 t213 _ _ t214 t217 t218 t219 t222 _ ?side1 ?side2 ?side3 ?side4 A9.out).mono ?_
              (case side1 => repeat (first | exact (Kd.R_reads' HO209.out).2.2 | (with_reducible refine Kd.C_alloc ?_ _) | (with_reducible refine Kd.C_drewN ?_ _) | (with_reducible refine Kd.C_drew ?_)))
              (case side2 => exact (Kd.R_reads' HO209.out).2.1)
              (case side3 => repeat (first | exact (Kd.R_reads' HO216.out).2.2 | (with_reducible refine Kd.C_alloc ?_ _) | (with_reducible refine Kd.C_drewN ?_ _) | (with_reducible refine Kd.C_drew ?_)))
              (case side4 => exact (Kd.R_reads' HO216.out).2.1)
              rintro e w26 ⟨v220, rfl, ho0, hb⟩
              refine ⟨_, rfl, ?_⟩
              have n0_ := Aside0.mk (Kd.R_elder' (by (with_reducible repeat (first | apply Kd.R_alloc | apply Kd.R_drewN | apply Kd.R_drew)); exact HO209.out) (Kd.R_base ho0) hb)
              have n1_ := Aside0.mk (Kd.R_elder' (by (with_reducible repeat (first | apply Kd.R_alloc | apply Kd.R_drewN | apply Kd.R_drew)); exact HO216.out) (Kd.R_base ho0) hb)
              have n2_ := Aside0.mk (Kd.R_lower (Kd.R_new' (Kd.R_new' ho0 (Kd.R_lt (by (with_reducible repeat (first | apply Kd.R_alloc | apply Kd.R_drewN | apply Kd.R_drew)); exact HO209.out))) (Kd.R_lt (by (with_reducible repeat (first | apply Kd.R_alloc | apply Kd.R_drewN | apply Kd.R_drew)); exact HO216.out))) (below_size (by repeat (first | (with_reducible first | exact HB.out | apply below_alloc | apply pw_below_drewN | apply below_drew1 | refine below_set ?_ GE212.out) | exact HB.out))))
              have n3_ := Aside0.mk (blk_below (g := gb212) (o := .cells #[.bool t206, .slice Ao21 t207.length co21, .int .i64 t210] 26 (0, 0)) (by (with_reducible repeat (first | refine blk_drewN ?_ _ | refine blk_drew ?_ | refine blk_alloc ?_ _)); exact BK212.out) hb)
              have n4_ := Aside0.mk (below_step (by repeat (first | (with_reducible first | exact HB.out | apply below_alloc | apply pw_below_drewN | apply below_drew1 | refine below_set ?_ GE212.out) | exact HB.out)) hb)
              clear HO209
              clear HO216
              clear BK212
              clear HB
              have HO209 := n0_
              have HO216 := n1_
              have HO221 := n2_
              have BK212 := n3_
              have HB := n4_
              clear n0_ n1_ n2_ n3_ n4_
              (try clear hb)
              (try clear hb2)
              (try clear hk)
              (try clear hi)
              (try clear ho0)
              obtain ⟨Ao27, co27, eo27⟩ := Kd.R_slice HO221.out
              (first | subst eo27 | (injection eo27 with f1_ f2_ f3_; have f4_ := f1_.symm; have f5_ := f3_.symm; clear f1_ f2_ f3_; subst f4_; subst f5_))
              refine hK.out _ _ ⟨(blk_cell BK212.out 0).trans rfl, (blk_cell BK212.out 1).trans rfl, (blk_cell BK212.out 2).trans rfl⟩ (fun hHeld => ?_)
              clear hK K
              refine norm_ (a' := ?_) ?_ ?_
              rotate_left
              · show Act.put _ (some 31) _ = _
                simp only [Act.put, List.setIfInBounds_toArray, List.set_cons_zero, List.set_cons_succ, i64_w, i32_w]
                rfl
              refine one_ (i := 5) (N := some 32) #[true, true, true, true, true, true, false, false, false, false, false] rfl rfl (one_of HT_.out (by kernel_rfl)) (by decide) (fun K hK => ?_)
              refine goes_ Try.func8 (by kernel_rfl) rfl #[.agg #[.bool t218, .slice Ao27 t219.length co27, .int .i64 t222]] (by rfl) rfl rfl (by (try simp only [List.map_toArray, List.map_cons, List.map_nil]); first | done | rfl | (simp only [List.length_drop, List.length_take]; rfl)) ?_
              with_reducible refine (laws_scaleFits.calls kj2 t218 _ _ t219 t222 t223 t224 _ ?side1 ?side2 A10.out).mono ?_
              (case side1 => repeat (first | exact (Kd.R_reads' HO221.out).2.2 | (with_reducible refine Kd.C_alloc ?_ _) | (with_reducible refine Kd.C_drewN ?_ _) | (with_reducible refine Kd.C_drew ?_)))
              (case side2 => exact (Kd.R_reads' HO221.out).2.1)
              rintro e w28 ⟨rfl, hb⟩
              refine ⟨_, rfl, ?_⟩
              have n0_ := Aside0.mk (Kd.R_below (by (with_reducible repeat (first | apply Kd.R_alloc | apply Kd.R_drewN | apply Kd.R_drew)); exact HO209.out) hb)
              have n1_ := Aside0.mk (Kd.R_below (by (with_reducible repeat (first | apply Kd.R_alloc | apply Kd.R_drewN | apply Kd.R_drew)); exact HO216.out) hb)
              have n2_ := Aside0.mk (Kd.R_below (by (with_reducible repeat (first | apply Kd.R_alloc | apply Kd.R_drewN | apply Kd.R_drew)); exact HO221.out) hb)
              have n3_ := Aside0.mk (blk_below (g := gb212) (o := .cells #[.bool t206, .slice Ao21 t207.length co21, .int .i64 t210] 26 (0, 0)) (by (with_reducible repeat (first | refine blk_drewN ?_ _ | refine blk_drew ?_ | refine blk_alloc ?_ _)); exact BK212.out) hb)
              have n4_ := Aside0.mk (below_step (by repeat (first | (with_reducible first | exact HB.out | apply below_alloc | apply pw_below_drewN | apply below_drew1 | refine below_set ?_ GE212.out) | exact HB.out)) hb)
              clear HO209
              clear HO216
              clear HO221
              clear BK212
              clear HB
              have HO209 := n0_
              have HO216 := n1_
              have HO221 := n2_
              have BK212 := n3_
              have HB := n4_
              clear n0_ n1_ n2_ n3_ n4_
              (try clear hb)
              (try clear hb2)
              (try clear hk)
              (try clear hi)
              refine hK.out _ _ ⟨(blk_cell BK212.out 0).trans rfl, (blk_cell BK212.out 1).trans rfl, (blk_cell BK212.out 2).trans rfl⟩ (fun hHeld => ?_)
              clear hK K
              refine norm_ (a' := ?_) ?_ ?_
              rotate_left
              · show Act.put _ (some 32) _ = _
                simp only [Act.put, List.setIfInBounds_toArray, List.set_cons_zero, List.set_cons_succ, i64_w, i32_w]
                rfl
              refine pure_ (i := 6) (N := some 26) (v := ?_) (a' := ?_) #[true, true, true, true, true, true, true, false, false, false, false] rfl rfl (any_of HT_.out (by kernel_rfl)) (fun _ _ _ h => h) (Or.inl ⟨by rfl, ?_⟩) ?_ ?_
              rotate_left
              · intro w'
                go_simp
                with_reducible rfl
              rotate_left
              · simp only [Act.put, List.setIfInBounds_toArray, List.set_cons_zero, List.set_cons_succ, i64_w, i32_w]
                rfl
              refine pure_ (i := 7) (N := some 33) (v := ?_) (a' := ?_) #[true, true, true, true, true, true, true, true, false, false, false] rfl rfl (any_of HT_.out (by kernel_rfl)) (fun _ _ _ h => h) (Or.inl ⟨by rfl, ?_⟩) ?_ ?_
              rotate_left
              · intro w'
                go_simp
                with_reducible rfl
              rotate_left
              · simp only [Act.put, List.setIfInBounds_toArray, List.set_cons_zero, List.set_cons_succ, i64_w, i32_w]
                rfl
              refine pure_ (i := 8) (N := some 34) (v := ?_) (a' := ?_) #[true, true, true, true, true, true, true, true, true, false, false] rfl rfl (any_of HT_.out (by kernel_rfl)) (fun _ _ _ h => h) (Or.inl ⟨by rfl, ?_⟩) ?_ ?_
              rotate_left
              · intro w'
                go_simp
                with_reducible rfl
              rotate_left
              · simp only [Act.put, List.setIfInBounds_toArray, List.set_cons_zero, List.set_cons_succ, i64_w, i32_w]
                rfl
              refine pure_ (i := 9) (N := some 7) (v := ?_) (a' := ?_) #[true, true, true, true, true, true, true, true, true, true, false] rfl rfl (any_of HT_.out (by kernel_rfl)) (fun _ _ _ h => h) (Or.inl ⟨by rfl, ?_⟩) ?_ ?_
              rotate_left
              · intro w'
                go_simp
                with_reducible rfl
              rotate_left
              · simp only [Act.put, List.setIfInBounds_toArray, List.set_cons_zero, List.set_cons_succ, i64_w, i32_w]
                rfl
              refine pure_ (i := 10) (N := some 8) (v := ?_) (a' := ?_) #[true, true, true, true, true, true, true, true, true, true, true] rfl rfl (any_of HT_.out (by kernel_rfl)) (fun _ _ _ h => h) (Or.inl ⟨by rfl, ?_⟩) ?_ ?_
              rotate_left
              · intro w'
                go_simp
                with_reducible rfl
              rotate_left
              · simp only [Act.put, List.setIfInBounds_toArray, List.set_cons_zero, List.set_cons_succ, i64_w, i32_w]
                rfl
              refine done_ (done_of HT_.out (by kernel_rfl)) ?_
              try go_wp2_with (first | ((with_reducible refine gate_callee (f := 17) rfl ?_); refine goesL_ (some 38) rfl rfl Try.func17 (by kernel_rfl) rfl #[.int .i64 a0, .int .i64 a1] rfl (by (try simp only [List.map_toArray, List.map_cons, List.map_nil]); first | done | rfl | (simp only [List.length_drop, List.length_take]; rfl)) ?_; (with_reducible refine (impl_ScaleDown.calls kj2 a0 a1 t225 t226 _ A11.out).mono ?_); rintro e w' ⟨rfl, ⟨nd, rfl⟩⟩; refine ⟨_, rfl, ?_⟩) | ((with_reducible refine gate_callee (f := 17) rfl ?_); refine goesL_ (some 42) rfl rfl Try.func17 (by kernel_rfl) rfl #[.int .i64 11, .int .i64 1] rfl (by (try simp only [List.map_toArray, List.map_cons, List.map_nil]); first | done | rfl | (simp only [List.length_drop, List.length_take]; rfl)) ?_; (with_reducible refine (impl_ScaleDown.calls kj2 11 1 t227 t228 _ A12.out).mono ?_); rintro e w' ⟨rfl, ⟨nd, rfl⟩⟩; refine ⟨_, rfl, ?_⟩))
              go_ret
              exact ⟨by first | rfl | (simp [errW_none, errW_some] <;> rfl) | (simp [*, errW_none, errW_some] <;> rfl), by repeat (first | (with_reducible first | exact HB.out | apply below_alloc | apply pw_below_drewN | apply below_drew1 | refine below_set ?_ GE212.out) | exact HB.out)⟩
            · rw [if_neg c15] at H
              have c15b0 : (t227 == 2) = false := beq_eq_false_iff_ne.mpr c15
              have c15b1 : (t227 != 2) = true := bne_iff_ne.mpr c15
              obtain rfl := Option.some.inj H
              try go_wp2_with (first | ((with_reducible refine gate_callee (f := 10) rfl ?_); refine goesL_ (some 21) rfl rfl Try.func10 (by kernel_rfl) rfl #[.int .i64 a0, .int .i64 0] rfl (by (try simp only [List.map_toArray, List.map_cons, List.map_nil]); first | done | rfl | (simp only [List.length_drop, List.length_take]; rfl)) ?_; (with_reducible refine (spec_DecimalOf.calls kj2 a0 0 t201 t202 t205 _ A6.out).mono ?_); rintro e w29 ⟨v203, rfl, ho0, hb⟩; refine ⟨_, rfl, ?_⟩; have n0_ := Aside0.mk (Kd.R_lower ho0 (below_size (by repeat (first | (with_reducible first | exact HB.out | apply below_alloc | apply pw_below_drewN | apply below_drew1) | exact HB.out)))); have n1_ := Aside0.mk (below_step (by repeat (first | (with_reducible first | exact HB.out | apply below_alloc | apply pw_below_drewN | apply below_drew1) | exact HB.out)) hb); clear HB; have HO204 := n0_; have HB := n1_; clear n0_ n1_; (try clear hb); (try clear hb2); (try clear hk); (try clear hi); (try clear ho0); obtain ⟨Ao30, co30, eo30⟩ := Kd.R_slice HO204.out; subst eo30) | ((with_reducible refine gate_callee (f := 16) rfl ?_); refine goesL_ (some 23) rfl rfl Try.func16 (by kernel_rfl) rfl #[.agg #[.bool t201, .slice Ao30 t202.length co30, .int .i64 t205], .int .i64 a1] rfl (by (try simp only [List.map_toArray, List.map_cons, List.map_nil]); first | done | rfl | (simp only [List.length_drop, List.length_take]; rfl)) ?_; (with_reducible refine (spec_DecimalUp.calls kj2 t201 (fun k_ => some k_ = (.slice Ao30 t202.length co30 : Value).ownBlock) (.slice Ao30 t202.length co30) t202 t205 a1 t206 t207 t210 t211 w _ ?side1 ?side2 A7.out).mono ?_); (case side1 => repeat (first | (with_reducible first | exact HB.out | apply below_alloc | apply pw_below_drewN | apply below_drew1) | exact HB.out)); (case side2 => exact Kd.R_tight rfl HO204.out); rintro e w31 ⟨v208, rfl, ho0, hb, hkp⟩; refine ⟨_, rfl, ?_⟩; have n0_ := Aside0.mk (Kd.R_mono (ok' := fun k_ => True) ho0 (fun k_ hk_ => trivial)); have n1_ := Aside0.mk (hb); clear HB; clear HO204; have HO209 := n0_; have HB := n1_; clear n0_ n1_; (try clear hb); (try clear hkp); (try clear ho0)) | ((with_reducible refine gate_dst (N := 5) rfl ?_); refine box_event ?hg (N := 5) ?hd (cs := #[.bool false, .slice none 0 0, .int .i64 0]) (t := 26) ?hr ?_; (case hd => rfl); (case hg => rfl); (case hr => first | (go_simp; done) | (go_simp; rfl)); intro gb212 hg w32 hbox hb; have n0_ := Aside0.mk (Kd.R_below (by (with_reducible repeat (first | apply Kd.R_alloc | apply Kd.R_drewN | apply Kd.R_drew)); exact HO209.out) hb); have n1_ := Aside0.mk (below_step (by repeat (first | (with_reducible first | exact HB.out | apply below_alloc | apply pw_below_drewN | apply below_drew1) | exact HB.out)) hb); have n2_ := Aside0.mk (hbox); have n3_ := Aside0.mk ((by rw [hg]; exact (below_size (by repeat (first | (with_reducible first | exact HB.out | apply below_alloc | apply pw_below_drewN | apply below_drew1) | exact HB.out))) : w.heap.size ≤ gb212)); have n4_ := Aside0.mk ((by rw [hg]; exact (below_size (by repeat (first | (with_reducible first | exact HB.out | apply below_alloc | apply pw_below_drewN | apply below_drew1) | exact HB.out))) : w.heap.size ≤ gb212)); clear HO209; clear HB; have HO209 := n0_; have HB := n1_; have BK212 := n2_; have GW212 := n3_; have GE212 := n4_; clear n0_ n1_ n2_ n3_ n4_; clear hb hbox hg; have hcz33_0 : w32.cell? ⟨gb212, 0, none⟩ = some (.bool false) := (blk_cell BK212.out 0).trans rfl; have hcz33_1 : w32.cell? ⟨gb212, 1, none⟩ = some (.slice none 0 0) := (blk_cell BK212.out 1).trans rfl; have hcz33_2 : w32.cell? ⟨gb212, 2, none⟩ = some (.int .i64 0) := (blk_cell BK212.out 2).trans rfl; have hfz33_0 := blk_frozen BK212.out 0; have hfz33_1 := blk_frozen BK212.out 1; have hfz33_2 := blk_frozen BK212.out 2; obtain ⟨Ao34, co34, eo34⟩ := Kd.R_slice HO209.out; subst eo34))
              have n0_ : Aside0 (Kd.R (Kd.int .i64) 3 (((w32.setCell ⟨gb212, 0, none⟩ (.bool t206)).setCell ⟨gb212, 1, none⟩ (.slice Ao34 t207.length co34)).setCell ⟨gb212, 2, none⟩ (.int .i64 t210)) w.heap.size (fun _ => True) (.slice Ao34 t207.length co34) t207) := ⟨by (with_reducible repeat (first | apply Kd.R_alloc | apply Kd.R_drewN | apply Kd.R_drew)); exact Kd.R_mono (Kd.R_far (p := ⟨gb212, 2, none⟩) (Kd.R_far (p := ⟨gb212, 1, none⟩) (Kd.R_far (p := ⟨gb212, 0, none⟩) (Kd.R_types HO209.out BK212.out (by decide)) (fun _ hk => hk.2) (.bool t206)) (fun _ hk => hk.2) (.slice Ao34 t207.length co34)) (fun _ hk => hk.2) (.int .i64 t210)) (fun _ hk => trivial)⟩
              have n1_ : Aside0 ((((w32.setCell ⟨gb212, 0, none⟩ (.bool t206)).setCell ⟨gb212, 1, none⟩ (.slice Ao34 t207.length co34)).setCell ⟨gb212, 2, none⟩ (.int .i64 t210)).heap[gb212]? = some (.cells #[.bool t206, .slice Ao34 t207.length co34, .int .i64 t210] 26 (0, 0))) := ⟨by (with_reducible repeat (first | refine blk_drewN ?_ _ | refine blk_drew ?_ | refine blk_alloc ?_ _)); refine blk_put (cs := #[.bool t206, .slice Ao34 t207.length co34, .int .i64 0]) ?_ 2 _ rfl; (with_reducible repeat (first | refine blk_drewN ?_ _ | refine blk_drew ?_ | refine blk_alloc ?_ _)); refine blk_put (cs := #[.bool t206, .slice none 0 0, .int .i64 0]) ?_ 1 _ rfl; (with_reducible repeat (first | refine blk_drewN ?_ _ | refine blk_drew ?_ | refine blk_alloc ?_ _)); refine blk_put (cs := #[.bool false, .slice none 0 0, .int .i64 0]) ?_ 0 _ rfl; (with_reducible repeat (first | refine blk_drewN ?_ _ | refine blk_drew ?_ | refine blk_alloc ?_ _)); exact BK212.out⟩
              have n2_ : Aside0 (Below w.heap.size w (((w32.setCell ⟨gb212, 0, none⟩ (.bool t206)).setCell ⟨gb212, 1, none⟩ (.slice Ao34 t207.length co34)).setCell ⟨gb212, 2, none⟩ (.int .i64 t210))) := ⟨by repeat (first | (with_reducible first | exact HB.out | apply below_alloc | apply pw_below_drewN | apply below_drew1 | refine below_set ?_ GE212.out) | exact HB.out)⟩
              (try clear HO209)
              (try clear BK212)
              (try clear HB)
              generalize (((w32.setCell ⟨gb212, 0, none⟩ (.bool t206)).setCell ⟨gb212, 1, none⟩ (.slice Ao34 t207.length co34)).setCell ⟨gb212, 2, none⟩ (.int .i64 t210)) = w35 at n0_ n1_ n2_ ⊢
              have HO209 := n0_
              have BK212 := n1_
              have HB := n2_
              clear n0_ n1_ n2_
              have n0_ := Aside0.mk (Kd.R_drew HO209.out)
              have n1_ := Aside0.mk (blk_drew BK212.out)
              have n2_ := Aside0.mk (below_drew1 HB.out)
              clear HO209
              clear BK212
              clear HB
              have HO209 := n0_
              have BK212 := n1_
              have HB := n2_
              clear n0_ n1_ n2_
              refine start_ (n := 11) (S := fun w' => w'.cell? ⟨gb212, 0, none⟩ = some (.bool t206) ∧ w'.cell? ⟨gb212, 1, none⟩ = some (.slice Ao34 t207.length co34) ∧ w'.cell? ⟨gb212, 2, none⟩ = some (.int .i64 t210)) (ds := []) #[false, false, false, false, false, false, false, false, false, false, false] (by kernel_rfl) rfl rfl ⟨(blk_cell BK212.out 0).trans rfl, (blk_cell BK212.out 1).trans rfl, (blk_cell BK212.out 2).trans rfl⟩ (fun hHeld => ?_); refine with_tabW laws_FnScaleDowns.tab4 laws_FnScaleDowns.bits4 (fun HT_ HW_ => ?_)
              generalize w35.drew = w36 at HO209 BK212 HB hHeld ⊢
              refine pure_ (i := 1) (N := some 28) (v := ?_) (a' := ?_) #[false, true, false, false, false, false, false, false, false, false, false] rfl rfl (any_of HT_.out (by kernel_rfl)) (fun _ _ _ h => h) (Or.inl ⟨by rfl, ?_⟩) ?_ ?_
              rotate_left
              · intro w'
                go_simp
                with_reducible rfl
              rotate_left
              · simp only [Act.put, List.setIfInBounds_toArray, List.set_cons_zero, List.set_cons_succ, i64_w, i32_w]
                rfl
              refine pure_ (i := 2) (N := some 29) (v := ?_) (a' := ?_) #[false, true, true, false, false, false, false, false, false, false, false] rfl rfl (any_of HT_.out (by kernel_rfl)) (fun _ _ _ h => h) (Or.inl ⟨by rfl, ?_⟩) ?_ ?_
              rotate_left
              · intro w'
                go_simp
                with_reducible rfl
              rotate_left
              · simp only [Act.put, List.setIfInBounds_toArray, List.set_cons_zero, List.set_cons_succ, i64_w, i32_w]
                rfl
              refine take_ (i := 0) (N := some 27) (v := ?_) (a' := ?_) #[true, true, true, false, false, false, false, false, false, false, false] rfl rfl (take_ofW HT_.out HW_.out (by kernel_rfl)) (fun _ _ _ h => h) (Or.inl ⟨by rfl, ?_⟩) hHeld ?_ ?_
              rotate_left
              · rintro w' ⟨s0, s1, s2⟩
                go_simp
                with_reducible rfl
              rotate_left
              · simp only [Act.put, List.setIfInBounds_toArray, List.set_cons_zero, List.set_cons_succ, i64_w, i32_w]
                rfl
              refine one_ (i := 3) (N := some 30) #[true, true, true, true, false, false, false, false, false, false, false] rfl rfl (one_of HT_.out (by kernel_rfl)) (by decide) (fun K hK => ?_)
              refine goes_ Try.func10 (by kernel_rfl) rfl #[.int .i64 1, .int .i64 (wrap64 (-a1))] (by rfl) rfl rfl (by (try simp only [List.map_toArray, List.map_cons, List.map_nil]); first | done | rfl | (simp only [List.length_drop, List.length_take]; rfl)) ?_
              with_reducible refine (spec_DecimalOf.calls kj2 1 (wrap64 (-a1)) t213 t214 t217 _ A8.out).mono ?_
              rintro e w37 ⟨v215, rfl, ho0, hb⟩
              refine ⟨_, rfl, ?_⟩
              have n0_ := Aside0.mk (Kd.R_elder' (by (with_reducible repeat (first | apply Kd.R_alloc | apply Kd.R_drewN | apply Kd.R_drew)); exact HO209.out) (Kd.R_base ho0) hb)
              have n1_ := Aside0.mk (Kd.R_lower (Kd.R_new' ho0 (Kd.R_lt (by (with_reducible repeat (first | apply Kd.R_alloc | apply Kd.R_drewN | apply Kd.R_drew)); exact HO209.out))) (below_size (by repeat (first | (with_reducible first | exact HB.out | apply below_alloc | apply pw_below_drewN | apply below_drew1 | refine below_set ?_ GE212.out) | exact HB.out))))
              have n2_ := Aside0.mk (blk_below (g := gb212) (o := .cells #[.bool t206, .slice Ao34 t207.length co34, .int .i64 t210] 26 (0, 0)) (by (with_reducible repeat (first | refine blk_drewN ?_ _ | refine blk_drew ?_ | refine blk_alloc ?_ _)); exact BK212.out) hb)
              have n3_ := Aside0.mk (below_step (by repeat (first | (with_reducible first | exact HB.out | apply below_alloc | apply pw_below_drewN | apply below_drew1 | refine below_set ?_ GE212.out) | exact HB.out)) hb)
              clear HO209
              clear BK212
              clear HB
              have HO209 := n0_
              have HO216 := n1_
              have BK212 := n2_
              have HB := n3_
              clear n0_ n1_ n2_ n3_
              (try clear hb)
              (try clear hb2)
              (try clear hk)
              (try clear hi)
              (try clear ho0)
              obtain ⟨Ao38, co38, eo38⟩ := Kd.R_slice HO216.out
              (first | subst eo38 | (injection eo38 with f1_ f2_ f3_; have f4_ := f1_.symm; have f5_ := f3_.symm; clear f1_ f2_ f3_; subst f4_; subst f5_))
              refine hK.out _ _ ⟨(blk_cell BK212.out 0).trans rfl, (blk_cell BK212.out 1).trans rfl, (blk_cell BK212.out 2).trans rfl⟩ (fun hHeld => ?_)
              clear hK K
              refine norm_ (a' := ?_) ?_ ?_
              rotate_left
              · show Act.put _ (some 30) _ = _
                simp only [Act.put, List.setIfInBounds_toArray, List.set_cons_zero, List.set_cons_succ, i64_w, i32_w]
                rfl
              refine one_ (i := 4) (N := some 31) #[true, true, true, true, true, false, false, false, false, false, false] rfl rfl (one_of HT_.out (by kernel_rfl)) (by decide) (fun K hK => ?_)
              refine goes_ Try.func9 (by kernel_rfl) rfl #[.agg #[.bool t206, .slice Ao34 t207.length co34, .int .i64 t210], .agg #[.bool t213, .slice Ao38 t214.length co38, .int .i64 t217]] (by rfl) rfl rfl (by (try simp only [List.map_toArray, List.map_cons, List.map_nil]); first | done | rfl | (simp only [List.length_drop, List.length_take]; rfl)) ?_
              with_reducible refine (spec_DecimalTimes.calls kj2 t206 _ _ t207 t210 t213 _ _ t214 t217 t218 t219 t222 _ ?side1 ?side2 ?side3 ?side4 A9.out).mono ?_
              (case side1 => repeat (first | exact (Kd.R_reads' HO209.out).2.2 | (with_reducible refine Kd.C_alloc ?_ _) | (with_reducible refine Kd.C_drewN ?_ _) | (with_reducible refine Kd.C_drew ?_)))
              (case side2 => exact (Kd.R_reads' HO209.out).2.1)
              (case side3 => repeat (first | exact (Kd.R_reads' HO216.out).2.2 | (with_reducible refine Kd.C_alloc ?_ _) | (with_reducible refine Kd.C_drewN ?_ _) | (with_reducible refine Kd.C_drew ?_)))
              (case side4 => exact (Kd.R_reads' HO216.out).2.1)
              rintro e w39 ⟨v220, rfl, ho0, hb⟩
              refine ⟨_, rfl, ?_⟩
              have n0_ := Aside0.mk (Kd.R_elder' (by (with_reducible repeat (first | apply Kd.R_alloc | apply Kd.R_drewN | apply Kd.R_drew)); exact HO209.out) (Kd.R_base ho0) hb)
              have n1_ := Aside0.mk (Kd.R_elder' (by (with_reducible repeat (first | apply Kd.R_alloc | apply Kd.R_drewN | apply Kd.R_drew)); exact HO216.out) (Kd.R_base ho0) hb)
              have n2_ := Aside0.mk (Kd.R_lower (Kd.R_new' (Kd.R_new' ho0 (Kd.R_lt (by (with_reducible repeat (first | apply Kd.R_alloc | apply Kd.R_drewN | apply Kd.R_drew)); exact HO209.out))) (Kd.R_lt (by (with_reducible repeat (first | apply Kd.R_alloc | apply Kd.R_drewN | apply Kd.R_drew)); exact HO216.out))) (below_size (by repeat (first | (with_reducible first | exact HB.out | apply below_alloc | apply pw_below_drewN | apply below_drew1 | refine below_set ?_ GE212.out) | exact HB.out))))
              have n3_ := Aside0.mk (blk_below (g := gb212) (o := .cells #[.bool t206, .slice Ao34 t207.length co34, .int .i64 t210] 26 (0, 0)) (by (with_reducible repeat (first | refine blk_drewN ?_ _ | refine blk_drew ?_ | refine blk_alloc ?_ _)); exact BK212.out) hb)
              have n4_ := Aside0.mk (below_step (by repeat (first | (with_reducible first | exact HB.out | apply below_alloc | apply pw_below_drewN | apply below_drew1 | refine below_set ?_ GE212.out) | exact HB.out)) hb)
              clear HO209
              clear HO216
              clear BK212
              clear HB
              have HO209 := n0_
              have HO216 := n1_
              have HO221 := n2_
              have BK212 := n3_
              have HB := n4_
              clear n0_ n1_ n2_ n3_ n4_
              (try clear hb)
              (try clear hb2)
              (try clear hk)
              (try clear hi)
              (try clear ho0)
              obtain ⟨Ao40, co40, eo40⟩ := Kd.R_slice HO221.out
              (first | subst eo40 | (injection eo40 with f1_ f2_ f3_; have f4_ := f1_.symm; have f5_ := f3_.symm; clear f1_ f2_ f3_; subst f4_; subst f5_))
              refine hK.out _ _ ⟨(blk_cell BK212.out 0).trans rfl, (blk_cell BK212.out 1).trans rfl, (blk_cell BK212.out 2).trans rfl⟩ (fun hHeld => ?_)
              clear hK K
              refine norm_ (a' := ?_) ?_ ?_
              rotate_left
              · show Act.put _ (some 31) _ = _
                simp only [Act.put, List.setIfInBounds_toArray, List.set_cons_zero, List.set_cons_succ, i64_w, i32_w]
                rfl
              refine one_ (i := 5) (N := some 32) #[true, true, true, true, true, true, false, false, false, false, false] rfl rfl (one_of HT_.out (by kernel_rfl)) (by decide) (fun K hK => ?_)
              refine goes_ Try.func8 (by kernel_rfl) rfl #[.agg #[.bool t218, .slice Ao40 t219.length co40, .int .i64 t222]] (by rfl) rfl rfl (by (try simp only [List.map_toArray, List.map_cons, List.map_nil]); first | done | rfl | (simp only [List.length_drop, List.length_take]; rfl)) ?_
              with_reducible refine (laws_scaleFits.calls kj2 t218 _ _ t219 t222 t223 t224 _ ?side1 ?side2 A10.out).mono ?_
              (case side1 => repeat (first | exact (Kd.R_reads' HO221.out).2.2 | (with_reducible refine Kd.C_alloc ?_ _) | (with_reducible refine Kd.C_drewN ?_ _) | (with_reducible refine Kd.C_drew ?_)))
              (case side2 => exact (Kd.R_reads' HO221.out).2.1)
              rintro e w41 ⟨rfl, hb⟩
              refine ⟨_, rfl, ?_⟩
              have n0_ := Aside0.mk (Kd.R_below (by (with_reducible repeat (first | apply Kd.R_alloc | apply Kd.R_drewN | apply Kd.R_drew)); exact HO209.out) hb)
              have n1_ := Aside0.mk (Kd.R_below (by (with_reducible repeat (first | apply Kd.R_alloc | apply Kd.R_drewN | apply Kd.R_drew)); exact HO216.out) hb)
              have n2_ := Aside0.mk (Kd.R_below (by (with_reducible repeat (first | apply Kd.R_alloc | apply Kd.R_drewN | apply Kd.R_drew)); exact HO221.out) hb)
              have n3_ := Aside0.mk (blk_below (g := gb212) (o := .cells #[.bool t206, .slice Ao34 t207.length co34, .int .i64 t210] 26 (0, 0)) (by (with_reducible repeat (first | refine blk_drewN ?_ _ | refine blk_drew ?_ | refine blk_alloc ?_ _)); exact BK212.out) hb)
              have n4_ := Aside0.mk (below_step (by repeat (first | (with_reducible first | exact HB.out | apply below_alloc | apply pw_below_drewN | apply below_drew1 | refine below_set ?_ GE212.out) | exact HB.out)) hb)
              clear HO209
              clear HO216
              clear HO221
              clear BK212
              clear HB
              have HO209 := n0_
              have HO216 := n1_
              have HO221 := n2_
              have BK212 := n3_
              have HB := n4_
              clear n0_ n1_ n2_ n3_ n4_
              (try clear hb)
              (try clear hb2)
              (try clear hk)
              (try clear hi)
              refine hK.out _ _ ⟨(blk_cell BK212.out 0).trans rfl, (blk_cell BK212.out 1).trans rfl, (blk_cell BK212.out 2).trans rfl⟩ (fun hHeld => ?_)
              clear hK K
              refine norm_ (a' := ?_) ?_ ?_
              rotate_left
              · show Act.put _ (some 32) _ = _
                simp only [Act.put, List.setIfInBounds_toArray, List.set_cons_zero, List.set_cons_succ, i64_w, i32_w]
                rfl
              refine pure_ (i := 6) (N := some 26) (v := ?_) (a' := ?_) #[true, true, true, true, true, true, true, false, false, false, false] rfl rfl (any_of HT_.out (by kernel_rfl)) (fun _ _ _ h => h) (Or.inl ⟨by rfl, ?_⟩) ?_ ?_
              rotate_left
              · intro w'
                go_simp
                with_reducible rfl
              rotate_left
              · simp only [Act.put, List.setIfInBounds_toArray, List.set_cons_zero, List.set_cons_succ, i64_w, i32_w]
                rfl
              refine pure_ (i := 7) (N := some 33) (v := ?_) (a' := ?_) #[true, true, true, true, true, true, true, true, false, false, false] rfl rfl (any_of HT_.out (by kernel_rfl)) (fun _ _ _ h => h) (Or.inl ⟨by rfl, ?_⟩) ?_ ?_
              rotate_left
              · intro w'
                go_simp
                with_reducible rfl
              rotate_left
              · simp only [Act.put, List.setIfInBounds_toArray, List.set_cons_zero, List.set_cons_succ, i64_w, i32_w]
                rfl
              refine pure_ (i := 8) (N := some 34) (v := ?_) (a' := ?_) #[true, true, true, true, true, true, true, true, true, false, false] rfl rfl (any_of HT_.out (by kernel_rfl)) (fun _ _ _ h => h) (Or.inl ⟨by rfl, ?_⟩) ?_ ?_
              rotate_left
              · intro w'
                go_simp
                with_reducible rfl
              rotate_left
              · simp only [Act.put, List.setIfInBounds_toArray, List.set_cons_zero, List.set_cons_succ, i64_w, i32_w]
                rfl
              refine pure_ (i := 9) (N := some 7) (v := ?_) (a' := ?_) #[true, true, true, true, true, true, true, true, true, true, false] rfl rfl (any_of HT_.out (by kernel_rfl)) (fun _ _ _ h => h) (Or.inl ⟨by rfl, ?_⟩) ?_ ?_
              rotate_left
              · intro w'
                go_simp
                with_reducible rfl
              rotate_left
              · simp only [Act.put, List.setIfInBounds_toArray, List.set_cons_zero, List.set_cons_succ, i64_w, i32_w]
                rfl
              refine pure_ (i := 10) (N := some 8) (v := ?_) (a' := ?_) #[true, true, true, true, true, true, true, true, true, true, true] rfl rfl (any_of HT_.out (by kernel_rfl)) (fun _ _ _ h => h) (Or.inl ⟨by rfl, ?_⟩) ?_ ?_
              rotate_left
              · intro w'
                go_simp
                with_reducible rfl
              rotate_left
              · simp only [Act.put, List.setIfInBounds_toArray, List.set_cons_zero, List.set_cons_succ, i64_w, i32_w]
                rfl
              refine done_ (done_of HT_.out (by kernel_rfl)) ?_
              try go_wp2_with (first | ((with_reducible refine gate_callee (f := 17) rfl ?_); refine goesL_ (some 38) rfl rfl Try.func17 (by kernel_rfl) rfl #[.int .i64 a0, .int .i64 a1] rfl (by (try simp only [List.map_toArray, List.map_cons, List.map_nil]); first | done | rfl | (simp only [List.length_drop, List.length_take]; rfl)) ?_; (with_reducible refine (impl_ScaleDown.calls kj2 a0 a1 t225 t226 _ A11.out).mono ?_); rintro e w' ⟨rfl, ⟨nd, rfl⟩⟩; refine ⟨_, rfl, ?_⟩) | ((with_reducible refine gate_callee (f := 17) rfl ?_); refine goesL_ (some 42) rfl rfl Try.func17 (by kernel_rfl) rfl #[.int .i64 11, .int .i64 1] rfl (by (try simp only [List.map_toArray, List.map_cons, List.map_nil]); first | done | rfl | (simp only [List.length_drop, List.length_take]; rfl)) ?_; (with_reducible refine (impl_ScaleDown.calls kj2 11 1 t227 t228 _ A12.out).mono ?_); rintro e w' ⟨rfl, ⟨nd, rfl⟩⟩; refine ⟨_, rfl, ?_⟩))
              go_ret
              exact ⟨by first | rfl | (simp [errW_none, errW_some] <;> rfl) | (simp [*, errW_none, errW_some] <;> rfl), by repeat (first | (with_reducible first | exact HB.out | apply below_alloc | apply pw_below_drewN | apply below_drew1 | refine below_set ?_ GE212.out) | exact HB.out)⟩
          · rw [if_neg c14] at H
            have c14b0 : (t226 == t211) = false := by simpa using c14
            (try (have c14b1 : decide (t226 = t211) = false := by simpa using c14))
            (try (have c14b2 : (t226 == t211) = false := by simpa using c14))
            (try (have c14b3 : ¬ (t226 = t211) := by simpa using c14))
            clear c14
            obtain rfl := Option.some.inj H
            try go_wp2_with (first | ((with_reducible refine gate_callee (f := 10) rfl ?_); refine goesL_ (some 21) rfl rfl Try.func10 (by kernel_rfl) rfl #[.int .i64 a0, .int .i64 0] rfl (by (try simp only [List.map_toArray, List.map_cons, List.map_nil]); first | done | rfl | (simp only [List.length_drop, List.length_take]; rfl)) ?_; (with_reducible refine (spec_DecimalOf.calls kj2 a0 0 t201 t202 t205 _ A6.out).mono ?_); rintro e w42 ⟨v203, rfl, ho0, hb⟩; refine ⟨_, rfl, ?_⟩; have n0_ := Aside0.mk (Kd.R_lower ho0 (below_size (by repeat (first | (with_reducible first | exact HB.out | apply below_alloc | apply pw_below_drewN | apply below_drew1) | exact HB.out)))); have n1_ := Aside0.mk (below_step (by repeat (first | (with_reducible first | exact HB.out | apply below_alloc | apply pw_below_drewN | apply below_drew1) | exact HB.out)) hb); clear HB; have HO204 := n0_; have HB := n1_; clear n0_ n1_; (try clear hb); (try clear hb2); (try clear hk); (try clear hi); (try clear ho0); obtain ⟨Ao43, co43, eo43⟩ := Kd.R_slice HO204.out; subst eo43) | ((with_reducible refine gate_callee (f := 16) rfl ?_); refine goesL_ (some 23) rfl rfl Try.func16 (by kernel_rfl) rfl #[.agg #[.bool t201, .slice Ao43 t202.length co43, .int .i64 t205], .int .i64 a1] rfl (by (try simp only [List.map_toArray, List.map_cons, List.map_nil]); first | done | rfl | (simp only [List.length_drop, List.length_take]; rfl)) ?_; (with_reducible refine (spec_DecimalUp.calls kj2 t201 (fun k_ => some k_ = (.slice Ao43 t202.length co43 : Value).ownBlock) (.slice Ao43 t202.length co43) t202 t205 a1 t206 t207 t210 t211 w _ ?side1 ?side2 A7.out).mono ?_); (case side1 => repeat (first | (with_reducible first | exact HB.out | apply below_alloc | apply pw_below_drewN | apply below_drew1) | exact HB.out)); (case side2 => exact Kd.R_tight rfl HO204.out); rintro e w44 ⟨v208, rfl, ho0, hb, hkp⟩; refine ⟨_, rfl, ?_⟩; have n0_ := Aside0.mk (Kd.R_mono (ok' := fun k_ => True) ho0 (fun k_ hk_ => trivial)); have n1_ := Aside0.mk (hb); clear HB; clear HO204; have HO209 := n0_; have HB := n1_; clear n0_ n1_; (try clear hb); (try clear hkp); (try clear ho0)) | ((with_reducible refine gate_dst (N := 5) rfl ?_); refine box_event ?hg (N := 5) ?hd (cs := #[.bool false, .slice none 0 0, .int .i64 0]) (t := 26) ?hr ?_; (case hd => rfl); (case hg => rfl); (case hr => first | (go_simp; done) | (go_simp; rfl)); intro gb212 hg w45 hbox hb; have n0_ := Aside0.mk (Kd.R_below (by (with_reducible repeat (first | apply Kd.R_alloc | apply Kd.R_drewN | apply Kd.R_drew)); exact HO209.out) hb); have n1_ := Aside0.mk (below_step (by repeat (first | (with_reducible first | exact HB.out | apply below_alloc | apply pw_below_drewN | apply below_drew1) | exact HB.out)) hb); have n2_ := Aside0.mk (hbox); have n3_ := Aside0.mk ((by rw [hg]; exact (below_size (by repeat (first | (with_reducible first | exact HB.out | apply below_alloc | apply pw_below_drewN | apply below_drew1) | exact HB.out))) : w.heap.size ≤ gb212)); have n4_ := Aside0.mk ((by rw [hg]; exact (below_size (by repeat (first | (with_reducible first | exact HB.out | apply below_alloc | apply pw_below_drewN | apply below_drew1) | exact HB.out))) : w.heap.size ≤ gb212)); clear HO209; clear HB; have HO209 := n0_; have HB := n1_; have BK212 := n2_; have GW212 := n3_; have GE212 := n4_; clear n0_ n1_ n2_ n3_ n4_; clear hb hbox hg; have hcz46_0 : w45.cell? ⟨gb212, 0, none⟩ = some (.bool false) := (blk_cell BK212.out 0).trans rfl; have hcz46_1 : w45.cell? ⟨gb212, 1, none⟩ = some (.slice none 0 0) := (blk_cell BK212.out 1).trans rfl; have hcz46_2 : w45.cell? ⟨gb212, 2, none⟩ = some (.int .i64 0) := (blk_cell BK212.out 2).trans rfl; have hfz46_0 := blk_frozen BK212.out 0; have hfz46_1 := blk_frozen BK212.out 1; have hfz46_2 := blk_frozen BK212.out 2; obtain ⟨Ao47, co47, eo47⟩ := Kd.R_slice HO209.out; subst eo47))
            have n0_ : Aside0 (Kd.R (Kd.int .i64) 3 (((w45.setCell ⟨gb212, 0, none⟩ (.bool t206)).setCell ⟨gb212, 1, none⟩ (.slice Ao47 t207.length co47)).setCell ⟨gb212, 2, none⟩ (.int .i64 t210)) w.heap.size (fun _ => True) (.slice Ao47 t207.length co47) t207) := ⟨by (with_reducible repeat (first | apply Kd.R_alloc | apply Kd.R_drewN | apply Kd.R_drew)); exact Kd.R_mono (Kd.R_far (p := ⟨gb212, 2, none⟩) (Kd.R_far (p := ⟨gb212, 1, none⟩) (Kd.R_far (p := ⟨gb212, 0, none⟩) (Kd.R_types HO209.out BK212.out (by decide)) (fun _ hk => hk.2) (.bool t206)) (fun _ hk => hk.2) (.slice Ao47 t207.length co47)) (fun _ hk => hk.2) (.int .i64 t210)) (fun _ hk => trivial)⟩
            have n1_ : Aside0 ((((w45.setCell ⟨gb212, 0, none⟩ (.bool t206)).setCell ⟨gb212, 1, none⟩ (.slice Ao47 t207.length co47)).setCell ⟨gb212, 2, none⟩ (.int .i64 t210)).heap[gb212]? = some (.cells #[.bool t206, .slice Ao47 t207.length co47, .int .i64 t210] 26 (0, 0))) := ⟨by (with_reducible repeat (first | refine blk_drewN ?_ _ | refine blk_drew ?_ | refine blk_alloc ?_ _)); refine blk_put (cs := #[.bool t206, .slice Ao47 t207.length co47, .int .i64 0]) ?_ 2 _ rfl; (with_reducible repeat (first | refine blk_drewN ?_ _ | refine blk_drew ?_ | refine blk_alloc ?_ _)); refine blk_put (cs := #[.bool t206, .slice none 0 0, .int .i64 0]) ?_ 1 _ rfl; (with_reducible repeat (first | refine blk_drewN ?_ _ | refine blk_drew ?_ | refine blk_alloc ?_ _)); refine blk_put (cs := #[.bool false, .slice none 0 0, .int .i64 0]) ?_ 0 _ rfl; (with_reducible repeat (first | refine blk_drewN ?_ _ | refine blk_drew ?_ | refine blk_alloc ?_ _)); exact BK212.out⟩
            have n2_ : Aside0 (Below w.heap.size w (((w45.setCell ⟨gb212, 0, none⟩ (.bool t206)).setCell ⟨gb212, 1, none⟩ (.slice Ao47 t207.length co47)).setCell ⟨gb212, 2, none⟩ (.int .i64 t210))) := ⟨by repeat (first | (with_reducible first | exact HB.out | apply below_alloc | apply pw_below_drewN | apply below_drew1 | refine below_set ?_ GE212.out) | exact HB.out)⟩
            (try clear HO209)
            (try clear BK212)
            (try clear HB)
            generalize (((w45.setCell ⟨gb212, 0, none⟩ (.bool t206)).setCell ⟨gb212, 1, none⟩ (.slice Ao47 t207.length co47)).setCell ⟨gb212, 2, none⟩ (.int .i64 t210)) = w48 at n0_ n1_ n2_ ⊢
            have HO209 := n0_
            have BK212 := n1_
            have HB := n2_
            clear n0_ n1_ n2_
            have n0_ := Aside0.mk (Kd.R_drew HO209.out)
            have n1_ := Aside0.mk (blk_drew BK212.out)
            have n2_ := Aside0.mk (below_drew1 HB.out)
            clear HO209
            clear BK212
            clear HB
            have HO209 := n0_
            have BK212 := n1_
            have HB := n2_
            clear n0_ n1_ n2_
            refine start_ (n := 11) (S := fun w' => w'.cell? ⟨gb212, 0, none⟩ = some (.bool t206) ∧ w'.cell? ⟨gb212, 1, none⟩ = some (.slice Ao47 t207.length co47) ∧ w'.cell? ⟨gb212, 2, none⟩ = some (.int .i64 t210)) (ds := []) #[false, false, false, false, false, false, false, false, false, false, false] (by kernel_rfl) rfl rfl ⟨(blk_cell BK212.out 0).trans rfl, (blk_cell BK212.out 1).trans rfl, (blk_cell BK212.out 2).trans rfl⟩ (fun hHeld => ?_); refine with_tabW laws_FnScaleDowns.tab4 laws_FnScaleDowns.bits4 (fun HT_ HW_ => ?_)
            generalize w48.drew = w49 at HO209 BK212 HB hHeld ⊢
            refine pure_ (i := 1) (N := some 28) (v := ?_) (a' := ?_) #[false, true, false, false, false, false, false, false, false, false, false] rfl rfl (any_of HT_.out (by kernel_rfl)) (fun _ _ _ h => h) (Or.inl ⟨by rfl, ?_⟩) ?_ ?_
            rotate_left
            · intro w'
              go_simp
              with_reducible rfl
            rotate_left
            · simp only [Act.put, List.setIfInBounds_toArray, List.set_cons_zero, List.set_cons_succ, i64_w, i32_w]
              rfl
            refine pure_ (i := 2) (N := some 29) (v := ?_) (a' := ?_) #[false, true, true, false, false, false, false, false, false, false, false] rfl rfl (any_of HT_.out (by kernel_rfl)) (fun _ _ _ h => h) (Or.inl ⟨by rfl, ?_⟩) ?_ ?_
            rotate_left
            · intro w'
              go_simp
              with_reducible rfl
            rotate_left
            · simp only [Act.put, List.setIfInBounds_toArray, List.set_cons_zero, List.set_cons_succ, i64_w, i32_w]
              rfl
            refine take_ (i := 0) (N := some 27) (v := ?_) (a' := ?_) #[true, true, true, false, false, false, false, false, false, false, false] rfl rfl (take_ofW HT_.out HW_.out (by kernel_rfl)) (fun _ _ _ h => h) (Or.inl ⟨by rfl, ?_⟩) hHeld ?_ ?_
            rotate_left
            · rintro w' ⟨s0, s1, s2⟩
              go_simp
              with_reducible rfl
            rotate_left
            · simp only [Act.put, List.setIfInBounds_toArray, List.set_cons_zero, List.set_cons_succ, i64_w, i32_w]
              rfl
            refine one_ (i := 3) (N := some 30) #[true, true, true, true, false, false, false, false, false, false, false] rfl rfl (one_of HT_.out (by kernel_rfl)) (by decide) (fun K hK => ?_)
            refine goes_ Try.func10 (by kernel_rfl) rfl #[.int .i64 1, .int .i64 (wrap64 (-a1))] (by rfl) rfl rfl (by (try simp only [List.map_toArray, List.map_cons, List.map_nil]); first | done | rfl | (simp only [List.length_drop, List.length_take]; rfl)) ?_
            with_reducible refine (spec_DecimalOf.calls kj2 1 (wrap64 (-a1)) t213 t214 t217 _ A8.out).mono ?_
            rintro e w50 ⟨v215, rfl, ho0, hb⟩
            refine ⟨_, rfl, ?_⟩
            have n0_ := Aside0.mk (Kd.R_elder' (by (with_reducible repeat (first | apply Kd.R_alloc | apply Kd.R_drewN | apply Kd.R_drew)); exact HO209.out) (Kd.R_base ho0) hb)
            have n1_ := Aside0.mk (Kd.R_lower (Kd.R_new' ho0 (Kd.R_lt (by (with_reducible repeat (first | apply Kd.R_alloc | apply Kd.R_drewN | apply Kd.R_drew)); exact HO209.out))) (below_size (by repeat (first | (with_reducible first | exact HB.out | apply below_alloc | apply pw_below_drewN | apply below_drew1 | refine below_set ?_ GE212.out) | exact HB.out))))
            have n2_ := Aside0.mk (blk_below (g := gb212) (o := .cells #[.bool t206, .slice Ao47 t207.length co47, .int .i64 t210] 26 (0, 0)) (by (with_reducible repeat (first | refine blk_drewN ?_ _ | refine blk_drew ?_ | refine blk_alloc ?_ _)); exact BK212.out) hb)
            have n3_ := Aside0.mk (below_step (by repeat (first | (with_reducible first | exact HB.out | apply below_alloc | apply pw_below_drewN | apply below_drew1 | refine below_set ?_ GE212.out) | exact HB.out)) hb)
            clear HO209
            clear BK212
            clear HB
            have HO209 := n0_
            have HO216 := n1_
            have BK212 := n2_
            have HB := n3_
            clear n0_ n1_ n2_ n3_
            (try clear hb)
            (try clear hb2)
            (try clear hk)
            (try clear hi)
            (try clear ho0)
            obtain ⟨Ao51, co51, eo51⟩ := Kd.R_slice HO216.out
            (first | subst eo51 | (injection eo51 with f1_ f2_ f3_; have f4_ := f1_.symm; have f5_ := f3_.symm; clear f1_ f2_ f3_; subst f4_; subst f5_))
            refine hK.out _ _ ⟨(blk_cell BK212.out 0).trans rfl, (blk_cell BK212.out 1).trans rfl, (blk_cell BK212.out 2).trans rfl⟩ (fun hHeld => ?_)
            clear hK K
            refine norm_ (a' := ?_) ?_ ?_
            rotate_left
            · show Act.put _ (some 30) _ = _
              simp only [Act.put, List.setIfInBounds_toArray, List.set_cons_zero, List.set_cons_succ, i64_w, i32_w]
              rfl
            refine one_ (i := 4) (N := some 31) #[true, true, true, true, true, false, false, false, false, false, false] rfl rfl (one_of HT_.out (by kernel_rfl)) (by decide) (fun K hK => ?_)
            refine goes_ Try.func9 (by kernel_rfl) rfl #[.agg #[.bool t206, .slice Ao47 t207.length co47, .int .i64 t210], .agg #[.bool t213, .slice Ao51 t214.length co51, .int .i64 t217]] (by rfl) rfl rfl (by (try simp only [List.map_toArray, List.map_cons, List.map_nil]); first | done | rfl | (simp only [List.length_drop, List.length_take]; rfl)) ?_
            with_reducible refine (spec_DecimalTimes.calls kj2 t206 _ _ t207 t210 t213 _ _ t214 t217 t218 t219 t222 _ ?side1 ?side2 ?side3 ?side4 A9.out).mono ?_
            (case side1 => repeat (first | exact (Kd.R_reads' HO209.out).2.2 | (with_reducible refine Kd.C_alloc ?_ _) | (with_reducible refine Kd.C_drewN ?_ _) | (with_reducible refine Kd.C_drew ?_)))
            (case side2 => exact (Kd.R_reads' HO209.out).2.1)
            (case side3 => repeat (first | exact (Kd.R_reads' HO216.out).2.2 | (with_reducible refine Kd.C_alloc ?_ _) | (with_reducible refine Kd.C_drewN ?_ _) | (with_reducible refine Kd.C_drew ?_)))
            (case side4 => exact (Kd.R_reads' HO216.out).2.1)
            rintro e w52 ⟨v220, rfl, ho0, hb⟩
            refine ⟨_, rfl, ?_⟩
            have n0_ := Aside0.mk (Kd.R_elder' (by (with_reducible repeat (first | apply Kd.R_alloc | apply Kd.R_drewN | apply Kd.R_drew)); exact HO209.out) (Kd.R_base ho0) hb)
            have n1_ := Aside0.mk (Kd.R_elder' (by (with_reducible repeat (first | apply Kd.R_alloc | apply Kd.R_drewN | apply Kd.R_drew)); exact HO216.out) (Kd.R_base ho0) hb)
            have n2_ := Aside0.mk (Kd.R_lower (Kd.R_new' (Kd.R_new' ho0 (Kd.R_lt (by (with_reducible repeat (first | apply Kd.R_alloc | apply Kd.R_drewN | apply Kd.R_drew)); exact HO209.out))) (Kd.R_lt (by (with_reducible repeat (first | apply Kd.R_alloc | apply Kd.R_drewN | apply Kd.R_drew)); exact HO216.out))) (below_size (by repeat (first | (with_reducible first | exact HB.out | apply below_alloc | apply pw_below_drewN | apply below_drew1 | refine below_set ?_ GE212.out) | exact HB.out))))
            have n3_ := Aside0.mk (blk_below (g := gb212) (o := .cells #[.bool t206, .slice Ao47 t207.length co47, .int .i64 t210] 26 (0, 0)) (by (with_reducible repeat (first | refine blk_drewN ?_ _ | refine blk_drew ?_ | refine blk_alloc ?_ _)); exact BK212.out) hb)
            have n4_ := Aside0.mk (below_step (by repeat (first | (with_reducible first | exact HB.out | apply below_alloc | apply pw_below_drewN | apply below_drew1 | refine below_set ?_ GE212.out) | exact HB.out)) hb)
            clear HO209
            clear HO216
            clear BK212
            clear HB
            have HO209 := n0_
            have HO216 := n1_
            have HO221 := n2_
            have BK212 := n3_
            have HB := n4_
            clear n0_ n1_ n2_ n3_ n4_
            (try clear hb)
            (try clear hb2)
            (try clear hk)
            (try clear hi)
            (try clear ho0)
            obtain ⟨Ao53, co53, eo53⟩ := Kd.R_slice HO221.out
            (first | subst eo53 | (injection eo53 with f1_ f2_ f3_; have f4_ := f1_.symm; have f5_ := f3_.symm; clear f1_ f2_ f3_; subst f4_; subst f5_))
            refine hK.out _ _ ⟨(blk_cell BK212.out 0).trans rfl, (blk_cell BK212.out 1).trans rfl, (blk_cell BK212.out 2).trans rfl⟩ (fun hHeld => ?_)
            clear hK K
            refine norm_ (a' := ?_) ?_ ?_
            rotate_left
            · show Act.put _ (some 31) _ = _
              simp only [Act.put, List.setIfInBounds_toArray, List.set_cons_zero, List.set_cons_succ, i64_w, i32_w]
              rfl
            refine one_ (i := 5) (N := some 32) #[true, true, true, true, true, true, false, false, false, false, false] rfl rfl (one_of HT_.out (by kernel_rfl)) (by decide) (fun K hK => ?_)
            refine goes_ Try.func8 (by kernel_rfl) rfl #[.agg #[.bool t218, .slice Ao53 t219.length co53, .int .i64 t222]] (by rfl) rfl rfl (by (try simp only [List.map_toArray, List.map_cons, List.map_nil]); first | done | rfl | (simp only [List.length_drop, List.length_take]; rfl)) ?_
            with_reducible refine (laws_scaleFits.calls kj2 t218 _ _ t219 t222 t223 t224 _ ?side1 ?side2 A10.out).mono ?_
            (case side1 => repeat (first | exact (Kd.R_reads' HO221.out).2.2 | (with_reducible refine Kd.C_alloc ?_ _) | (with_reducible refine Kd.C_drewN ?_ _) | (with_reducible refine Kd.C_drew ?_)))
            (case side2 => exact (Kd.R_reads' HO221.out).2.1)
            rintro e w54 ⟨rfl, hb⟩
            refine ⟨_, rfl, ?_⟩
            have n0_ := Aside0.mk (Kd.R_below (by (with_reducible repeat (first | apply Kd.R_alloc | apply Kd.R_drewN | apply Kd.R_drew)); exact HO209.out) hb)
            have n1_ := Aside0.mk (Kd.R_below (by (with_reducible repeat (first | apply Kd.R_alloc | apply Kd.R_drewN | apply Kd.R_drew)); exact HO216.out) hb)
            have n2_ := Aside0.mk (Kd.R_below (by (with_reducible repeat (first | apply Kd.R_alloc | apply Kd.R_drewN | apply Kd.R_drew)); exact HO221.out) hb)
            have n3_ := Aside0.mk (blk_below (g := gb212) (o := .cells #[.bool t206, .slice Ao47 t207.length co47, .int .i64 t210] 26 (0, 0)) (by (with_reducible repeat (first | refine blk_drewN ?_ _ | refine blk_drew ?_ | refine blk_alloc ?_ _)); exact BK212.out) hb)
            have n4_ := Aside0.mk (below_step (by repeat (first | (with_reducible first | exact HB.out | apply below_alloc | apply pw_below_drewN | apply below_drew1 | refine below_set ?_ GE212.out) | exact HB.out)) hb)
            clear HO209
            clear HO216
            clear HO221
            clear BK212
            clear HB
            have HO209 := n0_
            have HO216 := n1_
            have HO221 := n2_
            have BK212 := n3_
            have HB := n4_
            clear n0_ n1_ n2_ n3_ n4_
            (try clear hb)
            (try clear hb2)
            (try clear hk)
            (try clear hi)
            refine hK.out _ _ ⟨(blk_cell BK212.out 0).trans rfl, (blk_cell BK212.out 1).trans rfl, (blk_cell BK212.out 2).trans rfl⟩ (fun hHeld => ?_)
            clear hK K
            refine norm_ (a' := ?_) ?_ ?_
            rotate_left
            · show Act.put _ (some 32) _ = _
              simp only [Act.put, List.setIfInBounds_toArray, List.set_cons_zero, List.set_cons_succ, i64_w, i32_w]
              rfl
            refine pure_ (i := 6) (N := some 26) (v := ?_) (a' := ?_) #[true, true, true, true, true, true, true, false, false, false, false] rfl rfl (any_of HT_.out (by kernel_rfl)) (fun _ _ _ h => h) (Or.inl ⟨by rfl, ?_⟩) ?_ ?_
            rotate_left
            · intro w'
              go_simp
              with_reducible rfl
            rotate_left
            · simp only [Act.put, List.setIfInBounds_toArray, List.set_cons_zero, List.set_cons_succ, i64_w, i32_w]
              rfl
            refine pure_ (i := 7) (N := some 33) (v := ?_) (a' := ?_) #[true, true, true, true, true, true, true, true, false, false, false] rfl rfl (any_of HT_.out (by kernel_rfl)) (fun _ _ _ h => h) (Or.inl ⟨by rfl, ?_⟩) ?_ ?_
            rotate_left
            · intro w'
              go_simp
              with_reducible rfl
            rotate_left
            · simp only [Act.put, List.setIfInBounds_toArray, List.set_cons_zero, List.set_cons_succ, i64_w, i32_w]
              rfl
            refine pure_ (i := 8) (N := some 34) (v := ?_) (a' := ?_) #[true, true, true, true, true, true, true, true, true, false, false] rfl rfl (any_of HT_.out (by kernel_rfl)) (fun _ _ _ h => h) (Or.inl ⟨by rfl, ?_⟩) ?_ ?_
            rotate_left
            · intro w'
              go_simp
              with_reducible rfl
            rotate_left
            · simp only [Act.put, List.setIfInBounds_toArray, List.set_cons_zero, List.set_cons_succ, i64_w, i32_w]
              rfl
            refine pure_ (i := 9) (N := some 7) (v := ?_) (a' := ?_) #[true, true, true, true, true, true, true, true, true, true, false] rfl rfl (any_of HT_.out (by kernel_rfl)) (fun _ _ _ h => h) (Or.inl ⟨by rfl, ?_⟩) ?_ ?_
            rotate_left
            · intro w'
              go_simp
              with_reducible rfl
            rotate_left
            · simp only [Act.put, List.setIfInBounds_toArray, List.set_cons_zero, List.set_cons_succ, i64_w, i32_w]
              rfl
            refine pure_ (i := 10) (N := some 8) (v := ?_) (a' := ?_) #[true, true, true, true, true, true, true, true, true, true, true] rfl rfl (any_of HT_.out (by kernel_rfl)) (fun _ _ _ h => h) (Or.inl ⟨by rfl, ?_⟩) ?_ ?_
            rotate_left
            · intro w'
              go_simp
              with_reducible rfl
            rotate_left
            · simp only [Act.put, List.setIfInBounds_toArray, List.set_cons_zero, List.set_cons_succ, i64_w, i32_w]
              rfl
            refine done_ (done_of HT_.out (by kernel_rfl)) ?_
            try go_wp2_with (first | ((with_reducible refine gate_callee (f := 17) rfl ?_); refine goesL_ (some 38) rfl rfl Try.func17 (by kernel_rfl) rfl #[.int .i64 a0, .int .i64 a1] rfl (by (try simp only [List.map_toArray, List.map_cons, List.map_nil]); first | done | rfl | (simp only [List.length_drop, List.length_take]; rfl)) ?_; (with_reducible refine (impl_ScaleDown.calls kj2 a0 a1 t225 t226 _ A11.out).mono ?_); rintro e w' ⟨rfl, ⟨nd, rfl⟩⟩; refine ⟨_, rfl, ?_⟩) | ((with_reducible refine gate_callee (f := 17) rfl ?_); refine goesL_ (some 42) rfl rfl Try.func17 (by kernel_rfl) rfl #[.int .i64 11, .int .i64 1] rfl (by (try simp only [List.map_toArray, List.map_cons, List.map_nil]); first | done | rfl | (simp only [List.length_drop, List.length_take]; rfl)) ?_; (with_reducible refine (impl_ScaleDown.calls kj2 11 1 t227 t228 _ A12.out).mono ?_); rintro e w' ⟨rfl, ⟨nd, rfl⟩⟩; refine ⟨_, rfl, ?_⟩))
            go_ret
            exact ⟨by first | rfl | (simp [errW_none, errW_some] <;> rfl) | (simp [*, errW_none, errW_some] <;> rfl), by repeat (first | (with_reducible first | exact HB.out | apply below_alloc | apply pw_below_drewN | apply below_drew1 | refine below_set ?_ GE212.out) | exact HB.out)⟩
        · rw [if_neg c13] at H
          have c13b0 : (t225 == t223) = false := beq_eq_false_iff_ne.mpr c13
          have c13b1 : (t225 != t223) = true := bne_iff_ne.mpr c13
          obtain rfl := Option.some.inj H
          try go_wp2_with (first | ((with_reducible refine gate_callee (f := 10) rfl ?_); refine goesL_ (some 21) rfl rfl Try.func10 (by kernel_rfl) rfl #[.int .i64 a0, .int .i64 0] rfl (by (try simp only [List.map_toArray, List.map_cons, List.map_nil]); first | done | rfl | (simp only [List.length_drop, List.length_take]; rfl)) ?_; (with_reducible refine (spec_DecimalOf.calls kj2 a0 0 t201 t202 t205 _ A6.out).mono ?_); rintro e w55 ⟨v203, rfl, ho0, hb⟩; refine ⟨_, rfl, ?_⟩; have n0_ := Aside0.mk (Kd.R_lower ho0 (below_size (by repeat (first | (with_reducible first | exact HB.out | apply below_alloc | apply pw_below_drewN | apply below_drew1) | exact HB.out)))); have n1_ := Aside0.mk (below_step (by repeat (first | (with_reducible first | exact HB.out | apply below_alloc | apply pw_below_drewN | apply below_drew1) | exact HB.out)) hb); clear HB; have HO204 := n0_; have HB := n1_; clear n0_ n1_; (try clear hb); (try clear hb2); (try clear hk); (try clear hi); (try clear ho0); obtain ⟨Ao56, co56, eo56⟩ := Kd.R_slice HO204.out; subst eo56) | ((with_reducible refine gate_callee (f := 16) rfl ?_); refine goesL_ (some 23) rfl rfl Try.func16 (by kernel_rfl) rfl #[.agg #[.bool t201, .slice Ao56 t202.length co56, .int .i64 t205], .int .i64 a1] rfl (by (try simp only [List.map_toArray, List.map_cons, List.map_nil]); first | done | rfl | (simp only [List.length_drop, List.length_take]; rfl)) ?_; (with_reducible refine (spec_DecimalUp.calls kj2 t201 (fun k_ => some k_ = (.slice Ao56 t202.length co56 : Value).ownBlock) (.slice Ao56 t202.length co56) t202 t205 a1 t206 t207 t210 t211 w _ ?side1 ?side2 A7.out).mono ?_); (case side1 => repeat (first | (with_reducible first | exact HB.out | apply below_alloc | apply pw_below_drewN | apply below_drew1) | exact HB.out)); (case side2 => exact Kd.R_tight rfl HO204.out); rintro e w57 ⟨v208, rfl, ho0, hb, hkp⟩; refine ⟨_, rfl, ?_⟩; have n0_ := Aside0.mk (Kd.R_mono (ok' := fun k_ => True) ho0 (fun k_ hk_ => trivial)); have n1_ := Aside0.mk (hb); clear HB; clear HO204; have HO209 := n0_; have HB := n1_; clear n0_ n1_; (try clear hb); (try clear hkp); (try clear ho0)) | ((with_reducible refine gate_dst (N := 5) rfl ?_); refine box_event ?hg (N := 5) ?hd (cs := #[.bool false, .slice none 0 0, .int .i64 0]) (t := 26) ?hr ?_; (case hd => rfl); (case hg => rfl); (case hr => first | (go_simp; done) | (go_simp; rfl)); intro gb212 hg w58 hbox hb; have n0_ := Aside0.mk (Kd.R_below (by (with_reducible repeat (first | apply Kd.R_alloc | apply Kd.R_drewN | apply Kd.R_drew)); exact HO209.out) hb); have n1_ := Aside0.mk (below_step (by repeat (first | (with_reducible first | exact HB.out | apply below_alloc | apply pw_below_drewN | apply below_drew1) | exact HB.out)) hb); have n2_ := Aside0.mk (hbox); have n3_ := Aside0.mk ((by rw [hg]; exact (below_size (by repeat (first | (with_reducible first | exact HB.out | apply below_alloc | apply pw_below_drewN | apply below_drew1) | exact HB.out))) : w.heap.size ≤ gb212)); have n4_ := Aside0.mk ((by rw [hg]; exact (below_size (by repeat (first | (with_reducible first | exact HB.out | apply below_alloc | apply pw_below_drewN | apply below_drew1) | exact HB.out))) : w.heap.size ≤ gb212)); clear HO209; clear HB; have HO209 := n0_; have HB := n1_; have BK212 := n2_; have GW212 := n3_; have GE212 := n4_; clear n0_ n1_ n2_ n3_ n4_; clear hb hbox hg; have hcz59_0 : w58.cell? ⟨gb212, 0, none⟩ = some (.bool false) := (blk_cell BK212.out 0).trans rfl; have hcz59_1 : w58.cell? ⟨gb212, 1, none⟩ = some (.slice none 0 0) := (blk_cell BK212.out 1).trans rfl; have hcz59_2 : w58.cell? ⟨gb212, 2, none⟩ = some (.int .i64 0) := (blk_cell BK212.out 2).trans rfl; have hfz59_0 := blk_frozen BK212.out 0; have hfz59_1 := blk_frozen BK212.out 1; have hfz59_2 := blk_frozen BK212.out 2; obtain ⟨Ao60, co60, eo60⟩ := Kd.R_slice HO209.out; subst eo60))
          have n0_ : Aside0 (Kd.R (Kd.int .i64) 3 (((w58.setCell ⟨gb212, 0, none⟩ (.bool t206)).setCell ⟨gb212, 1, none⟩ (.slice Ao60 t207.length co60)).setCell ⟨gb212, 2, none⟩ (.int .i64 t210)) w.heap.size (fun _ => True) (.slice Ao60 t207.length co60) t207) := ⟨by (with_reducible repeat (first | apply Kd.R_alloc | apply Kd.R_drewN | apply Kd.R_drew)); exact Kd.R_mono (Kd.R_far (p := ⟨gb212, 2, none⟩) (Kd.R_far (p := ⟨gb212, 1, none⟩) (Kd.R_far (p := ⟨gb212, 0, none⟩) (Kd.R_types HO209.out BK212.out (by decide)) (fun _ hk => hk.2) (.bool t206)) (fun _ hk => hk.2) (.slice Ao60 t207.length co60)) (fun _ hk => hk.2) (.int .i64 t210)) (fun _ hk => trivial)⟩
          have n1_ : Aside0 ((((w58.setCell ⟨gb212, 0, none⟩ (.bool t206)).setCell ⟨gb212, 1, none⟩ (.slice Ao60 t207.length co60)).setCell ⟨gb212, 2, none⟩ (.int .i64 t210)).heap[gb212]? = some (.cells #[.bool t206, .slice Ao60 t207.length co60, .int .i64 t210] 26 (0, 0))) := ⟨by (with_reducible repeat (first | refine blk_drewN ?_ _ | refine blk_drew ?_ | refine blk_alloc ?_ _)); refine blk_put (cs := #[.bool t206, .slice Ao60 t207.length co60, .int .i64 0]) ?_ 2 _ rfl; (with_reducible repeat (first | refine blk_drewN ?_ _ | refine blk_drew ?_ | refine blk_alloc ?_ _)); refine blk_put (cs := #[.bool t206, .slice none 0 0, .int .i64 0]) ?_ 1 _ rfl; (with_reducible repeat (first | refine blk_drewN ?_ _ | refine blk_drew ?_ | refine blk_alloc ?_ _)); refine blk_put (cs := #[.bool false, .slice none 0 0, .int .i64 0]) ?_ 0 _ rfl; (with_reducible repeat (first | refine blk_drewN ?_ _ | refine blk_drew ?_ | refine blk_alloc ?_ _)); exact BK212.out⟩
          have n2_ : Aside0 (Below w.heap.size w (((w58.setCell ⟨gb212, 0, none⟩ (.bool t206)).setCell ⟨gb212, 1, none⟩ (.slice Ao60 t207.length co60)).setCell ⟨gb212, 2, none⟩ (.int .i64 t210))) := ⟨by repeat (first | (with_reducible first | exact HB.out | apply below_alloc | apply pw_below_drewN | apply below_drew1 | refine below_set ?_ GE212.out) | exact HB.out)⟩
          (try clear HO209)
          (try clear BK212)
          (try clear HB)
          generalize (((w58.setCell ⟨gb212, 0, none⟩ (.bool t206)).setCell ⟨gb212, 1, none⟩ (.slice Ao60 t207.length co60)).setCell ⟨gb212, 2, none⟩ (.int .i64 t210)) = w61 at n0_ n1_ n2_ ⊢
          have HO209 := n0_
          have BK212 := n1_
          have HB := n2_
          clear n0_ n1_ n2_
          have n0_ := Aside0.mk (Kd.R_drew HO209.out)
          have n1_ := Aside0.mk (blk_drew BK212.out)
          have n2_ := Aside0.mk (below_drew1 HB.out)
          clear HO209
          clear BK212
          clear HB
          have HO209 := n0_
          have BK212 := n1_
          have HB := n2_
          clear n0_ n1_ n2_
          refine start_ (n := 11) (S := fun w' => w'.cell? ⟨gb212, 0, none⟩ = some (.bool t206) ∧ w'.cell? ⟨gb212, 1, none⟩ = some (.slice Ao60 t207.length co60) ∧ w'.cell? ⟨gb212, 2, none⟩ = some (.int .i64 t210)) (ds := []) #[false, false, false, false, false, false, false, false, false, false, false] (by kernel_rfl) rfl rfl ⟨(blk_cell BK212.out 0).trans rfl, (blk_cell BK212.out 1).trans rfl, (blk_cell BK212.out 2).trans rfl⟩ (fun hHeld => ?_); refine with_tabW laws_FnScaleDowns.tab4 laws_FnScaleDowns.bits4 (fun HT_ HW_ => ?_)
          generalize w61.drew = w62 at HO209 BK212 HB hHeld ⊢
          refine pure_ (i := 1) (N := some 28) (v := ?_) (a' := ?_) #[false, true, false, false, false, false, false, false, false, false, false] rfl rfl (any_of HT_.out (by kernel_rfl)) (fun _ _ _ h => h) (Or.inl ⟨by rfl, ?_⟩) ?_ ?_
          rotate_left
          · intro w'
            go_simp
            with_reducible rfl
          rotate_left
          · simp only [Act.put, List.setIfInBounds_toArray, List.set_cons_zero, List.set_cons_succ, i64_w, i32_w]
            rfl
          refine pure_ (i := 2) (N := some 29) (v := ?_) (a' := ?_) #[false, true, true, false, false, false, false, false, false, false, false] rfl rfl (any_of HT_.out (by kernel_rfl)) (fun _ _ _ h => h) (Or.inl ⟨by rfl, ?_⟩) ?_ ?_
          rotate_left
          · intro w'
            go_simp
            with_reducible rfl
          rotate_left
          · simp only [Act.put, List.setIfInBounds_toArray, List.set_cons_zero, List.set_cons_succ, i64_w, i32_w]
            rfl
          refine take_ (i := 0) (N := some 27) (v := ?_) (a' := ?_) #[true, true, true, false, false, false, false, false, false, false, false] rfl rfl (take_ofW HT_.out HW_.out (by kernel_rfl)) (fun _ _ _ h => h) (Or.inl ⟨by rfl, ?_⟩) hHeld ?_ ?_
          rotate_left
          · rintro w' ⟨s0, s1, s2⟩
            go_simp
            with_reducible rfl
          rotate_left
          · simp only [Act.put, List.setIfInBounds_toArray, List.set_cons_zero, List.set_cons_succ, i64_w, i32_w]
            rfl
          refine one_ (i := 3) (N := some 30) #[true, true, true, true, false, false, false, false, false, false, false] rfl rfl (one_of HT_.out (by kernel_rfl)) (by decide) (fun K hK => ?_)
          refine goes_ Try.func10 (by kernel_rfl) rfl #[.int .i64 1, .int .i64 (wrap64 (-a1))] (by rfl) rfl rfl (by (try simp only [List.map_toArray, List.map_cons, List.map_nil]); first | done | rfl | (simp only [List.length_drop, List.length_take]; rfl)) ?_
          with_reducible refine (spec_DecimalOf.calls kj2 1 (wrap64 (-a1)) t213 t214 t217 _ A8.out).mono ?_
          rintro e w63 ⟨v215, rfl, ho0, hb⟩
          refine ⟨_, rfl, ?_⟩
          have n0_ := Aside0.mk (Kd.R_elder' (by (with_reducible repeat (first | apply Kd.R_alloc | apply Kd.R_drewN | apply Kd.R_drew)); exact HO209.out) (Kd.R_base ho0) hb)
          have n1_ := Aside0.mk (Kd.R_lower (Kd.R_new' ho0 (Kd.R_lt (by (with_reducible repeat (first | apply Kd.R_alloc | apply Kd.R_drewN | apply Kd.R_drew)); exact HO209.out))) (below_size (by repeat (first | (with_reducible first | exact HB.out | apply below_alloc | apply pw_below_drewN | apply below_drew1 | refine below_set ?_ GE212.out) | exact HB.out))))
          have n2_ := Aside0.mk (blk_below (g := gb212) (o := .cells #[.bool t206, .slice Ao60 t207.length co60, .int .i64 t210] 26 (0, 0)) (by (with_reducible repeat (first | refine blk_drewN ?_ _ | refine blk_drew ?_ | refine blk_alloc ?_ _)); exact BK212.out) hb)
          have n3_ := Aside0.mk (below_step (by repeat (first | (with_reducible first | exact HB.out | apply below_alloc | apply pw_below_drewN | apply below_drew1 | refine below_set ?_ GE212.out) | exact HB.out)) hb)
          clear HO209
          clear BK212
          clear HB
          have HO209 := n0_
          have HO216 := n1_
          have BK212 := n2_
          have HB := n3_
          clear n0_ n1_ n2_ n3_
          (try clear hb)
          (try clear hb2)
          (try clear hk)
          (try clear hi)
          (try clear ho0)
          obtain ⟨Ao64, co64, eo64⟩ := Kd.R_slice HO216.out
          (first | subst eo64 | (injection eo64 with f1_ f2_ f3_; have f4_ := f1_.symm; have f5_ := f3_.symm; clear f1_ f2_ f3_; subst f4_; subst f5_))
          refine hK.out _ _ ⟨(blk_cell BK212.out 0).trans rfl, (blk_cell BK212.out 1).trans rfl, (blk_cell BK212.out 2).trans rfl⟩ (fun hHeld => ?_)
          clear hK K
          refine norm_ (a' := ?_) ?_ ?_
          rotate_left
          · show Act.put _ (some 30) _ = _
            simp only [Act.put, List.setIfInBounds_toArray, List.set_cons_zero, List.set_cons_succ, i64_w, i32_w]
            rfl
          refine one_ (i := 4) (N := some 31) #[true, true, true, true, true, false, false, false, false, false, false] rfl rfl (one_of HT_.out (by kernel_rfl)) (by decide) (fun K hK => ?_)
          refine goes_ Try.func9 (by kernel_rfl) rfl #[.agg #[.bool t206, .slice Ao60 t207.length co60, .int .i64 t210], .agg #[.bool t213, .slice Ao64 t214.length co64, .int .i64 t217]] (by rfl) rfl rfl (by (try simp only [List.map_toArray, List.map_cons, List.map_nil]); first | done | rfl | (simp only [List.length_drop, List.length_take]; rfl)) ?_
          with_reducible refine (spec_DecimalTimes.calls kj2 t206 _ _ t207 t210 t213 _ _ t214 t217 t218 t219 t222 _ ?side1 ?side2 ?side3 ?side4 A9.out).mono ?_
          (case side1 => repeat (first | exact (Kd.R_reads' HO209.out).2.2 | (with_reducible refine Kd.C_alloc ?_ _) | (with_reducible refine Kd.C_drewN ?_ _) | (with_reducible refine Kd.C_drew ?_)))
          (case side2 => exact (Kd.R_reads' HO209.out).2.1)
          (case side3 => repeat (first | exact (Kd.R_reads' HO216.out).2.2 | (with_reducible refine Kd.C_alloc ?_ _) | (with_reducible refine Kd.C_drewN ?_ _) | (with_reducible refine Kd.C_drew ?_)))
          (case side4 => exact (Kd.R_reads' HO216.out).2.1)
          rintro e w65 ⟨v220, rfl, ho0, hb⟩
          refine ⟨_, rfl, ?_⟩
          have n0_ := Aside0.mk (Kd.R_elder' (by (with_reducible repeat (first | apply Kd.R_alloc | apply Kd.R_drewN | apply Kd.R_drew)); exact HO209.out) (Kd.R_base ho0) hb)
          have n1_ := Aside0.mk (Kd.R_elder' (by (with_reducible repeat (first | apply Kd.R_alloc | apply Kd.R_drewN | apply Kd.R_drew)); exact HO216.out) (Kd.R_base ho0) hb)
          have n2_ := Aside0.mk (Kd.R_lower (Kd.R_new' (Kd.R_new' ho0 (Kd.R_lt (by (with_reducible repeat (first | apply Kd.R_alloc | apply Kd.R_drewN | apply Kd.R_drew)); exact HO209.out))) (Kd.R_lt (by (with_reducible repeat (first | apply Kd.R_alloc | apply Kd.R_drewN | apply Kd.R_drew)); exact HO216.out))) (below_size (by repeat (first | (with_reducible first | exact HB.out | apply below_alloc | apply pw_below_drewN | apply below_drew1 | refine below_set ?_ GE212.out) | exact HB.out))))
          have n3_ := Aside0.mk (blk_below (g := gb212) (o := .cells #[.bool t206, .slice Ao60 t207.length co60, .int .i64 t210] 26 (0, 0)) (by (with_reducible repeat (first | refine blk_drewN ?_ _ | refine blk_drew ?_ | refine blk_alloc ?_ _)); exact BK212.out) hb)
          have n4_ := Aside0.mk (below_step (by repeat (first | (with_reducible first | exact HB.out | apply below_alloc | apply pw_below_drewN | apply below_drew1 | refine below_set ?_ GE212.out) | exact HB.out)) hb)
          clear HO209
          clear HO216
          clear BK212
          clear HB
          have HO209 := n0_
          have HO216 := n1_
          have HO221 := n2_
          have BK212 := n3_
          have HB := n4_
          clear n0_ n1_ n2_ n3_ n4_
          (try clear hb)
          (try clear hb2)
          (try clear hk)
          (try clear hi)
          (try clear ho0)
          obtain ⟨Ao66, co66, eo66⟩ := Kd.R_slice HO221.out
          (first | subst eo66 | (injection eo66 with f1_ f2_ f3_; have f4_ := f1_.symm; have f5_ := f3_.symm; clear f1_ f2_ f3_; subst f4_; subst f5_))
          refine hK.out _ _ ⟨(blk_cell BK212.out 0).trans rfl, (blk_cell BK212.out 1).trans rfl, (blk_cell BK212.out 2).trans rfl⟩ (fun hHeld => ?_)
          clear hK K
          refine norm_ (a' := ?_) ?_ ?_
          rotate_left
          · show Act.put _ (some 31) _ = _
            simp only [Act.put, List.setIfInBounds_toArray, List.set_cons_zero, List.set_cons_succ, i64_w, i32_w]
            rfl
          refine one_ (i := 5) (N := some 32) #[true, true, true, true, true, true, false, false, false, false, false] rfl rfl (one_of HT_.out (by kernel_rfl)) (by decide) (fun K hK => ?_)
          refine goes_ Try.func8 (by kernel_rfl) rfl #[.agg #[.bool t218, .slice Ao66 t219.length co66, .int .i64 t222]] (by rfl) rfl rfl (by (try simp only [List.map_toArray, List.map_cons, List.map_nil]); first | done | rfl | (simp only [List.length_drop, List.length_take]; rfl)) ?_
          with_reducible refine (laws_scaleFits.calls kj2 t218 _ _ t219 t222 t223 t224 _ ?side1 ?side2 A10.out).mono ?_
          (case side1 => repeat (first | exact (Kd.R_reads' HO221.out).2.2 | (with_reducible refine Kd.C_alloc ?_ _) | (with_reducible refine Kd.C_drewN ?_ _) | (with_reducible refine Kd.C_drew ?_)))
          (case side2 => exact (Kd.R_reads' HO221.out).2.1)
          rintro e w67 ⟨rfl, hb⟩
          refine ⟨_, rfl, ?_⟩
          have n0_ := Aside0.mk (Kd.R_below (by (with_reducible repeat (first | apply Kd.R_alloc | apply Kd.R_drewN | apply Kd.R_drew)); exact HO209.out) hb)
          have n1_ := Aside0.mk (Kd.R_below (by (with_reducible repeat (first | apply Kd.R_alloc | apply Kd.R_drewN | apply Kd.R_drew)); exact HO216.out) hb)
          have n2_ := Aside0.mk (Kd.R_below (by (with_reducible repeat (first | apply Kd.R_alloc | apply Kd.R_drewN | apply Kd.R_drew)); exact HO221.out) hb)
          have n3_ := Aside0.mk (blk_below (g := gb212) (o := .cells #[.bool t206, .slice Ao60 t207.length co60, .int .i64 t210] 26 (0, 0)) (by (with_reducible repeat (first | refine blk_drewN ?_ _ | refine blk_drew ?_ | refine blk_alloc ?_ _)); exact BK212.out) hb)
          have n4_ := Aside0.mk (below_step (by repeat (first | (with_reducible first | exact HB.out | apply below_alloc | apply pw_below_drewN | apply below_drew1 | refine below_set ?_ GE212.out) | exact HB.out)) hb)
          clear HO209
          clear HO216
          clear HO221
          clear BK212
          clear HB
          have HO209 := n0_
          have HO216 := n1_
          have HO221 := n2_
          have BK212 := n3_
          have HB := n4_
          clear n0_ n1_ n2_ n3_ n4_
          (try clear hb)
          (try clear hb2)
          (try clear hk)
          (try clear hi)
          refine hK.out _ _ ⟨(blk_cell BK212.out 0).trans rfl, (blk_cell BK212.out 1).trans rfl, (blk_cell BK212.out 2).trans rfl⟩ (fun hHeld => ?_)
          clear hK K
          refine norm_ (a' := ?_) ?_ ?_
          rotate_left
          · show Act.put _ (some 32) _ = _
            simp only [Act.put, List.setIfInBounds_toArray, List.set_cons_zero, List.set_cons_succ, i64_w, i32_w]
            rfl
          refine pure_ (i := 6) (N := some 26) (v := ?_) (a' := ?_) #[true, true, true, true, true, true, true, false, false, false, false] rfl rfl (any_of HT_.out (by kernel_rfl)) (fun _ _ _ h => h) (Or.inl ⟨by rfl, ?_⟩) ?_ ?_
          rotate_left
          · intro w'
            go_simp
            with_reducible rfl
          rotate_left
          · simp only [Act.put, List.setIfInBounds_toArray, List.set_cons_zero, List.set_cons_succ, i64_w, i32_w]
            rfl
          refine pure_ (i := 7) (N := some 33) (v := ?_) (a' := ?_) #[true, true, true, true, true, true, true, true, false, false, false] rfl rfl (any_of HT_.out (by kernel_rfl)) (fun _ _ _ h => h) (Or.inl ⟨by rfl, ?_⟩) ?_ ?_
          rotate_left
          · intro w'
            go_simp
            with_reducible rfl
          rotate_left
          · simp only [Act.put, List.setIfInBounds_toArray, List.set_cons_zero, List.set_cons_succ, i64_w, i32_w]
            rfl
          refine pure_ (i := 8) (N := some 34) (v := ?_) (a' := ?_) #[true, true, true, true, true, true, true, true, true, false, false] rfl rfl (any_of HT_.out (by kernel_rfl)) (fun _ _ _ h => h) (Or.inl ⟨by rfl, ?_⟩) ?_ ?_
          rotate_left
          · intro w'
            go_simp
            with_reducible rfl
          rotate_left
          · simp only [Act.put, List.setIfInBounds_toArray, List.set_cons_zero, List.set_cons_succ, i64_w, i32_w]
            rfl
          refine pure_ (i := 9) (N := some 7) (v := ?_) (a' := ?_) #[true, true, true, true, true, true, true, true, true, true, false] rfl rfl (any_of HT_.out (by kernel_rfl)) (fun _ _ _ h => h) (Or.inl ⟨by rfl, ?_⟩) ?_ ?_
          rotate_left
          · intro w'
            go_simp
            with_reducible rfl
          rotate_left
          · simp only [Act.put, List.setIfInBounds_toArray, List.set_cons_zero, List.set_cons_succ, i64_w, i32_w]
            rfl
          refine pure_ (i := 10) (N := some 8) (v := ?_) (a' := ?_) #[true, true, true, true, true, true, true, true, true, true, true] rfl rfl (any_of HT_.out (by kernel_rfl)) (fun _ _ _ h => h) (Or.inl ⟨by rfl, ?_⟩) ?_ ?_
          rotate_left
          · intro w'
            go_simp
            with_reducible rfl
          rotate_left
          · simp only [Act.put, List.setIfInBounds_toArray, List.set_cons_zero, List.set_cons_succ, i64_w, i32_w]
            rfl
          refine done_ (done_of HT_.out (by kernel_rfl)) ?_
          try go_wp2_with (first | ((with_reducible refine gate_callee (f := 17) rfl ?_); refine goesL_ (some 38) rfl rfl Try.func17 (by kernel_rfl) rfl #[.int .i64 a0, .int .i64 a1] rfl (by (try simp only [List.map_toArray, List.map_cons, List.map_nil]); first | done | rfl | (simp only [List.length_drop, List.length_take]; rfl)) ?_; (with_reducible refine (impl_ScaleDown.calls kj2 a0 a1 t225 t226 _ A11.out).mono ?_); rintro e w' ⟨rfl, ⟨nd, rfl⟩⟩; refine ⟨_, rfl, ?_⟩) | ((with_reducible refine gate_callee (f := 17) rfl ?_); refine goesL_ (some 42) rfl rfl Try.func17 (by kernel_rfl) rfl #[.int .i64 11, .int .i64 1] rfl (by (try simp only [List.map_toArray, List.map_cons, List.map_nil]); first | done | rfl | (simp only [List.length_drop, List.length_take]; rfl)) ?_; (with_reducible refine (impl_ScaleDown.calls kj2 11 1 t227 t228 _ A12.out).mono ?_); rintro e w' ⟨rfl, ⟨nd, rfl⟩⟩; refine ⟨_, rfl, ?_⟩))
          go_ret
          exact ⟨by first | rfl | (simp [errW_none, errW_some] <;> rfl) | (simp [*, errW_none, errW_some] <;> rfl), by repeat (first | (with_reducible first | exact HB.out | apply below_alloc | apply pw_below_drewN | apply below_drew1 | refine below_set ?_ GE212.out) | exact HB.out)⟩

/-- THE ONE PURE STATEMENT of laws_FnScaleDowns: yours. -/
def laws_FnScaleDowns.Pure : Prop := ∀ (a0 : Int) (a1 : Int), (Lit.int .i64 a0).wf = true → (Lit.int .i64 a1).wf = true → ∃ k, laws_FnScaleDowns.f k a0 a1 = some true
theorem laws_FnScaleDowns.walk (P : laws_FnScaleDowns.Pure) (a0 : Int) (a1 : Int) (w : World) (w0 : (Lit.int .i64 a0).wf = true) (w1 : (Lit.int .i64 a1).wf = true) :
    Calls Try.prog 5 #[.int .i64 a0, .int .i64 a1] w fun e w' => e = .returned (.bool true) ∧ Below w.heap.size w w' := by
  obtain ⟨k, h⟩ := P a0 a1 w0 w1
  refine (laws_FnScaleDowns.calls k a0 a1 true w h).mono ?_
  rintro e w' ⟨rfl, hd⟩
  exact ⟨rfl, hd⟩

end Go.Proofs.Ytgidpggooclebaa.PFnScaleDowns
