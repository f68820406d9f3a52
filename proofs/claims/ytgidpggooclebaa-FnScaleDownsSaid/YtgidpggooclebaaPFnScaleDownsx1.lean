-- PRINTED BY print.sh 35421559b90ae4d0a3588c463048766b98c2df88dd9212a6774a882060cdf62d: not written by this session
import Derived.Test.YtgidpggooclebaaPFnScaleDownsx0
namespace Go.Proofs.Ytgidpggooclebaa.PFnScaleDowns
open Go.RowKit Go.Proofs.YtgidpggooclebaaW.PrintWords Go.Proofs.YtgidpggooclebaaW.PrintLast Go.Proofs.YtgidpggooclebaaW.PrintMore
attribute [local go_sem] max2_int min2_int max_two min_two max_three min_three max_four min_four   -- for this text's walks alone
set_option linter.unusedVariables false
set_option linter.unusedSimpArgs false

/-! ### spec_wide: function 33 -/
def spec_wide.l0 : Nat → Int → List Int → Int → Option (List Int)
  | 0, _, _, _ => none
  | k + 1, x1, x5, x6 => if x6 > x1 then (if (x5.length : Int) > 0 then (if x5.length < 17592186044416 then (spec_wide.l0 k x1 (x5 ++ [0]) (wrap64 (x6 - 1))) else (none)) else (some x5)) else (some x5)
def spec_wide.f (k : Nat) (a0_0 : Bool) (l0_1 : List Int) (a0_2 : Int) (a1 : Int) : Option (List Int) := (some (([] : List Int) : List Int)).bind fun y102 => (if y102.length + l0_1.length < 17592186044416 then (spec_wide.l0 k a1 (y102 ++ l0_1) a0_2) else (none))
theorem spec_wide.mono_l : ∀ k, (∀ y0 y1 y2, LeO (spec_wide.l0 k y0 y1 y2) (spec_wide.l0 (k + 1) y0 y1 y2))
  | 0 => fun _ _ _ r h => by simp [spec_wide.l0] at h
  | k + 1 => by
    have ih0 := spec_wide.mono_l k
    · intro y0 y1 y2
      unfold spec_wide.l0
      repeat' first
      | (with_reducible exact ih0 _ _ _)
      | (with_reducible exact LeO.refl _)
      | (with_reducible exact LeO.none _)
      | (with_reducible refine LeO.ite ?_ ?_)
      | (with_reducible refine LeO.bind ?_ (fun _ => ?_))
      | exact ih0 _ _ _
      | exact LeO.none _
      | refine LeO.ite ?_ ?_
      | refine LeO.bind ?_ (fun _ => ?_)
theorem spec_wide.mono : ∀ a0 a1 a2 a3 k, LeO (spec_wide.f k a0 a1 a2 a3) (spec_wide.f (k + 1) a0 a1 a2 a3) := by
  intro a0 a1 a2 a3 k
  have ih0 := spec_wide.mono_l k
  unfold spec_wide.f
  repeat' first
      | (with_reducible exact ih0 _ _ _)
      | (with_reducible exact LeO.refl _)
      | (with_reducible exact LeO.none _)
      | (with_reducible refine LeO.ite ?_ ?_)
      | (with_reducible refine LeO.bind ?_ (fun _ => ?_))
      | exact ih0 _ _ _
      | exact LeO.none _
      | refine LeO.ite ?_ ?_
      | refine LeO.bind ?_ (fun _ => ?_)
set_option maxHeartbeats 8000000 in
set_option maxRecDepth 100000 in
theorem spec_wide.calls (k : Nat) (a0_0 : Bool) (A0_1 : Option Addr) (c0_1 : Nat) (l0_1 : List Int) (a0_2 : Int) (a1 : Int) (r : List Int) (w : World) (hr0_1 : Kd.C (Kd.int .i64) w A0_1 l0_1.length l0_1) (hc0_1 : l0_1.length ≤ c0_1) (h : spec_wide.f k a0_0 l0_1 a0_2 a1 = some r) :
    Calls Try.prog 33 #[.agg #[.bool a0_0, .slice A0_1 l0_1.length c0_1, .int .i64 a0_2], .int .i64 a1] w fun e w' => ∃ v0_ : Value, e = .returned (v0_) ∧ Kd.R (Kd.int .i64) 3 w' w.heap.size (fun _ => True) v0_ r ∧ Below w.heap.size w w' := by
  have hu26 := Try.underlying26
  have HR0_1 := Aside0.mk hr0_1
  have HC0_1 := Aside0.mk hc0_1
  clear hr0_1 hc0_1
  have HB := Aside0.mk (Below.refl w.heap.size w)
  have H : ((some (([] : List Int) : List Int)).bind fun y102 => (if y102.length + l0_1.length < 17592186044416 then (spec_wide.l0 k a1 (y102 ++ l0_1) a0_2) else (none))) = some r := h
  clear h
  obtain ⟨y102, hy102⟩ : ∃ y_ : List Int, y_ = (([] : List Int)) := ⟨_, rfl⟩
  replace H : (if y102.length + l0_1.length < 17592186044416 then (spec_wide.l0 k a1 (y102 ++ l0_1) a0_2) else (none)) = some r := by first | (rw [hy102]; with_reducible exact H) | (have H2_ := (Option.bind_some _ _).symm.trans H; rw [hy102]; with_reducible exact H2_) | (have H2_ := (Option.bind_some _ _).symm.trans H; with_reducible exact H2_) | with_reducible exact H | (rw [hy102]; exact H) | exact H
  have Ny102 := Aside0.mk hy102
  clear hy102
  by_cases c3 : y102.length + l0_1.length < 17592186044416
  · rw [if_pos c3] at H
    have LMc3 := Aside0.mk c3
    clear c3
    obtain ⟨y105, hy105⟩ : ∃ y_ : List Int, y_ = (y102 ++ l0_1) := ⟨_, rfl⟩
    replace H : (spec_wide.l0 k a1 y105 a0_2) = some r := by first | (rw [hy105]; with_reducible exact H) | (have H2_ := (Option.bind_some _ _).symm.trans H; rw [hy105]; with_reducible exact H2_) | (have H2_ := (Option.bind_some _ _).symm.trans H; with_reducible exact H2_) | with_reducible exact H | (rw [hy105]; exact H) | exact H
    have Ny105 := Aside0.mk hy105
    clear hy105
    have H' := Aside0.mk H
    clear H
    go_enter Try.func33, Try.ntmps33
    go_wp2_with (first | ((with_reducible refine gate_dst (N := 2) rfl ?_); (try (refine gate_guard (by rfl) ?_; dsimp only)); refine box_event ?hg (N := 2) ?hd (cs := #[.bool a0_0, .slice A0_1 l0_1.length c0_1, .int .i64 a0_2]) (t := 26) ?hr ?_; (case hd => rfl); (case hg => rfl); (case hr => first | (go_simp; done) | (go_simp; rfl)); intro gb101 hg w4 hbox hb; have n0_ := Aside0.mk (below_step (by repeat (first | (with_reducible first | exact HB.out | apply below_alloc | apply pw_below_drewN | apply below_drew1) | exact HB.out)) hb); have n1_ := Aside0.mk (hbox); have n2_ := Aside0.mk ((by rw [hg]; exact (below_size (by repeat (first | (with_reducible first | exact HB.out | apply below_alloc | apply pw_below_drewN | apply below_drew1) | exact HB.out))) : w.heap.size ≤ gb101)); have n3_ := Aside0.mk ((by rw [hg]; exact (below_size (by repeat (first | (with_reducible first | exact HB.out | apply below_alloc | apply pw_below_drewN | apply below_drew1) | exact HB.out))) : w.heap.size ≤ gb101)); clear HB; have HB := n0_; have BK101 := n1_; have GW101 := n2_; have GE101 := n3_; clear n0_ n1_ n2_ n3_; clear hb hbox hg) | ((with_reducible refine gate_dst (N := 7) rfl ?_); (try (refine gate_guard (by rfl) ?_; dsimp only)); refine Kd.R_lit (Kd.int .i64) _ 3 ?hg (N := 7) ?hd (xs := ([] : List Int)) (inner := []) (ok := fun _ => True) (okp := fun _ => True) ?hr ?hp (fun _ hk => hk) trivial (Below.refl _ _) (Nat.le_refl _) (by simp) ?_; (case hd => rfl); (case hg => rfl); (case hr => first | (go_simp; done) | (go_simp; rfl)); (case hp => exact (Reps.none _ _)); intro v103 w5 ho6 hb hg_ hnew_; clear hg_ hnew_; (first | rw [← Ny102.out] at ho6 | (simp only [Int.reduceToNat] at ho6; rw [← Ny102.out] at ho6)); have n0_ := Aside0.mk (Kd.R_lower ho6 (below_size (by repeat (first | (with_reducible first | exact HB.out | apply below_alloc | apply pw_below_drewN | apply below_drew1 | refine below_set ?_ GE101.out) | exact HB.out)))); have n1_ := Aside0.mk (blk_below (g := gb101) (o := .cells #[.bool a0_0, .slice A0_1 l0_1.length c0_1, .int .i64 a0_2] 26 (0, 0)) (by (with_reducible repeat (first | refine blk_drewN ?_ _ | refine blk_drew ?_ | refine blk_alloc ?_ _)); exact BK101.out) hb); have n2_ := Aside0.mk (below_step (by repeat (first | (with_reducible first | exact HB.out | apply below_alloc | apply pw_below_drewN | apply below_drew1 | refine below_set ?_ GE101.out) | exact HB.out)) hb); clear BK101; clear HB; have HO104 := n0_; have BK101 := n1_; have HB := n2_; clear n0_ n1_ n2_; clear hb ho6; have hcz7_0 : w5.cell? ⟨gb101, 0, none⟩ = some (.bool a0_0) := (blk_cell BK101.out 0).trans rfl; have hcz7_1 : w5.cell? ⟨gb101, 1, none⟩ = some (.slice A0_1 l0_1.length c0_1) := (blk_cell BK101.out 1).trans rfl; have hcz7_2 : w5.cell? ⟨gb101, 2, none⟩ = some (.int .i64 a0_2) := (blk_cell BK101.out 2).trans rfl; have hfz7_0 := blk_frozen BK101.out 0; have hfz7_1 := blk_frozen BK101.out 1; have hfz7_2 := blk_frozen BK101.out 2) | ((with_reducible refine gate_builtin (b := .append) (xs := #[.tmp 7, .tmp 9]) rfl ?_); (try (refine gate_guard (by rfl) ?_; dsimp only)); at_builtin; refine Kd.R_append_rows (Kd.int .i64) (w0 := w) w.heap.size rfl (.tmp 7) (.tmp 9) 24 3 (.int .i64 0) 8 rfl Try.underlying24 info3 rfl (by decide) (by omega) v103 y102 l0_1 _ _ _ (fun _ => True) (fun _ => False) rfl rfl ?aO ?aR (fun _ _ h => h) (fun _ h => h.elim) ?aF ?aB ?aS ?aL ?_; (case aR => repeat (first | exact (Kd.C_below HR0_1.out HB.out) | (with_reducible refine Kd.C_alloc ?_ _) | (with_reducible refine Kd.C_drewN ?_ _) | (with_reducible refine Kd.C_drew ?_))); (case aB => exact (by repeat (first | (with_reducible first | exact HB.out | apply below_alloc | apply pw_below_drewN | apply below_drew1 | refine below_set ?_ GE101.out) | exact HB.out))); (case aF => exact (fun _ _ => trivial)); (case aO => exact (by (with_reducible repeat (first | apply Kd.R_alloc | apply Kd.R_drewN | apply Kd.R_drew)); exact HO104.out)); (case aS => exact (below_size (by repeat (first | (with_reducible first | exact HB.out | apply below_alloc | apply pw_below_drewN | apply below_drew1 | refine below_set ?_ GE101.out) | exact HB.out)))); (case aL => have := LMc3.out; omega); intro v106 w8 ho hb hg hat; rw [← Ny105.out] at ho; have n0_ := Aside0.mk (blk_grown (g := gb101) (o := .cells #[.bool a0_0, .slice A0_1 l0_1.length c0_1, .int .i64 a0_2] 26 (0, 0)) (by (with_reducible repeat (first | refine blk_drewN ?_ _ | refine blk_drew ?_ | refine blk_alloc ?_ _)); exact BK101.out) hg (Kd.R_ne HO104.out BK101.out (by decide))); have n1_ := Aside0.mk (hb); have n2_ := Aside0.mk (ho); clear BK101; clear HB; clear HO104; have BK101 := n0_; have HB := n1_; have HO107 := n2_; clear n0_ n1_ n2_; clear ho hb hg hat; have hcz9_0 : w8.cell? ⟨gb101, 0, none⟩ = some (.bool a0_0) := (blk_cell BK101.out 0).trans rfl; have hcz9_1 : w8.cell? ⟨gb101, 1, none⟩ = some (.slice A0_1 l0_1.length c0_1) := (blk_cell BK101.out 1).trans rfl; have hcz9_2 : w8.cell? ⟨gb101, 2, none⟩ = some (.int .i64 a0_2) := (blk_cell BK101.out 2).trans rfl; have hfz9_0 := blk_frozen BK101.out 0; have hfz9_1 := blk_frozen BK101.out 1; have hfz9_2 := blk_frozen BK101.out 2))
    go_loopg [5, 6] k (fun kq v5 v6 w' => ∃ (x5_1 : List Int) (x6_1 : Int), v6 = .int .i64 x6_1 ∧ Aside0 (spec_wide.l0 kq a1 x5_1 x6_1 = some r) ∧ Aside0 (kq ≤ k) ∧ Aside0 (Kd.R (Kd.int .i64) 3 w' w.heap.size (fun _ => True) v5 x5_1) ∧ Aside0 (w'.heap[gb101]? = some (.cells #[.bool a0_0, (.slice A0_1 l0_1.length c0_1), .int .i64 a0_2] 26 (0, 0))) ∧ Aside0 (Below w.heap.size w w'))
    case atStart => exact ⟨(y105), (a0_2), (by first | rfl | (simp; done) | (simp [*]; done)), H', ⟨Nat.le_refl _⟩, ⟨by (with_reducible repeat (first | apply Kd.R_alloc | apply Kd.R_drewN | apply Kd.R_drew)); exact HO107.out⟩, ⟨by (with_reducible repeat (first | refine blk_drewN ?_ _ | refine blk_drew ?_ | refine blk_alloc ?_ _)); exact BK101.out⟩, ⟨by repeat (first | (with_reducible first | exact HB.out | apply below_alloc | apply pw_below_drewN | apply below_drew1 | refine below_set ?_ GE101.out) | exact HB.out)⟩⟩
    case round =>
      clear H'
      try clear p2
      try clear c3
      try clear hcz7_0
      try clear hcz7_1
      try clear hcz7_2
      try clear hcz9_0
      try clear hcz9_1
      try clear hcz9_2
      try clear hfz7_0
      try clear hfz7_1
      try clear hfz7_2
      try clear hfz9_0
      try clear hfz9_1
      try clear hfz9_2
      obtain ⟨x5_1, x6_1, rfl, HA, HK1, HO_5, BK101, HB⟩ := hrel
      cases gk with
      | zero => exact absurd HA.out (by simp [spec_wide.l0])
      | succ k1 =>
        have H := HA.out
        clear HA
        simp only [spec_wide.l0] at H
        by_cases c10 : x6_1 > a1
        · rw [if_pos c10] at H
          have c10b0 : decide (a1 < x6_1) = true := decide_eq_true c10
          clear c10
          by_cases c11 : (x5_1.length : Int) > 0
          · rw [if_pos c11] at H
            have c11b0 : decide (0 < (x5_1.length : Int)) = true := decide_eq_true c11
            have c11b1 : decide (0 < x5_1.length) = true := decide_eq_true (by omega)
            clear c11
            by_cases c12 : x5_1.length < 17592186044416
            · rw [if_pos c12] at H
              have LMc12 := Aside0.mk c12
              clear c12
              obtain ⟨y108, hy108⟩ : ∃ y_ : List Int, y_ = (x5_1 ++ [0]) := ⟨_, rfl⟩
              replace H : (spec_wide.l0 k1 a1 y108 (wrap64 (x6_1 - 1))) = some r := by first | (rw [hy108]; with_reducible exact H) | (have H2_ := (Option.bind_some _ _).symm.trans H; rw [hy108]; with_reducible exact H2_) | (have H2_ := (Option.bind_some _ _).symm.trans H; with_reducible exact H2_) | with_reducible exact H | (rw [hy108]; exact H) | exact H
              have Ny108 := Aside0.mk hy108
              clear hy108
              have H' := Aside0.mk H
              clear H
              obtain ⟨Ao13, co13, eo13⟩ := Kd.R_slice HO_5.out
              subst eo13
              go_wp2_with (first | ((with_reducible refine gate_builtin (b := .append) (xs := #[.tmp 23, .tmp 24]) rfl ?_); (try (refine gate_guard (by rfl) ?_; dsimp only)); at_builtin; refine Kd.R_append (Kd.int .i64) (w0 := w) w.heap.size rfl (.tmp 23) (.tmp 24) 24 3 (.int .i64 0) 8 rfl Try.underlying24 info3 rfl (by decide) (by omega) (.slice Ao13 x5_1.length co13) x5_1 0 [.int .i64 0] (fun _ => True) (fun _ => False) rfl rfl ?aP (fun _ hk => hk.elim) ?aF ?aO ?aB ?aS ?aL ?_; (case aP => exact rfl); (case aB => exact (by repeat (first | (with_reducible first | exact HB.out | apply below_alloc | apply pw_below_drewN | apply below_drew1 | refine below_set ?_ GE101.out) | exact HB.out))); (case aF => exact (fun _ _ => trivial)); (case aO => exact (by (with_reducible repeat (first | apply Kd.R_alloc | apply Kd.R_drewN | apply Kd.R_drew)); exact HO_5.out)); (case aS => exact (below_size (by repeat (first | (with_reducible first | exact HB.out | apply below_alloc | apply pw_below_drewN | apply below_drew1 | refine below_set ?_ GE101.out) | exact HB.out)))); (case aL => have := LMc12.out; omega); intro v109 w14 ho hb hg hat; rw [← Ny108.out] at ho; have n0_ := Aside0.mk (blk_grown (g := gb101) (o := .cells #[.bool a0_0, .slice A0_1 l0_1.length c0_1, .int .i64 a0_2] 26 (0, 0)) (by (with_reducible repeat (first | refine blk_drewN ?_ _ | refine blk_drew ?_ | refine blk_alloc ?_ _)); exact BK101.out) hg (Kd.R_ne HO_5.out BK101.out (by decide))); have n1_ := Aside0.mk (hb); have n2_ := Aside0.mk (ho); clear BK101; clear HB; clear HO_5; have BK101 := n0_; have HB := n1_; have HO110 := n2_; clear n0_ n1_ n2_; clear ho hb hg hat))
              go_roundg k1
              case measure => have := HK1.out; omega
              case rel => exact ⟨(y108), (wrap64 (x6_1 - 1)), (by first | rfl | (simp; done) | (simp [*]; done)), H', ⟨by have := HK1.out; omega⟩, ⟨by (with_reducible repeat (first | apply Kd.R_alloc | apply Kd.R_drewN | apply Kd.R_drew)); exact HO110.out⟩, ⟨by (with_reducible repeat (first | refine blk_drewN ?_ _ | refine blk_drew ?_ | refine blk_alloc ?_ _)); exact BK101.out⟩, ⟨by repeat (first | (with_reducible first | exact HB.out | apply below_alloc | apply pw_below_drewN | apply below_drew1 | refine below_set ?_ GE101.out) | exact HB.out)⟩⟩
            · rw [if_neg c12] at H
              exact absurd H (by simp)
          · rw [if_neg c11] at H
            have c11b0 : decide (0 < (x5_1.length : Int)) = false := decide_eq_false c11
            have c11b1 : decide (0 < x5_1.length) = false := decide_eq_false (by omega)
            clear c11
            obtain rfl := Option.some.inj H
            obtain ⟨Ao15, co15, eo15⟩ := Kd.R_slice HO_5.out
            subst eo15
            go_wp2
            go_ret
            exact ⟨_, by first | rfl | (simp [errW_none, errW_some] <;> rfl) | (simp [*, errW_none, errW_some] <;> rfl), by (with_reducible repeat (first | apply Kd.R_alloc | apply Kd.R_drewN | apply Kd.R_drew)); exact HO_5.out, by repeat (first | (with_reducible first | exact HB.out | apply below_alloc | apply pw_below_drewN | apply below_drew1 | refine below_set ?_ GE101.out) | exact HB.out)⟩
        · rw [if_neg c10] at H
          have c10b0 : decide (a1 < x6_1) = false := decide_eq_false c10
          clear c10
          obtain rfl := Option.some.inj H
          go_wp2
          go_ret
          exact ⟨_, by first | rfl | (simp [errW_none, errW_some] <;> rfl) | (simp [*, errW_none, errW_some] <;> rfl), by (with_reducible repeat (first | apply Kd.R_alloc | apply Kd.R_drewN | apply Kd.R_drew)); exact HO_5.out, by repeat (first | (with_reducible first | exact HB.out | apply below_alloc | apply pw_below_drewN | apply below_drew1 | refine below_set ?_ GE101.out) | exact HB.out)⟩
  · rw [if_neg c3] at H
    exact absurd H (by simp)

/-! ### spec_DecimalInt: function 23 -/
mutual
def spec_DecimalInt.j0 : Nat → Bool → Bool → List Int → Int → Option (Int × Bool)
  | 0, _, _, _, _ => none
  | k + 1, x24, x112000, x112001, x112002 => if x24 = true then (some (0, false)) else ((spec_wide.f k x112000 x112001 x112002 0).bind fun t112 => (spec_DecimalInt.l0 k 0 t112 (t112.length : Int) 0 x112000 x112001 x112002))
def spec_DecimalInt.l0 : Nat → Int → List Int → Int → Int → Bool → List Int → Int → Option (Int × Bool)
  | 0, _, _, _, _, _, _, _ => none
  | k + 1, x4, x26, x27, x28, x112000, x112001, x112002 => if x28 < x27 then (if 0 ≤ x28 then (if x28 < (x26.length : Int) then (spec_DecimalInt.l0 k (IntKind.u64.wrap ((IntKind.u64.wrap (10 * x4)) + (IntKind.u64.wrap (rd x26 x28)))) x26 x27 (wrap64 (x28 + 1)) x112000 x112001 x112002) else (none)) else (none)) else (if x112000 = true then (some (wrap64 (IntKind.u64.wrap (-x4)), decide (x4 ≤ 9223372036854775808))) else (some (wrap64 (x4), decide (x4 < 9223372036854775808))))
end
def spec_DecimalInt.f (k : Nat) (a0_0 : Bool) (l0_1 : List Int) (a0_2 : Int) : Option (Int × Bool) := if (l0_1.length : Int) > 0 then (if a0_2 < 0 then (spec_DecimalInt.j0 k true a0_0 l0_1 a0_2) else (spec_DecimalInt.j0 k (decide ((wrap64 ((l0_1.length : Int) + a0_2)) > 19)) a0_0 l0_1 a0_2)) else (spec_DecimalInt.j0 k false a0_0 l0_1 a0_2)
theorem spec_DecimalInt.mono_l : ∀ k, (∀ y0 y1 y2 y3, LeO (spec_DecimalInt.j0 k y0 y1 y2 y3) (spec_DecimalInt.j0 (k + 1) y0 y1 y2 y3)) ∧ (∀ y0 y1 y2 y3 y4 y5 y6, LeO (spec_DecimalInt.l0 k y0 y1 y2 y3 y4 y5 y6) (spec_DecimalInt.l0 (k + 1) y0 y1 y2 y3 y4 y5 y6))
  | 0 => ⟨fun _ _ _ _ r h => by simp [spec_DecimalInt.j0] at h, fun _ _ _ _ _ _ _ r h => by simp [spec_DecimalInt.l0] at h⟩
  | k + 1 => by
    obtain ⟨ih0, ih1⟩ := spec_DecimalInt.mono_l k
    refine ⟨?_, ?_⟩
    · intro y0 y1 y2 y3
      unfold spec_DecimalInt.j0
      repeat' first
      | (with_reducible exact ih0 _ _ _ _)
      | (with_reducible exact ih1 _ _ _ _ _ _ _)
      | (with_reducible exact spec_wide.mono _ _ _ _ _)
      | (with_reducible exact LeO.refl _)
      | (with_reducible exact LeO.none _)
      | (with_reducible refine LeO.ite ?_ ?_)
      | (with_reducible refine LeO.bind ?_ (fun _ => ?_))
      | exact ih0 _ _ _ _
      | exact ih1 _ _ _ _ _ _ _
      | exact spec_wide.mono _ _ _ _ _
      | exact LeO.none _
      | refine LeO.ite ?_ ?_
      | refine LeO.bind ?_ (fun _ => ?_)
    · intro y0 y1 y2 y3 y4 y5 y6
      unfold spec_DecimalInt.l0
      repeat' first
      | (with_reducible exact ih0 _ _ _ _)
      | (with_reducible exact ih1 _ _ _ _ _ _ _)
      | (with_reducible exact spec_wide.mono _ _ _ _ _)
      | (with_reducible exact LeO.refl _)
      | (with_reducible exact LeO.none _)
      | (with_reducible refine LeO.ite ?_ ?_)
      | (with_reducible refine LeO.bind ?_ (fun _ => ?_))
      | exact ih0 _ _ _ _
      | exact ih1 _ _ _ _ _ _ _
      | exact spec_wide.mono _ _ _ _ _
      | exact LeO.none _
      | refine LeO.ite ?_ ?_
      | refine LeO.bind ?_ (fun _ => ?_)
theorem spec_DecimalInt.mono : ∀ a0 a1 a2 k, LeO (spec_DecimalInt.f k a0 a1 a2) (spec_DecimalInt.f (k + 1) a0 a1 a2) := by
  intro a0 a1 a2 k
  obtain ⟨ih0, ih1⟩ := spec_DecimalInt.mono_l k
  unfold spec_DecimalInt.f
  repeat' first
      | (with_reducible exact ih0 _ _ _ _)
      | (with_reducible exact ih1 _ _ _ _ _ _ _)
      | (with_reducible exact spec_wide.mono _ _ _ _ _)
      | (with_reducible exact LeO.refl _)
      | (with_reducible exact LeO.none _)
      | (with_reducible refine LeO.ite ?_ ?_)
      | (with_reducible refine LeO.bind ?_ (fun _ => ?_))
      | exact ih0 _ _ _ _
      | exact ih1 _ _ _ _ _ _ _
      | exact spec_wide.mono _ _ _ _ _
      | exact LeO.none _
      | refine LeO.ite ?_ ?_
      | refine LeO.bind ?_ (fun _ => ?_)
set_option maxHeartbeats 8000000 in
set_option maxRecDepth 100000 in
theorem spec_DecimalInt.calls (k : Nat) (a0_0 : Bool) (A0_1 : Option Addr) (c0_1 : Nat) (l0_1 : List Int) (a0_2 : Int) (r1 : Int) (r2 : Bool) (w : World) (hr0_1 : Kd.C (Kd.int .i64) w A0_1 l0_1.length l0_1) (hc0_1 : l0_1.length ≤ c0_1) (h : spec_DecimalInt.f k a0_0 l0_1 a0_2 = some (r1, r2)) :
    Calls Try.prog 23 #[.agg #[.bool a0_0, .slice A0_1 l0_1.length c0_1, .int .i64 a0_2]] w fun e w' => e = .returned (.tuple #[.int .i64 r1, .bool r2]) ∧ Below w.heap.size w w' := by
  have hu26 := Try.underlying26
  have HR0_1 := Aside0.mk hr0_1
  have HC0_1 := Aside0.mk hc0_1
  clear hr0_1 hc0_1
  have HB := Aside0.mk (Below.refl w.heap.size w)
  have H : (if (l0_1.length : Int) > 0 then (if a0_2 < 0 then (spec_DecimalInt.j0 k true a0_0 l0_1 a0_2) else (spec_DecimalInt.j0 k (decide ((wrap64 ((l0_1.length : Int) + a0_2)) > 19)) a0_0 l0_1 a0_2)) else (spec_DecimalInt.j0 k false a0_0 l0_1 a0_2)) = some (r1, r2) := h
  clear h
  have HC2 := Aside0.mk H
  clear H
  go_enter Try.func23, Try.ntmps23
  go_upto_region 1 with (first | ((with_reducible refine gate_dst (N := 1) rfl ?_); (try (refine gate_guard (by rfl) ?_; dsimp only)); refine box_event ?hg (N := 1) ?hd (cs := #[.bool a0_0, .slice A0_1 l0_1.length c0_1, .int .i64 a0_2]) (t := 26) ?hr ?_; (case hd => rfl); (case hg => rfl); (case hr => first | (go_simp; done) | (go_simp; rfl)); intro gb111 hg w3 hbox hb; have n0_ := Aside0.mk (below_step (by repeat (first | (with_reducible first | exact HB.out | apply below_alloc | apply pw_below_drewN | apply below_drew1) | exact HB.out)) hb); have n1_ := Aside0.mk (hbox); have n2_ := Aside0.mk ((by rw [hg]; exact (below_size (by repeat (first | (with_reducible first | exact HB.out | apply below_alloc | apply pw_below_drewN | apply below_drew1) | exact HB.out))) : w.heap.size ≤ gb111)); have n3_ := Aside0.mk ((by rw [hg]; exact (below_size (by repeat (first | (with_reducible first | exact HB.out | apply below_alloc | apply pw_below_drewN | apply below_drew1) | exact HB.out))) : w.heap.size ≤ gb111)); clear HB; have HB := n0_; have BK111 := n1_; have GW111 := n2_; have GE111 := n3_; clear n0_ n1_ n2_ n3_; clear hb hbox hg))
  (try simp only [Act.put, List.setIfInBounds_toArray, List.set_cons_zero, List.set_cons_succ])
  go_cut [24] (fun v24 wc => ∃ (kq : Nat) (x24_1 : Bool), v24 = .bool x24_1 ∧ Aside0 (spec_DecimalInt.j0 kq x24_1 a0_0 l0_1 a0_2 = some (r1, r2)) ∧ Aside0 (kq ≤ k) ∧ Aside0 (wc.heap[gb111]? = some (.cells #[.bool a0_0, (.slice A0_1 l0_1.length c0_1), .int .i64 a0_2] 26 (0, 0))) ∧ Aside0 (Below w.heap.size w wc))
  case first =>
    have H := HC2.out
    clear HC2
    by_cases c4 : (l0_1.length : Int) > 0
    · rw [if_pos c4] at H
      have c4b0 : decide (0 < (l0_1.length : Int)) = true := decide_eq_true c4
      have c4b1 : decide (0 < l0_1.length) = true := decide_eq_true (by omega)
      clear c4
      (first | rw [c4b0] | (simp only [i64_w, i32_w]; rw [c4b0]) | skip)
      by_cases c5 : a0_2 < 0
      · rw [if_pos c5] at H
        have c5b0 : decide (a0_2 < 0) = true := decide_eq_true c5
        clear c5
        have H' := Aside0.mk H
        clear H
        have hcz6_0 : w3.cell? ⟨gb111, 0, none⟩ = some (.bool a0_0) := (blk_cell BK111.out 0).trans rfl
        have hcz6_1 : w3.cell? ⟨gb111, 1, none⟩ = some (.slice A0_1 l0_1.length c0_1) := (blk_cell BK111.out 1).trans rfl
        have hcz6_2 : w3.cell? ⟨gb111, 2, none⟩ = some (.int .i64 a0_2) := (blk_cell BK111.out 2).trans rfl
        have hfz6_0 := blk_frozen BK111.out 0
        have hfz6_1 := blk_frozen BK111.out 1
        have hfz6_2 := blk_frozen BK111.out 2
        go_wp2
        go_meet
        case rel => exact ⟨_, (true), (by first | rfl | (simp; done) | (simp [*]; done)), H', ⟨by first | omega | exact Nat.le_refl _⟩, ⟨by (with_reducible repeat (first | refine blk_drewN ?_ _ | refine blk_drew ?_ | refine blk_alloc ?_ _)); exact BK111.out⟩, ⟨by repeat (first | (with_reducible first | exact HB.out | apply below_alloc | apply pw_below_drewN | apply below_drew1 | refine below_set ?_ GE111.out) | exact HB.out)⟩⟩
      · rw [if_neg c5] at H
        have c5b0 : decide (a0_2 < 0) = false := decide_eq_false c5
        clear c5
        have H' := Aside0.mk H
        clear H
        have hcz7_0 : w3.cell? ⟨gb111, 0, none⟩ = some (.bool a0_0) := (blk_cell BK111.out 0).trans rfl
        have hcz7_1 : w3.cell? ⟨gb111, 1, none⟩ = some (.slice A0_1 l0_1.length c0_1) := (blk_cell BK111.out 1).trans rfl
        have hcz7_2 : w3.cell? ⟨gb111, 2, none⟩ = some (.int .i64 a0_2) := (blk_cell BK111.out 2).trans rfl
        have hfz7_0 := blk_frozen BK111.out 0
        have hfz7_1 := blk_frozen BK111.out 1
        have hfz7_2 := blk_frozen BK111.out 2
        go_wp2
        go_meet
        case rel => exact ⟨_, (decide ((wrap64 ((l0_1.length : Int) + a0_2)) > 19)), (by first | rfl | (simp; done) | (simp [*]; done)), H', ⟨by first | omega | exact Nat.le_refl _⟩, ⟨by (with_reducible repeat (first | refine blk_drewN ?_ _ | refine blk_drew ?_ | refine blk_alloc ?_ _)); exact BK111.out⟩, ⟨by repeat (first | (with_reducible first | exact HB.out | apply below_alloc | apply pw_below_drewN | apply below_drew1 | refine below_set ?_ GE111.out) | exact HB.out)⟩⟩
    · rw [if_neg c4] at H
      have c4b0 : decide (0 < (l0_1.length : Int)) = false := decide_eq_false c4
      have c4b1 : decide (0 < l0_1.length) = false := decide_eq_false (by omega)
      clear c4
      (first | rw [c4b0] | (simp only [i64_w, i32_w]; rw [c4b0]) | skip)
      have H' := Aside0.mk H
      clear H
      have hcz8_0 : w3.cell? ⟨gb111, 0, none⟩ = some (.bool a0_0) := (blk_cell BK111.out 0).trans rfl
      have hcz8_1 : w3.cell? ⟨gb111, 1, none⟩ = some (.slice A0_1 l0_1.length c0_1) := (blk_cell BK111.out 1).trans rfl
      have hcz8_2 : w3.cell? ⟨gb111, 2, none⟩ = some (.int .i64 a0_2) := (blk_cell BK111.out 2).trans rfl
      have hfz8_0 := blk_frozen BK111.out 0
      have hfz8_1 := blk_frozen BK111.out 1
      have hfz8_2 := blk_frozen BK111.out 2
      go_wp2
      go_meet
      case rel => exact ⟨_, (false), (by first | rfl | (simp; done) | (simp [*]; done)), H', ⟨by first | omega | exact Nat.le_refl _⟩, ⟨by (with_reducible repeat (first | refine blk_drewN ?_ _ | refine blk_drew ?_ | refine blk_alloc ?_ _)); exact BK111.out⟩, ⟨by repeat (first | (with_reducible first | exact HB.out | apply below_alloc | apply pw_below_drewN | apply below_drew1 | refine below_set ?_ GE111.out) | exact HB.out)⟩⟩
  case rest =>
    clear HC2
    try clear c2
    try clear p2
    try clear c4
    try clear c4b0
    try clear c4b1
    try clear c5
    try clear c5b0
    try clear p6
    try clear hcz6_0
    try clear hcz6_1
    try clear hcz6_2
    try clear hcz7_0
    try clear hcz7_1
    try clear hcz7_2
    try clear hcz8_0
    try clear hcz8_1
    try clear hcz8_2
    try clear hfz6_0
    try clear hfz6_1
    try clear hfz6_2
    try clear hfz7_0
    try clear hfz7_1
    try clear hfz7_2
    try clear hfz8_0
    try clear hfz8_1
    try clear hfz8_2
    obtain ⟨kq, x24_1, rfl, HA, HJ1, BK111, HB⟩ := hcut
    cases kq with
    | zero => exact absurd HA.out (by simp [spec_DecimalInt.j0])
    | succ kj1 =>
      have H := HA.out
      clear HA
      simp only [spec_DecimalInt.j0] at H
      by_cases c9 : x24_1 = true
      · subst c9
        have H1 : (some (0, false)) = some (r1, r2) := by rw [if_pos rfl] at H; exact H
        clear H
        have H := H1
        clear H1
        simp only [Option.some.injEq, Prod.mk.injEq] at H
        obtain ⟨rfl, rfl⟩ := H
        go_wp2
        go_ret2
        exact ⟨by first | rfl | (simp [errW_none, errW_some] <;> rfl) | (simp [*, errW_none, errW_some] <;> rfl), by repeat (first | (with_reducible first | exact HB.out | apply below_alloc | apply pw_below_drewN | apply below_drew1 | refine below_set ?_ GE111.out) | exact HB.out)⟩
      · replace c9 := Bool.eq_false_iff.mpr c9
        subst c9
        have H1 : ((spec_wide.f kj1 a0_0 l0_1 a0_2 0).bind fun t112 => (spec_DecimalInt.l0 kj1 0 t112 (t112.length : Int) 0 a0_0 l0_1 a0_2)) = some (r1, r2) := by rw [if_neg (show ¬ (false = true) by decide)] at H; exact H
        clear H
        have H := H1
        clear H1
        replace H := Option.bind_eq_some_iff.mp H
        obtain ⟨t112, A100, H⟩ := H
        replace H : (spec_DecimalInt.l0 kj1 0 t112 (t112.length : Int) 0 a0_0 l0_1 a0_2) = some (r1, r2) := H
        have A10 := Aside0.mk A100
        clear A100
        have H' := Aside0.mk H
        clear H
        have hcz11_0 : wc.cell? ⟨gb111, 0, none⟩ = some (.bool a0_0) := (blk_cell BK111.out 0).trans rfl
        have hcz11_1 : wc.cell? ⟨gb111, 1, none⟩ = some (.slice A0_1 l0_1.length c0_1) := (blk_cell BK111.out 1).trans rfl
        have hcz11_2 : wc.cell? ⟨gb111, 2, none⟩ = some (.int .i64 a0_2) := (blk_cell BK111.out 2).trans rfl
        have hfz11_0 := blk_frozen BK111.out 0
        have hfz11_1 := blk_frozen BK111.out 1
        have hfz11_2 := blk_frozen BK111.out 2
        go_wp2_with (first | ((with_reducible refine gate_callee (f := 33) rfl ?_); refine goesL_ (some 26) rfl rfl Try.func33 (by kernel_rfl) rfl #[.agg #[.bool a0_0, .slice A0_1 l0_1.length c0_1, .int .i64 a0_2], .int .i64 0] rfl (by (try simp only [List.map_toArray, List.map_cons, List.map_nil]); first | done | rfl | (simp only [List.length_drop, List.length_take]; rfl)) ?_; (with_reducible refine (spec_wide.calls kj1 a0_0 _ _ l0_1 a0_2 0 t112 _ ?side1 ?side2 A10.out).mono ?_); (case side1 => repeat (first | exact (Kd.C_below HR0_1.out HB.out) | (with_reducible refine Kd.C_alloc ?_ _) | (with_reducible refine Kd.C_drewN ?_ _) | (with_reducible refine Kd.C_drew ?_))); (case side2 => exact HC0_1.out); rintro e w12 ⟨v113, rfl, ho0, hb⟩; refine ⟨_, rfl, ?_⟩; have n0_ := Aside0.mk (Kd.R_lower ho0 (below_size (by repeat (first | (with_reducible first | exact HB.out | apply below_alloc | apply pw_below_drewN | apply below_drew1 | refine below_set ?_ GE111.out) | exact HB.out)))); have n1_ := Aside0.mk (blk_below (g := gb111) (o := .cells #[.bool a0_0, .slice A0_1 l0_1.length c0_1, .int .i64 a0_2] 26 (0, 0)) (by (with_reducible repeat (first | refine blk_drewN ?_ _ | refine blk_drew ?_ | refine blk_alloc ?_ _)); exact BK111.out) hb); have n2_ := Aside0.mk (below_step (by repeat (first | (with_reducible first | exact HB.out | apply below_alloc | apply pw_below_drewN | apply below_drew1 | refine below_set ?_ GE111.out) | exact HB.out)) hb); clear BK111; clear HB; have HO114 := n0_; have BK111 := n1_; have HB := n2_; clear n0_ n1_ n2_; (try clear hb); (try clear hb2); (try clear hk); (try clear hi); (try clear ho0); obtain ⟨Ao13, co13, eo13⟩ := Kd.R_slice HO114.out; subst eo13))
        go_loopg [4, 28] kj1 (fun kq v4 v28 w' => ∃ (x4_2 : Int) (x28_2 : Int), v4 = .int .u64 x4_2 ∧ v28 = .int .i64 x28_2 ∧ Aside0 (spec_DecimalInt.l0 kq x4_2 t112 (t112.length : Int) x28_2 a0_0 l0_1 a0_2 = some (r1, r2)) ∧ Aside0 (kq ≤ kj1) ∧ Aside0 (Kd.R (Kd.int .i64) 3 w' w.heap.size (fun _ => True) (.slice Ao13 t112.length co13) t112) ∧ Aside0 (w'.heap[gb111]? = some (.cells #[.bool a0_0, (.slice A0_1 l0_1.length c0_1), .int .i64 a0_2] 26 (0, 0))) ∧ Aside0 (Below w.heap.size w w'))
        case atStart => exact ⟨(0), (0), (by first | rfl | (simp; done) | (simp [*]; done)), (by first | rfl | (simp; done) | (simp [*]; done)), H', ⟨Nat.le_refl _⟩, ⟨by (with_reducible repeat (first | apply Kd.R_alloc | apply Kd.R_drewN | apply Kd.R_drew)); exact HO114.out⟩, ⟨by (with_reducible repeat (first | refine blk_drewN ?_ _ | refine blk_drew ?_ | refine blk_alloc ?_ _)); exact BK111.out⟩, ⟨by repeat (first | (with_reducible first | exact HB.out | apply below_alloc | apply pw_below_drewN | apply below_drew1 | refine below_set ?_ GE111.out) | exact HB.out)⟩⟩
        case round =>
          clear H'
          try clear c2
          try clear p2
          try clear c3
          try clear c4
          try clear c4b0
          try clear c4b1
          try clear c5
          try clear c5b0
          try clear p6
          try clear c9
          try clear hcz11_0
          try clear hcz11_1
          try clear hcz11_2
          try clear hcz6_0
          try clear hcz6_1
          try clear hcz6_2
          try clear hcz7_0
          try clear hcz7_1
          try clear hcz7_2
          try clear hcz8_0
          try clear hcz8_1
          try clear hcz8_2
          try clear hfz11_0
          try clear hfz11_1
          try clear hfz11_2
          try clear hfz6_0
          try clear hfz6_1
          try clear hfz6_2
          try clear hfz7_0
          try clear hfz7_1
          try clear hfz7_2
          try clear hfz8_0
          try clear hfz8_1
          try clear hfz8_2
          try clear p2
          try clear p6
          obtain ⟨x4_2, x28_2, rfl, rfl, HA, HK2, HO_26, BK111, HB⟩ := hrel
          cases gk with
          | zero => exact absurd HA.out (by simp [spec_DecimalInt.l0])
          | succ k2 =>
            have H := HA.out
            clear HA
            simp only [spec_DecimalInt.l0] at H
            by_cases c14 : x28_2 < (t112.length : Int)
            · rw [if_pos c14] at H
              have c14b0 : decide (x28_2 < (t112.length : Int)) = true := decide_eq_true c14
              clear c14
              by_cases c15 : 0 ≤ x28_2
              · rw [if_pos c15] at H
                have c15b0 : decide (0 ≤ x28_2) = true := decide_eq_true c15
                clear c15
                by_cases c16 : x28_2 < (t112.length : Int)
                · rw [if_pos c16] at H
                  have c16b0 : decide (x28_2 < (t112.length : Int)) = true := decide_eq_true c16
                  clear c16
                  have H' := Aside0.mk H
                  clear H
                  have p115 : 0 ≤ (x28_2 : Int) := of_decide_eq_true (by first | (with_reducible assumption) | assumption)
                  have q115 : x28_2 < (t112.length : Int) := of_decide_eq_true (by first | (with_reducible assumption) | assumption)
                  obtain ⟨ad115, e115, hx115_0⟩ := Kd.at_int (Kd.R_reads' HO_26.out).2.2 x28_2 p115 q115
                  cases e115
                  replace p115 := eq_true p115
                  replace q115 := eq_true q115
                  go_wp2
                  go_roundg k2
                  case measure => have := HJ1.out; have := HK2.out; omega
                  case rel => exact ⟨(IntKind.u64.wrap ((IntKind.u64.wrap (10 * x4_2)) + (IntKind.u64.wrap (rd t112 x28_2)))), (wrap64 (x28_2 + 1)), (by first | rfl | (simp; done) | (simp [*]; done)), (by first | rfl | (simp; done) | (simp [*]; done)), H', ⟨by have := HJ1.out; have := HK2.out; omega⟩, ⟨by (with_reducible repeat (first | apply Kd.R_alloc | apply Kd.R_drewN | apply Kd.R_drew)); exact HO_26.out⟩, ⟨by (with_reducible repeat (first | refine blk_drewN ?_ _ | refine blk_drew ?_ | refine blk_alloc ?_ _)); exact BK111.out⟩, ⟨by repeat (first | (with_reducible first | exact HB.out | apply below_alloc | apply pw_below_drewN | apply below_drew1 | refine below_set ?_ GE111.out) | exact HB.out)⟩⟩
                · rw [if_neg c16] at H
                  exact absurd H (by simp)
              · rw [if_neg c15] at H
                exact absurd H (by simp)
            · rw [if_neg c14] at H
              have c14b0 : decide (x28_2 < (t112.length : Int)) = false := decide_eq_false c14
              clear c14
              by_cases c17 : a0_0 = true
              · subst c17
                have H1 : (some (wrap64 (IntKind.u64.wrap (-x4_2)), decide (x4_2 ≤ 9223372036854775808))) = some (r1, r2) := by rw [if_pos rfl] at H; exact H
                clear H
                have H := H1
                clear H1
                simp only [Option.some.injEq, Prod.mk.injEq] at H
                obtain ⟨rfl, rfl⟩ := H
                have hcz18_0 : wr.cell? ⟨gb111, 0, none⟩ = some (.bool true) := (blk_cell BK111.out 0).trans rfl
                have hcz18_1 : wr.cell? ⟨gb111, 1, none⟩ = some (.slice A0_1 l0_1.length c0_1) := (blk_cell BK111.out 1).trans rfl
                have hcz18_2 : wr.cell? ⟨gb111, 2, none⟩ = some (.int .i64 a0_2) := (blk_cell BK111.out 2).trans rfl
                have hfz18_0 := blk_frozen BK111.out 0
                have hfz18_1 := blk_frozen BK111.out 1
                have hfz18_2 := blk_frozen BK111.out 2
                go_wp2
                go_ret2
                exact ⟨by first | rfl | (simp [errW_none, errW_some] <;> rfl) | (simp [*, errW_none, errW_some] <;> rfl), by repeat (first | (with_reducible first | exact HB.out | apply below_alloc | apply pw_below_drewN | apply below_drew1 | refine below_set ?_ GE111.out) | exact HB.out)⟩
              · replace c17 := Bool.eq_false_iff.mpr c17
                subst c17
                have H1 : (some (wrap64 (x4_2), decide (x4_2 < 9223372036854775808))) = some (r1, r2) := by rw [if_neg (show ¬ (false = true) by decide)] at H; exact H
                clear H
                have H := H1
                clear H1
                simp only [Option.some.injEq, Prod.mk.injEq] at H
                obtain ⟨rfl, rfl⟩ := H
                have hcz19_0 : wr.cell? ⟨gb111, 0, none⟩ = some (.bool false) := (blk_cell BK111.out 0).trans rfl
                have hcz19_1 : wr.cell? ⟨gb111, 1, none⟩ = some (.slice A0_1 l0_1.length c0_1) := (blk_cell BK111.out 1).trans rfl
                have hcz19_2 : wr.cell? ⟨gb111, 2, none⟩ = some (.int .i64 a0_2) := (blk_cell BK111.out 2).trans rfl
                have hfz19_0 := blk_frozen BK111.out 0
                have hfz19_1 := blk_frozen BK111.out 1
                have hfz19_2 := blk_frozen BK111.out 2
                go_wp2
                go_ret2
                exact ⟨by first | rfl | (simp [errW_none, errW_some] <;> rfl) | (simp [*, errW_none, errW_some] <;> rfl), by repeat (first | (with_reducible first | exact HB.out | apply below_alloc | apply pw_below_drewN | apply below_drew1 | refine below_set ?_ GE111.out) | exact HB.out)⟩

/-! ### laws_scaleFits: function 8 -/
def laws_scaleFits.f (k : Nat) (a0_0 : Bool) (l0_1 : List Int) (a0_2 : Int) : Option (Int × Bool) := (spec_DecimalInt.f k a0_0 l0_1 a0_2).bind fun bt117 => (some (bt117.1, bt117.2))
theorem laws_scaleFits.mono : ∀ a0 a1 a2 k, LeO (laws_scaleFits.f k a0 a1 a2) (laws_scaleFits.f (k + 1) a0 a1 a2) := by
  intro a0 a1 a2 k
  unfold laws_scaleFits.f
  repeat' first
      | (with_reducible exact spec_DecimalInt.mono _ _ _ _)
      | (with_reducible exact LeO.refl _)
      | (with_reducible exact LeO.none _)
      | (with_reducible refine LeO.ite ?_ ?_)
      | (with_reducible refine LeO.bind ?_ (fun _ => ?_))
      | exact spec_DecimalInt.mono _ _ _ _
      | exact LeO.none _
      | refine LeO.ite ?_ ?_
      | refine LeO.bind ?_ (fun _ => ?_)
set_option maxHeartbeats 8000000 in
set_option maxRecDepth 100000 in
theorem laws_scaleFits.calls (k : Nat) (a0_0 : Bool) (A0_1 : Option Addr) (c0_1 : Nat) (l0_1 : List Int) (a0_2 : Int) (r1 : Int) (r2 : Bool) (w : World) (hr0_1 : Kd.C (Kd.int .i64) w A0_1 l0_1.length l0_1) (hc0_1 : l0_1.length ≤ c0_1) (h : laws_scaleFits.f k a0_0 l0_1 a0_2 = some (r1, r2)) :
    Calls Try.prog 8 #[.agg #[.bool a0_0, .slice A0_1 l0_1.length c0_1, .int .i64 a0_2]] w fun e w' => e = .returned (.tuple #[.int .i64 r1, .bool r2]) ∧ Below w.heap.size w w' := by
  have hu26 := Try.underlying26
  have HR0_1 := Aside0.mk hr0_1
  have HC0_1 := Aside0.mk hc0_1
  clear hr0_1 hc0_1
  have HB := Aside0.mk (Below.refl w.heap.size w)
  have H : ((spec_DecimalInt.f k a0_0 l0_1 a0_2).bind fun bt117 => (some (bt117.1, bt117.2))) = some (r1, r2) := h
  clear h
  replace H := Option.bind_eq_some_iff.mp H
  obtain ⟨⟨t117, t118⟩, A20, H⟩ := H
  replace H : (some (t117, t118)) = some (r1, r2) := H
  have A2 := Aside0.mk A20
  clear A20
  simp only [Option.some.injEq, Prod.mk.injEq] at H
  obtain ⟨rfl, rfl⟩ := H
  go_enter Try.func8, Try.ntmps8
  go_wp2_with (first | ((with_reducible refine gate_dst (N := 1) rfl ?_); refine box_event ?hg (N := 1) ?hd (cs := #[.bool a0_0, .slice A0_1 l0_1.length c0_1, .int .i64 a0_2]) (t := 26) ?hr ?_; (case hd => rfl); (case hg => rfl); (case hr => first | (go_simp; done) | (go_simp; rfl)); intro gb116 hg w3 hbox hb; have n0_ := Aside0.mk (below_step (by repeat (first | (with_reducible first | exact HB.out | apply below_alloc | apply pw_below_drewN | apply below_drew1) | exact HB.out)) hb); have n1_ := Aside0.mk (hbox); have n2_ := Aside0.mk ((by rw [hg]; exact (below_size (by repeat (first | (with_reducible first | exact HB.out | apply below_alloc | apply pw_below_drewN | apply below_drew1) | exact HB.out))) : w.heap.size ≤ gb116)); have n3_ := Aside0.mk ((by rw [hg]; exact (below_size (by repeat (first | (with_reducible first | exact HB.out | apply below_alloc | apply pw_below_drewN | apply below_drew1) | exact HB.out))) : w.heap.size ≤ gb116)); clear HB; have HB := n0_; have BK116 := n1_; have GW116 := n2_; have GE116 := n3_; clear n0_ n1_ n2_ n3_; clear hb hbox hg; have hcz4_0 : w3.cell? ⟨gb116, 0, none⟩ = some (.bool a0_0) := (blk_cell BK116.out 0).trans rfl; have hcz4_1 : w3.cell? ⟨gb116, 1, none⟩ = some (.slice A0_1 l0_1.length c0_1) := (blk_cell BK116.out 1).trans rfl; have hcz4_2 : w3.cell? ⟨gb116, 2, none⟩ = some (.int .i64 a0_2) := (blk_cell BK116.out 2).trans rfl; have hfz4_0 := blk_frozen BK116.out 0; have hfz4_1 := blk_frozen BK116.out 1; have hfz4_2 := blk_frozen BK116.out 2) | ((with_reducible refine gate_callee (f := 23) rfl ?_); refine goesL_ (some 5) rfl rfl Try.func23 (by kernel_rfl) rfl #[.agg #[.bool a0_0, .slice A0_1 l0_1.length c0_1, .int .i64 a0_2]] rfl (by (try simp only [List.map_toArray, List.map_cons, List.map_nil]); first | done | rfl | (simp only [List.length_drop, List.length_take]; rfl)) ?_; (with_reducible refine (spec_DecimalInt.calls k a0_0 _ _ l0_1 a0_2 t117 t118 _ ?side1 ?side2 A2.out).mono ?_); (case side1 => repeat (first | exact (Kd.C_below HR0_1.out HB.out) | (with_reducible refine Kd.C_alloc ?_ _) | (with_reducible refine Kd.C_drewN ?_ _) | (with_reducible refine Kd.C_drew ?_))); (case side2 => exact HC0_1.out); rintro e w5 ⟨rfl, hb⟩; refine ⟨_, rfl, ?_⟩; have n0_ := Aside0.mk (blk_below (g := gb116) (o := .cells #[.bool a0_0, .slice A0_1 l0_1.length c0_1, .int .i64 a0_2] 26 (0, 0)) (by (with_reducible repeat (first | refine blk_drewN ?_ _ | refine blk_drew ?_ | refine blk_alloc ?_ _)); exact BK116.out) hb); have n1_ := Aside0.mk (below_step (by repeat (first | (with_reducible first | exact HB.out | apply below_alloc | apply pw_below_drewN | apply below_drew1 | refine below_set ?_ GE116.out) | exact HB.out)) hb); clear BK116; clear HB; have BK116 := n0_; have HB := n1_; clear n0_ n1_; (try clear hb); (try clear hb2); (try clear hk); (try clear hi)))
  go_ret2
  exact ⟨by first | rfl | (simp [errW_none, errW_some] <;> rfl) | (simp [*, errW_none, errW_some] <;> rfl), by repeat (first | (with_reducible first | exact HB.out | apply below_alloc | apply pw_below_drewN | apply below_drew1 | refine below_set ?_ GE116.out) | exact HB.out)⟩

end Go.Proofs.Ytgidpggooclebaa.PFnScaleDowns
