-- PRINTED BY print.sh 35421559b90ae4d0a3588c463048766b98c2df88dd9212a6774a882060cdf62d: not written by this session
import Derived.Test.YtgidpggooclebaaPFnScaleProductsx0
import Derived.Test.YtgidpggooclebaaPFnScaleProductsx2
namespace Go.Proofs.Ytgidpggooclebaa.PFnScaleProducts
open Go.RowKit Go.Proofs.YtgidpggooclebaaW.PrintWords Go.Proofs.YtgidpggooclebaaW.PrintLast Go.Proofs.YtgidpggooclebaaW.PrintMore
attribute [local go_sem] max2_int min2_int max_two min_two max_three min_three max_four min_four   -- for this text's walks alone
set_option linter.unusedVariables false
set_option linter.unusedSimpArgs false

/-! ### spec_DecimalOf: function 10 -/
mutual
def spec_DecimalOf.j0 : Nat → Int → Int → Int → Option (Bool × List Int × Int)
  | 0, _, _, _ => none
  | k + 1, x0, x1, x5 => spec_DecimalOf.l0 k x0 x1 x5 ([] : List Int)
def spec_DecimalOf.l0 : Nat → Int → Int → Int → List Int → Option (Bool × List Int × Int)
  | 0, _, _, _, _ => none
  | k + 1, x0, x1, x5, x6 => if x5 > 0 then ((some (([wrap64 (Int.tmod x5 10)] : List Int) : List Int)).bind fun y165 => (if y165.length + x6.length < 17592186044416 then (spec_DecimalOf.l0 k x0 x1 (IntKind.u64.wrap (Int.tdiv x5 10)) (y165 ++ x6)) else (none))) else ((spec_decimal.f k (decide (x0 < 0)) x6 x1).bind fun bt171 => (some (bt171.1, bt171.2.1, bt171.2.2)))
end
def spec_DecimalOf.f (k : Nat) (a0 : Int) (a1 : Int) : Option (Bool × List Int × Int) := if a0 < 0 then (spec_DecimalOf.j0 k a0 a1 (IntKind.u64.wrap (-(IntKind.u64.wrap (a0))))) else (spec_DecimalOf.j0 k a0 a1 (IntKind.u64.wrap (a0)))
theorem spec_DecimalOf.mono_l : ∀ k, (∀ y0 y1 y2, LeO (spec_DecimalOf.j0 k y0 y1 y2) (spec_DecimalOf.j0 (k + 1) y0 y1 y2)) ∧ (∀ y0 y1 y2 y3, LeO (spec_DecimalOf.l0 k y0 y1 y2 y3) (spec_DecimalOf.l0 (k + 1) y0 y1 y2 y3))
  | 0 => ⟨fun _ _ _ r h => by simp [spec_DecimalOf.j0] at h, fun _ _ _ _ r h => by simp [spec_DecimalOf.l0] at h⟩
  | k + 1 => by
    obtain ⟨ih0, ih1⟩ := spec_DecimalOf.mono_l k
    refine ⟨?_, ?_⟩
    · intro y0 y1 y2
      unfold spec_DecimalOf.j0
      repeat' first
      | (with_reducible exact ih0 _ _ _)
      | (with_reducible exact ih1 _ _ _ _)
      | (with_reducible exact spec_decimal.mono _ _ _ _)
      | (with_reducible exact LeO.refl _)
      | (with_reducible exact LeO.none _)
      | (with_reducible refine LeO.ite ?_ ?_)
      | (with_reducible refine LeO.bind ?_ (fun _ => ?_))
      | exact ih0 _ _ _
      | exact ih1 _ _ _ _
      | exact spec_decimal.mono _ _ _ _
      | exact LeO.none _
      | refine LeO.ite ?_ ?_
      | refine LeO.bind ?_ (fun _ => ?_)
    · intro y0 y1 y2 y3
      unfold spec_DecimalOf.l0
      repeat' first
      | (with_reducible exact ih0 _ _ _)
      | (with_reducible exact ih1 _ _ _ _)
      | (with_reducible exact spec_decimal.mono _ _ _ _)
      | (with_reducible exact LeO.refl _)
      | (with_reducible exact LeO.none _)
      | (with_reducible refine LeO.ite ?_ ?_)
      | (with_reducible refine LeO.bind ?_ (fun _ => ?_))
      | exact ih0 _ _ _
      | exact ih1 _ _ _ _
      | exact spec_decimal.mono _ _ _ _
      | exact LeO.none _
      | refine LeO.ite ?_ ?_
      | refine LeO.bind ?_ (fun _ => ?_)
theorem spec_DecimalOf.mono : ∀ a0 a1 k, LeO (spec_DecimalOf.f k a0 a1) (spec_DecimalOf.f (k + 1) a0 a1) := by
  intro a0 a1 k
  obtain ⟨ih0, ih1⟩ := spec_DecimalOf.mono_l k
  unfold spec_DecimalOf.f
  repeat' first
      | (with_reducible exact ih0 _ _ _)
      | (with_reducible exact ih1 _ _ _ _)
      | (with_reducible exact spec_decimal.mono _ _ _ _)
      | (with_reducible exact LeO.refl _)
      | (with_reducible exact LeO.none _)
      | (with_reducible refine LeO.ite ?_ ?_)
      | (with_reducible refine LeO.bind ?_ (fun _ => ?_))
      | exact ih0 _ _ _
      | exact ih1 _ _ _ _
      | exact spec_decimal.mono _ _ _ _
      | exact LeO.none _
      | refine LeO.ite ?_ ?_
      | refine LeO.bind ?_ (fun _ => ?_)
set_option maxHeartbeats 8000000 in
set_option maxRecDepth 100000 in
theorem spec_DecimalOf.calls (k : Nat) (a0 : Int) (a1 : Int) (r1 : Bool) (r2 : List Int) (r3 : Int) (w : World) (h : spec_DecimalOf.f k a0 a1 = some (r1, r2, r3)) :
    Calls Try.prog 10 #[.int .i64 a0, .int .i64 a1] w fun e w' => ∃ v1_ : Value, e = .returned (.agg #[.bool r1, v1_, .int .i64 r3]) ∧ Kd.R (Kd.int .i64) 3 w' w.heap.size (fun _ => True) v1_ r2 ∧ Below w.heap.size w w' := by
  have hu26 := Try.underlying26
  have HB := Aside0.mk (Below.refl w.heap.size w)
  have H : (if a0 < 0 then (spec_DecimalOf.j0 k a0 a1 (IntKind.u64.wrap (-(IntKind.u64.wrap (a0))))) else (spec_DecimalOf.j0 k a0 a1 (IntKind.u64.wrap (a0)))) = some (r1, r2, r3) := h
  clear h
  have HC3 := Aside0.mk H
  clear H
  go_enter Try.func10, Try.ntmps10
  go_upto_if 10 with (first | ((with_reducible refine gate_dst (N := 4) rfl ?_); refine box_event ?hg (N := 4) ?hd (cs := #[.bool false, .slice none 0 0, .int .i64 0]) (t := 26) ?hr ?_; (case hd => rfl); (case hg => rfl); (case hr => first | (go_simp; done) | (go_simp; rfl)); intro gb164 hg w4 hbox hb; have n0_ := Aside0.mk (below_step (by repeat (first | (with_reducible first | exact HB.out | apply below_alloc | apply pw_below_drewN | apply below_drew1) | exact HB.out)) hb); have n1_ := Aside0.mk (hbox); have n2_ := Aside0.mk ((by rw [hg]; exact (below_size (by repeat (first | (with_reducible first | exact HB.out | apply below_alloc | apply pw_below_drewN | apply below_drew1) | exact HB.out))) : w.heap.size ≤ gb164)); have n3_ := Aside0.mk ((by rw [hg]; exact (below_size (by repeat (first | (with_reducible first | exact HB.out | apply below_alloc | apply pw_below_drewN | apply below_drew1) | exact HB.out))) : w.heap.size ≤ gb164)); clear HB; have HB := n0_; have BK164 := n1_; have GW164 := n2_; have GE164 := n3_; clear n0_ n1_ n2_ n3_; clear hb hbox hg))
  (try simp only [Act.put, List.setIfInBounds_toArray, List.set_cons_zero, List.set_cons_succ])
  go_cut [5] (fun v5 wc => ∃ (kq : Nat) (x5_2 : Int), v5 = .int .u64 x5_2 ∧ Aside0 (spec_DecimalOf.j0 kq a0 a1 x5_2 = some (r1, r2, r3)) ∧ Aside0 (kq ≤ k) ∧ Aside0 (wc.heap[gb164]? = some (.cells #[.bool false, (.slice none 0 0), .int .i64 0] 26 (0, 0))) ∧ Aside0 (Below w.heap.size w wc))
  case first =>
    have H := HC3.out
    clear HC3
    by_cases c5 : a0 < 0
    · rw [if_pos c5] at H
      have c5b0 : decide (a0 < 0) = true := decide_eq_true c5
      clear c5
      (first | rw [c5b0] | (simp only [i64_w, i32_w]; rw [c5b0]) | skip)
      have H' := Aside0.mk H
      clear H
      go_wp2
      go_meet
      case rel => exact ⟨_, (IntKind.u64.wrap (-(IntKind.u64.wrap (a0)))), (by first | rfl | (simp; done) | (simp [*]; done)), H', ⟨by first | omega | exact Nat.le_refl _⟩, ⟨by (with_reducible repeat (first | refine blk_drewN ?_ _ | refine blk_drew ?_ | refine blk_alloc ?_ _)); exact BK164.out⟩, ⟨by repeat (first | (with_reducible first | exact HB.out | apply below_alloc | apply pw_below_drewN | apply below_drew1 | refine below_set ?_ GE164.out) | exact HB.out)⟩⟩
    · rw [if_neg c5] at H
      have c5b0 : decide (a0 < 0) = false := decide_eq_false c5
      clear c5
      (first | rw [c5b0] | (simp only [i64_w, i32_w]; rw [c5b0]) | skip)
      have H' := Aside0.mk H
      clear H
      go_wp2
      go_meet
      case rel => exact ⟨_, (IntKind.u64.wrap (a0)), (by first | rfl | (simp; done) | (simp [*]; done)), H', ⟨by first | omega | exact Nat.le_refl _⟩, ⟨by (with_reducible repeat (first | refine blk_drewN ?_ _ | refine blk_drew ?_ | refine blk_alloc ?_ _)); exact BK164.out⟩, ⟨by repeat (first | (with_reducible first | exact HB.out | apply below_alloc | apply pw_below_drewN | apply below_drew1 | refine below_set ?_ GE164.out) | exact HB.out)⟩⟩
  case rest =>
    clear HC3
    try clear c1
    try clear p2
    try clear c5
    try clear c5b0
    obtain ⟨kq, x5_2, rfl, HA, HJ2, BK164, HB⟩ := hcut
    cases kq with
    | zero => exact absurd HA.out (by simp [spec_DecimalOf.j0])
    | succ kj2 =>
      have H := HA.out
      clear HA
      simp only [spec_DecimalOf.j0] at H
      have H' := Aside0.mk H
      clear H
      go_wp2
      go_loopg [5, 6] kj2 (fun kq v5 v6 w' => ∃ (x5_2 : Int) (x6_2 : List Int), v5 = .int .u64 x5_2 ∧ Aside0 (spec_DecimalOf.l0 kq a0 a1 x5_2 x6_2 = some (r1, r2, r3)) ∧ Aside0 (kq ≤ kj2) ∧ Aside0 (Kd.R (Kd.int .i64) 3 w' w.heap.size (fun _ => True) v6 x6_2) ∧ Aside0 (w'.heap[gb164]? = some (.cells #[.bool false, (.slice none 0 0), .int .i64 0] 26 (0, 0))) ∧ Aside0 (Below w.heap.size w w'))
      case atStart => exact ⟨(x5_2), (([] : List Int)), (by first | rfl | (simp; done) | (simp [*]; done)), H', ⟨Nat.le_refl _⟩, ⟨by first | exact Kd.R_nil _ _ _ _ _ | exact Kd.N_nil _ _ _ _ _ | exact Kd.V_nil _ _ _ _ _ | exact Kd.Q_nil _ _ _ _ _ | exact Kd.S_nil _ _ _ _ _⟩, ⟨by (with_reducible repeat (first | refine blk_drewN ?_ _ | refine blk_drew ?_ | refine blk_alloc ?_ _)); exact BK164.out⟩, ⟨by repeat (first | (with_reducible first | exact HB.out | apply below_alloc | apply pw_below_drewN | apply below_drew1 | refine below_set ?_ GE164.out) | exact HB.out)⟩⟩
      case round =>
        clear H'
        try clear c1
        try clear p2
        try clear c5
        try clear c5b0
        try clear p2
        obtain ⟨x5_2, x6_2, rfl, HA, HK2, HO_6, BK164, HB⟩ := hrel
        cases gk with
        | zero => exact absurd HA.out (by simp [spec_DecimalOf.l0])
        | succ k2 =>
          have H := HA.out
          clear HA
          simp only [spec_DecimalOf.l0] at H
          by_cases c6 : x5_2 > 0
          · rw [if_pos c6] at H
            have c6b0 : decide (0 < x5_2) = true := decide_eq_true c6
            clear c6
            obtain ⟨y165, hy165⟩ : ∃ y_ : List Int, y_ = (([wrap64 (Int.tmod x5_2 10)] : List Int)) := ⟨_, rfl⟩
            replace H : (if y165.length + x6_2.length < 17592186044416 then (spec_DecimalOf.l0 k2 a0 a1 (IntKind.u64.wrap (Int.tdiv x5_2 10)) (y165 ++ x6_2)) else (none)) = some (r1, r2, r3) := by first | (rw [hy165]; with_reducible exact H) | (have H2_ := (Option.bind_some _ _).symm.trans H; rw [hy165]; with_reducible exact H2_) | (have H2_ := (Option.bind_some _ _).symm.trans H; with_reducible exact H2_) | with_reducible exact H | (rw [hy165]; exact H) | exact H
            have Ny165 := Aside0.mk hy165
            clear hy165
            by_cases c7 : y165.length + x6_2.length < 17592186044416
            · rw [if_pos c7] at H
              have LMc7 := Aside0.mk c7
              clear c7
              obtain ⟨y168, hy168⟩ : ∃ y_ : List Int, y_ = (y165 ++ x6_2) := ⟨_, rfl⟩
              replace H : (spec_DecimalOf.l0 k2 a0 a1 (IntKind.u64.wrap (Int.tdiv x5_2 10)) y168) = some (r1, r2, r3) := by first | (rw [hy168]; with_reducible exact H) | (have H2_ := (Option.bind_some _ _).symm.trans H; rw [hy168]; with_reducible exact H2_) | (have H2_ := (Option.bind_some _ _).symm.trans H; with_reducible exact H2_) | with_reducible exact H | (rw [hy168]; exact H) | exact H
              have Ny168 := Aside0.mk hy168
              clear hy168
              have H' := Aside0.mk H
              clear H
              go_wp2_with (first | ((with_reducible refine gate_dst (N := 20) rfl ?_); refine Kd.R_lit (Kd.int .i64) _ 3 ?hg (N := 20) ?hd (xs := ([wrap64 (Int.tmod x5_2 10)] : List Int)) (inner := [.int .i64 (wrap64 (Int.tmod x5_2 10))]) (ok := fun _ => True) (okp := fun _ => True) ?hr ?hp (fun _ hk => hk) trivial (Below.refl _ _) (Nat.le_refl _) (by simp) ?_; (case hd => rfl); (case hg => rfl); (case hr => first | (go_simp; done) | (go_simp; rfl)); (case hp => exact (Reps.one (show Kd.M (Kd.int .i64) _ _ _ (wrap64 (Int.tmod x5_2 10)) [.int .i64 (wrap64 (Int.tmod x5_2 10))] from rfl) (Reps.none _ _))); intro v166 w8 ho9 hb hg_ hnew_; clear hg_ hnew_; (first | rw [← Ny165.out] at ho9 | (simp only [Int.reduceToNat] at ho9; rw [← Ny165.out] at ho9)); have n0_ := Aside0.mk (Kd.R_elder' (by (with_reducible repeat (first | apply Kd.R_alloc | apply Kd.R_drewN | apply Kd.R_drew)); exact HO_6.out) (Kd.R_base ho9) hb); have n1_ := Aside0.mk (Kd.R_lower (Kd.R_new' ho9 (Kd.R_lt (by (with_reducible repeat (first | apply Kd.R_alloc | apply Kd.R_drewN | apply Kd.R_drew)); exact HO_6.out))) (below_size (by repeat (first | (with_reducible first | exact HB.out | apply below_alloc | apply pw_below_drewN | apply below_drew1 | refine below_set ?_ GE164.out) | exact HB.out)))); have n2_ := Aside0.mk (blk_below (g := gb164) (o := .cells #[.bool false, .slice none 0 0, .int .i64 0] 26 (0, 0)) (by (with_reducible repeat (first | refine blk_drewN ?_ _ | refine blk_drew ?_ | refine blk_alloc ?_ _)); exact BK164.out) hb); have n3_ := Aside0.mk (below_step (by repeat (first | (with_reducible first | exact HB.out | apply below_alloc | apply pw_below_drewN | apply below_drew1 | refine below_set ?_ GE164.out) | exact HB.out)) hb); clear HO_6; clear BK164; clear HB; have HO_6 := n0_; have HO167 := n1_; have BK164 := n2_; have HB := n3_; clear n0_ n1_ n2_ n3_; clear hb ho9; obtain ⟨Ao11, co11, eo11⟩ := Kd.R_slice HO_6.out; subst eo11) | ((with_reducible refine gate_builtin (b := .append) (xs := #[.tmp 20, .tmp 21]) rfl ?_); at_builtin; refine Kd.R_append_rows (Kd.int .i64) (w0 := w) w.heap.size rfl (.tmp 20) (.tmp 21) 24 3 (.int .i64 0) 8 rfl Try.underlying24 info3 rfl (by decide) (by omega) v166 y165 x6_2 _ _ _ (fun k_ => some k_ ≠ (.slice Ao11 x6_2.length co11 : Value).ownBlock) (fun _ => False) rfl rfl ?aO ?aR (fun _ _ h => h) (fun _ h => h.elim) ?aF ?aB ?aS ?aL ?_; (case aR => repeat (first | exact (Kd.R_reads' HO_6.out).2.2 | (with_reducible refine Kd.C_alloc ?_ _) | (with_reducible refine Kd.C_drewN ?_ _) | (with_reducible refine Kd.C_drew ?_))); (case aB => exact (by repeat (first | (with_reducible first | exact HB.out | apply below_alloc | apply pw_below_drewN | apply below_drew1 | refine below_set ?_ GE164.out) | exact HB.out))); (case aF => exact (fun k_ hk => Kd.fresh' (Kd.R_lt (by (with_reducible repeat (first | apply Kd.R_alloc | apply Kd.R_drewN | apply Kd.R_drew)); exact HO_6.out)) k_ hk)); (case aO => exact (by (with_reducible repeat (first | apply Kd.R_alloc | apply Kd.R_drewN | apply Kd.R_drew)); exact Kd.R_mono HO167.out (fun _ hk => hk.2))); (case aS => exact (below_size (by repeat (first | (with_reducible first | exact HB.out | apply below_alloc | apply pw_below_drewN | apply below_drew1 | refine below_set ?_ GE164.out) | exact HB.out)))); (case aL => have := LMc7.out; omega); intro v169 w10 ho hb hg hat; rw [← Ny168.out] at ho; have n0_ := Aside0.mk (Kd.R_after (ok := (fun _ => True)) (by (with_reducible repeat (first | apply Kd.R_alloc | apply Kd.R_drewN | apply Kd.R_drew)); exact HO_6.out) hg hat); have n1_ := Aside0.mk (blk_grown (g := gb164) (o := .cells #[.bool false, .slice none 0 0, .int .i64 0] 26 (0, 0)) (by (with_reducible repeat (first | refine blk_drewN ?_ _ | refine blk_drew ?_ | refine blk_alloc ?_ _)); exact BK164.out) hg (Kd.R_ne HO167.out BK164.out (by decide))); have n2_ := Aside0.mk (hb); have n3_ := Aside0.mk (ho); clear HO_6; clear BK164; clear HB; clear HO167; have HO_6 := n0_; have BK164 := n1_; have HB := n2_; have HO170 := n3_; clear n0_ n1_ n2_ n3_; clear ho hb hg hat))
              go_roundg k2
              case measure => have := HJ2.out; have := HK2.out; omega
              case rel => exact ⟨(IntKind.u64.wrap (Int.tdiv x5_2 10)), (y168), (by first | rfl | (simp; done) | (simp [*]; done)), H', ⟨by have := HJ2.out; have := HK2.out; omega⟩, ⟨by (with_reducible repeat (first | apply Kd.R_alloc | apply Kd.R_drewN | apply Kd.R_drew)); exact Kd.R_mono HO170.out (fun _ hk => trivial)⟩, ⟨by (with_reducible repeat (first | refine blk_drewN ?_ _ | refine blk_drew ?_ | refine blk_alloc ?_ _)); exact BK164.out⟩, ⟨by repeat (first | (with_reducible first | exact HB.out | apply below_alloc | apply pw_below_drewN | apply below_drew1 | refine below_set ?_ GE164.out) | exact HB.out)⟩⟩
            · rw [if_neg c7] at H
              exact absurd H (by simp)
          · rw [if_neg c6] at H
            have c6b0 : decide (0 < x5_2) = false := decide_eq_false c6
            clear c6
            replace H := Option.bind_eq_some_iff.mp H
            obtain ⟨⟨t171, t172, t175⟩, A120, H⟩ := H
            replace H : (some (t171, t172, t175)) = some (r1, r2, r3) := H
            have A12 := Aside0.mk A120
            clear A120
            simp only [Option.some.injEq, Prod.mk.injEq] at H
            obtain ⟨rfl, rfl, rfl⟩ := H
            obtain ⟨Ao13, co13, eo13⟩ := Kd.R_slice HO_6.out
            subst eo13
            go_wp2_with (first | ((with_reducible refine gate_callee (f := 24) rfl ?_); refine goesL_ (some 27) rfl rfl Try.func24 (by kernel_rfl) rfl #[.bool (decide (a0 < 0)), .slice Ao13 x6_2.length co13, .int .i64 a1] rfl (by (try simp only [List.map_toArray, List.map_cons, List.map_nil]); first | done | rfl | (simp only [List.length_drop, List.length_take]; rfl)) ?_; (with_reducible refine (spec_decimal.calls k2 (decide (a0 < 0)) (fun k_ => some k_ = (.slice Ao13 x6_2.length co13 : Value).ownBlock) _ _ x6_2 a1 t171 t172 t175 _ ?side1 A12.out).mono ?_); (case side1 => exact Kd.R_V (Kd.R_tight rfl (Kd.R_types (HO_6.out) BK164.out (by decide)))); rintro e w14 ⟨v173, rfl, ho0, hb⟩; refine ⟨_, rfl, ?_⟩; have n0_ := Aside0.mk (Kd.R_elder' (by (with_reducible repeat (first | apply Kd.R_alloc | apply Kd.R_drewN | apply Kd.R_drew)); exact HO_6.out) (Kd.R_base ho0) hb); have n1_ := Aside0.mk (Kd.R_lower (Kd.R_new' (Kd.R_mono (ok' := fun k_ => True) ho0 (fun _ hk_ => trivial)) (Kd.R_lt (by (with_reducible repeat (first | apply Kd.R_alloc | apply Kd.R_drewN | apply Kd.R_drew)); exact HO_6.out))) (below_size (by repeat (first | (with_reducible first | exact HB.out | apply below_alloc | apply pw_below_drewN | apply below_drew1 | refine below_set ?_ GE164.out) | exact HB.out)))); have n2_ := Aside0.mk (blk_below (g := gb164) (o := .cells #[.bool false, .slice none 0 0, .int .i64 0] 26 (0, 0)) (by (with_reducible repeat (first | refine blk_drewN ?_ _ | refine blk_drew ?_ | refine blk_alloc ?_ _)); exact BK164.out) hb); have n3_ := Aside0.mk (below_step (by repeat (first | (with_reducible first | exact HB.out | apply below_alloc | apply pw_below_drewN | apply below_drew1 | refine below_set ?_ GE164.out) | exact HB.out)) hb); clear HO_6; clear BK164; clear HB; have HO_6 := n0_; have HO174 := n1_; have BK164 := n2_; have HB := n3_; clear n0_ n1_ n2_ n3_; (try clear hb); (try clear hb2); (try clear hk); (try clear hi); (try clear ho0); have hcz15_0 : w14.cell? ⟨gb164, 0, none⟩ = some (.bool false) := (blk_cell BK164.out 0).trans rfl; have hcz15_1 : w14.cell? ⟨gb164, 1, none⟩ = some (.slice none 0 0) := (blk_cell BK164.out 1).trans rfl; have hcz15_2 : w14.cell? ⟨gb164, 2, none⟩ = some (.int .i64 0) := (blk_cell BK164.out 2).trans rfl; have hfz15_0 := blk_frozen BK164.out 0; have hfz15_1 := blk_frozen BK164.out 1; have hfz15_2 := blk_frozen BK164.out 2; obtain ⟨Ao16, co16, eo16⟩ := Kd.R_slice HO174.out; subst eo16))
            refine bodyPost_ret (results_cell_row rfl _ _ gb164 26 #[.bool t171, .slice Ao16 t172.length co16, .int .i64 t175] (0, 0) _ rfl (by (with_reducible repeat (first | refine blk_drewN ?_ _ | refine blk_drew ?_ | refine blk_alloc ?_ _)); refine blk_put (cs := #[.bool t171, .slice Ao16 t172.length co16, .int .i64 0]) ?_ 2 _ rfl; (with_reducible repeat (first | refine blk_drewN ?_ _ | refine blk_drew ?_ | refine blk_alloc ?_ _)); refine blk_put (cs := #[.bool t171, .slice none 0 0, .int .i64 0]) ?_ 1 _ rfl; (with_reducible repeat (first | refine blk_drewN ?_ _ | refine blk_drew ?_ | refine blk_alloc ?_ _)); refine blk_put (cs := #[.bool false, .slice none 0 0, .int .i64 0]) ?_ 0 _ rfl; (with_reducible repeat (first | refine blk_drewN ?_ _ | refine blk_drew ?_ | refine blk_alloc ?_ _)); exact BK164.out) Try.underlying26 rfl (by kernel_rfl)) rfl ?_
            exact ⟨_, by first | rfl | (simp [errW_none, errW_some] <;> rfl) | (simp [*, errW_none, errW_some] <;> rfl), by (with_reducible repeat (first | apply Kd.R_alloc | apply Kd.R_drewN | apply Kd.R_drew)); exact Kd.R_mono (Kd.R_far (p := ⟨gb164, 2, none⟩) (Kd.R_far (p := ⟨gb164, 1, none⟩) (Kd.R_far (p := ⟨gb164, 0, none⟩) (Kd.R_types HO174.out BK164.out (by decide)) (fun _ hk => hk.2) (.bool t171)) (fun _ hk => hk.2) (.slice Ao16 t172.length co16)) (fun _ hk => hk.2) (.int .i64 t175)) (fun _ hk => trivial), by repeat (first | (with_reducible first | exact HB.out | apply below_alloc | apply pw_below_drewN | apply below_drew1 | refine below_set ?_ GE164.out) | exact HB.out)⟩

/-! ### resource_int64Multiply: function 34 -/
def resource_int64Multiply.j0 : Nat → Int → Int → Bool → Option (Int × Bool)
  | 0, _, _, _ => none
  | k + 1, x0, x1, x20 => if x20 = true then (some (wrap64 (x0 * x1), true)) else (if x0 = (-9223372036854775808) then (some (0, false)) else (if x1 = (-9223372036854775808) then (some (0, false)) else (if x1 = 0 then (none) else (some (wrap64 (x0 * x1), ((wrap64 (Int.tdiv (wrap64 (x0 * x1)) x1)) == x0))))))
def resource_int64Multiply.f (k : Nat) (a0 : Int) (a1 : Int) : Option (Int × Bool) := if a0 = 0 then (resource_int64Multiply.j0 k a0 a1 true) else (if a1 = 0 then (resource_int64Multiply.j0 k a0 a1 true) else (if a0 = 1 then (resource_int64Multiply.j0 k a0 a1 true) else (resource_int64Multiply.j0 k a0 a1 (a1 == 1))))
theorem resource_int64Multiply.mono_l : ∀ k, (∀ y0 y1 y2, LeO (resource_int64Multiply.j0 k y0 y1 y2) (resource_int64Multiply.j0 (k + 1) y0 y1 y2))
  | 0 => fun _ _ _ r h => by simp [resource_int64Multiply.j0] at h
  | k + 1 => by
    have ih0 := resource_int64Multiply.mono_l k
    · intro y0 y1 y2
      unfold resource_int64Multiply.j0
      repeat' first
      | (with_reducible exact ih0 _ _ _)
      | (with_reducible exact LeO.refl _)
      | (with_reducible exact LeO.none _)
      | (with_reducible refine LeO.ite ?_ ?_)
      | (with_reducible refine LeO.bind ?_ (fun _ => ?_))
      | exact ih0 _ _ _
      | exact LeO.none _
      | refine LeO.ite ?_ ?_
      | refine LeO.bind ?_ (fun _ => ?_)
theorem resource_int64Multiply.mono : ∀ a0 a1 k, LeO (resource_int64Multiply.f k a0 a1) (resource_int64Multiply.f (k + 1) a0 a1) := by
  intro a0 a1 k
  have ih0 := resource_int64Multiply.mono_l k
  unfold resource_int64Multiply.f
  repeat' first
      | (with_reducible exact ih0 _ _ _)
      | (with_reducible exact LeO.refl _)
      | (with_reducible exact LeO.none _)
      | (with_reducible refine LeO.ite ?_ ?_)
      | (with_reducible refine LeO.bind ?_ (fun _ => ?_))
      | exact ih0 _ _ _
      | exact LeO.none _
      | refine LeO.ite ?_ ?_
      | refine LeO.bind ?_ (fun _ => ?_)
set_option maxHeartbeats 8000000 in
set_option maxRecDepth 100000 in
theorem resource_int64Multiply.calls (k : Nat) (a0 : Int) (a1 : Int) (r1 : Int) (r2 : Bool) (w : World) (h : resource_int64Multiply.f k a0 a1 = some (r1, r2)) :
    Calls Try.prog 34 #[.int .i64 a0, .int .i64 a1] w fun e w' => e = .returned (.tuple #[.int .i64 r1, .bool r2]) ∧ Drawn0 w w' := by
  have H : (if a0 = 0 then (resource_int64Multiply.j0 k a0 a1 true) else (if a1 = 0 then (resource_int64Multiply.j0 k a0 a1 true) else (if a0 = 1 then (resource_int64Multiply.j0 k a0 a1 true) else (resource_int64Multiply.j0 k a0 a1 (a1 == 1))))) = some (r1, r2) := h
  clear h
  have HC3 := Aside0.mk H
  clear H
  go_enter Try.func34, Try.ntmps34
  go_upto_region 1 with (fail)
  repeat (go_quiet (fail); go_upto_region 1 with (fail))
  go_cut [20] (fun v20 wc => ∃ (kq : Nat) (x20_2 : Bool), v20 = .bool x20_2 ∧ Aside0 (resource_int64Multiply.j0 kq a0 a1 x20_2 = some (r1, r2)) ∧ Aside0 (kq ≤ k) ∧ Drawn0 w wc)
  case first =>
    have H := HC3.out
    clear HC3
    by_cases c4 : a0 = 0
    · rw [if_pos c4] at H
      have c4b0 : (a0 == 0) = true := beq_iff_eq.mpr c4
      have c4b1 : (a0 != 0) = false := bne_eq_false_iff_eq.mpr c4
      clear c4
      (first | rw [c4b0] | (simp only [i64_w, i32_w]; rw [c4b0]) | skip)
      have H' := Aside0.mk H
      clear H
      go_wp2
      repeat (go_quiet (fail); try go_wp2)
      go_meet
      case rel => exact ⟨_, (true), (by first | rfl | (simp; done) | (simp [*]; done)), H', ⟨by first | omega | exact Nat.le_refl _⟩, by repeat (first | exact Drawn0.refl _ | apply Drawn0.step)⟩
    · rw [if_neg c4] at H
      have c4b0 : (a0 == 0) = false := beq_eq_false_iff_ne.mpr c4
      have c4b1 : (a0 != 0) = true := bne_iff_ne.mpr c4
      (first | rw [c4b0] | (simp only [i64_w, i32_w]; rw [c4b0]) | skip)
      by_cases c5 : a1 = 0
      · rw [if_pos c5] at H
        have c5b0 : (a1 == 0) = true := beq_iff_eq.mpr c5
        have c5b1 : (a1 != 0) = false := bne_eq_false_iff_eq.mpr c5
        clear c5
        have H' := Aside0.mk H
        clear H
        go_wp2
        repeat (go_quiet (fail); try go_wp2)
        go_meet
        case rel => exact ⟨_, (true), (by first | rfl | (simp; done) | (simp [*]; done)), H', ⟨by first | omega | exact Nat.le_refl _⟩, by repeat (first | exact Drawn0.refl _ | apply Drawn0.step)⟩
      · rw [if_neg c5] at H
        have c5b0 : (a1 == 0) = false := beq_eq_false_iff_ne.mpr c5
        have c5b1 : (a1 != 0) = true := bne_iff_ne.mpr c5
        by_cases c6 : a0 = 1
        · rw [if_pos c6] at H
          have c6b0 : (a0 == 1) = true := beq_iff_eq.mpr c6
          have c6b1 : (a0 != 1) = false := bne_eq_false_iff_eq.mpr c6
          clear c6
          have H' := Aside0.mk H
          clear H
          go_wp2
          repeat (go_quiet (fail); try go_wp2)
          go_meet
          case rel => exact ⟨_, (true), (by first | rfl | (simp; done) | (simp [*]; done)), H', ⟨by first | omega | exact Nat.le_refl _⟩, by repeat (first | exact Drawn0.refl _ | apply Drawn0.step)⟩
        · rw [if_neg c6] at H
          have c6b0 : (a0 == 1) = false := beq_eq_false_iff_ne.mpr c6
          have c6b1 : (a0 != 1) = true := bne_iff_ne.mpr c6
          have H' := Aside0.mk H
          clear H
          go_wp2
          repeat (go_quiet (fail); try go_wp2)
          go_meet
          case rel => exact ⟨_, ((a1 == 1)), (by first | rfl | (simp; done) | (simp [*]; done)), H', ⟨by first | omega | exact Nat.le_refl _⟩, by repeat (first | exact Drawn0.refl _ | apply Drawn0.step)⟩
  case rest =>
    clear HC3
    try clear p2
    try clear c3
    try clear c4
    try clear c4b0
    try clear c4b1
    try clear c5
    try clear c5b0
    try clear c5b1
    try clear c6
    try clear c6b0
    try clear c6b1
    obtain ⟨kq, x20_2, rfl, HA, HJ2, ⟨mc2, rfl⟩⟩ := hcut
    cases kq with
    | zero => exact absurd HA.out (by simp [resource_int64Multiply.j0])
    | succ kj2 =>
      have H := HA.out
      clear HA
      simp only [resource_int64Multiply.j0] at H
      by_cases c7 : x20_2 = true
      · subst c7
        have H1 : (some (wrap64 (a0 * a1), true)) = some (r1, r2) := by rw [if_pos rfl] at H; exact H
        clear H
        have H := H1
        clear H1
        simp only [Option.some.injEq, Prod.mk.injEq] at H
        obtain ⟨rfl, rfl⟩ := H
        go_wp2
        repeat (go_quiet (fail); try go_wp2)
        go_ret2
        exact ⟨by first | rfl | (simp; done) | (simp [*]; done), by repeat (first | exact Drawn0.refl _ | apply Drawn0.step)⟩
      · replace c7 := Bool.eq_false_iff.mpr c7
        subst c7
        have H1 : (if a0 = (-9223372036854775808) then (some (0, false)) else (if a1 = (-9223372036854775808) then (some (0, false)) else (if a1 = 0 then (none) else (some (wrap64 (a0 * a1), ((wrap64 (Int.tdiv (wrap64 (a0 * a1)) a1)) == a0)))))) = some (r1, r2) := by rw [if_neg (show ¬ (false = true) by decide)] at H; exact H
        clear H
        have H := H1
        clear H1
        by_cases c8 : a0 = (-9223372036854775808)
        · rw [if_pos c8] at H
          have c8b0 : (a0 == (-9223372036854775808)) = true := beq_iff_eq.mpr c8
          have c8b1 : (a0 != (-9223372036854775808)) = false := bne_eq_false_iff_eq.mpr c8
          clear c8
          simp only [Option.some.injEq, Prod.mk.injEq] at H
          obtain ⟨rfl, rfl⟩ := H
          go_wp2
          repeat (go_quiet (fail); try go_wp2)
          go_ret2
          exact ⟨by first | rfl | (simp; done) | (simp [*]; done), by repeat (first | exact Drawn0.refl _ | apply Drawn0.step)⟩
        · rw [if_neg c8] at H
          have c8b0 : (a0 == (-9223372036854775808)) = false := beq_eq_false_iff_ne.mpr c8
          have c8b1 : (a0 != (-9223372036854775808)) = true := bne_iff_ne.mpr c8
          by_cases c9 : a1 = (-9223372036854775808)
          · rw [if_pos c9] at H
            have c9b0 : (a1 == (-9223372036854775808)) = true := beq_iff_eq.mpr c9
            have c9b1 : (a1 != (-9223372036854775808)) = false := bne_eq_false_iff_eq.mpr c9
            clear c9
            simp only [Option.some.injEq, Prod.mk.injEq] at H
            obtain ⟨rfl, rfl⟩ := H
            go_wp2
            repeat (go_quiet (fail); try go_wp2)
            go_ret2
            exact ⟨by first | rfl | (simp; done) | (simp [*]; done), by repeat (first | exact Drawn0.refl _ | apply Drawn0.step)⟩
          · rw [if_neg c9] at H
            have c9b0 : (a1 == (-9223372036854775808)) = false := beq_eq_false_iff_ne.mpr c9
            have c9b1 : (a1 != (-9223372036854775808)) = true := bne_iff_ne.mpr c9
            by_cases c10 : a1 = 0
            · rw [if_pos c10] at H
              exact absurd H (by simp)
            · rw [if_neg c10] at H
              have c10b0 : (a1 == 0) = false := beq_eq_false_iff_ne.mpr c10
              have c10b1 : (a1 != 0) = true := bne_iff_ne.mpr c10
              simp only [Option.some.injEq, Prod.mk.injEq] at H
              obtain ⟨rfl, rfl⟩ := H
              go_wp2
              repeat (go_quiet (fail); try go_wp2)
              go_ret2
              exact ⟨by first | rfl | (simp; done) | (simp [*]; done), by repeat (first | exact Drawn0.refl _ | apply Drawn0.step)⟩

/-! ### resource_ZzMultiply: function 25 -/
def resource_ZzMultiply.f (k : Nat) (a0 : Int) (a1 : Int) : Option (Int × Bool) := (resource_int64Multiply.f k a0 a1).bind fun bt176 => (some (bt176.1, bt176.2))
theorem resource_ZzMultiply.mono : ∀ a0 a1 k, LeO (resource_ZzMultiply.f k a0 a1) (resource_ZzMultiply.f (k + 1) a0 a1) := by
  intro a0 a1 k
  unfold resource_ZzMultiply.f
  repeat' first
      | (with_reducible exact resource_int64Multiply.mono _ _ _)
      | (with_reducible exact LeO.refl _)
      | (with_reducible exact LeO.none _)
      | (with_reducible refine LeO.ite ?_ ?_)
      | (with_reducible refine LeO.bind ?_ (fun _ => ?_))
      | exact resource_int64Multiply.mono _ _ _
      | exact LeO.none _
      | refine LeO.ite ?_ ?_
      | refine LeO.bind ?_ (fun _ => ?_)
set_option maxHeartbeats 8000000 in
set_option maxRecDepth 100000 in
theorem resource_ZzMultiply.calls (k : Nat) (a0 : Int) (a1 : Int) (r1 : Int) (r2 : Bool) (w : World) (h : resource_ZzMultiply.f k a0 a1 = some (r1, r2)) :
    Calls Try.prog 25 #[.int .i64 a0, .int .i64 a1] w fun e w' => e = .returned (.tuple #[.int .i64 r1, .bool r2]) ∧ Drawn0 w w' := by
  have H : ((resource_int64Multiply.f k a0 a1).bind fun bt176 => (some (bt176.1, bt176.2))) = some (r1, r2) := h
  clear h
  replace H := Option.bind_eq_some_iff.mp H
  obtain ⟨⟨t176, t177⟩, A30, H⟩ := H
  replace H : (some (t176, t177)) = some (r1, r2) := H
  have A3 := Aside0.mk A30
  clear A30
  simp only [Option.some.injEq, Prod.mk.injEq] at H
  obtain ⟨rfl, rfl⟩ := H
  go_enter Try.func25, Try.ntmps25
  go_wp2_with (first | ((with_reducible refine gate_callee (f := 34) rfl ?_); refine goesL_ (some 8) rfl rfl Try.func34 (by kernel_rfl) rfl #[.int .i64 a0, .int .i64 a1] rfl (by (try simp only [List.map_toArray, List.map_cons, List.map_nil]); first | done | rfl | (simp only [List.length_drop, List.length_take]; rfl)) ?_; (with_reducible refine (resource_int64Multiply.calls k a0 a1 t176 t177 _ A3.out).mono ?_); rintro e w' ⟨rfl, ⟨nd, rfl⟩⟩; refine ⟨_, rfl, ?_⟩))
  go_ret2
  exact ⟨by first | rfl | (simp; done) | (simp [*]; done), by repeat (first | exact Drawn0.refl _ | apply Drawn0.step)⟩

/-! ### impl_Int64Multiply: function 11 -/
def impl_Int64Multiply.f (k : Nat) (a0 : Int) (a1 : Int) : Option (Int × Bool) := (resource_ZzMultiply.f k a0 a1).bind fun bt178 => (some (bt178.1, bt178.2))
theorem impl_Int64Multiply.mono : ∀ a0 a1 k, LeO (impl_Int64Multiply.f k a0 a1) (impl_Int64Multiply.f (k + 1) a0 a1) := by
  intro a0 a1 k
  unfold impl_Int64Multiply.f
  repeat' first
      | (with_reducible exact resource_ZzMultiply.mono _ _ _)
      | (with_reducible exact LeO.refl _)
      | (with_reducible exact LeO.none _)
      | (with_reducible refine LeO.ite ?_ ?_)
      | (with_reducible refine LeO.bind ?_ (fun _ => ?_))
      | exact resource_ZzMultiply.mono _ _ _
      | exact LeO.none _
      | refine LeO.ite ?_ ?_
      | refine LeO.bind ?_ (fun _ => ?_)
set_option maxHeartbeats 8000000 in
set_option maxRecDepth 100000 in
theorem impl_Int64Multiply.calls (k : Nat) (a0 : Int) (a1 : Int) (r1 : Int) (r2 : Bool) (w : World) (h : impl_Int64Multiply.f k a0 a1 = some (r1, r2)) :
    Calls Try.prog 11 #[.int .i64 a0, .int .i64 a1] w fun e w' => e = .returned (.tuple #[.int .i64 r1, .bool r2]) ∧ Drawn0 w w' := by
  have H : ((resource_ZzMultiply.f k a0 a1).bind fun bt178 => (some (bt178.1, bt178.2))) = some (r1, r2) := h
  clear h
  replace H := Option.bind_eq_some_iff.mp H
  obtain ⟨⟨t178, t179⟩, A30, H⟩ := H
  replace H : (some (t178, t179)) = some (r1, r2) := H
  have A3 := Aside0.mk A30
  clear A30
  simp only [Option.some.injEq, Prod.mk.injEq] at H
  obtain ⟨rfl, rfl⟩ := H
  go_enter Try.func11, Try.ntmps11
  go_wp2_with (first | ((with_reducible refine gate_callee (f := 25) rfl ?_); refine goesL_ (some 8) rfl rfl Try.func25 (by kernel_rfl) rfl #[.int .i64 a0, .int .i64 a1] rfl (by (try simp only [List.map_toArray, List.map_cons, List.map_nil]); first | done | rfl | (simp only [List.length_drop, List.length_take]; rfl)) ?_; (with_reducible refine (resource_ZzMultiply.calls k a0 a1 t178 t179 _ A3.out).mono ?_); rintro e w' ⟨rfl, ⟨nd, rfl⟩⟩; refine ⟨_, rfl, ?_⟩))
  go_ret2
  exact ⟨by first | rfl | (simp; done) | (simp [*]; done), by repeat (first | exact Drawn0.refl _ | apply Drawn0.step)⟩

/-! ### resource_int64MultiplyScale: function 35 -/
def resource_int64MultiplyScale.j0 : Nat → Int → Int → Bool → Option (Int × Bool)
  | 0, _, _, _ => none
  | k + 1, x0, x1, x12 => if x12 = true then (some (wrap64 (x0 * x1), true)) else (if x0 = (-9223372036854775808) then (if x1 = 1 then (if x1 = 0 then (none) else (some (wrap64 (x0 * x1), ((wrap64 (Int.tdiv (wrap64 (x0 * x1)) x1)) == x0)))) else (some (0, false))) else (if x1 = 0 then (none) else (some (wrap64 (x0 * x1), ((wrap64 (Int.tdiv (wrap64 (x0 * x1)) x1)) == x0)))))
def resource_int64MultiplyScale.f (k : Nat) (a0 : Int) (a1 : Int) : Option (Int × Bool) := if a0 = 0 then (resource_int64MultiplyScale.j0 k a0 a1 true) else (resource_int64MultiplyScale.j0 k a0 a1 (a0 == 1))
theorem resource_int64MultiplyScale.mono_l : ∀ k, (∀ y0 y1 y2, LeO (resource_int64MultiplyScale.j0 k y0 y1 y2) (resource_int64MultiplyScale.j0 (k + 1) y0 y1 y2))
  | 0 => fun _ _ _ r h => by simp [resource_int64MultiplyScale.j0] at h
  | k + 1 => by
    have ih0 := resource_int64MultiplyScale.mono_l k
    · intro y0 y1 y2
      unfold resource_int64MultiplyScale.j0
      repeat' first
      | (with_reducible exact ih0 _ _ _)
      | (with_reducible exact LeO.refl _)
      | (with_reducible exact LeO.none _)
      | (with_reducible refine LeO.ite ?_ ?_)
      | (with_reducible refine LeO.bind ?_ (fun _ => ?_))
      | exact ih0 _ _ _
      | exact LeO.none _
      | refine LeO.ite ?_ ?_
      | refine LeO.bind ?_ (fun _ => ?_)
theorem resource_int64MultiplyScale.mono : ∀ a0 a1 k, LeO (resource_int64MultiplyScale.f k a0 a1) (resource_int64MultiplyScale.f (k + 1) a0 a1) := by
  intro a0 a1 k
  have ih0 := resource_int64MultiplyScale.mono_l k
  unfold resource_int64MultiplyScale.f
  repeat' first
      | (with_reducible exact ih0 _ _ _)
      | (with_reducible exact LeO.refl _)
      | (with_reducible exact LeO.none _)
      | (with_reducible refine LeO.ite ?_ ?_)
      | (with_reducible refine LeO.bind ?_ (fun _ => ?_))
      | exact ih0 _ _ _
      | exact LeO.none _
      | refine LeO.ite ?_ ?_
      | refine LeO.bind ?_ (fun _ => ?_)
set_option maxHeartbeats 8000000 in
set_option maxRecDepth 100000 in
theorem resource_int64MultiplyScale.calls (k : Nat) (a0 : Int) (a1 : Int) (r1 : Int) (r2 : Bool) (w : World) (h : resource_int64MultiplyScale.f k a0 a1 = some (r1, r2)) :
    Calls Try.prog 35 #[.int .i64 a0, .int .i64 a1] w fun e w' => e = .returned (.tuple #[.int .i64 r1, .bool r2]) ∧ Drawn0 w w' := by
  have H : (if a0 = 0 then (resource_int64MultiplyScale.j0 k a0 a1 true) else (resource_int64MultiplyScale.j0 k a0 a1 (a0 == 1))) = some (r1, r2) := h
  clear h
  have HC3 := Aside0.mk H
  clear H
  go_enter Try.func35, Try.ntmps35
  go_upto_region 1 with (fail)
  repeat (go_quiet (fail); go_upto_region 1 with (fail))
  go_cut [12] (fun v12 wc => ∃ (kq : Nat) (x12_2 : Bool), v12 = .bool x12_2 ∧ Aside0 (resource_int64MultiplyScale.j0 kq a0 a1 x12_2 = some (r1, r2)) ∧ Aside0 (kq ≤ k) ∧ Drawn0 w wc)
  case first =>
    have H := HC3.out
    clear HC3
    by_cases c4 : a0 = 0
    · rw [if_pos c4] at H
      have c4b0 : (a0 == 0) = true := beq_iff_eq.mpr c4
      have c4b1 : (a0 != 0) = false := bne_eq_false_iff_eq.mpr c4
      clear c4
      (first | rw [c4b0] | (simp only [i64_w, i32_w]; rw [c4b0]) | skip)
      have H' := Aside0.mk H
      clear H
      go_wp2
      repeat (go_quiet (fail); try go_wp2)
      go_meet
      case rel => exact ⟨_, (true), (by first | rfl | (simp; done) | (simp [*]; done)), H', ⟨by first | omega | exact Nat.le_refl _⟩, by repeat (first | exact Drawn0.refl _ | apply Drawn0.step)⟩
    · rw [if_neg c4] at H
      have c4b0 : (a0 == 0) = false := beq_eq_false_iff_ne.mpr c4
      have c4b1 : (a0 != 0) = true := bne_iff_ne.mpr c4
      (first | rw [c4b0] | (simp only [i64_w, i32_w]; rw [c4b0]) | skip)
      have H' := Aside0.mk H
      clear H
      go_wp2
      repeat (go_quiet (fail); try go_wp2)
      go_meet
      case rel => exact ⟨_, ((a0 == 1)), (by first | rfl | (simp; done) | (simp [*]; done)), H', ⟨by first | omega | exact Nat.le_refl _⟩, by repeat (first | exact Drawn0.refl _ | apply Drawn0.step)⟩
  case rest =>
    clear HC3
    try clear p2
    try clear c3
    try clear c4
    try clear c4b0
    try clear c4b1
    obtain ⟨kq, x12_2, rfl, HA, HJ2, ⟨mc2, rfl⟩⟩ := hcut
    cases kq with
    | zero => exact absurd HA.out (by simp [resource_int64MultiplyScale.j0])
    | succ kj2 =>
      have H := HA.out
      clear HA
      simp only [resource_int64MultiplyScale.j0] at H
      by_cases c5 : x12_2 = true
      · subst c5
        have H1 : (some (wrap64 (a0 * a1), true)) = some (r1, r2) := by rw [if_pos rfl] at H; exact H
        clear H
        have H := H1
        clear H1
        simp only [Option.some.injEq, Prod.mk.injEq] at H
        obtain ⟨rfl, rfl⟩ := H
        go_wp2
        repeat (go_quiet (fail); try go_wp2)
        go_ret2
        exact ⟨by first | rfl | (simp; done) | (simp [*]; done), by repeat (first | exact Drawn0.refl _ | apply Drawn0.step)⟩
      · replace c5 := Bool.eq_false_iff.mpr c5
        subst c5
        have H1 : (if a0 = (-9223372036854775808) then (if a1 = 1 then (if a1 = 0 then (none) else (some (wrap64 (a0 * a1), ((wrap64 (Int.tdiv (wrap64 (a0 * a1)) a1)) == a0)))) else (some (0, false))) else (if a1 = 0 then (none) else (some (wrap64 (a0 * a1), ((wrap64 (Int.tdiv (wrap64 (a0 * a1)) a1)) == a0))))) = some (r1, r2) := by rw [if_neg (show ¬ (false = true) by decide)] at H; exact H
        clear H
        have H := H1
        clear H1
        by_cases c6 : a0 = (-9223372036854775808)
        · rw [if_pos c6] at H
          have c6b0 : (a0 == (-9223372036854775808)) = true := beq_iff_eq.mpr c6
          have c6b1 : (a0 != (-9223372036854775808)) = false := bne_eq_false_iff_eq.mpr c6
          clear c6
          by_cases c7 : a1 = 1
          · rw [if_pos c7] at H
            have c7b0 : (a1 == 1) = true := beq_iff_eq.mpr c7
            have c7b1 : (a1 != 1) = false := bne_eq_false_iff_eq.mpr c7
            clear c7
            by_cases c8 : a1 = 0
            · rw [if_pos c8] at H
              exact absurd H (by simp)
            · rw [if_neg c8] at H
              have c8b0 : (a1 == 0) = false := beq_eq_false_iff_ne.mpr c8
              have c8b1 : (a1 != 0) = true := bne_iff_ne.mpr c8
              simp only [Option.some.injEq, Prod.mk.injEq] at H
              obtain ⟨rfl, rfl⟩ := H
              go_wp2
              repeat (go_quiet (fail); try go_wp2)
              go_ret2
              exact ⟨by first | rfl | (simp; done) | (simp [*]; done), by repeat (first | exact Drawn0.refl _ | apply Drawn0.step)⟩
          · rw [if_neg c7] at H
            have c7b0 : (a1 == 1) = false := beq_eq_false_iff_ne.mpr c7
            have c7b1 : (a1 != 1) = true := bne_iff_ne.mpr c7
            simp only [Option.some.injEq, Prod.mk.injEq] at H
            obtain ⟨rfl, rfl⟩ := H
            go_wp2
            repeat (go_quiet (fail); try go_wp2)
            go_ret2
            exact ⟨by first | rfl | (simp; done) | (simp [*]; done), by repeat (first | exact Drawn0.refl _ | apply Drawn0.step)⟩
        · rw [if_neg c6] at H
          have c6b0 : (a0 == (-9223372036854775808)) = false := beq_eq_false_iff_ne.mpr c6
          have c6b1 : (a0 != (-9223372036854775808)) = true := bne_iff_ne.mpr c6
          by_cases c9 : a1 = 0
          · rw [if_pos c9] at H
            exact absurd H (by simp)
          · rw [if_neg c9] at H
            have c9b0 : (a1 == 0) = false := beq_eq_false_iff_ne.mpr c9
            have c9b1 : (a1 != 0) = true := bne_iff_ne.mpr c9
            simp only [Option.some.injEq, Prod.mk.injEq] at H
            obtain ⟨rfl, rfl⟩ := H
            go_wp2
            repeat (go_quiet (fail); try go_wp2)
            go_ret2
            exact ⟨by first | rfl | (simp; done) | (simp [*]; done), by repeat (first | exact Drawn0.refl _ | apply Drawn0.step)⟩

/-! ### resource_ZzMultiplyScale: function 26 -/
def resource_ZzMultiplyScale.f (k : Nat) (a0 : Int) (a1 : Int) : Option (Int × Bool) := (resource_int64MultiplyScale.f k a0 a1).bind fun bt180 => (some (bt180.1, bt180.2))
theorem resource_ZzMultiplyScale.mono : ∀ a0 a1 k, LeO (resource_ZzMultiplyScale.f k a0 a1) (resource_ZzMultiplyScale.f (k + 1) a0 a1) := by
  intro a0 a1 k
  unfold resource_ZzMultiplyScale.f
  repeat' first
      | (with_reducible exact resource_int64MultiplyScale.mono _ _ _)
      | (with_reducible exact LeO.refl _)
      | (with_reducible exact LeO.none _)
      | (with_reducible refine LeO.ite ?_ ?_)
      | (with_reducible refine LeO.bind ?_ (fun _ => ?_))
      | exact resource_int64MultiplyScale.mono _ _ _
      | exact LeO.none _
      | refine LeO.ite ?_ ?_
      | refine LeO.bind ?_ (fun _ => ?_)
set_option maxHeartbeats 8000000 in
set_option maxRecDepth 100000 in
theorem resource_ZzMultiplyScale.calls (k : Nat) (a0 : Int) (a1 : Int) (r1 : Int) (r2 : Bool) (w : World) (h : resource_ZzMultiplyScale.f k a0 a1 = some (r1, r2)) :
    Calls Try.prog 26 #[.int .i64 a0, .int .i64 a1] w fun e w' => e = .returned (.tuple #[.int .i64 r1, .bool r2]) ∧ Drawn0 w w' := by
  have H : ((resource_int64MultiplyScale.f k a0 a1).bind fun bt180 => (some (bt180.1, bt180.2))) = some (r1, r2) := h
  clear h
  replace H := Option.bind_eq_some_iff.mp H
  obtain ⟨⟨t180, t181⟩, A30, H⟩ := H
  replace H : (some (t180, t181)) = some (r1, r2) := H
  have A3 := Aside0.mk A30
  clear A30
  simp only [Option.some.injEq, Prod.mk.injEq] at H
  obtain ⟨rfl, rfl⟩ := H
  go_enter Try.func26, Try.ntmps26
  go_wp2_with (first | ((with_reducible refine gate_callee (f := 35) rfl ?_); refine goesL_ (some 8) rfl rfl Try.func35 (by kernel_rfl) rfl #[.int .i64 a0, .int .i64 a1] rfl (by (try simp only [List.map_toArray, List.map_cons, List.map_nil]); first | done | rfl | (simp only [List.length_drop, List.length_take]; rfl)) ?_; (with_reducible refine (resource_int64MultiplyScale.calls k a0 a1 t180 t181 _ A3.out).mono ?_); rintro e w' ⟨rfl, ⟨nd, rfl⟩⟩; refine ⟨_, rfl, ?_⟩))
  go_ret2
  exact ⟨by first | rfl | (simp; done) | (simp [*]; done), by repeat (first | exact Drawn0.refl _ | apply Drawn0.step)⟩

/-! ### impl_Int64MultiplyScale: function 12 -/
def impl_Int64MultiplyScale.f (k : Nat) (a0 : Int) (a1 : Int) : Option (Int × Bool) := (resource_ZzMultiplyScale.f k a0 a1).bind fun bt182 => (some (bt182.1, bt182.2))
theorem impl_Int64MultiplyScale.mono : ∀ a0 a1 k, LeO (impl_Int64MultiplyScale.f k a0 a1) (impl_Int64MultiplyScale.f (k + 1) a0 a1) := by
  intro a0 a1 k
  unfold impl_Int64MultiplyScale.f
  repeat' first
      | (with_reducible exact resource_ZzMultiplyScale.mono _ _ _)
      | (with_reducible exact LeO.refl _)
      | (with_reducible exact LeO.none _)
      | (with_reducible refine LeO.ite ?_ ?_)
      | (with_reducible refine LeO.bind ?_ (fun _ => ?_))
      | exact resource_ZzMultiplyScale.mono _ _ _
      | exact LeO.none _
      | refine LeO.ite ?_ ?_
      | refine LeO.bind ?_ (fun _ => ?_)
set_option maxHeartbeats 8000000 in
set_option maxRecDepth 100000 in
theorem impl_Int64MultiplyScale.calls (k : Nat) (a0 : Int) (a1 : Int) (r1 : Int) (r2 : Bool) (w : World) (h : impl_Int64MultiplyScale.f k a0 a1 = some (r1, r2)) :
    Calls Try.prog 12 #[.int .i64 a0, .int .i64 a1] w fun e w' => e = .returned (.tuple #[.int .i64 r1, .bool r2]) ∧ Drawn0 w w' := by
  have H : ((resource_ZzMultiplyScale.f k a0 a1).bind fun bt182 => (some (bt182.1, bt182.2))) = some (r1, r2) := h
  clear h
  replace H := Option.bind_eq_some_iff.mp H
  obtain ⟨⟨t182, t183⟩, A30, H⟩ := H
  replace H : (some (t182, t183)) = some (r1, r2) := H
  have A3 := Aside0.mk A30
  clear A30
  simp only [Option.some.injEq, Prod.mk.injEq] at H
  obtain ⟨rfl, rfl⟩ := H
  go_enter Try.func12, Try.ntmps12
  go_wp2_with (first | ((with_reducible refine gate_callee (f := 26) rfl ?_); refine goesL_ (some 8) rfl rfl Try.func26 (by kernel_rfl) rfl #[.int .i64 a0, .int .i64 a1] rfl (by (try simp only [List.map_toArray, List.map_cons, List.map_nil]); first | done | rfl | (simp only [List.length_drop, List.length_take]; rfl)) ?_; (with_reducible refine (resource_ZzMultiplyScale.calls k a0 a1 t182 t183 _ A3.out).mono ?_); rintro e w' ⟨rfl, ⟨nd, rfl⟩⟩; refine ⟨_, rfl, ?_⟩))
  go_ret2
  exact ⟨by first | rfl | (simp; done) | (simp [*]; done), by repeat (first | exact Drawn0.refl _ | apply Drawn0.step)⟩

end Go.Proofs.Ytgidpggooclebaa.PFnScaleProducts
