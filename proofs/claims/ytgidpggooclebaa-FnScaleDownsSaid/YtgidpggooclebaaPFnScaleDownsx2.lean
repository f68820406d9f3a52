-- PRINTED BY print.sh 35421559b90ae4d0a3588c463048766b98c2df88dd9212a6774a882060cdf62d: not written by this session
import Derived.Test.YtgidpggooclebaaPFnScaleDownsx0
namespace Go.Proofs.Ytgidpggooclebaa.PFnScaleDowns
open Go.RowKit Go.Proofs.YtgidpggooclebaaW.PrintWords Go.Proofs.YtgidpggooclebaaW.PrintLast Go.Proofs.YtgidpggooclebaaW.PrintMore
attribute [local go_sem] max2_int min2_int max_two min_two max_three min_three max_four min_four   -- for this text's walks alone
set_option linter.unusedVariables false
set_option linter.unusedSimpArgs false

/-! ### spec_decimal: function 24 -/
mutual
def spec_decimal.j1 : Nat → Bool → List Int → Int → Option (Bool × List Int × Int)
  | 0, _, _, _ => none
  | k + 1, x0, x1, x2 => spec_decimal.l1 k x0 x1 x2
def spec_decimal.l1 : Nat → Bool → List Int → Int → Option (Bool × List Int × Int)
  | 0, _, _, _ => none
  | k + 1, x0, x1, x2 => if (x1.length : Int) > 0 then (if 0 ≤ (wrap64 ((x1.length : Int) - 1)) then (if (wrap64 ((x1.length : Int) - 1)) < (x1.length : Int) then (if (rd x1 (wrap64 ((x1.length : Int) - 1))) = 0 then (if (wrap64 ((x1.length : Int) - 1)) ≤ (x1.length : Int) then (spec_decimal.l1 k x0 (x1.take ((wrap64 ((x1.length : Int) - 1)) : Int).toNat) (wrap64 (x2 + 1))) else (none)) else (if (x1.length : Int) = 0 then (some (false, ([] : List Int), 0)) else ((some (([] : List Int) : List Int)).bind fun y132 => (if y132.length + x1.length < 17592186044416 then (some (x0, (y132 ++ x1), x2)) else (none))))) else (none)) else (none)) else (if (x1.length : Int) = 0 then (some (false, ([] : List Int), 0)) else ((some (([] : List Int) : List Int)).bind fun y138 => (if y138.length + x1.length < 17592186044416 then (some (x0, (y138 ++ x1), x2)) else (none))))
def spec_decimal.l0 : Nat → Bool → List Int → Int → Option (Bool × List Int × Int)
  | 0, _, _, _ => none
  | k + 1, x0, x1, x2 => if (x1.length : Int) > 0 then (if 0 < (x1.length : Int) then (if (rd x1 0) = 0 then (if 1 ≤ (x1.length : Int) then (spec_decimal.l0 k x0 (x1.drop 1) x2) else (none)) else (spec_decimal.j1 k x0 x1 x2)) else (none)) else (spec_decimal.j1 k x0 x1 x2)
end
def spec_decimal.f (k : Nat) (a0 : Bool) (l1 : List Int) (a2 : Int) : Option (Bool × List Int × Int) := spec_decimal.l0 k a0 l1 a2
theorem spec_decimal.mono_l : ∀ k, (∀ y0 y1 y2, LeO (spec_decimal.j1 k y0 y1 y2) (spec_decimal.j1 (k + 1) y0 y1 y2)) ∧ (∀ y0 y1 y2, LeO (spec_decimal.l1 k y0 y1 y2) (spec_decimal.l1 (k + 1) y0 y1 y2)) ∧ (∀ y0 y1 y2, LeO (spec_decimal.l0 k y0 y1 y2) (spec_decimal.l0 (k + 1) y0 y1 y2))
  | 0 => ⟨fun _ _ _ r h => by simp [spec_decimal.j1] at h, fun _ _ _ r h => by simp [spec_decimal.l1] at h, fun _ _ _ r h => by simp [spec_decimal.l0] at h⟩
  | k + 1 => by
    obtain ⟨ih0, ih1, ih2⟩ := spec_decimal.mono_l k
    refine ⟨?_, ?_, ?_⟩
    · intro y0 y1 y2
      unfold spec_decimal.j1
      repeat' first
      | (with_reducible exact ih0 _ _ _)
      | (with_reducible exact ih1 _ _ _)
      | (with_reducible exact ih2 _ _ _)
      | (with_reducible exact LeO.refl _)
      | (with_reducible exact LeO.none _)
      | (with_reducible refine LeO.ite ?_ ?_)
      | (with_reducible refine LeO.bind ?_ (fun _ => ?_))
      | exact ih0 _ _ _
      | exact ih1 _ _ _
      | exact ih2 _ _ _
      | exact LeO.none _
      | refine LeO.ite ?_ ?_
      | refine LeO.bind ?_ (fun _ => ?_)
    · intro y0 y1 y2
      unfold spec_decimal.l1
      repeat' first
      | (with_reducible exact ih0 _ _ _)
      | (with_reducible exact ih1 _ _ _)
      | (with_reducible exact ih2 _ _ _)
      | (with_reducible exact LeO.refl _)
      | (with_reducible exact LeO.none _)
      | (with_reducible refine LeO.ite ?_ ?_)
      | (with_reducible refine LeO.bind ?_ (fun _ => ?_))
      | exact ih0 _ _ _
      | exact ih1 _ _ _
      | exact ih2 _ _ _
      | exact LeO.none _
      | refine LeO.ite ?_ ?_
      | refine LeO.bind ?_ (fun _ => ?_)
    · intro y0 y1 y2
      unfold spec_decimal.l0
      repeat' first
      | (with_reducible exact ih0 _ _ _)
      | (with_reducible exact ih1 _ _ _)
      | (with_reducible exact ih2 _ _ _)
      | (with_reducible exact LeO.refl _)
      | (with_reducible exact LeO.none _)
      | (with_reducible refine LeO.ite ?_ ?_)
      | (with_reducible refine LeO.bind ?_ (fun _ => ?_))
      | exact ih0 _ _ _
      | exact ih1 _ _ _
      | exact ih2 _ _ _
      | exact LeO.none _
      | refine LeO.ite ?_ ?_
      | refine LeO.bind ?_ (fun _ => ?_)
theorem spec_decimal.mono : ∀ a0 a1 a2 k, LeO (spec_decimal.f k a0 a1 a2) (spec_decimal.f (k + 1) a0 a1 a2) := by
  intro a0 a1 a2 k
  obtain ⟨ih0, ih1, ih2⟩ := spec_decimal.mono_l k
  unfold spec_decimal.f
  repeat' first
      | (with_reducible exact ih0 _ _ _)
      | (with_reducible exact ih1 _ _ _)
      | (with_reducible exact ih2 _ _ _)
      | (with_reducible exact LeO.refl _)
      | (with_reducible exact LeO.none _)
      | (with_reducible refine LeO.ite ?_ ?_)
      | (with_reducible refine LeO.bind ?_ (fun _ => ?_))
      | exact ih0 _ _ _
      | exact ih1 _ _ _
      | exact ih2 _ _ _
      | exact LeO.none _
      | refine LeO.ite ?_ ?_
      | refine LeO.bind ?_ (fun _ => ?_)
set_option maxHeartbeats 8000000 in
set_option maxRecDepth 100000 in
theorem spec_decimal.calls (k : Nat) (a0 : Bool) (P1_ : Nat → Prop) (A1 : Option Addr) (c1 : Nat) (l1 : List Int) (a2 : Int) (r1 : Bool) (r2 : List Int) (r3 : Int) (w : World) (hs1 : Kd.V (Kd.int .i64) 3 w w.heap.size (fun k_ => P1_ k_) (.slice A1 l1.length c1) l1) (h : spec_decimal.f k a0 l1 a2 = some (r1, r2, r3)) :
    Calls Try.prog 24 #[.bool a0, .slice A1 l1.length c1, .int .i64 a2] w fun e w' => ∃ v1_ : Value, e = .returned (.agg #[.bool r1, v1_, .int .i64 r3]) ∧ Kd.R (Kd.int .i64) 3 w' w.heap.size (fun k_ => (w.heap.size ≤ k_)) v1_ r2 ∧ Below w.heap.size w w' := by
  have hu26 := Try.underlying26
  have HO1 := Aside0.mk (show Kd.V (Kd.int .i64) 3 w w.heap.size (fun k_ => (P1_ k_ ∨ w.heap.size ≤ k_)) (.slice A1 l1.length c1) l1 from Kd.V_mono hs1 (fun k_ hk => .inl hk))
  have HB := Aside0.mk (Below.refl w.heap.size w)
  have H : (spec_decimal.l0 k a0 l1 a2) = some (r1, r2, r3) := h
  clear h
  have HC4 := Aside0.mk H
  clear H
  go_enter Try.func24, Try.ntmps24
  go_upto_block 0 with (first | ((with_reducible refine gate_dst (N := 6) rfl ?_); (try (refine gate_guard (by rfl) ?_; dsimp only)); refine box_event ?hg (N := 6) ?hd (cs := #[.bool false, .slice none 0 0, .int .i64 0]) (t := 26) ?hr ?_; (case hd => rfl); (case hg => rfl); (case hr => first | (go_simp; done) | (go_simp; rfl)); intro gb119 hg w5 hbox hb; have n0_ := Aside0.mk (Kd.V_below (Kd.V_elderB (by (with_reducible repeat (first | apply Kd.V_alloc | apply Kd.V_drewN | apply Kd.V_drew)); exact HO1.out) gb119 (Nat.le_of_eq hg.symm)) hb); have n1_ := Aside0.mk (below_step (by repeat (first | (with_reducible first | exact HB.out | apply below_alloc | apply pw_below_drewN | apply below_drew1) | exact HB.out)) hb); have n2_ := Aside0.mk (hbox); have n3_ := Aside0.mk ((by rw [hg]; exact (below_size (by repeat (first | (with_reducible first | exact HB.out | apply below_alloc | apply pw_below_drewN | apply below_drew1) | exact HB.out))) : w.heap.size ≤ gb119)); have n4_ := Aside0.mk ((by rw [hg]; exact (below_size (by repeat (first | (with_reducible first | exact HB.out | apply below_alloc | apply pw_below_drewN | apply below_drew1) | exact HB.out))) : w.heap.size ≤ gb119)); clear HO1; clear HB; have HO1 := n0_; have HB := n1_; have BK119 := n2_; have GW119 := n3_; have GE119 := n4_; clear n0_ n1_ n2_ n3_ n4_; clear hb hbox hg))
  (try simp only [Act.put, List.setIfInBounds_toArray, List.set_cons_zero, List.set_cons_succ])
  go_cut [1] (fun v1 wc => ∃ (kq : Nat) (x1_3 : List Int), Aside0 (spec_decimal.j1 kq a0 x1_3 a2 = some (r1, r2, r3)) ∧ Aside0 (kq ≤ k) ∧ Aside0 (Kd.V (Kd.int .i64) 3 wc w.heap.size (fun k_ => (P1_ k_ ∨ w.heap.size ≤ k_) ∧ k_ ≠ gb119) v1 x1_3) ∧ Aside0 (wc.heap[gb119]? = some (.cells #[.bool false, (.slice none 0 0), .int .i64 0] 26 (0, 0))) ∧ Aside0 (Below w.heap.size w wc))
  case first =>
    have H := HC4.out
    clear HC4
    have H' := Aside0.mk H
    clear H
    go_wp2
    go_loopg [1] k (fun kq v1 w' => ∃ (x1_1 : List Int), Aside0 (spec_decimal.l0 kq a0 x1_1 a2 = some (r1, r2, r3)) ∧ Aside0 (kq ≤ k) ∧ Aside0 (Kd.V (Kd.int .i64) 3 w' w.heap.size (fun k_ => (P1_ k_ ∨ w.heap.size ≤ k_) ∧ k_ ≠ gb119) v1 x1_1) ∧ Aside0 (w'.heap[gb119]? = some (.cells #[.bool false, (.slice none 0 0), .int .i64 0] 26 (0, 0))) ∧ Aside0 (Below w.heap.size w w'))
    case atStart => exact ⟨(l1), H', ⟨Nat.le_refl _⟩, ⟨by (with_reducible repeat (first | apply Kd.V_alloc | apply Kd.V_drewN | apply Kd.V_drew)); exact HO1.out⟩, ⟨by (with_reducible repeat (first | refine blk_drewN ?_ _ | refine blk_drew ?_ | refine blk_alloc ?_ _)); exact BK119.out⟩, ⟨by repeat (first | (with_reducible first | exact HB.out | apply below_alloc | apply pw_below_drewN | apply below_drew1 | refine below_set ?_ GE119.out) | exact HB.out)⟩⟩
    case round =>
      clear H'
      try clear c1
      try clear c2
      try clear p2
      obtain ⟨x1_1, HA, HK1, HO_1, BK119, HB⟩ := hrel
      cases gk with
      | zero => exact absurd HA.out (by simp [spec_decimal.l0])
      | succ k1 =>
        have H := HA.out
        clear HA
        simp only [spec_decimal.l0] at H
        by_cases c6 : (x1_1.length : Int) > 0
        · rw [if_pos c6] at H
          have c6b0 : decide (0 < (x1_1.length : Int)) = true := decide_eq_true c6
          have c6b1 : decide (0 < x1_1.length) = true := decide_eq_true (by omega)
          clear c6
          (first | rw [c6b0] | (simp only [i64_w, i32_w]; rw [c6b0]) | skip)
          by_cases c7 : 0 < (x1_1.length : Int)
          · rw [if_pos c7] at H
            have c7b0 : decide (0 < (x1_1.length : Int)) = true := decide_eq_true c7
            have c7b1 : decide (0 < x1_1.length) = true := decide_eq_true (by omega)
            clear c7
            by_cases c8 : (rd x1_1 0) = 0
            · rw [if_pos c8] at H
              have c8b0 : ((rd x1_1 0) == 0) = true := beq_iff_eq.mpr c8
              have c8b1 : ((rd x1_1 0) != 0) = false := bne_eq_false_iff_eq.mpr c8
              clear c8
              by_cases c9 : 1 ≤ (x1_1.length : Int)
              · rw [if_pos c9] at H
                have c9b0 := eq_true c9
                have c9b1 : decide (1 ≤ (x1_1.length : Int)) = true := decide_eq_true c9
                clear c9
                obtain ⟨y121, hy121⟩ : ∃ y_ : List Int, y_ = (x1_1.drop 1) := ⟨_, rfl⟩
                replace H : (spec_decimal.l0 k1 a0 y121 a2) = some (r1, r2, r3) := by first | (rw [hy121]; with_reducible exact H) | (have H2_ := (Option.bind_some _ _).symm.trans H; rw [hy121]; with_reducible exact H2_) | (have H2_ := (Option.bind_some _ _).symm.trans H; with_reducible exact H2_) | with_reducible exact H | (rw [hy121]; exact H) | exact H
                have Ny121 := Aside0.mk hy121
                clear hy121
                have H' := Aside0.mk H
                clear H
                obtain ⟨Ao10, co10, eo10⟩ := Kd.V_slice HO_1.out
                subst eo10
                have p120 : 0 ≤ (0 : Int) := (by omega)
                have q120 : 0 < (x1_1.length : Int) := of_decide_eq_true (by first | (with_reducible assumption) | assumption)
                obtain ⟨ad120, e120, hx120_0⟩ := Kd.at_int (Kd.V_reads' HO_1.out).2.2 0 p120 q120
                cases e120
                have qi120 : (0 < x1_1.length) = True := eq_true (by omega)
                (try rw [show ((0 : Int)).toNat = 0 from rfl] at hx120_0)
                (try rw [Addr.add_zero'] at hx120_0)
                replace p120 := eq_true p120
                replace q120 := eq_true q120
                have q11 : (1 : Int) ≤ ((x1_1.length : Int) : Int) := of_decide_eq_true (by first | (with_reducible assumption) | assumption)
                obtain ⟨i011, hi011, _, hsz11, _⟩ := info_parts info3
                have hroom11 : x1_1.length ≤ co10 := (Kd.V_reads' HO_1.out).2.1
                have hC11 : Kd.F (Kd.int .i64) _ _ (some ad120) x1_1.length x1_1 := (Kd.V_at (base := w.heap.size) HO_1.out).2.2
                have hcut11 := cut_from (P := Try.prog) 24 3 .i64 Try.underlying24 hi011 1 hsz11 (some ad120) x1_1.length co10 1 (by omega) q11
                have hr11 := Kd.F_cut (m := (1 : Int).toNat) (c := co10) hC11 (by omega) hroom11
                obtain ⟨A11, hA11⟩ : ∃ A1, A1 = (if co10 = (1 : Int).toNat then (some ad120) else ((some ad120) : Option Addr).map (·.add ((1 : Int).toNat * 1))) := ⟨_, rfl⟩
                obtain ⟨c11, hc11⟩ : ∃ c1, c1 = co10 - (1 : Int).toNat := ⟨_, rfl⟩
                have hy11 : y121.length = x1_1.length - (1 : Int).toNat := (by rw [Ny121.out, List.length_drop] <;> omega)
                rw [show (x1_1).drop (1 : Int).toNat = y121 from Ny121.out.symm] at hr11
                replace hr11 : Kd.F (Kd.int .i64) _ _ A11 y121.length y121 := (by rw [hA11]; exact hr11)
                rw [← hy11, ← hA11, ← hc11] at hcut11
                have HO125 := Aside0.mk (show Kd.V (Kd.int .i64) 3 _ w.heap.size _ (.slice A11 y121.length c11) y121 from Kd.V_mk (by rw [hy11, hc11]; exact Nat.sub_le_sub_right hroom11 _) hr11)
                have HC125 := Aside0.mk (show y121.length ≤ c11 from by rw [hy11, hc11]; exact Nat.sub_le_sub_right hroom11 _)
                clear hr11 hC11 hroom11 hi011 hsz11 hc11
                have KY11 := Aside0.mk hy11
                have KA11 := Aside0.mk hA11
                clear hy11 hA11
                replace q11 := eq_true q11
                go_wp2
                go_roundg k1
                case measure => have := HK1.out; omega
                case rel => exact ⟨(y121), H', ⟨by have := HK1.out; omega⟩, ⟨by (with_reducible repeat (first | apply Kd.V_alloc | apply Kd.V_drewN | apply Kd.V_drew)); exact HO125.out⟩, ⟨by (with_reducible repeat (first | refine blk_drewN ?_ _ | refine blk_drew ?_ | refine blk_alloc ?_ _)); exact BK119.out⟩, ⟨by repeat (first | (with_reducible first | exact HB.out | apply below_alloc | apply pw_below_drewN | apply below_drew1 | refine below_set ?_ GE119.out) | exact HB.out)⟩⟩
              · rw [if_neg c9] at H
                exact absurd H (by simp)
            · rw [if_neg c8] at H
              have c8b0 : ((rd x1_1 0) == 0) = false := beq_eq_false_iff_ne.mpr c8
              have c8b1 : ((rd x1_1 0) != 0) = true := bne_iff_ne.mpr c8
              have H' := Aside0.mk H
              clear H
              obtain ⟨Ao12, co12, eo12⟩ := Kd.V_slice HO_1.out
              subst eo12
              have p120 : 0 ≤ (0 : Int) := (by omega)
              have q120 : 0 < (x1_1.length : Int) := of_decide_eq_true (by first | (with_reducible assumption) | assumption)
              obtain ⟨ad120, e120, hx120_0⟩ := Kd.at_int (Kd.V_reads' HO_1.out).2.2 0 p120 q120
              cases e120
              have qi120 : (0 < x1_1.length) = True := eq_true (by omega)
              (try rw [show ((0 : Int)).toNat = 0 from rfl] at hx120_0)
              (try rw [Addr.add_zero'] at hx120_0)
              replace p120 := eq_true p120
              replace q120 := eq_true q120
              go_wp2
              go_meet
              case rel => exact ⟨_, (x1_1), H', ⟨by have := HK1.out; first | omega | exact Nat.le_refl _⟩, ⟨by (with_reducible repeat (first | apply Kd.V_alloc | apply Kd.V_drewN | apply Kd.V_drew)); exact HO_1.out⟩, ⟨by (with_reducible repeat (first | refine blk_drewN ?_ _ | refine blk_drew ?_ | refine blk_alloc ?_ _)); exact BK119.out⟩, ⟨by repeat (first | (with_reducible first | exact HB.out | apply below_alloc | apply pw_below_drewN | apply below_drew1 | refine below_set ?_ GE119.out) | exact HB.out)⟩⟩
          · rw [if_neg c7] at H
            exact absurd H (by simp)
        · rw [if_neg c6] at H
          have c6b0 : decide (0 < (x1_1.length : Int)) = false := decide_eq_false c6
          have c6b1 : decide (0 < x1_1.length) = false := decide_eq_false (by omega)
          clear c6
          (first | rw [c6b0] | (simp only [i64_w, i32_w]; rw [c6b0]) | skip)
          have H' := Aside0.mk H
          clear H
          obtain ⟨Ao13, co13, eo13⟩ := Kd.V_slice HO_1.out
          subst eo13
          go_wp2
          go_meet
          case rel => exact ⟨_, (x1_1), H', ⟨by have := HK1.out; first | omega | exact Nat.le_refl _⟩, ⟨by (with_reducible repeat (first | apply Kd.V_alloc | apply Kd.V_drewN | apply Kd.V_drew)); exact HO_1.out⟩, ⟨by (with_reducible repeat (first | refine blk_drewN ?_ _ | refine blk_drew ?_ | refine blk_alloc ?_ _)); exact BK119.out⟩, ⟨by repeat (first | (with_reducible first | exact HB.out | apply below_alloc | apply pw_below_drewN | apply below_drew1 | refine below_set ?_ GE119.out) | exact HB.out)⟩⟩
  case rest =>
    clear HC4
    try clear c1
    try clear p1
    try clear q1
    try clear hx1
    try clear qi1
    try clear c2
    try clear p2
    try clear c6
    try clear c6b0
    try clear c6b1
    try clear c7
    try clear c7b0
    try clear c7b1
    try clear c8
    try clear c8b0
    try clear c8b1
    try clear c9
    try clear c9b0
    try clear c9b1
    try clear c11
    try clear q11
    try clear p12
    try clear q12
    try clear hx12
    try clear qi12
    try clear hx120_0
    try clear p120
    try clear p2
    try clear q11
    try clear q120
    obtain ⟨kq, x1_3, HA, HJ3, HO_1, BK119, HB⟩ := hcut
    cases kq with
    | zero => exact absurd HA.out (by simp [spec_decimal.j1])
    | succ kj3 =>
      have H := HA.out
      clear HA
      simp only [spec_decimal.j1] at H
      have H' := Aside0.mk H
      clear H
      go_wp2
      go_loopg [1, 2] kj3 (fun kq v1 v2 w' => ∃ (x1_2 : List Int) (x2_2 : Int), v2 = .int .i64 x2_2 ∧ Aside0 (spec_decimal.l1 kq a0 x1_2 x2_2 = some (r1, r2, r3)) ∧ Aside0 (kq ≤ kj3) ∧ Aside0 (Kd.V (Kd.int .i64) 3 w' w.heap.size (fun k_ => (P1_ k_ ∨ w.heap.size ≤ k_) ∧ k_ ≠ gb119) v1 x1_2) ∧ Aside0 (w'.heap[gb119]? = some (.cells #[.bool false, (.slice none 0 0), .int .i64 0] 26 (0, 0))) ∧ Aside0 (Below w.heap.size w w'))
      case atStart => exact ⟨(x1_3), (a2), (by first | rfl | (simp; done) | (simp [*]; done)), H', ⟨Nat.le_refl _⟩, ⟨by (with_reducible repeat (first | apply Kd.V_alloc | apply Kd.V_drewN | apply Kd.V_drew)); exact HO_1.out⟩, ⟨by (with_reducible repeat (first | refine blk_drewN ?_ _ | refine blk_drew ?_ | refine blk_alloc ?_ _)); exact BK119.out⟩, ⟨by repeat (first | (with_reducible first | exact HB.out | apply below_alloc | apply pw_below_drewN | apply below_drew1 | refine below_set ?_ GE119.out) | exact HB.out)⟩⟩
      case round =>
        clear H'
        try clear c1
        try clear p1
        try clear q1
        try clear hx1
        try clear qi1
        try clear c2
        try clear p2
        try clear c6
        try clear c6b0
        try clear c6b1
        try clear c7
        try clear c7b0
        try clear c7b1
        try clear c8
        try clear c8b0
        try clear c8b1
        try clear c9
        try clear c9b0
        try clear c9b1
        try clear c11
        try clear q11
        try clear p12
        try clear q12
        try clear hx12
        try clear qi12
        try clear hx120_0
        try clear p1
        try clear p12
        try clear p120
        try clear p2
        try clear q1
        try clear q11
        try clear q12
        try clear q120
        obtain ⟨x1_2, x2_2, rfl, HA, HK2, HO_1, BK119, HB⟩ := hrel
        cases gk with
        | zero => exact absurd HA.out (by simp [spec_decimal.l1])
        | succ k2 =>
          have H := HA.out
          clear HA
          simp only [spec_decimal.l1] at H
          by_cases c14 : (x1_2.length : Int) > 0
          · rw [if_pos c14] at H
            have c14b0 : decide (0 < (x1_2.length : Int)) = true := decide_eq_true c14
            have c14b1 : decide (0 < x1_2.length) = true := decide_eq_true (by omega)
            clear c14
            obtain ⟨ji15, hji15⟩ : ∃ j_ : Int, (wrap64 ((x1_2.length : Int) - 1)) = j_ := ⟨_, rfl⟩
            replace H : (if 0 ≤ (ji15) then (if (ji15) < (x1_2.length : Int) then (if (rd x1_2 (ji15)) = 0 then (if (ji15) ≤ (x1_2.length : Int) then (spec_decimal.l1 k2 a0 (x1_2.take ((ji15) : Int).toNat) (wrap64 (x2_2 + 1))) else (none)) else (if (x1_2.length : Int) = 0 then (some (false, ([] : List Int), 0)) else ((some (([] : List Int) : List Int)).bind fun y132 => (if y132.length + x1_2.length < 17592186044416 then (some (a0, (y132 ++ x1_2), x2_2)) else (none))))) else (none)) else (none)) = some (r1, r2, r3) := by first | (rw [hji15] at H; exact H) | (simp only [hji15] at H ⊢; exact H)
            have hji15w : (IntKind.i64.wrap ((x1_2.length : Int) - 1)) = ji15 := (i64_w _).trans hji15
            by_cases c16 : 0 ≤ (ji15)
            · rw [if_pos c16] at H
              have c16b0 : decide (0 ≤ (ji15)) = true := decide_eq_true c16
              clear c16
              by_cases c17 : (ji15) < (x1_2.length : Int)
              · rw [if_pos c17] at H
                have c17b0 : decide ((ji15) < (x1_2.length : Int)) = true := decide_eq_true c17
                clear c17
                by_cases c18 : (rd x1_2 (ji15)) = 0
                · rw [if_pos c18] at H
                  have c18b0 : ((rd x1_2 (ji15)) == 0) = true := beq_iff_eq.mpr c18
                  have c18b1 : ((rd x1_2 (ji15)) != 0) = false := bne_eq_false_iff_eq.mpr c18
                  clear c18
                  have c19b0 := eq_true (of_decide_eq_true (by first | (with_reducible assumption) | assumption) : 0 ≤ (ji15))
                  by_cases c20 : (ji15) ≤ (x1_2.length : Int)
                  · rw [if_pos c20] at H
                    have c20b0 := eq_true c20
                    have c20b1 : decide ((ji15) ≤ (x1_2.length : Int)) = true := decide_eq_true c20
                    clear c20
                    obtain ⟨y127, hy127⟩ : ∃ y_ : List Int, y_ = (x1_2.take ((ji15) : Int).toNat) := ⟨_, rfl⟩
                    replace H : (spec_decimal.l1 k2 a0 y127 (wrap64 (x2_2 + 1))) = some (r1, r2, r3) := by first | (rw [hy127]; with_reducible exact H) | (have H2_ := (Option.bind_some _ _).symm.trans H; rw [hy127]; with_reducible exact H2_) | (have H2_ := (Option.bind_some _ _).symm.trans H; with_reducible exact H2_) | with_reducible exact H | (rw [hy127]; exact H) | exact H
                    have Ny127 := Aside0.mk hy127
                    clear hy127
                    have H' := Aside0.mk H
                    clear H
                    obtain ⟨Ao21, co21, eo21⟩ := Kd.V_slice HO_1.out
                    subst eo21
                    have p126 : 0 ≤ ((ji15) : Int) := of_decide_eq_true (by first | (with_reducible assumption) | assumption)
                    have q126 : (ji15) < (x1_2.length : Int) := of_decide_eq_true (by first | (with_reducible assumption) | assumption)
                    obtain ⟨ad126, e126, hx126_0⟩ := Kd.at_int (Kd.V_reads' HO_1.out).2.2 (ji15) p126 q126
                    cases e126
                    replace p126 := eq_true p126
                    replace q126 := eq_true q126
                    have q22 : ((ji15) : Int) ≤ ((x1_2.length : Int) : Int) := of_decide_eq_true (by first | (with_reducible assumption) | assumption)
                    obtain ⟨i022, hi022, _, hsz22, _⟩ := info_parts info3
                    have hroom22 : x1_2.length ≤ co21 := (Kd.V_reads' HO_1.out).2.1
                    have hC22 : Kd.F (Kd.int .i64) _ _ (some ad126) x1_2.length x1_2 := (Kd.V_at (base := w.heap.size) HO_1.out).2.2
                    have hcut22 := cut_to (P := Try.prog) 24 3 .i64 Try.underlying24 hi022 (some ad126) x1_2.length co21 (ji15) (of_decide_eq_true (by first | (with_reducible assumption) | assumption)) q22 hroom22
                    have hr22 := Kd.F_take (m := ((ji15) : Int).toNat) hC22 (by omega)
                    have hy22 : y127.length = ((ji15) : Int).toNat := (by rw [Ny127.out, List.length_take]; omega)
                    rw [← Ny127.out] at hr22
                    rw [← hy22] at hcut22
                    have HO131 := Aside0.mk (show Kd.V (Kd.int .i64) 3 _ w.heap.size _ (.slice (some ad126) y127.length co21) y127 from Kd.V_mk (by omega) hr22)
                    have HC131 := Aside0.mk (show y127.length ≤ co21 from by omega)
                    clear hr22 hC22 hroom22 hi022 hsz22
                    have KY22 := Aside0.mk hy22
                    clear hy22
                    replace q22 := eq_true q22
                    go_wp2
                    go_roundg k2
                    case measure => have := HJ3.out; have := HK2.out; omega
                    case rel => exact ⟨(y127), (wrap64 (x2_2 + 1)), (by first | rfl | (simp; done) | (simp [*]; done)), H', ⟨by have := HJ3.out; have := HK2.out; omega⟩, ⟨by (with_reducible repeat (first | apply Kd.V_alloc | apply Kd.V_drewN | apply Kd.V_drew)); exact HO131.out⟩, ⟨by (with_reducible repeat (first | refine blk_drewN ?_ _ | refine blk_drew ?_ | refine blk_alloc ?_ _)); exact BK119.out⟩, ⟨by repeat (first | (with_reducible first | exact HB.out | apply below_alloc | apply pw_below_drewN | apply below_drew1 | refine below_set ?_ GE119.out) | exact HB.out)⟩⟩
                  · rw [if_neg c20] at H
                    exact absurd H (by simp)
                · rw [if_neg c18] at H
                  have c18b0 : ((rd x1_2 (ji15)) == 0) = false := beq_eq_false_iff_ne.mpr c18
                  have c18b1 : ((rd x1_2 (ji15)) != 0) = true := bne_iff_ne.mpr c18
                  by_cases c23 : (x1_2.length : Int) = 0
                  · rw [if_pos c23] at H
                    have c23b0 : ((x1_2.length : Int) == 0) = true := beq_iff_eq.mpr c23
                    have c23b1 : ((x1_2.length : Int) != 0) = false := bne_eq_false_iff_eq.mpr c23
                    clear c23
                    simp only [Option.some.injEq, Prod.mk.injEq] at H
                    obtain ⟨rfl, rfl, rfl⟩ := H
                    obtain ⟨Ao24, co24, eo24⟩ := Kd.V_slice HO_1.out
                    subst eo24
                    have p126 : 0 ≤ ((ji15) : Int) := of_decide_eq_true (by first | (with_reducible assumption) | assumption)
                    have q126 : (ji15) < (x1_2.length : Int) := of_decide_eq_true (by first | (with_reducible assumption) | assumption)
                    obtain ⟨ad126, e126, hx126_0⟩ := Kd.at_int (Kd.V_reads' HO_1.out).2.2 (ji15) p126 q126
                    cases e126
                    replace p126 := eq_true p126
                    replace q126 := eq_true q126
                    have hcz25_0 : wr.cell? ⟨gb119, 0, none⟩ = some (.bool false) := (blk_cell BK119.out 0).trans rfl
                    have hcz25_1 : wr.cell? ⟨gb119, 1, none⟩ = some (.slice none 0 0) := (blk_cell BK119.out 1).trans rfl
                    have hcz25_2 : wr.cell? ⟨gb119, 2, none⟩ = some (.int .i64 0) := (blk_cell BK119.out 2).trans rfl
                    have hfz25_0 := blk_frozen BK119.out 0
                    have hfz25_1 := blk_frozen BK119.out 1
                    have hfz25_2 := blk_frozen BK119.out 2
                    go_wp2
                    refine bodyPost_ret (results_cell_row rfl _ _ gb119 26 #[.bool false, .slice none 0 0, .int .i64 0] (0, 0) _ rfl (by (with_reducible repeat (first | refine blk_drewN ?_ _ | refine blk_drew ?_ | refine blk_alloc ?_ _)); refine blk_put (cs := #[.bool false, .slice none 0 0, .int .i64 0]) ?_ 2 _ rfl; (with_reducible repeat (first | refine blk_drewN ?_ _ | refine blk_drew ?_ | refine blk_alloc ?_ _)); refine blk_put (cs := #[.bool false, .slice none 0 0, .int .i64 0]) ?_ 1 _ rfl; (with_reducible repeat (first | refine blk_drewN ?_ _ | refine blk_drew ?_ | refine blk_alloc ?_ _)); refine blk_put (cs := #[.bool false, .slice none 0 0, .int .i64 0]) ?_ 0 _ rfl; (with_reducible repeat (first | refine blk_drewN ?_ _ | refine blk_drew ?_ | refine blk_alloc ?_ _)); exact BK119.out) Try.underlying26 rfl (by kernel_rfl)) rfl ?_
                    exact ⟨_, by first | rfl | (simp [errW_none, errW_some] <;> rfl) | (simp only [← hji15]; first | rfl | (simp [errW_none, errW_some] <;> rfl)) | (simp [*, errW_none, errW_some] <;> rfl), by first | exact Kd.R_nil _ _ _ _ _ | exact Kd.N_nil _ _ _ _ _ | exact Kd.V_nil _ _ _ _ _ | exact Kd.Q_nil _ _ _ _ _ | exact Kd.S_nil _ _ _ _ _, by repeat (first | (with_reducible first | exact HB.out | apply below_alloc | apply pw_below_drewN | apply below_drew1 | refine below_set ?_ GE119.out) | exact HB.out)⟩
                  · rw [if_neg c23] at H
                    have c23b0 : ((x1_2.length : Int) == 0) = false := beq_eq_false_iff_ne.mpr c23
                    have c23b1 : ((x1_2.length : Int) != 0) = true := bne_iff_ne.mpr c23
                    have c23b2 : ¬ (x1_2 = []) := fun h_ => c23 (by rw [h_]; rfl)
                    obtain ⟨y132, hy132⟩ : ∃ y_ : List Int, y_ = (([] : List Int)) := ⟨_, rfl⟩
                    replace H : (if y132.length + x1_2.length < 17592186044416 then (some (a0, (y132 ++ x1_2), x2_2)) else (none)) = some (r1, r2, r3) := by first | (rw [hy132]; with_reducible exact H) | (have H2_ := (Option.bind_some _ _).symm.trans H; rw [hy132]; with_reducible exact H2_) | (have H2_ := (Option.bind_some _ _).symm.trans H; with_reducible exact H2_) | with_reducible exact H | (rw [hy132]; exact H) | exact H
                    have Ny132 := Aside0.mk hy132
                    clear hy132
                    by_cases c26 : y132.length + x1_2.length < 17592186044416
                    · rw [if_pos c26] at H
                      have LMc26 := Aside0.mk c26
                      clear c26
                      obtain ⟨y135, hy135⟩ : ∃ y_ : List Int, y_ = (y132 ++ x1_2) := ⟨_, rfl⟩
                      replace H : (some (a0, y135, x2_2)) = some (r1, r2, r3) := by first | (rw [hy135]; with_reducible exact H) | (have H2_ := (Option.bind_some _ _).symm.trans H; rw [hy135]; with_reducible exact H2_) | (have H2_ := (Option.bind_some _ _).symm.trans H; with_reducible exact H2_) | with_reducible exact H | (rw [hy135]; exact H) | exact H
                      have Ny135 := Aside0.mk hy135
                      clear hy135
                      simp only [Option.some.injEq, Prod.mk.injEq] at H
                      obtain ⟨rfl, rfl, rfl⟩ := H
                      obtain ⟨Ao27, co27, eo27⟩ := Kd.V_slice HO_1.out
                      subst eo27
                      have p126 : 0 ≤ ((ji15) : Int) := of_decide_eq_true (by first | (with_reducible assumption) | assumption)
                      have q126 : (ji15) < (x1_2.length : Int) := of_decide_eq_true (by first | (with_reducible assumption) | assumption)
                      obtain ⟨ad126, e126, hx126_0⟩ := Kd.at_int (Kd.V_reads' HO_1.out).2.2 (ji15) p126 q126
                      cases e126
                      replace p126 := eq_true p126
                      replace q126 := eq_true q126
                      go_wp2_with (first | ((with_reducible refine gate_dst (N := 42) rfl ?_); (try (refine gate_guard (by rfl) ?_; dsimp only)); refine Kd.R_lit (Kd.int .i64) _ 3 ?hg (N := 42) ?hd (xs := ([] : List Int)) (inner := []) (ok := fun _ => True) (okp := fun _ => True) ?hr ?hp (fun _ hk => hk) trivial (Below.refl _ _) (Nat.le_refl _) (by simp) ?_; (case hd => rfl); (case hg => rfl); (case hr => first | (go_simp; done) | (go_simp; rfl)); (case hp => exact (Reps.none _ _)); intro v133 w28 ho29 hb hg_ hnew_; clear hg_ hnew_; (first | rw [← Ny132.out] at ho29 | (simp only [Int.reduceToNat] at ho29; rw [← Ny132.out] at ho29)); have n0_ := Aside0.mk (Kd.V_elder' (by (with_reducible repeat (first | apply Kd.V_alloc | apply Kd.V_drewN | apply Kd.V_drew)); exact HO_1.out) (Kd.R_base ho29) hb); have n1_ := Aside0.mk (Kd.R_lower (Kd.R_newM (M := fun k_ => (w.heap.size ≤ k_)) ho29 (below_size (by repeat (first | (with_reducible first | exact HB.out | apply below_alloc | apply pw_below_drewN | apply below_drew1 | refine below_set ?_ GE119.out) | exact HB.out))) (fun k_ h_ => h_)) (below_size (by repeat (first | (with_reducible first | exact HB.out | apply below_alloc | apply pw_below_drewN | apply below_drew1 | refine below_set ?_ GE119.out) | exact HB.out)))); have n2_ := Aside0.mk (blk_below (g := gb119) (o := .cells #[.bool false, .slice none 0 0, .int .i64 0] 26 (0, 0)) (by (with_reducible repeat (first | refine blk_drewN ?_ _ | refine blk_drew ?_ | refine blk_alloc ?_ _)); exact BK119.out) hb); have n3_ := Aside0.mk (below_step (by repeat (first | (with_reducible first | exact HB.out | apply below_alloc | apply pw_below_drewN | apply below_drew1 | refine below_set ?_ GE119.out) | exact HB.out)) hb); clear HO_1; clear BK119; clear HB; have HO_1 := n0_; have HO134 := n1_; have BK119 := n2_; have HB := n3_; clear n0_ n1_ n2_ n3_; clear hb ho29) | ((with_reducible refine gate_builtin (b := .append) (xs := #[.tmp 42, .tmp 43]) rfl ?_); (try (refine gate_guard (by rfl) ?_; dsimp only)); at_builtin; refine Kd.R_append_rows (Kd.int .i64) (w0 := w) w.heap.size rfl (.tmp 42) (.tmp 43) 24 3 (.int .i64 0) 8 rfl Try.underlying24 info3 rfl (by decide) (by omega) v133 y132 x1_2 _ _ _ (fun k_ => (w.heap.size ≤ k_)) (fun _ => False) rfl rfl ?aO ?aR (fun _ _ h => h) (fun _ h => h.elim) ?aF ?aB ?aS ?aL ?_; (case aR => repeat (first | exact (Kd.V_reads' HO_1.out).2.2 | (with_reducible refine Kd.C_alloc ?_ _) | (with_reducible refine Kd.C_drewN ?_ _) | (with_reducible refine Kd.C_drew ?_))); (case aB => exact (by repeat (first | (with_reducible first | exact HB.out | apply below_alloc | apply pw_below_drewN | apply below_drew1 | refine below_set ?_ GE119.out) | exact HB.out))); (case aF => exact (fun k_ hk => (Nat.le_trans (below_size (by repeat (first | (with_reducible first | exact HB.out | apply below_alloc | apply pw_below_drewN | apply below_drew1 | refine below_set ?_ GE119.out) | exact HB.out))) hk))); (case aO => exact (by (with_reducible repeat (first | apply Kd.R_alloc | apply Kd.R_drewN | apply Kd.R_drew)); exact Kd.R_mono HO134.out (fun _ hk => hk.1))); (case aS => exact (below_size (by repeat (first | (with_reducible first | exact HB.out | apply below_alloc | apply pw_below_drewN | apply below_drew1 | refine below_set ?_ GE119.out) | exact HB.out)))); (case aL => have := LMc26.out; omega); intro v136 w30 ho hb hg hat; rw [← Ny135.out] at ho; have n0_ := Aside0.mk (Kd.V_afterv (ok := (fun k_ => (P1_ k_ ∨ w.heap.size ≤ k_) ∧ k_ ≠ gb119)) (by (with_reducible repeat (first | apply Kd.V_alloc | apply Kd.V_drewN | apply Kd.V_drew)); exact HO_1.out) hg hat); have n1_ := Aside0.mk (blk_grown (g := gb119) (o := .cells #[.bool false, .slice none 0 0, .int .i64 0] 26 (0, 0)) (by (with_reducible repeat (first | refine blk_drewN ?_ _ | refine blk_drew ?_ | refine blk_alloc ?_ _)); exact BK119.out) hg (Kd.R_ne HO134.out BK119.out (by decide))); have n2_ := Aside0.mk (hb); have n3_ := Aside0.mk (ho); clear HO_1; clear BK119; clear HB; clear HO134; have HO_1 := n0_; have BK119 := n1_; have HB := n2_; have HO137 := n3_; clear n0_ n1_ n2_ n3_; clear ho hb hg hat; obtain ⟨Ao31, co31, eo31⟩ := Kd.R_slice HO137.out; subst eo31; have hcz32_0 : w30.cell? ⟨gb119, 0, none⟩ = some (.bool false) := (blk_cell BK119.out 0).trans rfl; have hcz32_1 : w30.cell? ⟨gb119, 1, none⟩ = some (.slice none 0 0) := (blk_cell BK119.out 1).trans rfl; have hcz32_2 : w30.cell? ⟨gb119, 2, none⟩ = some (.int .i64 0) := (blk_cell BK119.out 2).trans rfl; have hfz32_0 := blk_frozen BK119.out 0; have hfz32_1 := blk_frozen BK119.out 1; have hfz32_2 := blk_frozen BK119.out 2))
                      refine bodyPost_ret (results_cell_row rfl _ _ gb119 26 #[.bool a0, .slice Ao31 y135.length co31, .int .i64 x2_2] (0, 0) _ rfl (by (with_reducible repeat (first | refine blk_drewN ?_ _ | refine blk_drew ?_ | refine blk_alloc ?_ _)); refine blk_put (cs := #[.bool a0, .slice Ao31 y135.length co31, .int .i64 0]) ?_ 2 _ rfl; (with_reducible repeat (first | refine blk_drewN ?_ _ | refine blk_drew ?_ | refine blk_alloc ?_ _)); refine blk_put (cs := #[.bool a0, .slice none 0 0, .int .i64 0]) ?_ 1 _ rfl; (with_reducible repeat (first | refine blk_drewN ?_ _ | refine blk_drew ?_ | refine blk_alloc ?_ _)); refine blk_put (cs := #[.bool false, .slice none 0 0, .int .i64 0]) ?_ 0 _ rfl; (with_reducible repeat (first | refine blk_drewN ?_ _ | refine blk_drew ?_ | refine blk_alloc ?_ _)); exact BK119.out) Try.underlying26 rfl (by kernel_rfl)) rfl ?_
                      exact ⟨_, by first | rfl | (simp [errW_none, errW_some] <;> rfl) | (simp only [← hji15]; first | rfl | (simp [errW_none, errW_some] <;> rfl)) | (simp [*, errW_none, errW_some] <;> rfl), by (with_reducible repeat (first | apply Kd.R_alloc | apply Kd.R_drewN | apply Kd.R_drew)); exact Kd.R_mono (Kd.R_far (p := ⟨gb119, 2, none⟩) (Kd.R_far (p := ⟨gb119, 1, none⟩) (Kd.R_far (p := ⟨gb119, 0, none⟩) (Kd.R_types HO137.out BK119.out (by decide)) (fun _ hk => hk.2) (.bool a0)) (fun _ hk => hk.2) (.slice Ao31 y135.length co31)) (fun _ hk => hk.2) (.int .i64 x2_2)) (fun _ hk => hk.1), by repeat (first | (with_reducible first | exact HB.out | apply below_alloc | apply pw_below_drewN | apply below_drew1 | refine below_set ?_ GE119.out) | exact HB.out)⟩
                    · rw [if_neg c26] at H
                      exact absurd H (by simp)
              · rw [if_neg c17] at H
                exact absurd H (by simp)
            · rw [if_neg c16] at H
              exact absurd H (by simp)
          · rw [if_neg c14] at H
            have c14b0 : decide (0 < (x1_2.length : Int)) = false := decide_eq_false c14
            have c14b1 : decide (0 < x1_2.length) = false := decide_eq_false (by omega)
            clear c14
            by_cases c33 : (x1_2.length : Int) = 0
            · rw [if_pos c33] at H
              have c33b0 : ((x1_2.length : Int) == 0) = true := beq_iff_eq.mpr c33
              have c33b1 : ((x1_2.length : Int) != 0) = false := bne_eq_false_iff_eq.mpr c33
              clear c33
              simp only [Option.some.injEq, Prod.mk.injEq] at H
              obtain ⟨rfl, rfl, rfl⟩ := H
              obtain ⟨Ao34, co34, eo34⟩ := Kd.V_slice HO_1.out
              subst eo34
              have hcz35_0 : wr.cell? ⟨gb119, 0, none⟩ = some (.bool false) := (blk_cell BK119.out 0).trans rfl
              have hcz35_1 : wr.cell? ⟨gb119, 1, none⟩ = some (.slice none 0 0) := (blk_cell BK119.out 1).trans rfl
              have hcz35_2 : wr.cell? ⟨gb119, 2, none⟩ = some (.int .i64 0) := (blk_cell BK119.out 2).trans rfl
              have hfz35_0 := blk_frozen BK119.out 0
              have hfz35_1 := blk_frozen BK119.out 1
              have hfz35_2 := blk_frozen BK119.out 2
              go_wp2
              refine bodyPost_ret (results_cell_row rfl _ _ gb119 26 #[.bool false, .slice none 0 0, .int .i64 0] (0, 0) _ rfl (by (with_reducible repeat (first | refine blk_drewN ?_ _ | refine blk_drew ?_ | refine blk_alloc ?_ _)); refine blk_put (cs := #[.bool false, .slice none 0 0, .int .i64 0]) ?_ 2 _ rfl; (with_reducible repeat (first | refine blk_drewN ?_ _ | refine blk_drew ?_ | refine blk_alloc ?_ _)); refine blk_put (cs := #[.bool false, .slice none 0 0, .int .i64 0]) ?_ 1 _ rfl; (with_reducible repeat (first | refine blk_drewN ?_ _ | refine blk_drew ?_ | refine blk_alloc ?_ _)); refine blk_put (cs := #[.bool false, .slice none 0 0, .int .i64 0]) ?_ 0 _ rfl; (with_reducible repeat (first | refine blk_drewN ?_ _ | refine blk_drew ?_ | refine blk_alloc ?_ _)); exact BK119.out) Try.underlying26 rfl (by kernel_rfl)) rfl ?_
              exact ⟨_, by first | rfl | (simp [errW_none, errW_some] <;> rfl) | (simp [*, errW_none, errW_some] <;> rfl), by first | exact Kd.R_nil _ _ _ _ _ | exact Kd.N_nil _ _ _ _ _ | exact Kd.V_nil _ _ _ _ _ | exact Kd.Q_nil _ _ _ _ _ | exact Kd.S_nil _ _ _ _ _, by repeat (first | (with_reducible first | exact HB.out | apply below_alloc | apply pw_below_drewN | apply below_drew1 | refine below_set ?_ GE119.out) | exact HB.out)⟩
            · rw [if_neg c33] at H
              have c33b0 : ((x1_2.length : Int) == 0) = false := beq_eq_false_iff_ne.mpr c33
              have c33b1 : ((x1_2.length : Int) != 0) = true := bne_iff_ne.mpr c33
              have c33b2 : ¬ (x1_2 = []) := fun h_ => c33 (by rw [h_]; rfl)
              obtain ⟨y138, hy138⟩ : ∃ y_ : List Int, y_ = (([] : List Int)) := ⟨_, rfl⟩
              replace H : (if y138.length + x1_2.length < 17592186044416 then (some (a0, (y138 ++ x1_2), x2_2)) else (none)) = some (r1, r2, r3) := by first | (rw [hy138]; with_reducible exact H) | (have H2_ := (Option.bind_some _ _).symm.trans H; rw [hy138]; with_reducible exact H2_) | (have H2_ := (Option.bind_some _ _).symm.trans H; with_reducible exact H2_) | with_reducible exact H | (rw [hy138]; exact H) | exact H
              have Ny138 := Aside0.mk hy138
              clear hy138
              by_cases c36 : y138.length + x1_2.length < 17592186044416
              · rw [if_pos c36] at H
                have LMc36 := Aside0.mk c36
                clear c36
                obtain ⟨y141, hy141⟩ : ∃ y_ : List Int, y_ = (y138 ++ x1_2) := ⟨_, rfl⟩
                replace H : (some (a0, y141, x2_2)) = some (r1, r2, r3) := by first | (rw [hy141]; with_reducible exact H) | (have H2_ := (Option.bind_some _ _).symm.trans H; rw [hy141]; with_reducible exact H2_) | (have H2_ := (Option.bind_some _ _).symm.trans H; with_reducible exact H2_) | with_reducible exact H | (rw [hy141]; exact H) | exact H
                have Ny141 := Aside0.mk hy141
                clear hy141
                simp only [Option.some.injEq, Prod.mk.injEq] at H
                obtain ⟨rfl, rfl, rfl⟩ := H
                obtain ⟨Ao37, co37, eo37⟩ := Kd.V_slice HO_1.out
                subst eo37
                go_wp2_with (first | ((with_reducible refine gate_dst (N := 42) rfl ?_); (try (refine gate_guard (by rfl) ?_; dsimp only)); refine Kd.R_lit (Kd.int .i64) _ 3 ?hg (N := 42) ?hd (xs := ([] : List Int)) (inner := []) (ok := fun _ => True) (okp := fun _ => True) ?hr ?hp (fun _ hk => hk) trivial (Below.refl _ _) (Nat.le_refl _) (by simp) ?_; (case hd => rfl); (case hg => rfl); (case hr => first | (go_simp; done) | (go_simp; rfl)); (case hp => exact (Reps.none _ _)); intro v139 w38 ho39 hb hg_ hnew_; clear hg_ hnew_; (first | rw [← Ny138.out] at ho39 | (simp only [Int.reduceToNat] at ho39; rw [← Ny138.out] at ho39)); have n0_ := Aside0.mk (Kd.V_elder' (by (with_reducible repeat (first | apply Kd.V_alloc | apply Kd.V_drewN | apply Kd.V_drew)); exact HO_1.out) (Kd.R_base ho39) hb); have n1_ := Aside0.mk (Kd.R_lower (Kd.R_newM (M := fun k_ => (w.heap.size ≤ k_)) ho39 (below_size (by repeat (first | (with_reducible first | exact HB.out | apply below_alloc | apply pw_below_drewN | apply below_drew1 | refine below_set ?_ GE119.out) | exact HB.out))) (fun k_ h_ => h_)) (below_size (by repeat (first | (with_reducible first | exact HB.out | apply below_alloc | apply pw_below_drewN | apply below_drew1 | refine below_set ?_ GE119.out) | exact HB.out)))); have n2_ := Aside0.mk (blk_below (g := gb119) (o := .cells #[.bool false, .slice none 0 0, .int .i64 0] 26 (0, 0)) (by (with_reducible repeat (first | refine blk_drewN ?_ _ | refine blk_drew ?_ | refine blk_alloc ?_ _)); exact BK119.out) hb); have n3_ := Aside0.mk (below_step (by repeat (first | (with_reducible first | exact HB.out | apply below_alloc | apply pw_below_drewN | apply below_drew1 | refine below_set ?_ GE119.out) | exact HB.out)) hb); clear HO_1; clear BK119; clear HB; have HO_1 := n0_; have HO140 := n1_; have BK119 := n2_; have HB := n3_; clear n0_ n1_ n2_ n3_; clear hb ho39) | ((with_reducible refine gate_builtin (b := .append) (xs := #[.tmp 42, .tmp 43]) rfl ?_); (try (refine gate_guard (by rfl) ?_; dsimp only)); at_builtin; refine Kd.R_append_rows (Kd.int .i64) (w0 := w) w.heap.size rfl (.tmp 42) (.tmp 43) 24 3 (.int .i64 0) 8 rfl Try.underlying24 info3 rfl (by decide) (by omega) v139 y138 x1_2 _ _ _ (fun k_ => (w.heap.size ≤ k_)) (fun _ => False) rfl rfl ?aO ?aR (fun _ _ h => h) (fun _ h => h.elim) ?aF ?aB ?aS ?aL ?_; (case aR => repeat (first | exact (Kd.V_reads' HO_1.out).2.2 | (with_reducible refine Kd.C_alloc ?_ _) | (with_reducible refine Kd.C_drewN ?_ _) | (with_reducible refine Kd.C_drew ?_))); (case aB => exact (by repeat (first | (with_reducible first | exact HB.out | apply below_alloc | apply pw_below_drewN | apply below_drew1 | refine below_set ?_ GE119.out) | exact HB.out))); (case aF => exact (fun k_ hk => (Nat.le_trans (below_size (by repeat (first | (with_reducible first | exact HB.out | apply below_alloc | apply pw_below_drewN | apply below_drew1 | refine below_set ?_ GE119.out) | exact HB.out))) hk))); (case aO => exact (by (with_reducible repeat (first | apply Kd.R_alloc | apply Kd.R_drewN | apply Kd.R_drew)); exact Kd.R_mono HO140.out (fun _ hk => hk.1))); (case aS => exact (below_size (by repeat (first | (with_reducible first | exact HB.out | apply below_alloc | apply pw_below_drewN | apply below_drew1 | refine below_set ?_ GE119.out) | exact HB.out)))); (case aL => have := LMc36.out; omega); intro v142 w40 ho hb hg hat; rw [← Ny141.out] at ho; have n0_ := Aside0.mk (Kd.V_afterv (ok := (fun k_ => (P1_ k_ ∨ w.heap.size ≤ k_) ∧ k_ ≠ gb119)) (by (with_reducible repeat (first | apply Kd.V_alloc | apply Kd.V_drewN | apply Kd.V_drew)); exact HO_1.out) hg hat); have n1_ := Aside0.mk (blk_grown (g := gb119) (o := .cells #[.bool false, .slice none 0 0, .int .i64 0] 26 (0, 0)) (by (with_reducible repeat (first | refine blk_drewN ?_ _ | refine blk_drew ?_ | refine blk_alloc ?_ _)); exact BK119.out) hg (Kd.R_ne HO140.out BK119.out (by decide))); have n2_ := Aside0.mk (hb); have n3_ := Aside0.mk (ho); clear HO_1; clear BK119; clear HB; clear HO140; have HO_1 := n0_; have BK119 := n1_; have HB := n2_; have HO143 := n3_; clear n0_ n1_ n2_ n3_; clear ho hb hg hat; obtain ⟨Ao41, co41, eo41⟩ := Kd.R_slice HO143.out; subst eo41; have hcz42_0 : w40.cell? ⟨gb119, 0, none⟩ = some (.bool false) := (blk_cell BK119.out 0).trans rfl; have hcz42_1 : w40.cell? ⟨gb119, 1, none⟩ = some (.slice none 0 0) := (blk_cell BK119.out 1).trans rfl; have hcz42_2 : w40.cell? ⟨gb119, 2, none⟩ = some (.int .i64 0) := (blk_cell BK119.out 2).trans rfl; have hfz42_0 := blk_frozen BK119.out 0; have hfz42_1 := blk_frozen BK119.out 1; have hfz42_2 := blk_frozen BK119.out 2))
                refine bodyPost_ret (results_cell_row rfl _ _ gb119 26 #[.bool a0, .slice Ao41 y141.length co41, .int .i64 x2_2] (0, 0) _ rfl (by (with_reducible repeat (first | refine blk_drewN ?_ _ | refine blk_drew ?_ | refine blk_alloc ?_ _)); refine blk_put (cs := #[.bool a0, .slice Ao41 y141.length co41, .int .i64 0]) ?_ 2 _ rfl; (with_reducible repeat (first | refine blk_drewN ?_ _ | refine blk_drew ?_ | refine blk_alloc ?_ _)); refine blk_put (cs := #[.bool a0, .slice none 0 0, .int .i64 0]) ?_ 1 _ rfl; (with_reducible repeat (first | refine blk_drewN ?_ _ | refine blk_drew ?_ | refine blk_alloc ?_ _)); refine blk_put (cs := #[.bool false, .slice none 0 0, .int .i64 0]) ?_ 0 _ rfl; (with_reducible repeat (first | refine blk_drewN ?_ _ | refine blk_drew ?_ | refine blk_alloc ?_ _)); exact BK119.out) Try.underlying26 rfl (by kernel_rfl)) rfl ?_
                exact ⟨_, by first | rfl | (simp [errW_none, errW_some] <;> rfl) | (simp [*, errW_none, errW_some] <;> rfl), by (with_reducible repeat (first | apply Kd.R_alloc | apply Kd.R_drewN | apply Kd.R_drew)); exact Kd.R_mono (Kd.R_far (p := ⟨gb119, 2, none⟩) (Kd.R_far (p := ⟨gb119, 1, none⟩) (Kd.R_far (p := ⟨gb119, 0, none⟩) (Kd.R_types HO143.out BK119.out (by decide)) (fun _ hk => hk.2) (.bool a0)) (fun _ hk => hk.2) (.slice Ao41 y141.length co41)) (fun _ hk => hk.2) (.int .i64 x2_2)) (fun _ hk => hk.1), by repeat (first | (with_reducible first | exact HB.out | apply below_alloc | apply pw_below_drewN | apply below_drew1 | refine below_set ?_ GE119.out) | exact HB.out)⟩
              · rw [if_neg c36] at H
                exact absurd H (by simp)

end Go.Proofs.Ytgidpggooclebaa.PFnScaleDowns
