/- Functions of the program as plain Lean functions, and that the machine's calls do what these say: written for this claim by wip/myprint.py over the kit's print.py. -/
import Derived.Test.YtlhbmifffmegeaaPFnLabelLexx0
import Derived.Test.YtlhbmifffmegeaaPFnLabelLexx1
import Derived.Test.YtlhbmifffmegeaaPFnLabelLexx3
import Derived.Test.YtlhbmifffmegeaaPFnLabelLexx4
namespace Go.Proofs.Ytlhbmifffmegeaa.PFnLabelLex
open Go.RowKit Go.Proofs.YtlhbmifffmegeaaW.PrintWords Go.Proofs.YtlhbmifffmegeaaW.PrintLast Go.Proofs.YtlhbmifffmegeaaW.PrintMore
attribute [local go_sem] max2_int min2_int max_two min_two max_three min_three max_four min_four   -- for this text's walks alone
set_option linter.unusedVariables false
set_option linter.unusedSimpArgs false

attribute [local go_sem high] eqA25
/-! ### laws_FnLabelLex: function 3 -/
mutual
def laws_FnLabelLex.l0 : Nat → ByteArray → Int → Option (Bool)
  | 0, _, _ => none
  | k + 1, x0, x3 => if x3 < (x0.size : Int) then (if 0 ≤ x3 then (if (bt x0 x3) = 0 then (some true) else (laws_FnLabelLex.l0 k x0 (wrap64 (x3 + 1)))) else (none)) else ((impl_LabelLex.f k x0).bind fun t204 => ((spec_Pieces.f k x0).bind fun t207 => (if (t204.length : Int) = (wrap64 ((t207.length : Int) + 1)) then (if 0 ≤ (t207.length : Int) then (if (t207.length : Int) < (t204.length : Int) then (laws_FnLabelLex.j1 k t204 t207 (((rd_T25 t204 (t207.length : Int)).f0) != 1)) else (none)) else (none)) else (laws_FnLabelLex.j1 k t204 t207 true))))
def laws_FnLabelLex.j1 : Nat → List (S25) → List (S25) → Bool → Option (Bool)
  | 0, _, _, _ => none
  | k + 1, x4, x5, x38 => if x38 = true then (some false) else (laws_FnLabelLex.l1 k x4 x5 0)
def laws_FnLabelLex.l1 : Nat → List (S25) → List (S25) → Int → Option (Bool)
  | 0, _, _, _ => none
  | k + 1, x4, x5, x6 => if x6 < (x5.length : Int) then (if 0 ≤ x6 then (if x6 < (x4.length : Int) then (if (!(((rd_T25 x4 x6).f0) == ((rd_T25 x5 x6).f0)) || (!((((rd_T25 x4 x6).f1).toList) == (((rd_T25 x5 x6).f1).toList)))) = true then (some false) else (laws_FnLabelLex.l1 k x4 x5 (wrap64 (x6 + 1)))) else (none)) else (none)) else (some true)
end
def laws_FnLabelLex.f (k : Nat) (a0 : ByteArray) : Option (Bool) := if (a0.size : Int) > 2147483647 then (some true) else (laws_FnLabelLex.l0 k a0 0)
theorem laws_FnLabelLex.mono_l : ∀ k, (∀ y0 y1, LeO (laws_FnLabelLex.l0 k y0 y1) (laws_FnLabelLex.l0 (k + 1) y0 y1)) ∧ (∀ y0 y1 y2, LeO (laws_FnLabelLex.j1 k y0 y1 y2) (laws_FnLabelLex.j1 (k + 1) y0 y1 y2)) ∧ (∀ y0 y1 y2, LeO (laws_FnLabelLex.l1 k y0 y1 y2) (laws_FnLabelLex.l1 (k + 1) y0 y1 y2))
  | 0 => ⟨fun _ _ r h => by simp [laws_FnLabelLex.l0] at h, fun _ _ _ r h => by simp [laws_FnLabelLex.j1] at h, fun _ _ _ r h => by simp [laws_FnLabelLex.l1] at h⟩
  | k + 1 => by
    obtain ⟨ih0, ih1, ih2⟩ := laws_FnLabelLex.mono_l k
    refine ⟨?_, ?_, ?_⟩
    · intro y0 y1
      unfold laws_FnLabelLex.l0
      repeat' first
      | (with_reducible exact ih0 _ _)
      | (with_reducible exact ih1 _ _ _)
      | (with_reducible exact ih2 _ _ _)
      | (with_reducible exact impl_LabelLex.mono _ _)
      | (with_reducible exact spec_Pieces.mono _ _)
      | (with_reducible exact LeO.refl _)
      | (with_reducible exact LeO.none _)
      | (with_reducible refine LeO.ite ?_ ?_)
      | (with_reducible refine LeO.bind ?_ (fun _ => ?_))
      | exact ih0 _ _
      | exact ih1 _ _ _
      | exact ih2 _ _ _
      | exact impl_LabelLex.mono _ _
      | exact spec_Pieces.mono _ _
      | exact LeO.none _
      | refine LeO.ite ?_ ?_
      | refine LeO.bind ?_ (fun _ => ?_)
    · intro y0 y1 y2
      unfold laws_FnLabelLex.j1
      repeat' first
      | (with_reducible exact ih0 _ _)
      | (with_reducible exact ih1 _ _ _)
      | (with_reducible exact ih2 _ _ _)
      | (with_reducible exact impl_LabelLex.mono _ _)
      | (with_reducible exact spec_Pieces.mono _ _)
      | (with_reducible exact LeO.refl _)
      | (with_reducible exact LeO.none _)
      | (with_reducible refine LeO.ite ?_ ?_)
      | (with_reducible refine LeO.bind ?_ (fun _ => ?_))
      | exact ih0 _ _
      | exact ih1 _ _ _
      | exact ih2 _ _ _
      | exact impl_LabelLex.mono _ _
      | exact spec_Pieces.mono _ _
      | exact LeO.none _
      | refine LeO.ite ?_ ?_
      | refine LeO.bind ?_ (fun _ => ?_)
    · intro y0 y1 y2
      unfold laws_FnLabelLex.l1
      repeat' first
      | (with_reducible exact ih0 _ _)
      | (with_reducible exact ih1 _ _ _)
      | (with_reducible exact ih2 _ _ _)
      | (with_reducible exact impl_LabelLex.mono _ _)
      | (with_reducible exact spec_Pieces.mono _ _)
      | (with_reducible exact LeO.refl _)
      | (with_reducible exact LeO.none _)
      | (with_reducible refine LeO.ite ?_ ?_)
      | (with_reducible refine LeO.bind ?_ (fun _ => ?_))
      | exact ih0 _ _
      | exact ih1 _ _ _
      | exact ih2 _ _ _
      | exact impl_LabelLex.mono _ _
      | exact spec_Pieces.mono _ _
      | exact LeO.none _
      | refine LeO.ite ?_ ?_
      | refine LeO.bind ?_ (fun _ => ?_)
theorem laws_FnLabelLex.mono : ∀ a0 k, LeO (laws_FnLabelLex.f k a0) (laws_FnLabelLex.f (k + 1) a0) := by
  intro a0 k
  obtain ⟨ih0, ih1, ih2⟩ := laws_FnLabelLex.mono_l k
  unfold laws_FnLabelLex.f
  repeat' first
      | (with_reducible exact ih0 _ _)
      | (with_reducible exact ih1 _ _ _)
      | (with_reducible exact ih2 _ _ _)
      | (with_reducible exact impl_LabelLex.mono _ _)
      | (with_reducible exact spec_Pieces.mono _ _)
      | (with_reducible exact LeO.refl _)
      | (with_reducible exact LeO.none _)
      | (with_reducible refine LeO.ite ?_ ?_)
      | (with_reducible refine LeO.bind ?_ (fun _ => ?_))
      | exact ih0 _ _
      | exact ih1 _ _ _
      | exact ih2 _ _ _
      | exact impl_LabelLex.mono _ _
      | exact spec_Pieces.mono _ _
      | exact LeO.none _
      | refine LeO.ite ?_ ?_
      | refine LeO.bind ?_ (fun _ => ?_)
set_option maxHeartbeats 8000000 in
set_option maxRecDepth 100000 in
theorem laws_FnLabelLex.calls (k : Nat) (a0 : ByteArray) (r : Bool) (w : World) (h : laws_FnLabelLex.f k a0 = some r) :
    Calls Try.prog 3 #[.string a0] w fun e w' => e = .returned (.bool r) ∧ Below w.heap.size w w' := by
  have hu25 := Try.underlying25
  have HB := Aside0.mk (Below.refl w.heap.size w)
  have H : (if (a0.size : Int) > 2147483647 then (some true) else (laws_FnLabelLex.l0 k a0 0)) = some r := h
  clear h
  by_cases c2 : (a0.size : Int) > 2147483647
  · rw [if_pos c2] at H
    have c2b0 : decide (2147483647 < (a0.size : Int)) = true := decide_eq_true c2
    have c2b1 : decide (2147483647 < a0.size) = true := decide_eq_true (by omega)
    clear c2
    obtain rfl := Option.some.inj H
    go_enter Try.func3, Try.ntmps3
    go_wp2
    repeat (go_quiet (fail); try go_wp2)
    go_ret
    exact ⟨by first | rfl | (simp [errW_none, errW_some] <;> rfl) | (simp [*, errW_none, errW_some] <;> rfl) | (exfalso; contradiction), by repeat (first | (with_reducible first | exact HB.out | apply below_alloc | apply pw_below_drewN | apply below_drew1) | exact HB.out)⟩
  · rw [if_neg c2] at H
    have c2b0 : decide (2147483647 < (a0.size : Int)) = false := decide_eq_false c2
    have c2b1 : decide (2147483647 < a0.size) = false := decide_eq_false (by omega)
    clear c2
    have H' := Aside0.mk H
    clear H
    go_enter Try.func3, Try.ntmps3
    go_wp2
    repeat (go_quiet (fail); try go_wp2)
    go_loopg [3] k (fun kq v3 w' => ∃ (x3_1 : Int), v3 = .int .i64 x3_1 ∧ Aside0 (laws_FnLabelLex.l0 kq a0 x3_1 = some r) ∧ Aside0 (kq ≤ k) ∧ Aside0 (Below w.heap.size w w'))
    case atStart => exact ⟨(0), (by first | rfl | (simp; done) | (simp [*]; done)), H', ⟨Nat.le_refl _⟩, ⟨by repeat (first | (with_reducible first | exact HB.out | apply below_alloc | apply pw_below_drewN | apply below_drew1) | exact HB.out)⟩⟩
    case round =>
      clear H'
      try clear c2
      try clear c2b0
      try clear c2b1
      try clear p2
      obtain ⟨x3_1, rfl, HA, HK1, HB⟩ := hrel
      cases gk with
      | zero => exact absurd HA.out (by simp [laws_FnLabelLex.l0])
      | succ k1 =>
        have H := HA.out
        clear HA
        simp only [laws_FnLabelLex.l0] at H
        by_cases c3 : x3_1 < (a0.size : Int)
        · rw [if_pos c3] at H
          have c3b0 : decide (x3_1 < (a0.size : Int)) = true := decide_eq_true c3
          clear c3
          by_cases c4 : 0 ≤ x3_1
          · rw [if_pos c4] at H
            have c4b0 : decide (0 ≤ x3_1) = true := decide_eq_true c4
            clear c4
            by_cases c6 : (bt a0 x3_1) = 0
            · rw [if_pos c6] at H
              have c6b0 : ((bt a0 x3_1) == 0) = true := beq_iff_eq.mpr c6
              have c6b1 : ((bt a0 x3_1) != 0) = false := bne_eq_false_iff_eq.mpr c6
              clear c6
              obtain rfl := Option.some.inj H
              have p5 : 0 ≤ (x3_1 : Int) := of_decide_eq_true (by first | (with_reducible assumption) | assumption)
              have q5 : x3_1 < (a0.size : Int) := of_decide_eq_true (by first | (with_reducible assumption) | assumption)
              have hx5 := bt_at a0 x3_1
              replace p5 := eq_true p5
              replace q5 := eq_true q5
              go_wp2
              repeat (go_quiet (fail); try go_wp2)
              go_ret
              exact ⟨by first | rfl | (simp [errW_none, errW_some] <;> rfl) | (simp [*, errW_none, errW_some] <;> rfl) | (exfalso; contradiction), by repeat (first | (with_reducible first | exact HB.out | apply below_alloc | apply pw_below_drewN | apply below_drew1) | exact HB.out)⟩
            · rw [if_neg c6] at H
              have c6b0 : ((bt a0 x3_1) == 0) = false := beq_eq_false_iff_ne.mpr c6
              have c6b1 : ((bt a0 x3_1) != 0) = true := bne_iff_ne.mpr c6
              have H' := Aside0.mk H
              clear H
              have p5 : 0 ≤ (x3_1 : Int) := of_decide_eq_true (by first | (with_reducible assumption) | assumption)
              have q5 : x3_1 < (a0.size : Int) := of_decide_eq_true (by first | (with_reducible assumption) | assumption)
              have hx5 := bt_at a0 x3_1
              replace p5 := eq_true p5
              replace q5 := eq_true q5
              go_wp2
              repeat (go_quiet (fail); try go_wp2)
              go_roundg k1
              case measure => have := HK1.out; omega
              case rel => exact ⟨(wrap64 (x3_1 + 1)), (by first | rfl | (simp; done) | (simp [*]; done)), H', ⟨by have := HK1.out; omega⟩, ⟨by repeat (first | (with_reducible first | exact HB.out | apply below_alloc | apply pw_below_drewN | apply below_drew1) | exact HB.out)⟩⟩
          · rw [if_neg c4] at H
            exact absurd H (by simp)
        · rw [if_neg c3] at H
          have c3b0 : decide (x3_1 < (a0.size : Int)) = false := decide_eq_false c3
          clear c3
          replace H := Option.bind_eq_some_iff.mp H
          obtain ⟨t204, A70, H⟩ := H
          replace H : ((spec_Pieces.f k1 a0).bind fun t207 => (if (t204.length : Int) = (wrap64 ((t207.length : Int) + 1)) then (if 0 ≤ (t207.length : Int) then (if (t207.length : Int) < (t204.length : Int) then (laws_FnLabelLex.j1 k1 t204 t207 (((rd_T25 t204 (t207.length : Int)).f0) != 1)) else (none)) else (none)) else (laws_FnLabelLex.j1 k1 t204 t207 true))) = some r := H
          have A7 := Aside0.mk A70
          clear A70
          replace H := Option.bind_eq_some_iff.mp H
          obtain ⟨t207, A80, H⟩ := H
          replace H : (if (t204.length : Int) = (wrap64 ((t207.length : Int) + 1)) then (if 0 ≤ (t207.length : Int) then (if (t207.length : Int) < (t204.length : Int) then (laws_FnLabelLex.j1 k1 t204 t207 (((rd_T25 t204 (t207.length : Int)).f0) != 1)) else (none)) else (none)) else (laws_FnLabelLex.j1 k1 t204 t207 true)) = some r := H
          have A8 := Aside0.mk A80
          clear A80
          have HC9 := Aside0.mk H
          clear H
          go_upto_region 9 with (first | (go_at_call 4; (with_reducible refine (impl_LabelLex.calls k1 a0 t204 _ A7.out).mono ?_); rintro e w10 ⟨v205, rfl, ho0, hb⟩; have n0_ := Aside0.mk (Kd.R_lower ho0 (below_size (by repeat (first | (with_reducible first | exact HB.out | apply below_alloc | apply pw_below_drewN | apply below_drew1) | exact HB.out)))); have n1_ := Aside0.mk (below_step (by repeat (first | (with_reducible first | exact HB.out | apply below_alloc | apply pw_below_drewN | apply below_drew1) | exact HB.out)) hb); clear HB; have HO206 := n0_; have HB := n1_; clear n0_ n1_; (try clear hb); (try clear hb2); (try clear hk); (try clear hi); (try clear ho0)) | (go_at_call 5; (with_reducible refine (spec_Pieces.calls k1 a0 t207 _ A8.out).mono ?_); rintro e w11 ⟨v208, rfl, ho0, hb⟩; have n0_ := Aside0.mk (Kd.R_elder' (by (with_reducible repeat (first | apply Kd.R_alloc | apply Kd.R_drewN | apply Kd.R_drew)); exact HO206.out) (Kd.R_base ho0) hb); have n1_ := Aside0.mk (Kd.R_lower (Kd.R_new' ho0 (Kd.R_lt (by (with_reducible repeat (first | apply Kd.R_alloc | apply Kd.R_drewN | apply Kd.R_drew)); exact HO206.out))) (below_size (by repeat (first | (with_reducible first | exact HB.out | apply below_alloc | apply pw_below_drewN | apply below_drew1) | exact HB.out)))); have n2_ := Aside0.mk (below_step (by repeat (first | (with_reducible first | exact HB.out | apply below_alloc | apply pw_below_drewN | apply below_drew1) | exact HB.out)) hb); clear HO206; clear HB; have HO206 := n0_; have HO209 := n1_; have HB := n2_; clear n0_ n1_ n2_; (try clear hb); (try clear hb2); (try clear hk); (try clear hi); (try clear ho0)))
          repeat (go_quiet (first | (go_at_call 4; (with_reducible refine (impl_LabelLex.calls k1 a0 t204 _ A7.out).mono ?_); rintro e w10 ⟨v205, rfl, ho0, hb⟩; have n0_ := Aside0.mk (Kd.R_lower ho0 (below_size (by repeat (first | (with_reducible first | exact HB.out | apply below_alloc | apply pw_below_drewN | apply below_drew1) | exact HB.out)))); have n1_ := Aside0.mk (below_step (by repeat (first | (with_reducible first | exact HB.out | apply below_alloc | apply pw_below_drewN | apply below_drew1) | exact HB.out)) hb); clear HB; have HO206 := n0_; have HB := n1_; clear n0_ n1_; (try clear hb); (try clear hb2); (try clear hk); (try clear hi); (try clear ho0)) | (go_at_call 5; (with_reducible refine (spec_Pieces.calls k1 a0 t207 _ A8.out).mono ?_); rintro e w11 ⟨v208, rfl, ho0, hb⟩; have n0_ := Aside0.mk (Kd.R_elder' (by (with_reducible repeat (first | apply Kd.R_alloc | apply Kd.R_drewN | apply Kd.R_drew)); exact HO206.out) (Kd.R_base ho0) hb); have n1_ := Aside0.mk (Kd.R_lower (Kd.R_new' ho0 (Kd.R_lt (by (with_reducible repeat (first | apply Kd.R_alloc | apply Kd.R_drewN | apply Kd.R_drew)); exact HO206.out))) (below_size (by repeat (first | (with_reducible first | exact HB.out | apply below_alloc | apply pw_below_drewN | apply below_drew1) | exact HB.out)))); have n2_ := Aside0.mk (below_step (by repeat (first | (with_reducible first | exact HB.out | apply below_alloc | apply pw_below_drewN | apply below_drew1) | exact HB.out)) hb); clear HO206; clear HB; have HO206 := n0_; have HO209 := n1_; have HB := n2_; clear n0_ n1_ n2_; (try clear hb); (try clear hb2); (try clear hk); (try clear hi); (try clear ho0))); go_upto_region 9 with (first | (go_at_call 4; (with_reducible refine (impl_LabelLex.calls k1 a0 t204 _ A7.out).mono ?_); rintro e w10 ⟨v205, rfl, ho0, hb⟩; have n0_ := Aside0.mk (Kd.R_lower ho0 (below_size (by repeat (first | (with_reducible first | exact HB.out | apply below_alloc | apply pw_below_drewN | apply below_drew1) | exact HB.out)))); have n1_ := Aside0.mk (below_step (by repeat (first | (with_reducible first | exact HB.out | apply below_alloc | apply pw_below_drewN | apply below_drew1) | exact HB.out)) hb); clear HB; have HO206 := n0_; have HB := n1_; clear n0_ n1_; (try clear hb); (try clear hb2); (try clear hk); (try clear hi); (try clear ho0)) | (go_at_call 5; (with_reducible refine (spec_Pieces.calls k1 a0 t207 _ A8.out).mono ?_); rintro e w11 ⟨v208, rfl, ho0, hb⟩; have n0_ := Aside0.mk (Kd.R_elder' (by (with_reducible repeat (first | apply Kd.R_alloc | apply Kd.R_drewN | apply Kd.R_drew)); exact HO206.out) (Kd.R_base ho0) hb); have n1_ := Aside0.mk (Kd.R_lower (Kd.R_new' ho0 (Kd.R_lt (by (with_reducible repeat (first | apply Kd.R_alloc | apply Kd.R_drewN | apply Kd.R_drew)); exact HO206.out))) (below_size (by repeat (first | (with_reducible first | exact HB.out | apply below_alloc | apply pw_below_drewN | apply below_drew1) | exact HB.out)))); have n2_ := Aside0.mk (below_step (by repeat (first | (with_reducible first | exact HB.out | apply below_alloc | apply pw_below_drewN | apply below_drew1) | exact HB.out)) hb); clear HO206; clear HB; have HO206 := n0_; have HO209 := n1_; have HB := n2_; clear n0_ n1_ n2_; (try clear hb); (try clear hb2); (try clear hk); (try clear hi); (try clear ho0))))
          (try simp only [Act.put, List.setIfInBounds_toArray, List.set_cons_zero, List.set_cons_succ])
          go_cut [38] (fun v38 wc => ∃ (kq : Nat) (x38_8 : Bool), v38 = .bool x38_8 ∧ Aside0 (laws_FnLabelLex.j1 kq t204 t207 x38_8 = some r) ∧ Aside0 (kq ≤ k1) ∧ Aside0 (Kd.R k25 25 wc w.heap.size (fun k_ => some k_ ≠ (v208 : Value).ownBlock) v205 t204) ∧ Aside0 (Kd.R k25 25 wc w.heap.size (fun k_ => some k_ ≠ (v205 : Value).ownBlock) v208 t207) ∧ Aside0 (Below w.heap.size w wc))
          case first =>
            have H := HC9.out
            clear HC9
            by_cases c12 : (t204.length : Int) = (wrap64 ((t207.length : Int) + 1))
            · rw [if_pos c12] at H
              have c12b0 : ((t204.length : Int) == (wrap64 ((t207.length : Int) + 1))) = true := beq_iff_eq.mpr c12
              have c12b1 : ((t204.length : Int) != (wrap64 ((t207.length : Int) + 1))) = false := bne_eq_false_iff_eq.mpr c12
              clear c12
              (first | rw [c12b0] | (simp only [i64_w, i32_w]; rw [c12b0]) | skip)
              by_cases c13 : 0 ≤ (t207.length : Int)
              · rw [if_pos c13] at H
                have c13b0 : decide (0 ≤ (t207.length : Int)) = true := decide_eq_true c13
                have c13b1 : decide (0 ≤ t207.length) = true := decide_eq_true (by omega)
                clear c13
                by_cases c14 : (t207.length : Int) < (t204.length : Int)
                · rw [if_pos c14] at H
                  have c14b0 : decide ((t207.length : Int) < (t204.length : Int)) = true := decide_eq_true c14
                  have c14b1 : decide (t207.length < t204.length) = true := decide_eq_true (Int.ofNat_lt.mp c14)
                  clear c14
                  have H' := Aside0.mk H
                  clear H
                  obtain ⟨Ao15, co15, eo15⟩ := Kd.R_slice HO206.out
                  subst eo15
                  obtain ⟨Ao16, co16, eo16⟩ := Kd.R_slice HO209.out
                  subst eo16
                  have p210 : 0 ≤ ((t207.length : Int) : Int) := of_decide_eq_true (by first | (with_reducible assumption) | assumption)
                  have q210 : (t207.length : Int) < (t204.length : Int) := of_decide_eq_true (by first | (with_reducible assumption) | assumption)
                  obtain ⟨ad210, e210, hx210_0, hx210_1⟩ := at_T25 (Kd.R_reads' HO206.out).2.2 (t207.length : Int) p210 q210
                  cases e210
                  (try simp only [Go.IntWalk.toNatUp] at hx210_0)
                  (try simp only [Go.IntWalk.toNatUp] at hx210_1)
                  replace p210 := eq_true p210
                  replace q210 := eq_true q210
                  go_wp2
                  repeat (go_quiet (fail); try go_wp2)
                  go_meet
                  case rel => exact ⟨_, ((((rd_T25 t204 (t207.length : Int)).f0) != 1)), (by first | rfl | (simp; done) | (simp [*]; done)), H', ⟨by have := HK1.out; first | omega | exact Nat.le_refl _⟩, ⟨by (with_reducible repeat (first | apply Kd.R_alloc | apply Kd.R_drewN | apply Kd.R_drew)); exact Kd.R_mono HO206.out (fun _ hk => hk.2)⟩, ⟨by (with_reducible repeat (first | apply Kd.R_alloc | apply Kd.R_drewN | apply Kd.R_drew)); exact Kd.R_mono HO209.out (fun _ hk => hk.2)⟩, ⟨by repeat (first | (with_reducible first | exact HB.out | apply below_alloc | apply pw_below_drewN | apply below_drew1) | exact HB.out)⟩⟩
                · rw [if_neg c14] at H
                  exact absurd H (by simp)
              · rw [if_neg c13] at H
                exact absurd H (by simp)
            · rw [if_neg c12] at H
              have c12b0 : ((t204.length : Int) == (wrap64 ((t207.length : Int) + 1))) = false := beq_eq_false_iff_ne.mpr c12
              have c12b1 : ((t204.length : Int) != (wrap64 ((t207.length : Int) + 1))) = true := bne_iff_ne.mpr c12
              (first | rw [c12b0] | (simp only [i64_w, i32_w]; rw [c12b0]) | skip)
              have H' := Aside0.mk H
              clear H
              obtain ⟨Ao17, co17, eo17⟩ := Kd.R_slice HO206.out
              subst eo17
              obtain ⟨Ao18, co18, eo18⟩ := Kd.R_slice HO209.out
              subst eo18
              go_wp2
              repeat (go_quiet (fail); try go_wp2)
              go_meet
              case rel => exact ⟨_, (true), (by first | rfl | (simp; done) | (simp [*]; done)), H', ⟨by have := HK1.out; first | omega | exact Nat.le_refl _⟩, ⟨by (with_reducible repeat (first | apply Kd.R_alloc | apply Kd.R_drewN | apply Kd.R_drew)); exact Kd.R_mono HO206.out (fun _ hk => hk.2)⟩, ⟨by (with_reducible repeat (first | apply Kd.R_alloc | apply Kd.R_drewN | apply Kd.R_drew)); exact Kd.R_mono HO209.out (fun _ hk => hk.2)⟩, ⟨by repeat (first | (with_reducible first | exact HB.out | apply below_alloc | apply pw_below_drewN | apply below_drew1) | exact HB.out)⟩⟩
          case rest =>
            clear HC9
            try clear c1
            try clear c2
            try clear c2b0
            try clear c2b1
            try clear p2
            try clear q2
            try clear hx2
            try clear c3
            try clear c3b0
            try clear c4
            try clear c4b0
            try clear p5
            try clear q5
            try clear hx5
            try clear c6
            try clear c6b0
            try clear c6b1
            try clear p6
            try clear c12
            try clear c12b0
            try clear c12b1
            try clear c13
            try clear c13b0
            try clear c13b1
            try clear c14
            try clear c14b0
            try clear c14b1
            try clear hx210_0
            try clear hx210_1
            try clear p2
            try clear p210
            try clear p5
            try clear q210
            try clear q5
            obtain ⟨kq, x38_8, rfl, HA, HJ8, HO_4, HO_5, HB⟩ := hcut
            cases kq with
            | zero => exact absurd HA.out (by simp [laws_FnLabelLex.j1])
            | succ kj8 =>
              have H := HA.out
              clear HA
              simp only [laws_FnLabelLex.j1] at H
              by_cases c19 : x38_8 = true
              · subst c19
                have H1 : (some false) = some r := by rw [if_pos rfl] at H; exact H
                clear H
                have H := H1
                clear H1
                obtain rfl := Option.some.inj H
                go_wp2
                repeat (go_quiet (fail); try go_wp2)
                go_ret
                exact ⟨by first | rfl | (simp [errW_none, errW_some] <;> rfl) | (simp [*, errW_none, errW_some] <;> rfl) | (exfalso; contradiction), by repeat (first | (with_reducible first | exact HB.out | apply below_alloc | apply pw_below_drewN | apply below_drew1) | exact HB.out)⟩
              · replace c19 := Bool.eq_false_iff.mpr c19
                subst c19
                have H1 : (laws_FnLabelLex.l1 kj8 t204 t207 0) = some r := by rw [if_neg (show ¬ (false = true) by decide)] at H; exact H
                clear H
                have H := H1
                clear H1
                have H' := Aside0.mk H
                clear H
                go_wp2
                repeat (go_quiet (fail); try go_wp2)
                go_loopg [6] kj8 (fun kq v6 w' => ∃ (x6_3 : Int), v6 = .int .i64 x6_3 ∧ Aside0 (laws_FnLabelLex.l1 kq t204 t207 x6_3 = some r) ∧ Aside0 (kq ≤ kj8) ∧ Aside0 (Kd.R k25 25 w' w.heap.size (fun k_ => some k_ ≠ (v208 : Value).ownBlock) v205 t204) ∧ Aside0 (Kd.R k25 25 w' w.heap.size (fun k_ => some k_ ≠ (v205 : Value).ownBlock) v208 t207) ∧ Aside0 (Below w.heap.size w w'))
                case atStart => exact ⟨(0), (by first | rfl | (simp; done) | (simp [*]; done)), H', ⟨Nat.le_refl _⟩, ⟨by (with_reducible repeat (first | apply Kd.R_alloc | apply Kd.R_drewN | apply Kd.R_drew)); exact HO_4.out⟩, ⟨by (with_reducible repeat (first | apply Kd.R_alloc | apply Kd.R_drewN | apply Kd.R_drew)); exact HO_5.out⟩, ⟨by repeat (first | (with_reducible first | exact HB.out | apply below_alloc | apply pw_below_drewN | apply below_drew1) | exact HB.out)⟩⟩
                case round =>
                  clear H'
                  try clear c1
                  try clear c2
                  try clear c2b0
                  try clear c2b1
                  try clear p2
                  try clear q2
                  try clear hx2
                  try clear c3
                  try clear c3b0
                  try clear c4
                  try clear c4b0
                  try clear p5
                  try clear q5
                  try clear hx5
                  try clear c6
                  try clear c6b0
                  try clear c6b1
                  try clear p6
                  try clear c12
                  try clear c12b0
                  try clear c12b1
                  try clear c13
                  try clear c13b0
                  try clear c13b1
                  try clear c14
                  try clear c14b0
                  try clear c14b1
                  try clear c19
                  try clear hx210_0
                  try clear hx210_1
                  try clear p2
                  try clear p210
                  try clear p5
                  try clear p6
                  try clear q2
                  try clear q210
                  try clear q5
                  obtain ⟨x6_3, rfl, HA, HK3, HO_4, HO_5, HB⟩ := hrel
                  cases gk with
                  | zero => exact absurd HA.out (by simp [laws_FnLabelLex.l1])
                  | succ k3 =>
                    have H := HA.out
                    clear HA
                    simp only [laws_FnLabelLex.l1] at H
                    by_cases c20 : x6_3 < (t207.length : Int)
                    · rw [if_pos c20] at H
                      have c20b0 : decide (x6_3 < (t207.length : Int)) = true := decide_eq_true c20
                      clear c20
                      by_cases c21 : 0 ≤ x6_3
                      · rw [if_pos c21] at H
                        have c21b0 : decide (0 ≤ x6_3) = true := decide_eq_true c21
                        clear c21
                        by_cases c22 : x6_3 < (t204.length : Int)
                        · rw [if_pos c22] at H
                          have c22b0 : decide (x6_3 < (t204.length : Int)) = true := decide_eq_true c22
                          clear c22
                          by_cases c23 : (!(((rd_T25 t204 x6_3).f0) == ((rd_T25 t207 x6_3).f0)) || (!((((rd_T25 t204 x6_3).f1).toList) == (((rd_T25 t207 x6_3).f1).toList)))) = true
                          · rw [if_pos c23] at H
                            have c23b0 : (!(((rd_T25 t204 x6_3).f0) == ((rd_T25 t207 x6_3).f0)) || (!((((rd_T25 t204 x6_3).f1).toList) == (((rd_T25 t207 x6_3).f1).toList)))) = true := c23
                            clear c23
                            obtain rfl := Option.some.inj H
                            obtain ⟨Ao24, co24, eo24⟩ := Kd.R_slice HO_5.out
                            subst eo24
                            obtain ⟨Ao25, co25, eo25⟩ := Kd.R_slice HO_4.out
                            subst eo25
                            have p211 : 0 ≤ (x6_3 : Int) := of_decide_eq_true (by first | (with_reducible assumption) | assumption)
                            have q211 : x6_3 < (t204.length : Int) := of_decide_eq_true (by first | (with_reducible assumption) | assumption)
                            obtain ⟨ad211, e211, hx211_0, hx211_1⟩ := at_T25 (Kd.R_reads' HO_4.out).2.2 x6_3 p211 q211
                            cases e211
                            replace p211 := eq_true p211
                            replace q211 := eq_true q211
                            have p212 : 0 ≤ (x6_3 : Int) := of_decide_eq_true (by first | (with_reducible assumption) | assumption)
                            have q212 : x6_3 < (t207.length : Int) := of_decide_eq_true (by first | (with_reducible assumption) | assumption)
                            obtain ⟨ad212, e212, hx212_0, hx212_1⟩ := at_T25 (Kd.R_reads' HO_5.out).2.2 x6_3 p212 q212
                            cases e212
                            replace p212 := eq_true p212
                            replace q212 := eq_true q212
                            go_wp2
                            repeat (go_quiet (fail); try go_wp2)
                            go_ret
                            exact ⟨by first | rfl | (simp [errW_none, errW_some] <;> rfl) | (simp [*, errW_none, errW_some] <;> rfl) | (exfalso; contradiction), by repeat (first | (with_reducible first | exact HB.out | apply below_alloc | apply pw_below_drewN | apply below_drew1) | exact HB.out)⟩
                          · rw [if_neg c23] at H
                            have c23b0 : (!(((rd_T25 t204 x6_3).f0) == ((rd_T25 t207 x6_3).f0)) || (!((((rd_T25 t204 x6_3).f1).toList) == (((rd_T25 t207 x6_3).f1).toList)))) = false := by simpa using c23
                            clear c23
                            have H' := Aside0.mk H
                            clear H
                            obtain ⟨Ao26, co26, eo26⟩ := Kd.R_slice HO_5.out
                            subst eo26
                            obtain ⟨Ao27, co27, eo27⟩ := Kd.R_slice HO_4.out
                            subst eo27
                            have p211 : 0 ≤ (x6_3 : Int) := of_decide_eq_true (by first | (with_reducible assumption) | assumption)
                            have q211 : x6_3 < (t204.length : Int) := of_decide_eq_true (by first | (with_reducible assumption) | assumption)
                            obtain ⟨ad211, e211, hx211_0, hx211_1⟩ := at_T25 (Kd.R_reads' HO_4.out).2.2 x6_3 p211 q211
                            cases e211
                            replace p211 := eq_true p211
                            replace q211 := eq_true q211
                            have p212 : 0 ≤ (x6_3 : Int) := of_decide_eq_true (by first | (with_reducible assumption) | assumption)
                            have q212 : x6_3 < (t207.length : Int) := of_decide_eq_true (by first | (with_reducible assumption) | assumption)
                            obtain ⟨ad212, e212, hx212_0, hx212_1⟩ := at_T25 (Kd.R_reads' HO_5.out).2.2 x6_3 p212 q212
                            cases e212
                            replace p212 := eq_true p212
                            replace q212 := eq_true q212
                            go_wp2
                            repeat (go_quiet (fail); try go_wp2)
                            go_roundg k3
                            case measure => have := HK1.out; have := HJ8.out; have := HK3.out; omega
                            case rel => exact ⟨(wrap64 (x6_3 + 1)), (by first | rfl | (simp; done) | (simp [*]; done)), H', ⟨by have := HK1.out; have := HJ8.out; have := HK3.out; omega⟩, ⟨by (with_reducible repeat (first | apply Kd.R_alloc | apply Kd.R_drewN | apply Kd.R_drew)); exact HO_4.out⟩, ⟨by (with_reducible repeat (first | apply Kd.R_alloc | apply Kd.R_drewN | apply Kd.R_drew)); exact HO_5.out⟩, ⟨by repeat (first | (with_reducible first | exact HB.out | apply below_alloc | apply pw_below_drewN | apply below_drew1) | exact HB.out)⟩⟩
                        · rw [if_neg c22] at H
                          exact absurd H (by simp)
                      · rw [if_neg c21] at H
                        exact absurd H (by simp)
                    · rw [if_neg c20] at H
                      have c20b0 : decide (x6_3 < (t207.length : Int)) = false := decide_eq_false c20
                      clear c20
                      obtain rfl := Option.some.inj H
                      obtain ⟨Ao28, co28, eo28⟩ := Kd.R_slice HO_5.out
                      subst eo28
                      go_wp2
                      repeat (go_quiet (fail); try go_wp2)
                      go_ret
                      exact ⟨by first | rfl | (simp [errW_none, errW_some] <;> rfl) | (simp [*, errW_none, errW_some] <;> rfl) | (exfalso; contradiction), by repeat (first | (with_reducible first | exact HB.out | apply below_alloc | apply pw_below_drewN | apply below_drew1) | exact HB.out)⟩

/-- THE ONE PURE STATEMENT of laws_FnLabelLex: yours. -/
def laws_FnLabelLex.Pure : Prop := ∀ (a0 : ByteArray), a0.size ≤ 140737488351232 → ∃ k, laws_FnLabelLex.f k a0 = some true
theorem laws_FnLabelLex.walk (P : laws_FnLabelLex.Pure) (a0 : ByteArray) (w : World) (w0 : a0.size ≤ 140737488351232) :
    Calls Try.prog 3 #[.string a0] w fun e w' => e = .returned (.bool true) ∧ Below w.heap.size w w' := by
  obtain ⟨k, h⟩ := P a0 w0
  refine (laws_FnLabelLex.calls k a0 true w h).mono ?_
  rintro e w' ⟨rfl, hd⟩
  exact ⟨rfl, hd⟩

end Go.Proofs.Ytlhbmifffmegeaa.PFnLabelLex
