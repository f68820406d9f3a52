/- Functions of the program as plain Lean functions, and that the machine's calls do what these say: written for this claim by wip/myprint.py over the kit's print.py. -/
import Derived.Test.YtdhooibmibkbeaaPFnAmountMulx0
import Derived.Test.YtdhooibmibkbeaaPFnAmountMulx6
import Derived.Test.YtdhooibmibkbeaaPFnAmountMulx7
namespace Go.Proofs.Ytdhooibmibkbeaa.PFnAmountMul
open Go.RowKit Go.Proofs.YtdhooibmibkbeaaW.PrintWords Go.Proofs.YtdhooibmibkbeaaW.PrintLast Go.Proofs.YtdhooibmibkbeaaW.PrintMore
attribute [local go_sem] max2_int min2_int max_two min_two max_three min_three max_four min_four   -- for this text's walks alone
set_option linter.unusedVariables false
set_option linter.unusedSimpArgs false

/-! ### resource_negativeScaleInt64: function 31 -/
mutual
def resource_negativeScaleInt64.l0 : Nat → Int → Int → Int → Bool → Int → Option (Int × Bool)
 | 0, _, _, _, _, _ => none
 | k + 1, x0, x1, x6, x7, x8 => if x8 < x1 then (if x7 = true then (resource_negativeScaleInt64.j1 k x0 x1 x6 x7 x8 false) else (resource_negativeScaleInt64.j1 k x0 x1 x6 x7 x8 ((Int.tmod x6 10) != 0))) else (if x7 = true then (if x0 > 0 then (some (wrap64 (x6 + 1), !x7)) else (some (wrap64 (x6 - 1), !x7))) else (some (x6, !x7)))
def resource_negativeScaleInt64.j1 : Nat → Int → Int → Int → Bool → Int → Bool → Option (Int × Bool)
 | 0, _, _, _, _, _, _ => none
 | k + 1, x0, x1, x6, x7, x8, x24 => if x24 = true then (resource_negativeScaleInt64.j2 k x0 x1 x6 true x8) else (resource_negativeScaleInt64.j2 k x0 x1 x6 x7 x8)
def resource_negativeScaleInt64.j2 : Nat → Int → Int → Int → Bool → Int → Option (Int × Bool)
 | 0, _, _, _, _, _ => none
 | k + 1, x0, x1, x6, x7, x8 => if (wrap64 (Int.tdiv x6 10)) = 0 then (if x7 = true then (if x0 > 0 then (some (1, false)) else (some ((-1), false))) else (some (0, true))) else (resource_negativeScaleInt64.l0 k x0 x1 (wrap64 (Int.tdiv x6 10)) x7 (wrap32 (x8 + 1)))
end
def resource_negativeScaleInt64.f (k : Nat) (a0 : Int) (a1 : Int) : Option (Int × Bool) := if a1 = 0 then (some (a0, true)) else (resource_negativeScaleInt64.l0 k a0 a1 a0 false 0)
theorem resource_negativeScaleInt64.mono_l : ∀ k, (∀ y0 y1 y2 y3 y4, LeO (resource_negativeScaleInt64.l0 k y0 y1 y2 y3 y4) (resource_negativeScaleInt64.l0 (k + 1) y0 y1 y2 y3 y4)) ∧ (∀ y0 y1 y2 y3 y4 y5, LeO (resource_negativeScaleInt64.j1 k y0 y1 y2 y3 y4 y5) (resource_negativeScaleInt64.j1 (k + 1) y0 y1 y2 y3 y4 y5)) ∧ (∀ y0 y1 y2 y3 y4, LeO (resource_negativeScaleInt64.j2 k y0 y1 y2 y3 y4) (resource_negativeScaleInt64.j2 (k + 1) y0 y1 y2 y3 y4))
 | 0 => ⟨fun _ _ _ _ _ r h => by simp [resource_negativeScaleInt64.l0] at h, fun _ _ _ _ _ _ r h => by simp [resource_negativeScaleInt64.j1] at h, fun _ _ _ _ _ r h => by simp [resource_negativeScaleInt64.j2] at h⟩
 | k + 1 => by
  obtain ⟨ih0, ih1, ih2⟩ := resource_negativeScaleInt64.mono_l k
  refine ⟨?_, ?_, ?_⟩
  ·
   intro y0 y1 y2 y3 y4
   unfold resource_negativeScaleInt64.l0
   repeat' first
   | (with_reducible exact ih0 _ _ _ _ _)
   | (with_reducible exact ih1 _ _ _ _ _ _)
   | (with_reducible exact ih2 _ _ _ _ _)
   | (with_reducible exact LeO.refl _)
   | (with_reducible exact LeO.none _)
   | (with_reducible refine LeO.ite ?_ ?_)
   | (with_reducible refine LeO.bind ?_ (fun _ => ?_))
   | exact ih0 _ _ _ _ _
   | exact ih1 _ _ _ _ _ _
   | exact ih2 _ _ _ _ _
   | exact LeO.none _
   | refine LeO.ite ?_ ?_
   | refine LeO.bind ?_ (fun _ => ?_)
  ·
   intro y0 y1 y2 y3 y4 y5
   unfold resource_negativeScaleInt64.j1
   repeat' first
   | (with_reducible exact ih0 _ _ _ _ _)
   | (with_reducible exact ih1 _ _ _ _ _ _)
   | (with_reducible exact ih2 _ _ _ _ _)
   | (with_reducible exact LeO.refl _)
   | (with_reducible exact LeO.none _)
   | (with_reducible refine LeO.ite ?_ ?_)
   | (with_reducible refine LeO.bind ?_ (fun _ => ?_))
   | exact ih0 _ _ _ _ _
   | exact ih1 _ _ _ _ _ _
   | exact ih2 _ _ _ _ _
   | exact LeO.none _
   | refine LeO.ite ?_ ?_
   | refine LeO.bind ?_ (fun _ => ?_)
  ·
   intro y0 y1 y2 y3 y4
   unfold resource_negativeScaleInt64.j2
   repeat' first
   | (with_reducible exact ih0 _ _ _ _ _)
   | (with_reducible exact ih1 _ _ _ _ _ _)
   | (with_reducible exact ih2 _ _ _ _ _)
   | (with_reducible exact LeO.refl _)
   | (with_reducible exact LeO.none _)
   | (with_reducible refine LeO.ite ?_ ?_)
   | (with_reducible refine LeO.bind ?_ (fun _ => ?_))
   | exact ih0 _ _ _ _ _
   | exact ih1 _ _ _ _ _ _
   | exact ih2 _ _ _ _ _
   | exact LeO.none _
   | refine LeO.ite ?_ ?_
   | refine LeO.bind ?_ (fun _ => ?_)
theorem resource_negativeScaleInt64.mono : ∀ a0 a1 k, LeO (resource_negativeScaleInt64.f k a0 a1) (resource_negativeScaleInt64.f (k + 1) a0 a1) := by
 intro a0 a1 k
 obtain ⟨ih0, ih1, ih2⟩ := resource_negativeScaleInt64.mono_l k
 unfold resource_negativeScaleInt64.f
 repeat' first
   | (with_reducible exact ih0 _ _ _ _ _)
   | (with_reducible exact ih1 _ _ _ _ _ _)
   | (with_reducible exact ih2 _ _ _ _ _)
   | (with_reducible exact LeO.refl _)
   | (with_reducible exact LeO.none _)
   | (with_reducible refine LeO.ite ?_ ?_)
   | (with_reducible refine LeO.bind ?_ (fun _ => ?_))
   | exact ih0 _ _ _ _ _
   | exact ih1 _ _ _ _ _ _
   | exact ih2 _ _ _ _ _
   | exact LeO.none _
   | refine LeO.ite ?_ ?_
   | refine LeO.bind ?_ (fun _ => ?_)
set_option maxHeartbeats 8000000 in
set_option maxRecDepth 100000 in
theorem resource_negativeScaleInt64.calls (k : Nat) (a0 : Int) (a1 : Int) (r1 : Int) (r2 : Bool) (w : World) (h : resource_negativeScaleInt64.f k a0 a1 = some (r1, r2)) :
  Calls Try.prog 31 #[.int .i64 a0, .int .i32 a1] w fun e w' => e = .returned (.tuple #[.int .i64 r1, .bool r2]) ∧ Drawn0 w w' := by
 have H : (if a1 = 0 then (some (a0, true)) else (resource_negativeScaleInt64.l0 k a0 a1 a0 false 0)) = some (r1, r2) := h
 clear h
 by_cases c3 : a1 = 0
 ·
  rw [if_pos c3] at H
  have c3b0 : (a1 == 0) = true := beq_iff_eq.mpr c3
  have c3b1 : (a1 != 0) = false := bne_eq_false_iff_eq.mpr c3
  clear c3
  simp only [Option.some.injEq, Prod.mk.injEq] at H
  obtain ⟨rfl, rfl⟩ := H
  go_enter Try.func31, Try.ntmps31
  go_wp2
  go_ret2
  exact ⟨by first | rfl | (simp; done) | (simp [*]; done), by repeat (first | exact Drawn0.refl _ | apply Drawn0.step)⟩
 ·
  rw [if_neg c3] at H
  have c3b0 : (a1 == 0) = false := beq_eq_false_iff_ne.mpr c3
  have c3b1 : (a1 != 0) = true := bne_iff_ne.mpr c3
  have H' := aM_ H
  clear H
  go_enter Try.func31, Try.ntmps31
  go_wp2
  go_loopg [6, 7, 8] k (fun kq v6 v7 v8 w' => ∃ (x6_1 : Int) (x7_1 : Bool) (x8_1 : Int), v6 = .int .i64 x6_1 ∧ v7 = .bool x7_1 ∧ v8 = .int .i32 x8_1 ∧ Aside0 (resource_negativeScaleInt64.l0 kq a0 a1 x6_1 x7_1 x8_1 = some (r1, r2)) ∧ Aside0 (kq ≤ k) ∧ Drawn0 w w')
  case atStart => exact ⟨(a0), (false), (0), (by first | rfl | (simp; done) | (simp [*]; done)), (by first | rfl | (simp; done) | (simp [*]; done)), (by first | rfl | (simp; done) | (simp [*]; done)), H', ⟨Nat.le_refl _⟩, by repeat (first | exact Drawn0.refl _ | apply Drawn0.step)⟩
  case round =>
   clear H'
   try clear p2
   try clear c3
   try clear c3b0
   try clear c3b1
   obtain ⟨x6_1, x7_1, x8_1, rfl, rfl, rfl, HA, HK1, ⟨m1, rfl⟩⟩ := hrel
   cases gk with
   | zero => exact absurd HA.out (by simp [resource_negativeScaleInt64.l0])
   | succ k1 =>
    have H := HA.out
    clear HA
    simp only [resource_negativeScaleInt64.l0] at H
    by_cases c4 : x8_1 < a1
    ·
     rw [if_pos c4] at H
     have c4b0 : decide (x8_1 < a1) = true := decide_eq_true c4
     clear c4
     have HC5 := aM_ H
     clear H
     go_upto_region 8 with (fail)
     go_cut [24] (fun v24 wc => ∃ (kq : Nat) (x24_4 : Bool), v24 = .bool x24_4 ∧ Aside0 (resource_negativeScaleInt64.j1 kq a0 a1 x6_1 x7_1 x8_1 x24_4 = some (r1, r2)) ∧ Aside0 (kq ≤ k1) ∧ Drawn0 w wc)
     case first =>
      have H := HC5.out
      clear HC5
      by_cases c6 : x7_1 = true
      ·
       subst c6
       have H1 : (resource_negativeScaleInt64.j1 k1 a0 a1 x6_1 true x8_1 false) = some (r1, r2) := by rw [if_pos rfl] at H; exact H
       clear H
       have H := H1
       clear H1
       have H' := aM_ H
       clear H
       go_wp2
       go_meet
       case rel => exact ⟨_, (false), (by first | rfl | (simp; done) | (simp [*]; done)), H', ⟨by have := HK1.out; first | omega | exact Nat.le_refl _⟩, by repeat (first | exact Drawn0.refl _ | apply Drawn0.step)⟩
      ·
       replace c6 := Bool.eq_false_iff.mpr c6
       subst c6
       have H1 : (resource_negativeScaleInt64.j1 k1 a0 a1 x6_1 false x8_1 ((Int.tmod x6_1 10) != 0)) = some (r1, r2) := by rw [if_neg (show ¬ (false = true) by decide)] at H; exact H
       clear H
       have H := H1
       clear H1
       have H' := aM_ H
       clear H
       go_wp2
       go_meet
       case rel => exact ⟨_, (((Int.tmod x6_1 10) != 0)), (by first | rfl | (simp; done) | (simp [*]; done)), H', ⟨by have := HK1.out; first | omega | exact Nat.le_refl _⟩, by repeat (first | exact Drawn0.refl _ | apply Drawn0.step)⟩
     case rest =>
      clear HC5
      try clear p2
      try clear c3
      try clear c3b0
      try clear c3b1
      try clear c4
      try clear c4b0
      try clear c6
      try clear p2
      obtain ⟨kq, x24_4, rfl, HA, HJ4, ⟨mc4, rfl⟩⟩ := hcut
      cases kq with
      | zero => exact absurd HA.out (by simp [resource_negativeScaleInt64.j1])
      | succ kj4 =>
       have H := HA.out
       clear HA
       simp only [resource_negativeScaleInt64.j1] at H
       have HC7 := aM_ H
       clear H
       go_upto_if 24 with (fail)
       go_cut [7] (fun v7 wc => ∃ (kq : Nat) (x7_6 : Bool), v7 = .bool x7_6 ∧ Aside0 (resource_negativeScaleInt64.j2 kq a0 a1 x6_1 x7_6 x8_1 = some (r1, r2)) ∧ Aside0 (kq ≤ kj4) ∧ Drawn0 w wc)
       case first =>
        have H := HC7.out
        clear HC7
        by_cases c8 : x24_4 = true
        ·
         subst c8
         have H1 : (resource_negativeScaleInt64.j2 kj4 a0 a1 x6_1 true x8_1) = some (r1, r2) := by rw [if_pos rfl] at H; exact H
         clear H
         have H := H1
         clear H1
         have H' := aM_ H
         clear H
         go_wp2
         go_meet
         case rel => exact ⟨_, (true), (by first | rfl | (simp; done) | (simp [*]; done)), H', ⟨by have := HK1.out; have := HJ4.out; first | omega | exact Nat.le_refl _⟩, by repeat (first | exact Drawn0.refl _ | apply Drawn0.step)⟩
        ·
         replace c8 := Bool.eq_false_iff.mpr c8
         subst c8
         have H1 : (resource_negativeScaleInt64.j2 kj4 a0 a1 x6_1 x7_1 x8_1) = some (r1, r2) := by rw [if_neg (show ¬ (false = true) by decide)] at H; exact H
         clear H
         have H := H1
         clear H1
         have H' := aM_ H
         clear H
         go_wp2
         go_meet
         case rel => exact ⟨_, (x7_1), (by first | rfl | (simp; done) | (simp [*]; done)), H', ⟨by have := HK1.out; have := HJ4.out; first | omega | exact Nat.le_refl _⟩, by repeat (first | exact Drawn0.refl _ | apply Drawn0.step)⟩
       case rest =>
        clear HC7
        try clear p2
        try clear c3
        try clear c3b0
        try clear c3b1
        try clear c4
        try clear c4b0
        try clear c6
        try clear c8
        try clear p2
        obtain ⟨kq, x7_6, rfl, HA, HJ6, ⟨mc6, rfl⟩⟩ := hcut
        cases kq with
        | zero => exact absurd HA.out (by simp [resource_negativeScaleInt64.j2])
        | succ kj6 =>
         have H := HA.out
         clear HA
         simp only [resource_negativeScaleInt64.j2] at H
         by_cases c9 : (wrap64 (Int.tdiv x6_1 10)) = 0
         ·
          rw [if_pos c9] at H
          have c9b0 : ((wrap64 (Int.tdiv x6_1 10)) == 0) = true := beq_iff_eq.mpr c9
          have c9b1 : ((wrap64 (Int.tdiv x6_1 10)) != 0) = false := bne_eq_false_iff_eq.mpr c9
          clear c9
          by_cases c10 : x7_6 = true
          ·
           subst c10
           have H1 : (if a0 > 0 then (some (1, false)) else (some ((-1), false))) = some (r1, r2) := by rw [if_pos rfl] at H; exact H
           clear H
           have H := H1
           clear H1
           by_cases c11 : a0 > 0
           ·
            rw [if_pos c11] at H
            have c11b0 : decide (0 < a0) = true := decide_eq_true c11
            clear c11
            simp only [Option.some.injEq, Prod.mk.injEq] at H
            obtain ⟨rfl, rfl⟩ := H
            go_wp2
            go_ret2
            exact ⟨by first | rfl | (simp; done) | (simp [*]; done), by repeat (first | exact Drawn0.refl _ | apply Drawn0.step)⟩
           ·
            rw [if_neg c11] at H
            have c11b0 : decide (0 < a0) = false := decide_eq_false c11
            clear c11
            simp only [Option.some.injEq, Prod.mk.injEq] at H
            obtain ⟨rfl, rfl⟩ := H
            go_wp2
            go_ret2
            exact ⟨by first | rfl | (simp; done) | (simp [*]; done), by repeat (first | exact Drawn0.refl _ | apply Drawn0.step)⟩
          ·
           replace c10 := Bool.eq_false_iff.mpr c10
           subst c10
           have H1 : (some (0, true)) = some (r1, r2) := by rw [if_neg (show ¬ (false = true) by decide)] at H; exact H
           clear H
           have H := H1
           clear H1
           simp only [Option.some.injEq, Prod.mk.injEq] at H
           obtain ⟨rfl, rfl⟩ := H
           go_wp2
           go_ret2
           exact ⟨by first | rfl | (simp; done) | (simp [*]; done), by repeat (first | exact Drawn0.refl _ | apply Drawn0.step)⟩
         ·
          rw [if_neg c9] at H
          have c9b0 : ((wrap64 (Int.tdiv x6_1 10)) == 0) = false := beq_eq_false_iff_ne.mpr c9
          have c9b1 : ((wrap64 (Int.tdiv x6_1 10)) != 0) = true := bne_iff_ne.mpr c9
          have H' := aM_ H
          clear H
          go_wp2
          go_roundg kj6
          case measure => have := HK1.out; have := HJ4.out; have := HJ6.out; omega
          case rel => exact ⟨(wrap64 (Int.tdiv x6_1 10)), (x7_6), (wrap32 (x8_1 + 1)), (by first | rfl | (simp; done) | (simp [*]; done)), (by first | rfl | (simp; done) | (simp [*]; done)), (by first | rfl | (simp; done) | (simp [*]; done)), H', ⟨by have := HK1.out; have := HJ4.out; have := HJ6.out; omega⟩, by repeat (first | exact Drawn0.refl _ | apply Drawn0.step)⟩
    ·
     rw [if_neg c4] at H
     have c4b0 : decide (x8_1 < a1) = false := decide_eq_false c4
     clear c4
     by_cases c12 : x7_1 = true
     ·
      subst c12
      have H1 : (if a0 > 0 then (some (wrap64 (x6_1 + 1), !true)) else (some (wrap64 (x6_1 - 1), !true))) = some (r1, r2) := by rw [if_pos rfl] at H; exact H
      clear H
      have H := H1
      clear H1
      by_cases c13 : a0 > 0
      ·
       rw [if_pos c13] at H
       have c13b0 : decide (0 < a0) = true := decide_eq_true c13
       clear c13
       simp only [Option.some.injEq, Prod.mk.injEq] at H
       obtain ⟨rfl, rfl⟩ := H
       go_wp2
       go_ret2
       exact ⟨by first | rfl | (simp; done) | (simp [*]; done), by repeat (first | exact Drawn0.refl _ | apply Drawn0.step)⟩
      ·
       rw [if_neg c13] at H
       have c13b0 : decide (0 < a0) = false := decide_eq_false c13
       clear c13
       simp only [Option.some.injEq, Prod.mk.injEq] at H
       obtain ⟨rfl, rfl⟩ := H
       go_wp2
       go_ret2
       exact ⟨by first | rfl | (simp; done) | (simp [*]; done), by repeat (first | exact Drawn0.refl _ | apply Drawn0.step)⟩
     ·
      replace c12 := Bool.eq_false_iff.mpr c12
      subst c12
      have H1 : (some (x6_1, !false)) = some (r1, r2) := by rw [if_neg (show ¬ (false = true) by decide)] at H; exact H
      clear H
      have H := H1
      clear H1
      simp only [Option.some.injEq, Prod.mk.injEq] at H
      obtain ⟨rfl, rfl⟩ := H
      go_wp2
      go_ret2
      exact ⟨by first | rfl | (simp; done) | (simp [*]; done), by repeat (first | exact Drawn0.refl _ | apply Drawn0.step)⟩

/-! ### resource_int64Multiply: function 32 -/
def resource_int64Multiply.j0 : Nat → Int → Int → Bool → Option (Int × Bool)
 | 0, _, _, _ => none
 | k + 1, x0, x1, x20 => if x20 = true then (some (wrap64 (x0 * x1), true)) else (if x0 = (-9223372036854775808) then (some (0, false)) else (if x1 = (-9223372036854775808) then (some (0, false)) else (if x1 = 0 then (none) else (some (wrap64 (x0 * x1), ((wrap64 (Int.tdiv (wrap64 (x0 * x1)) x1)) == x0))))))
def resource_int64Multiply.f (k : Nat) (a0 : Int) (a1 : Int) : Option (Int × Bool) := if a0 = 0 then (resource_int64Multiply.j0 k a0 a1 true) else (if a1 = 0 then (resource_int64Multiply.j0 k a0 a1 true) else (if a0 = 1 then (resource_int64Multiply.j0 k a0 a1 true) else (resource_int64Multiply.j0 k a0 a1 (a1 == 1))))
theorem resource_int64Multiply.mono_l : ∀ k, (∀ y0 y1 y2, LeO (resource_int64Multiply.j0 k y0 y1 y2) (resource_int64Multiply.j0 (k + 1) y0 y1 y2))
 | 0 => fun _ _ _ r h => by simp [resource_int64Multiply.j0] at h
 | k + 1 => by
  have ih0 := resource_int64Multiply.mono_l k
  ·
   intro y0 y1 y2
   unfold resource_int64Multiply.j0
   repeat' first
   | (with_reducible exact ih0 _ _ _)
   | (with_reducible exact LeO.refl _)
   | (with_reducible exact LeO.none _)
   | (with_reducible refine LeO.ite ?_ ?_)
   | (with_reducible refine LeO.bind ?_ (fun _ => ?_))
   | exact ih0 _ _ _
   | exact LeO.none _
   | refine LeO.ite ?_ ?_
   | refine LeO.bind ?_ (fun _ => ?_)
theorem resource_int64Multiply.mono : ∀ a0 a1 k, LeO (resource_int64Multiply.f k a0 a1) (resource_int64Multiply.f (k + 1) a0 a1) := by
 intro a0 a1 k
 have ih0 := resource_int64Multiply.mono_l k
 unfold resource_int64Multiply.f
 repeat' first
   | (with_reducible exact ih0 _ _ _)
   | (with_reducible exact LeO.refl _)
   | (with_reducible exact LeO.none _)
   | (with_reducible refine LeO.ite ?_ ?_)
   | (with_reducible refine LeO.bind ?_ (fun _ => ?_))
   | exact ih0 _ _ _
   | exact LeO.none _
   | refine LeO.ite ?_ ?_
   | refine LeO.bind ?_ (fun _ => ?_)
set_option maxHeartbeats 8000000 in
set_option maxRecDepth 100000 in
theorem resource_int64Multiply.calls (k : Nat) (a0 : Int) (a1 : Int) (r1 : Int) (r2 : Bool) (w : World) (h : resource_int64Multiply.f k a0 a1 = some (r1, r2)) :
  Calls Try.prog 32 #[.int .i64 a0, .int .i64 a1] w fun e w' => e = .returned (.tuple #[.int .i64 r1, .bool r2]) ∧ Drawn0 w w' := by
 have H : (if a0 = 0 then (resource_int64Multiply.j0 k a0 a1 true) else (if a1 = 0 then (resource_int64Multiply.j0 k a0 a1 true) else (if a0 = 1 then (resource_int64Multiply.j0 k a0 a1 true) else (resource_int64Multiply.j0 k a0 a1 (a1 == 1))))) = some (r1, r2) := h
 clear h
 have HC3 := aM_ H
 clear H
 go_enter Try.func32, Try.ntmps32
 go_upto_region 1 with (fail)
 repeat (go_quiet (fail); go_upto_region 1 with (fail))
 go_cut [20] (fun v20 wc => ∃ (kq : Nat) (x20_2 : Bool), v20 = .bool x20_2 ∧ Aside0 (resource_int64Multiply.j0 kq a0 a1 x20_2 = some (r1, r2)) ∧ Aside0 (kq ≤ k) ∧ Drawn0 w wc)
 case first =>
  have H := HC3.out
  clear HC3
  by_cases c4 : a0 = 0
  ·
   rw [if_pos c4] at H
   have c4b0 : (a0 == 0) = true := beq_iff_eq.mpr c4
   have c4b1 : (a0 != 0) = false := bne_eq_false_iff_eq.mpr c4
   clear c4
   (first | rw [c4b0] | (simp only [i64_w, i32_w]; rw [c4b0]) | skip)
   have H' := aM_ H
   clear H
   go_wp2
   repeat (go_quiet (fail); try go_wp2)
   go_meet
   case rel => exact ⟨_, (true), (by first | rfl | (simp; done) | (simp [*]; done)), H', ⟨by first | omega | exact Nat.le_refl _⟩, by repeat (first | exact Drawn0.refl _ | apply Drawn0.step)⟩
  ·
   rw [if_neg c4] at H
   have c4b0 : (a0 == 0) = false := beq_eq_false_iff_ne.mpr c4
   have c4b1 : (a0 != 0) = true := bne_iff_ne.mpr c4
   (first | rw [c4b0] | (simp only [i64_w, i32_w]; rw [c4b0]) | skip)
   by_cases c5 : a1 = 0
   ·
    rw [if_pos c5] at H
    have c5b0 : (a1 == 0) = true := beq_iff_eq.mpr c5
    have c5b1 : (a1 != 0) = false := bne_eq_false_iff_eq.mpr c5
    clear c5
    have H' := aM_ H
    clear H
    go_wp2
    repeat (go_quiet (fail); try go_wp2)
    go_meet
    case rel => exact ⟨_, (true), (by first | rfl | (simp; done) | (simp [*]; done)), H', ⟨by first | omega | exact Nat.le_refl _⟩, by repeat (first | exact Drawn0.refl _ | apply Drawn0.step)⟩
   ·
    rw [if_neg c5] at H
    have c5b0 : (a1 == 0) = false := beq_eq_false_iff_ne.mpr c5
    have c5b1 : (a1 != 0) = true := bne_iff_ne.mpr c5
    by_cases c6 : a0 = 1
    ·
     rw [if_pos c6] at H
     have c6b0 : (a0 == 1) = true := beq_iff_eq.mpr c6
     have c6b1 : (a0 != 1) = false := bne_eq_false_iff_eq.mpr c6
     clear c6
     have H' := aM_ H
     clear H
     go_wp2
     repeat (go_quiet (fail); try go_wp2)
     go_meet
     case rel => exact ⟨_, (true), (by first | rfl | (simp; done) | (simp [*]; done)), H', ⟨by first | omega | exact Nat.le_refl _⟩, by repeat (first | exact Drawn0.refl _ | apply Drawn0.step)⟩
    ·
     rw [if_neg c6] at H
     have c6b0 : (a0 == 1) = false := beq_eq_false_iff_ne.mpr c6
     have c6b1 : (a0 != 1) = true := bne_iff_ne.mpr c6
     have H' := aM_ H
     clear H
     go_wp2
     repeat (go_quiet (fail); try go_wp2)
     go_meet
     case rel => exact ⟨_, ((a1 == 1)), (by first | rfl | (simp; done) | (simp [*]; done)), H', ⟨by first | omega | exact Nat.le_refl _⟩, by repeat (first | exact Drawn0.refl _ | apply Drawn0.step)⟩
 case rest =>
  clear HC3
  try clear p2
  try clear c3
  try clear c4
  try clear c4b0
  try clear c4b1
  try clear c5
  try clear c5b0
  try clear c5b1
  try clear c6
  try clear c6b0
  try clear c6b1
  obtain ⟨kq, x20_2, rfl, HA, HJ2, ⟨mc2, rfl⟩⟩ := hcut
  cases kq with
  | zero => exact absurd HA.out (by simp [resource_int64Multiply.j0])
  | succ kj2 =>
   have H := HA.out
   clear HA
   simp only [resource_int64Multiply.j0] at H
   by_cases c7 : x20_2 = true
   ·
    subst c7
    have H1 : (some (wrap64 (a0 * a1), true)) = some (r1, r2) := by rw [if_pos rfl] at H; exact H
    clear H
    have H := H1
    clear H1
    simp only [Option.some.injEq, Prod.mk.injEq] at H
    obtain ⟨rfl, rfl⟩ := H
    go_wp2
    repeat (go_quiet (fail); try go_wp2)
    go_ret2
    exact ⟨by first | rfl | (simp; done) | (simp [*]; done), by repeat (first | exact Drawn0.refl _ | apply Drawn0.step)⟩
   ·
    replace c7 := Bool.eq_false_iff.mpr c7
    subst c7
    have H1 : (if a0 = (-9223372036854775808) then (some (0, false)) else (if a1 = (-9223372036854775808) then (some (0, false)) else (if a1 = 0 then (none) else (some (wrap64 (a0 * a1), ((wrap64 (Int.tdiv (wrap64 (a0 * a1)) a1)) == a0)))))) = some (r1, r2) := by rw [if_neg (show ¬ (false = true) by decide)] at H; exact H
    clear H
    have H := H1
    clear H1
    by_cases c8 : a0 = (-9223372036854775808)
    ·
     rw [if_pos c8] at H
     have c8b0 : (a0 == (-9223372036854775808)) = true := beq_iff_eq.mpr c8
     have c8b1 : (a0 != (-9223372036854775808)) = false := bne_eq_false_iff_eq.mpr c8
     clear c8
     simp only [Option.some.injEq, Prod.mk.injEq] at H
     obtain ⟨rfl, rfl⟩ := H
     go_wp2
     repeat (go_quiet (fail); try go_wp2)
     go_ret2
     exact ⟨by first | rfl | (simp; done) | (simp [*]; done), by repeat (first | exact Drawn0.refl _ | apply Drawn0.step)⟩
    ·
     rw [if_neg c8] at H
     have c8b0 : (a0 == (-9223372036854775808)) = false := beq_eq_false_iff_ne.mpr c8
     have c8b1 : (a0 != (-9223372036854775808)) = true := bne_iff_ne.mpr c8
     by_cases c9 : a1 = (-9223372036854775808)
     ·
      rw [if_pos c9] at H
      have c9b0 : (a1 == (-9223372036854775808)) = true := beq_iff_eq.mpr c9
      have c9b1 : (a1 != (-9223372036854775808)) = false := bne_eq_false_iff_eq.mpr c9
      clear c9
      simp only [Option.some.injEq, Prod.mk.injEq] at H
      obtain ⟨rfl, rfl⟩ := H
      go_wp2
      repeat (go_quiet (fail); try go_wp2)
      go_ret2
      exact ⟨by first | rfl | (simp; done) | (simp [*]; done), by repeat (first | exact Drawn0.refl _ | apply Drawn0.step)⟩
     ·
      rw [if_neg c9] at H
      have c9b0 : (a1 == (-9223372036854775808)) = false := beq_eq_false_iff_ne.mpr c9
      have c9b1 : (a1 != (-9223372036854775808)) = true := bne_iff_ne.mpr c9
      by_cases c10 : a1 = 0
      ·
       rw [if_pos c10] at H
       exact absurd H (by simp)
      ·
       rw [if_neg c10] at H
       have c10b0 : (a1 == 0) = false := beq_eq_false_iff_ne.mpr c10
       have c10b1 : (a1 != 0) = true := bne_iff_ne.mpr c10
       simp only [Option.some.injEq, Prod.mk.injEq] at H
       obtain ⟨rfl, rfl⟩ := H
       go_wp2
       repeat (go_quiet (fail); try go_wp2)
       go_ret2
       exact ⟨by first | rfl | (simp; done) | (simp [*]; done), by repeat (first | exact Drawn0.refl _ | apply Drawn0.step)⟩

/-! ### resource_int64Amount_Mul: function 27 -/
def resource_int64Amount_Mul.f (k : Nat) (s0_0 : Int) (s0_1 : Int) (a1 : Int) : Option (Bool × Int × Int) := if s0_0 = 0 then (some (true, s0_0, s0_1)) else (if a1 = 0 then (some (true, 0, 0)) else (if s0_1 = 0 then ((resource_int64Multiply.f k s0_0 a1).bind fun bt236 => (if bt236.2 = true then (some (true, bt236.1, s0_1)) else (some (false, s0_0, s0_1)))) else (if s0_1 > 0 then ((resource_int64Multiply.f k s0_0 a1).bind fun bt238 => (if bt238.2 = true then ((resource_positiveScaleInt64.f k bt238.1 s0_1).bind fun bt240 => (if bt240.2 = true then (some (true, bt238.1, s0_1)) else (some (false, s0_0, s0_1)))) else (some (false, s0_0, s0_1)))) else ((resource_int64Multiply.f k s0_0 a1).bind fun bt242 => (if bt242.2 = true then ((resource_negativeScaleInt64.f k bt242.1 (wrap32 (-s0_1))).bind fun bt244 => (if bt244.2 = true then (some (true, bt242.1, s0_1)) else (some (false, s0_0, s0_1)))) else (some (false, s0_0, s0_1)))))))
theorem resource_int64Amount_Mul.mono : ∀ a0 a1 a2 k, LeO (resource_int64Amount_Mul.f k a0 a1 a2) (resource_int64Amount_Mul.f (k + 1) a0 a1 a2) := by
 intro a0 a1 a2 k
 unfold resource_int64Amount_Mul.f
 repeat' first
   | (with_reducible exact resource_int64Multiply.mono _ _ _)
   | (with_reducible exact resource_negativeScaleInt64.mono _ _ _)
   | (with_reducible exact resource_positiveScaleInt64.mono _ _ _)
   | (with_reducible exact LeO.refl _)
   | (with_reducible exact LeO.none _)
   | (with_reducible refine LeO.ite ?_ ?_)
   | (with_reducible refine LeO.bind ?_ (fun _ => ?_))
   | exact resource_int64Multiply.mono _ _ _
   | exact resource_negativeScaleInt64.mono _ _ _
   | exact resource_positiveScaleInt64.mono _ _ _
   | exact LeO.none _
   | refine LeO.ite ?_ ?_
   | refine LeO.bind ?_ (fun _ => ?_)
set_option maxHeartbeats 8000000 in
set_option maxRecDepth 100000 in
theorem resource_int64Amount_Mul.calls (k : Nat) (g : Nat) (s0_0 : Int) (s0_1 : Int) (a1 : Int) (r1 : Bool) (r2 : Int) (r3 : Int) (w0 w : World) (hI : IsS47 w0 w g s0_0 s0_1) (hB : Below w0.heap.size w0 w) (h : resource_int64Amount_Mul.f k s0_0 s0_1 a1 = some (r1, r2, r3)) :
  Calls Try.prog 27 #[.pointer (some ⟨g, 0, none⟩), .int .i64 a1] w fun e w' => e = .returned (.bool r1) ∧ IsS47 w0 w' g r2 r3 ∧ Below w0.heap.size w0 w' ∧ KeepBut w w' g none := by
 have HI0 := aM_ hI
 have HK := aM_ (KeepBut.refl w g none)
 have HL := aM_ hB.size
 clear hI
 have HW0 := aM_ hB.size
 have HB := aM_ hB
 clear hB
 have H : (if s0_0 = 0 then (some (true, s0_0, s0_1)) else (if a1 = 0 then (some (true, 0, 0)) else (if s0_1 = 0 then ((resource_int64Multiply.f k s0_0 a1).bind fun bt236 => (if bt236.2 = true then (some (true, bt236.1, s0_1)) else (some (false, s0_0, s0_1)))) else (if s0_1 > 0 then ((resource_int64Multiply.f k s0_0 a1).bind fun bt238 => (if bt238.2 = true then ((resource_positiveScaleInt64.f k bt238.1 s0_1).bind fun bt240 => (if bt240.2 = true then (some (true, bt238.1, s0_1)) else (some (false, s0_0, s0_1)))) else (some (false, s0_0, s0_1)))) else ((resource_int64Multiply.f k s0_0 a1).bind fun bt242 => (if bt242.2 = true then ((resource_negativeScaleInt64.f k bt242.1 (wrap32 (-s0_1))).bind fun bt244 => (if bt244.2 = true then (some (true, bt242.1, s0_1)) else (some (false, s0_0, s0_1)))) else (some (false, s0_0, s0_1)))))))) = some (r1, r2, r3) := h
 clear h
 by_cases c3 : s0_0 = 0
 ·
  rw [if_pos c3] at H
  have c3b0 : (s0_0 == 0) = true := beq_iff_eq.mpr c3
  have c3b1 : (s0_0 != 0) = false := bne_eq_false_iff_eq.mpr c3
  clear c3
  simp only [Option.some.injEq, Prod.mk.injEq] at H
  obtain ⟨rfl, rfl, rfl⟩ := H
  obtain ⟨HGz4, hgz4⟩ := HI0.out
  have hcz4_0 := cellS47_0 HGz4
  have hcz4_1 := cellS47_1 HGz4
  have hfz4_0 := bF_ HGz4 0
  have hfz4_1 := bF_ HGz4 1
  clear HGz4 hgz4
  go_enter Try.func27, Try.ntmps27
  go_wp2
  go_ret
  exact ⟨by first | rfl | (simp [errW_none, errW_some] <;> rfl) | (simp [*, errW_none, errW_some] <;> rfl) | (exfalso; contradiction), by repeat (first | (with_reducible first | exact HI0.out | apply IsS47.alloc | apply IsS47.drewN | apply IsS47.drew | apply IsS47.set_0 | apply IsS47.set_1) | exact HI0.out), by repeat (first | (with_reducible first | exact HB.out | apply bB_ | apply wN_ | apply bE_ | refine bS_ ?_ (IsS47.ge HI0.out)) | exact HB.out), by repeat (first | (with_reducible first | exact HK.out | apply KeepBut.set_ | apply keep_drewN | apply keep_drew | apply keep_alloc) | exact HK.out)⟩
 ·
  rw [if_neg c3] at H
  have c3b0 : (s0_0 == 0) = false := beq_eq_false_iff_ne.mpr c3
  have c3b1 : (s0_0 != 0) = true := bne_iff_ne.mpr c3
  by_cases c5 : a1 = 0
  ·
   rw [if_pos c5] at H
   have c5b0 : (a1 == 0) = true := beq_iff_eq.mpr c5
   have c5b1 : (a1 != 0) = false := bne_eq_false_iff_eq.mpr c5
   clear c5
   simp only [Option.some.injEq, Prod.mk.injEq] at H
   obtain ⟨rfl, rfl, rfl⟩ := H
   obtain ⟨HGz6, hgz6⟩ := HI0.out
   have hcz6_0 := cellS47_0 HGz6
   have hcz6_1 := cellS47_1 HGz6
   have hfz6_0 := bF_ HGz6 0
   have hfz6_1 := bF_ HGz6 1
   clear HGz6 hgz6
   go_enter Try.func27, Try.ntmps27
   go_wp2
   go_ret
   exact ⟨by first | rfl | (simp [errW_none, errW_some] <;> rfl) | (simp [*, errW_none, errW_some] <;> rfl) | (exfalso; contradiction), by repeat (first | (with_reducible first | exact HI0.out | apply IsS47.alloc | apply IsS47.drewN | apply IsS47.drew | apply IsS47.set_0 | apply IsS47.set_1) | exact HI0.out), by repeat (first | (with_reducible first | exact HB.out | apply bB_ | apply wN_ | apply bE_ | refine bS_ ?_ (IsS47.ge HI0.out)) | exact HB.out), by repeat (first | (with_reducible first | exact HK.out | apply KeepBut.set_ | apply keep_drewN | apply keep_drew | apply keep_alloc) | exact HK.out)⟩
  ·
   rw [if_neg c5] at H
   have c5b0 : (a1 == 0) = false := beq_eq_false_iff_ne.mpr c5
   have c5b1 : (a1 != 0) = true := bne_iff_ne.mpr c5
   by_cases c7 : s0_1 = 0
   ·
    rw [if_pos c7] at H
    have c7b0 : (s0_1 == 0) = true := beq_iff_eq.mpr c7
    have c7b1 : (s0_1 != 0) = false := bne_eq_false_iff_eq.mpr c7
    clear c7
    replace H := Option.bind_eq_some_iff.mp H
    obtain ⟨⟨t236, t237⟩, A80, H⟩ := H
    replace H : (if t237 = true then (some (true, t236, s0_1)) else (some (false, s0_0, s0_1))) = some (r1, r2, r3) := H
    have A8 := aM_ A80
    clear A80
    by_cases c9 : t237 = true
    ·
     subst c9
     have H1 : (some (true, t236, s0_1)) = some (r1, r2, r3) := by rw [if_pos rfl] at H; exact H
     clear H
     have H := H1
     clear H1
     simp only [Option.some.injEq, Prod.mk.injEq] at H
     obtain ⟨rfl, rfl, rfl⟩ := H
     obtain ⟨HGz10, hgz10⟩ := HI0.out
     have hcz10_0 := cellS47_0 HGz10
     have hcz10_1 := cellS47_1 HGz10
     have hfz10_0 := bF_ HGz10 0
     have hfz10_1 := bF_ HGz10 1
     clear HGz10 hgz10
     go_enter Try.func27, Try.ntmps27
     go_wp2_with (first | ((with_reducible refine gate_callee (f := 32) rfl ?_); refine goesL_ (some 65) rfl rfl Try.func32 (by kernel_rfl) rfl #[.int .i64 s0_0, .int .i64 a1] rfl (by (try simp only [List.map_toArray, List.map_cons, List.map_nil]); first | done | rfl | (simp only [List.length_drop, List.length_take]; rfl)) ?_; (with_reducible refine (resource_int64Multiply.calls k s0_0 a1 t236 true _ A8.out).mono ?_); rintro e w' ⟨rfl, ⟨nd, rfl⟩⟩; refine ⟨_, rfl, ?_⟩))
     go_ret
     exact ⟨by first | rfl | (simp [errW_none, errW_some] <;> rfl) | (simp [*, errW_none, errW_some] <;> rfl) | (exfalso; contradiction), by repeat (first | (with_reducible first | exact HI0.out | apply IsS47.alloc | apply IsS47.drewN | apply IsS47.drew | apply IsS47.set_0 | apply IsS47.set_1) | exact HI0.out), by repeat (first | (with_reducible first | exact HB.out | apply bB_ | apply wN_ | apply bE_ | refine bS_ ?_ (IsS47.ge HI0.out)) | exact HB.out), by repeat (first | (with_reducible first | exact HK.out | apply KeepBut.set_ | apply keep_drewN | apply keep_drew | apply keep_alloc) | exact HK.out)⟩
    ·
     replace c9 := Bool.eq_false_iff.mpr c9
     subst c9
     have H1 : (some (false, s0_0, s0_1)) = some (r1, r2, r3) := by rw [if_neg (show ¬ (false = true) by decide)] at H; exact H
     clear H
     have H := H1
     clear H1
     simp only [Option.some.injEq, Prod.mk.injEq] at H
     obtain ⟨rfl, rfl, rfl⟩ := H
     obtain ⟨HGz11, hgz11⟩ := HI0.out
     have hcz11_0 := cellS47_0 HGz11
     have hcz11_1 := cellS47_1 HGz11
     have hfz11_0 := bF_ HGz11 0
     have hfz11_1 := bF_ HGz11 1
     clear HGz11 hgz11
     go_enter Try.func27, Try.ntmps27
     go_wp2_with (first | ((with_reducible refine gate_callee (f := 32) rfl ?_); refine goesL_ (some 65) rfl rfl Try.func32 (by kernel_rfl) rfl #[.int .i64 s0_0, .int .i64 a1] rfl (by (try simp only [List.map_toArray, List.map_cons, List.map_nil]); first | done | rfl | (simp only [List.length_drop, List.length_take]; rfl)) ?_; (with_reducible refine (resource_int64Multiply.calls k s0_0 a1 t236 false _ A8.out).mono ?_); rintro e w' ⟨rfl, ⟨nd, rfl⟩⟩; refine ⟨_, rfl, ?_⟩))
     go_ret
     exact ⟨by first | rfl | (simp [errW_none, errW_some] <;> rfl) | (simp [*, errW_none, errW_some] <;> rfl) | (exfalso; contradiction), by repeat (first | (with_reducible first | exact HI0.out | apply IsS47.alloc | apply IsS47.drewN | apply IsS47.drew | apply IsS47.set_0 | apply IsS47.set_1) | exact HI0.out), by repeat (first | (with_reducible first | exact HB.out | apply bB_ | apply wN_ | apply bE_ | refine bS_ ?_ (IsS47.ge HI0.out)) | exact HB.out), by repeat (first | (with_reducible first | exact HK.out | apply KeepBut.set_ | apply keep_drewN | apply keep_drew | apply keep_alloc) | exact HK.out)⟩
   ·
    rw [if_neg c7] at H
    have c7b0 : (s0_1 == 0) = false := beq_eq_false_iff_ne.mpr c7
    have c7b1 : (s0_1 != 0) = true := bne_iff_ne.mpr c7
    by_cases c12 : s0_1 > 0
    ·
     rw [if_pos c12] at H
     have c12b0 : decide (0 < s0_1) = true := decide_eq_true c12
     clear c12
     replace H := Option.bind_eq_some_iff.mp H
     obtain ⟨⟨t238, t239⟩, A130, H⟩ := H
     replace H : (if t239 = true then ((resource_positiveScaleInt64.f k t238 s0_1).bind fun bt240 => (if bt240.2 = true then (some (true, t238, s0_1)) else (some (false, s0_0, s0_1)))) else (some (false, s0_0, s0_1))) = some (r1, r2, r3) := H
     have A13 := aM_ A130
     clear A130
     by_cases c14 : t239 = true
     ·
      subst c14
      have H1 : ((resource_positiveScaleInt64.f k t238 s0_1).bind fun bt240 => (if bt240.2 = true then (some (true, t238, s0_1)) else (some (false, s0_0, s0_1)))) = some (r1, r2, r3) := by rw [if_pos rfl] at H; exact H
      clear H
      have H := H1
      clear H1
      replace H := Option.bind_eq_some_iff.mp H
      obtain ⟨⟨t240, t241⟩, A150, H⟩ := H
      replace H : (if t241 = true then (some (true, t238, s0_1)) else (some (false, s0_0, s0_1))) = some (r1, r2, r3) := H
      have A15 := aM_ A150
      clear A150
      by_cases c16 : t241 = true
      ·
       subst c16
       have H1 : (some (true, t238, s0_1)) = some (r1, r2, r3) := by rw [if_pos rfl] at H; exact H
       clear H
       have H := H1
       clear H1
       simp only [Option.some.injEq, Prod.mk.injEq] at H
       obtain ⟨rfl, rfl, rfl⟩ := H
       obtain ⟨HGz17, hgz17⟩ := HI0.out
       have hcz17_0 := cellS47_0 HGz17
       have hcz17_1 := cellS47_1 HGz17
       have hfz17_0 := bF_ HGz17 0
       have hfz17_1 := bF_ HGz17 1
       clear HGz17 hgz17
       go_enter Try.func27, Try.ntmps27
       go_wp2_with (first | ((with_reducible refine gate_callee (f := 32) rfl ?_); refine goesL_ (some 86) rfl rfl Try.func32 (by kernel_rfl) rfl #[.int .i64 s0_0, .int .i64 a1] rfl (by (try simp only [List.map_toArray, List.map_cons, List.map_nil]); first | done | rfl | (simp only [List.length_drop, List.length_take]; rfl)) ?_; (with_reducible refine (resource_int64Multiply.calls k s0_0 a1 t238 true _ A13.out).mono ?_); rintro e w' ⟨rfl, ⟨nd, rfl⟩⟩; refine ⟨_, rfl, ?_⟩) | ((with_reducible refine gate_callee (f := 29) rfl ?_); refine goesL_ (some 97) rfl rfl Try.func29 (by kernel_rfl) rfl #[.int .i64 t238, .int .i32 s0_1] rfl (by (try simp only [List.map_toArray, List.map_cons, List.map_nil]); first | done | rfl | (simp only [List.length_drop, List.length_take]; rfl)) ?_; (with_reducible refine (resource_positiveScaleInt64.calls k t238 s0_1 t240 true _ A15.out).mono ?_); rintro e w' ⟨rfl, ⟨nd, rfl⟩⟩; refine ⟨_, rfl, ?_⟩))
       go_ret
       exact ⟨by first | rfl | (simp [errW_none, errW_some] <;> rfl) | (simp [*, errW_none, errW_some] <;> rfl) | (exfalso; contradiction), by repeat (first | (with_reducible first | exact HI0.out | apply IsS47.alloc | apply IsS47.drewN | apply IsS47.drew | apply IsS47.set_0 | apply IsS47.set_1) | exact HI0.out), by repeat (first | (with_reducible first | exact HB.out | apply bB_ | apply wN_ | apply bE_ | refine bS_ ?_ (IsS47.ge HI0.out)) | exact HB.out), by repeat (first | (with_reducible first | exact HK.out | apply KeepBut.set_ | apply keep_drewN | apply keep_drew | apply keep_alloc) | exact HK.out)⟩
      ·
       replace c16 := Bool.eq_false_iff.mpr c16
       subst c16
       have H1 : (some (false, s0_0, s0_1)) = some (r1, r2, r3) := by rw [if_neg (show ¬ (false = true) by decide)] at H; exact H
       clear H
       have H := H1
       clear H1
       simp only [Option.some.injEq, Prod.mk.injEq] at H
       obtain ⟨rfl, rfl, rfl⟩ := H
       obtain ⟨HGz18, hgz18⟩ := HI0.out
       have hcz18_0 := cellS47_0 HGz18
       have hcz18_1 := cellS47_1 HGz18
       have hfz18_0 := bF_ HGz18 0
       have hfz18_1 := bF_ HGz18 1
       clear HGz18 hgz18
       go_enter Try.func27, Try.ntmps27
       go_wp2_with (first | ((with_reducible refine gate_callee (f := 32) rfl ?_); refine goesL_ (some 86) rfl rfl Try.func32 (by kernel_rfl) rfl #[.int .i64 s0_0, .int .i64 a1] rfl (by (try simp only [List.map_toArray, List.map_cons, List.map_nil]); first | done | rfl | (simp only [List.length_drop, List.length_take]; rfl)) ?_; (with_reducible refine (resource_int64Multiply.calls k s0_0 a1 t238 true _ A13.out).mono ?_); rintro e w' ⟨rfl, ⟨nd, rfl⟩⟩; refine ⟨_, rfl, ?_⟩) | ((with_reducible refine gate_callee (f := 29) rfl ?_); refine goesL_ (some 97) rfl rfl Try.func29 (by kernel_rfl) rfl #[.int .i64 t238, .int .i32 s0_1] rfl (by (try simp only [List.map_toArray, List.map_cons, List.map_nil]); first | done | rfl | (simp only [List.length_drop, List.length_take]; rfl)) ?_; (with_reducible refine (resource_positiveScaleInt64.calls k t238 s0_1 t240 false _ A15.out).mono ?_); rintro e w' ⟨rfl, ⟨nd, rfl⟩⟩; refine ⟨_, rfl, ?_⟩))
       go_ret
       exact ⟨by first | rfl | (simp [errW_none, errW_some] <;> rfl) | (simp [*, errW_none, errW_some] <;> rfl) | (exfalso; contradiction), by repeat (first | (with_reducible first | exact HI0.out | apply IsS47.alloc | apply IsS47.drewN | apply IsS47.drew | apply IsS47.set_0 | apply IsS47.set_1) | exact HI0.out), by repeat (first | (with_reducible first | exact HB.out | apply bB_ | apply wN_ | apply bE_ | refine bS_ ?_ (IsS47.ge HI0.out)) | exact HB.out), by repeat (first | (with_reducible first | exact HK.out | apply KeepBut.set_ | apply keep_drewN | apply keep_drew | apply keep_alloc) | exact HK.out)⟩
     ·
      replace c14 := Bool.eq_false_iff.mpr c14
      subst c14
      have H1 : (some (false, s0_0, s0_1)) = some (r1, r2, r3) := by rw [if_neg (show ¬ (false = true) by decide)] at H; exact H
      clear H
      have H := H1
      clear H1
      simp only [Option.some.injEq, Prod.mk.injEq] at H
      obtain ⟨rfl, rfl, rfl⟩ := H
      obtain ⟨HGz19, hgz19⟩ := HI0.out
      have hcz19_0 := cellS47_0 HGz19
      have hcz19_1 := cellS47_1 HGz19
      have hfz19_0 := bF_ HGz19 0
      have hfz19_1 := bF_ HGz19 1
      clear HGz19 hgz19
      go_enter Try.func27, Try.ntmps27
      go_wp2_with (first | ((with_reducible refine gate_callee (f := 32) rfl ?_); refine goesL_ (some 86) rfl rfl Try.func32 (by kernel_rfl) rfl #[.int .i64 s0_0, .int .i64 a1] rfl (by (try simp only [List.map_toArray, List.map_cons, List.map_nil]); first | done | rfl | (simp only [List.length_drop, List.length_take]; rfl)) ?_; (with_reducible refine (resource_int64Multiply.calls k s0_0 a1 t238 false _ A13.out).mono ?_); rintro e w' ⟨rfl, ⟨nd, rfl⟩⟩; refine ⟨_, rfl, ?_⟩))
      go_ret
      exact ⟨by first | rfl | (simp [errW_none, errW_some] <;> rfl) | (simp [*, errW_none, errW_some] <;> rfl) | (exfalso; contradiction), by repeat (first | (with_reducible first | exact HI0.out | apply IsS47.alloc | apply IsS47.drewN | apply IsS47.drew | apply IsS47.set_0 | apply IsS47.set_1) | exact HI0.out), by repeat (first | (with_reducible first | exact HB.out | apply bB_ | apply wN_ | apply bE_ | refine bS_ ?_ (IsS47.ge HI0.out)) | exact HB.out), by repeat (first | (with_reducible first | exact HK.out | apply KeepBut.set_ | apply keep_drewN | apply keep_drew | apply keep_alloc) | exact HK.out)⟩
    ·
     rw [if_neg c12] at H
     have c12b0 : decide (0 < s0_1) = false := decide_eq_false c12
     clear c12
     replace H := Option.bind_eq_some_iff.mp H
     obtain ⟨⟨t242, t243⟩, A200, H⟩ := H
     replace H : (if t243 = true then ((resource_negativeScaleInt64.f k t242 (wrap32 (-s0_1))).bind fun bt244 => (if bt244.2 = true then (some (true, t242, s0_1)) else (some (false, s0_0, s0_1)))) else (some (false, s0_0, s0_1))) = some (r1, r2, r3) := H
     have A20 := aM_ A200
     clear A200
     by_cases c21 : t243 = true
     ·
      subst c21
      have H1 : ((resource_negativeScaleInt64.f k t242 (wrap32 (-s0_1))).bind fun bt244 => (if bt244.2 = true then (some (true, t242, s0_1)) else (some (false, s0_0, s0_1)))) = some (r1, r2, r3) := by rw [if_pos rfl] at H; exact H
      clear H
      have H := H1
      clear H1
      replace H := Option.bind_eq_some_iff.mp H
      obtain ⟨⟨t244, t245⟩, A220, H⟩ := H
      replace H : (if t245 = true then (some (true, t242, s0_1)) else (some (false, s0_0, s0_1))) = some (r1, r2, r3) := H
      have A22 := aM_ A220
      clear A220
      by_cases c23 : t245 = true
      ·
       subst c23
       have H1 : (some (true, t242, s0_1)) = some (r1, r2, r3) := by rw [if_pos rfl] at H; exact H
       clear H
       have H := H1
       clear H1
       simp only [Option.some.injEq, Prod.mk.injEq] at H
       obtain ⟨rfl, rfl, rfl⟩ := H
       obtain ⟨HGz24, hgz24⟩ := HI0.out
       have hcz24_0 := cellS47_0 HGz24
       have hcz24_1 := cellS47_1 HGz24
       have hfz24_0 := bF_ HGz24 0
       have hfz24_1 := bF_ HGz24 1
       clear HGz24 hgz24
       go_enter Try.func27, Try.ntmps27
       go_wp2_with (first | ((with_reducible refine gate_callee (f := 32) rfl ?_); refine goesL_ (some 17) rfl rfl Try.func32 (by kernel_rfl) rfl #[.int .i64 s0_0, .int .i64 a1] rfl (by (try simp only [List.map_toArray, List.map_cons, List.map_nil]); first | done | rfl | (simp only [List.length_drop, List.length_take]; rfl)) ?_; (with_reducible refine (resource_int64Multiply.calls k s0_0 a1 t242 true _ A20.out).mono ?_); rintro e w' ⟨rfl, ⟨nd, rfl⟩⟩; refine ⟨_, rfl, ?_⟩) | ((with_reducible refine gate_callee (f := 31) rfl ?_); refine goesL_ (some 29) rfl rfl Try.func31 (by kernel_rfl) rfl #[.int .i64 t242, .int .i32 (wrap32 (-s0_1))] rfl (by (try simp only [List.map_toArray, List.map_cons, List.map_nil]); first | done | rfl | (simp only [List.length_drop, List.length_take]; rfl)) ?_; (with_reducible refine (resource_negativeScaleInt64.calls k t242 (wrap32 (-s0_1)) t244 true _ A22.out).mono ?_); rintro e w' ⟨rfl, ⟨nd, rfl⟩⟩; refine ⟨_, rfl, ?_⟩))
       go_ret
       exact ⟨by first | rfl | (simp [errW_none, errW_some] <;> rfl) | (simp [*, errW_none, errW_some] <;> rfl) | (exfalso; contradiction), by repeat (first | (with_reducible first | exact HI0.out | apply IsS47.alloc | apply IsS47.drewN | apply IsS47.drew | apply IsS47.set_0 | apply IsS47.set_1) | exact HI0.out), by repeat (first | (with_reducible first | exact HB.out | apply bB_ | apply wN_ | apply bE_ | refine bS_ ?_ (IsS47.ge HI0.out)) | exact HB.out), by repeat (first | (with_reducible first | exact HK.out | apply KeepBut.set_ | apply keep_drewN | apply keep_drew | apply keep_alloc) | exact HK.out)⟩
      ·
       replace c23 := Bool.eq_false_iff.mpr c23
       subst c23
       have H1 : (some (false, s0_0, s0_1)) = some (r1, r2, r3) := by rw [if_neg (show ¬ (false = true) by decide)] at H; exact H
       clear H
       have H := H1
       clear H1
       simp only [Option.some.injEq, Prod.mk.injEq] at H
       obtain ⟨rfl, rfl, rfl⟩ := H
       obtain ⟨HGz25, hgz25⟩ := HI0.out
       have hcz25_0 := cellS47_0 HGz25
       have hcz25_1 := cellS47_1 HGz25
       have hfz25_0 := bF_ HGz25 0
       have hfz25_1 := bF_ HGz25 1
       clear HGz25 hgz25
       go_enter Try.func27, Try.ntmps27
       go_wp2_with (first | ((with_reducible refine gate_callee (f := 32) rfl ?_); refine goesL_ (some 17) rfl rfl Try.func32 (by kernel_rfl) rfl #[.int .i64 s0_0, .int .i64 a1] rfl (by (try simp only [List.map_toArray, List.map_cons, List.map_nil]); first | done | rfl | (simp only [List.length_drop, List.length_take]; rfl)) ?_; (with_reducible refine (resource_int64Multiply.calls k s0_0 a1 t242 true _ A20.out).mono ?_); rintro e w' ⟨rfl, ⟨nd, rfl⟩⟩; refine ⟨_, rfl, ?_⟩) | ((with_reducible refine gate_callee (f := 31) rfl ?_); refine goesL_ (some 29) rfl rfl Try.func31 (by kernel_rfl) rfl #[.int .i64 t242, .int .i32 (wrap32 (-s0_1))] rfl (by (try simp only [List.map_toArray, List.map_cons, List.map_nil]); first | done | rfl | (simp only [List.length_drop, List.length_take]; rfl)) ?_; (with_reducible refine (resource_negativeScaleInt64.calls k t242 (wrap32 (-s0_1)) t244 false _ A22.out).mono ?_); rintro e w' ⟨rfl, ⟨nd, rfl⟩⟩; refine ⟨_, rfl, ?_⟩))
       go_ret
       exact ⟨by first | rfl | (simp [errW_none, errW_some] <;> rfl) | (simp [*, errW_none, errW_some] <;> rfl) | (exfalso; contradiction), by repeat (first | (with_reducible first | exact HI0.out | apply IsS47.alloc | apply IsS47.drewN | apply IsS47.drew | apply IsS47.set_0 | apply IsS47.set_1) | exact HI0.out), by repeat (first | (with_reducible first | exact HB.out | apply bB_ | apply wN_ | apply bE_ | refine bS_ ?_ (IsS47.ge HI0.out)) | exact HB.out), by repeat (first | (with_reducible first | exact HK.out | apply KeepBut.set_ | apply keep_drewN | apply keep_drew | apply keep_alloc) | exact HK.out)⟩
     ·
      replace c21 := Bool.eq_false_iff.mpr c21
      subst c21
      have H1 : (some (false, s0_0, s0_1)) = some (r1, r2, r3) := by rw [if_neg (show ¬ (false = true) by decide)] at H; exact H
      clear H
      have H := H1
      clear H1
      simp only [Option.some.injEq, Prod.mk.injEq] at H
      obtain ⟨rfl, rfl, rfl⟩ := H
      obtain ⟨HGz26, hgz26⟩ := HI0.out
      have hcz26_0 := cellS47_0 HGz26
      have hcz26_1 := cellS47_1 HGz26
      have hfz26_0 := bF_ HGz26 0
      have hfz26_1 := bF_ HGz26 1
      clear HGz26 hgz26
      go_enter Try.func27, Try.ntmps27
      go_wp2_with (first | ((with_reducible refine gate_callee (f := 32) rfl ?_); refine goesL_ (some 17) rfl rfl Try.func32 (by kernel_rfl) rfl #[.int .i64 s0_0, .int .i64 a1] rfl (by (try simp only [List.map_toArray, List.map_cons, List.map_nil]); first | done | rfl | (simp only [List.length_drop, List.length_take]; rfl)) ?_; (with_reducible refine (resource_int64Multiply.calls k s0_0 a1 t242 false _ A20.out).mono ?_); rintro e w' ⟨rfl, ⟨nd, rfl⟩⟩; refine ⟨_, rfl, ?_⟩))
      go_ret
      exact ⟨by first | rfl | (simp [errW_none, errW_some] <;> rfl) | (simp [*, errW_none, errW_some] <;> rfl) | (exfalso; contradiction), by repeat (first | (with_reducible first | exact HI0.out | apply IsS47.alloc | apply IsS47.drewN | apply IsS47.drew | apply IsS47.set_0 | apply IsS47.set_1) | exact HI0.out), by repeat (first | (with_reducible first | exact HB.out | apply bB_ | apply wN_ | apply bE_ | refine bS_ ?_ (IsS47.ge HI0.out)) | exact HB.out), by repeat (first | (with_reducible first | exact HK.out | apply KeepBut.set_ | apply keep_drewN | apply keep_drew | apply keep_alloc) | exact HK.out)⟩

/-! ### impl_AmountMul: function 17 -/
def impl_AmountMul.f (k : Nat) (a0_0 : Int) (a0_1 : Int) (a1 : Int) : Option (Int × Int × Bool) := (resource_int64Amount_Mul.f k a0_0 (wrap32 a0_1) a1).bind fun t => some (t.2.1, wrap64 t.2.2, t.1)
theorem impl_AmountMul.mono : ∀ a0 a1 a2 k, LeO (impl_AmountMul.f k a0 a1 a2) (impl_AmountMul.f (k + 1) a0 a1 a2) := by
 intro a0 a1 a2 k
 unfold impl_AmountMul.f
 exact LeO.bind (resource_int64Amount_Mul.mono _ _ _ _) (fun _ => LeO.refl _)
set_option maxHeartbeats 1000000 in
theorem impl_AmountMul.calls (k : Nat) (a0_0 : Int) (a0_1 : Int) (a1 : Int) (r1 : Int) (r2 : Int) (r3 : Bool) (w : World) (h : impl_AmountMul.f k a0_0 a0_1 a1 = some (r1, r2, r3)) :
  Calls Try.prog 17 #[.agg #[.int .i64 a0_0, .int .i64 a0_1], .int .i64 a1] w fun e w' => e = .returned (.tuple #[.agg #[.int .i64 r1, .int .i64 r2], .bool r3]) ∧ Below w.heap.size w w' := by
 have hu1 := Try.underlying23
 have hu2 := Try.underlying47
 unfold impl_AmountMul.f at h
 replace h := Option.bind_eq_some_iff.mp h
 obtain ⟨⟨t1, t2, t3⟩, hA, h⟩ := h
 simp only [Option.some.injEq, Prod.mk.injEq] at h
 obtain ⟨rfl, rfl, rfl⟩ := h
 have A1 := aM_ hA
 clear hA
 go_enter Try.func17, Try.ntmps17
 go_wp2_with fail
 refine (resource_ZzAmount.calls _ _ _ _ _ rfl).mono ?_
 rintro e w1 ⟨rfl, hb1⟩
 have B1 : Aside0 (Below w.heap.size w w1) := ⟨below_step (bB_ (bB_ (Below.refl _ _) _) _) hb1⟩
 have hR : Aside0 (w1.heap[w.heap.size + 1]? = some (.cells #[.int .i64 0, .int .i64 0] 23 (0, 0))) := ⟨blk_below (by simpa using blk_new (w.alloc (.cells #[.int .i64 a0_0, .int .i64 a0_1] 23)) (.cells #[.int .i64 0, .int .i64 0] 23)) hb1⟩
 have hz1 : w.heap.size + 1 < w1.heap.size := by have := hb1.size; simp at this; omega
 have HI : Aside0 (IsS47 w (w1.alloc (.cells #[.int .i64 a0_0, .int .i32 (wrap32 a0_1)] 47)) w1.heap.size a0_0 (wrap32 a0_1)) := ⟨IsS47.new w w1 _ _ B1.out⟩
 have B2 : Aside0 (Below w.heap.size w (w1.alloc (.cells #[.int .i64 a0_0, .int .i32 (wrap32 a0_1)] 47))) := ⟨bB_ B1.out _⟩
 have hR2 : Aside0 ((w1.alloc (.cells #[.int .i64 a0_0, .int .i32 (wrap32 a0_1)] 47)).heap[w.heap.size + 1]? = some (.cells #[.int .i64 0, .int .i64 0] 23 (0, 0))) := ⟨bA_ hR.out _⟩
 clear hb1 hR
 go_wp2_with fail
 refine (resource_int64Amount_Mul.calls k _ _ _ _ _ _ _ w _ HI.out B2.out A1.out).mono ?_
 rintro e w3 ⟨rfl, hi3, hb3, hk3⟩
 have hR3 : Aside0 (w3.heap[w.heap.size + 1]? = some (.cells #[.int .i64 0, .int .i64 0] 23 (0, 0))) := ⟨hk3.blk hR2.out (by omega) (by simp)⟩
 have B3 := aM_ hb3
 have d0 : w3.cell? ⟨w1.heap.size, 0, none⟩ = some (.int .i64 t2) := bC_ hi3.1 0
 have d1 : w3.cell? ⟨w1.heap.size, 1, none⟩ = some (.int .i32 t3) := bC_ hi3.1 1
 clear hi3 hb3 hk3 hR2 HI B2 B1 hz1
 go_wp2_with fail
 refine (resource_int64Amount_ZzParts.calls _ _ _ _ _ rfl).mono ?_
 rintro e w4 ⟨rfl, hb4⟩
 have B4 : Aside0 (Below w.heap.size w w4) := ⟨below_step B3.out hb4⟩
 have hR4 := blk_below hR3.out hb4
 have e0 : w4.cell? ⟨w.heap.size + 1, 0, none⟩ = some (.int .i64 0) := bC_ hR4 0
 have e1 : w4.cell? ⟨w.heap.size + 1, 1, none⟩ = some (.int .i64 0) := bC_ hR4 1
 have f0 : w4.frozen? ⟨w.heap.size + 1, 0, none⟩ = false := bF_ hR4 0
 have f1 : w4.frozen? ⟨w.heap.size + 1, 1, none⟩ = false := bF_ hR4 1
 clear hb4 hR4 hR3 B3 d0 d1
 go_wp2_with fail
 exact bodyPost_ret (v := .tuple #[.agg #[.int .i64 t2, .int .i64 (wrap64 t3)], .bool t1]) (by simp [results, Try.results17, go_sem, e0, e1]) rfl ⟨rfl, bS_ (bS_ B4.out (by omega)) (by omega)⟩
end Go.Proofs.Ytdhooibmibkbeaa.PFnAmountMul
