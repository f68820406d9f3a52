/- Functions of the program as plain Lean functions, and that the machine's calls do what these say: written for this claim by wip/myprint.py over the kit's print.py. -/
import Derived.Test.YtihbljdghmfidaaPFnAmountScaledx0
import Derived.Test.YtihbljdghmfidaaPFnAmountScaledx1
import Derived.Test.YtihbljdghmfidaaPFnAmountScaledx2
import Derived.Test.YtihbljdghmfidaaPFnAmountScaledx3
namespace Go.Proofs.Ytihbljdghmfidaa.PFnAmountScaled
open Go.RowKit Go.Proofs.YtihbljdghmfidaaW.PrintWords Go.Proofs.YtihbljdghmfidaaW.PrintLast Go.Proofs.YtihbljdghmfidaaW.PrintMore
attribute [local go_sem] max2_int min2_int max_two min_two max_three min_three max_four min_four   -- for this text's walks alone
set_option linter.unusedVariables false
set_option linter.unusedSimpArgs false

/-! ### resource_negativeScaleInt64: function 31 -/
mutual
def resource_negativeScaleInt64.l0 : Nat → Int → Int → Int → Bool → Int → Option (Int × Bool)
  | 0, _, _, _, _, _ => none
  | k + 1, x0, x1, x6, x7, x8 => if x8 < x1 then (if x7 = true then (resource_negativeScaleInt64.j1 k x0 x1 x6 x7 x8 false) else (resource_negativeScaleInt64.j1 k x0 x1 x6 x7 x8 ((Int.tmod x6 10) != 0))) else (if x7 = true then (if x0 > 0 then (some (wrap64 (x6 + 1), !x7)) else (some (wrap64 (x6 - 1), !x7))) else (some (x6, !x7)))
def resource_negativeScaleInt64.j1 : Nat → Int → Int → Int → Bool → Int → Bool → Option (Int × Bool)
  | 0, _, _, _, _, _, _ => none
  | k + 1, x0, x1, x6, x7, x8, x24 => if x24 = true then (resource_negativeScaleInt64.j2 k x0 x1 x6 true x8) else (resource_negativeScaleInt64.j2 k x0 x1 x6 x7 x8)
def resource_negativeScaleInt64.j2 : Nat → Int → Int → Int → Bool → Int → Option (Int × Bool)
  | 0, _, _, _, _, _ => none
  | k + 1, x0, x1, x6, x7, x8 => if (wrap64 (Int.tdiv x6 10)) = 0 then (if x7 = true then (if x0 > 0 then (some (1, false)) else (some ((-1), false))) else (some (0, true))) else (resource_negativeScaleInt64.l0 k x0 x1 (wrap64 (Int.tdiv x6 10)) x7 (wrap32 (x8 + 1)))
end
def resource_negativeScaleInt64.f (k : Nat) (a0 : Int) (a1 : Int) : Option (Int × Bool) := if a1 = 0 then (some (a0, true)) else (resource_negativeScaleInt64.l0 k a0 a1 a0 false 0)
theorem resource_negativeScaleInt64.mono_l : ∀ k, (∀ y0 y1 y2 y3 y4, LeO (resource_negativeScaleInt64.l0 k y0 y1 y2 y3 y4) (resource_negativeScaleInt64.l0 (k + 1) y0 y1 y2 y3 y4)) ∧ (∀ y0 y1 y2 y3 y4 y5, LeO (resource_negativeScaleInt64.j1 k y0 y1 y2 y3 y4 y5) (resource_negativeScaleInt64.j1 (k + 1) y0 y1 y2 y3 y4 y5)) ∧ (∀ y0 y1 y2 y3 y4, LeO (resource_negativeScaleInt64.j2 k y0 y1 y2 y3 y4) (resource_negativeScaleInt64.j2 (k + 1) y0 y1 y2 y3 y4))
  | 0 => ⟨fun _ _ _ _ _ r h => by simp [resource_negativeScaleInt64.l0] at h, fun _ _ _ _ _ _ r h => by simp [resource_negativeScaleInt64.j1] at h, fun _ _ _ _ _ r h => by simp [resource_negativeScaleInt64.j2] at h⟩
  | k + 1 => by
    obtain ⟨ih0, ih1, ih2⟩ := resource_negativeScaleInt64.mono_l k
    refine ⟨?_, ?_, ?_⟩
    · intro y0 y1 y2 y3 y4
      unfold resource_negativeScaleInt64.l0
      repeat' first
      | (with_reducible exact ih0 _ _ _ _ _)
      | (with_reducible exact ih1 _ _ _ _ _ _)
      | (with_reducible exact ih2 _ _ _ _ _)
      | (with_reducible exact LeO.refl _)
      | (with_reducible exact LeO.none _)
      | (with_reducible refine LeO.ite ?_ ?_)
      | (with_reducible refine LeO.bind ?_ (fun _ => ?_))
      | exact ih0 _ _ _ _ _
      | exact ih1 _ _ _ _ _ _
      | exact ih2 _ _ _ _ _
      | exact LeO.none _
      | refine LeO.ite ?_ ?_
      | refine LeO.bind ?_ (fun _ => ?_)
    · intro y0 y1 y2 y3 y4 y5
      unfold resource_negativeScaleInt64.j1
      repeat' first
      | (with_reducible exact ih0 _ _ _ _ _)
      | (with_reducible exact ih1 _ _ _ _ _ _)
      | (with_reducible exact ih2 _ _ _ _ _)
      | (with_reducible exact LeO.refl _)
      | (with_reducible exact LeO.none _)
      | (with_reducible refine LeO.ite ?_ ?_)
      | (with_reducible refine LeO.bind ?_ (fun _ => ?_))
      | exact ih0 _ _ _ _ _
      | exact ih1 _ _ _ _ _ _
      | exact ih2 _ _ _ _ _
      | exact LeO.none _
      | refine LeO.ite ?_ ?_
      | refine LeO.bind ?_ (fun _ => ?_)
    · intro y0 y1 y2 y3 y4
      unfold resource_negativeScaleInt64.j2
      repeat' first
      | (with_reducible exact ih0 _ _ _ _ _)
      | (with_reducible exact ih1 _ _ _ _ _ _)
      | (with_reducible exact ih2 _ _ _ _ _)
      | (with_reducible exact LeO.refl _)
      | (with_reducible exact LeO.none _)
      | (with_reducible refine LeO.ite ?_ ?_)
      | (with_reducible refine LeO.bind ?_ (fun _ => ?_))
      | exact ih0 _ _ _ _ _
      | exact ih1 _ _ _ _ _ _
      | exact ih2 _ _ _ _ _
      | exact LeO.none _
      | refine LeO.ite ?_ ?_
      | refine LeO.bind ?_ (fun _ => ?_)
theorem resource_negativeScaleInt64.mono : ∀ a0 a1 k, LeO (resource_negativeScaleInt64.f k a0 a1) (resource_negativeScaleInt64.f (k + 1) a0 a1) := by
  intro a0 a1 k
  obtain ⟨ih0, ih1, ih2⟩ := resource_negativeScaleInt64.mono_l k
  unfold resource_negativeScaleInt64.f
  repeat' first
      | (with_reducible exact ih0 _ _ _ _ _)
      | (with_reducible exact ih1 _ _ _ _ _ _)
      | (with_reducible exact ih2 _ _ _ _ _)
      | (with_reducible exact LeO.refl _)
      | (with_reducible exact LeO.none _)
      | (with_reducible refine LeO.ite ?_ ?_)
      | (with_reducible refine LeO.bind ?_ (fun _ => ?_))
      | exact ih0 _ _ _ _ _
      | exact ih1 _ _ _ _ _ _
      | exact ih2 _ _ _ _ _
      | exact LeO.none _
      | refine LeO.ite ?_ ?_
      | refine LeO.bind ?_ (fun _ => ?_)
set_option maxHeartbeats 8000000 in
set_option maxRecDepth 100000 in
theorem resource_negativeScaleInt64.calls (k : Nat) (a0 : Int) (a1 : Int) (r1 : Int) (r2 : Bool) (w : World) (h : resource_negativeScaleInt64.f k a0 a1 = some (r1, r2)) :
    Calls Try.prog 31 #[.int .i64 a0, .int .i32 a1] w fun e w' => e = .returned (.tuple #[.int .i64 r1, .bool r2]) ∧ Drawn0 w w' := by
  have H : (if a1 = 0 then (some (a0, true)) else (resource_negativeScaleInt64.l0 k a0 a1 a0 false 0)) = some (r1, r2) := h
  clear h
  by_cases c3 : a1 = 0
  · rw [if_pos c3] at H
    have c3b0 : (a1 == 0) = true := beq_iff_eq.mpr c3
    have c3b1 : (a1 != 0) = false := bne_eq_false_iff_eq.mpr c3
    clear c3
    simp only [Option.some.injEq, Prod.mk.injEq] at H
    obtain ⟨rfl, rfl⟩ := H
    go_enter Try.func31, Try.ntmps31
    go_wp2
    go_ret2
    exact ⟨by first | rfl | (simp; done) | (simp [*]; done), by repeat (first | exact Drawn0.refl _ | apply Drawn0.step)⟩
  · rw [if_neg c3] at H
    have c3b0 : (a1 == 0) = false := beq_eq_false_iff_ne.mpr c3
    have c3b1 : (a1 != 0) = true := bne_iff_ne.mpr c3
    have H' := Aside0.mk H
    clear H
    go_enter Try.func31, Try.ntmps31
    go_wp2
    go_loopg [6, 7, 8] k (fun kq v6 v7 v8 w' => ∃ (x6_1 : Int) (x7_1 : Bool) (x8_1 : Int), v6 = .int .i64 x6_1 ∧ v7 = .bool x7_1 ∧ v8 = .int .i32 x8_1 ∧ Aside0 (resource_negativeScaleInt64.l0 kq a0 a1 x6_1 x7_1 x8_1 = some (r1, r2)) ∧ Aside0 (kq ≤ k) ∧ Drawn0 w w')
    case atStart => exact ⟨(a0), (false), (0), (by first | rfl | (simp; done) | (simp [*]; done)), (by first | rfl | (simp; done) | (simp [*]; done)), (by first | rfl | (simp; done) | (simp [*]; done)), H', ⟨Nat.le_refl _⟩, by repeat (first | exact Drawn0.refl _ | apply Drawn0.step)⟩
    case round =>
      clear H'
      try clear p2
      try clear c3
      try clear c3b0
      try clear c3b1
      obtain ⟨x6_1, x7_1, x8_1, rfl, rfl, rfl, HA, HK1, ⟨m1, rfl⟩⟩ := hrel
      cases gk with
      | zero => exact absurd HA.out (by simp [resource_negativeScaleInt64.l0])
      | succ k1 =>
        have H := HA.out
        clear HA
        simp only [resource_negativeScaleInt64.l0] at H
        by_cases c4 : x8_1 < a1
        · rw [if_pos c4] at H
          have c4b0 : decide (x8_1 < a1) = true := decide_eq_true c4
          clear c4
          have HC5 := Aside0.mk H
          clear H
          go_upto_region 8 with (fail)
          go_cut [24] (fun v24 wc => ∃ (kq : Nat) (x24_4 : Bool), v24 = .bool x24_4 ∧ Aside0 (resource_negativeScaleInt64.j1 kq a0 a1 x6_1 x7_1 x8_1 x24_4 = some (r1, r2)) ∧ Aside0 (kq ≤ k1) ∧ Drawn0 w wc)
          case first =>
            have H := HC5.out
            clear HC5
            by_cases c6 : x7_1 = true
            · subst c6
              have H1 : (resource_negativeScaleInt64.j1 k1 a0 a1 x6_1 true x8_1 false) = some (r1, r2) := by rw [if_pos rfl] at H; exact H
              clear H
              have H := H1
              clear H1
              have H' := Aside0.mk H
              clear H
              go_wp2
              go_meet
              case rel => exact ⟨_, (false), (by first | rfl | (simp; done) | (simp [*]; done)), H', ⟨by have := HK1.out; first | omega | exact Nat.le_refl _⟩, by repeat (first | exact Drawn0.refl _ | apply Drawn0.step)⟩
            · replace c6 := Bool.eq_false_iff.mpr c6
              subst c6
              have H1 : (resource_negativeScaleInt64.j1 k1 a0 a1 x6_1 false x8_1 ((Int.tmod x6_1 10) != 0)) = some (r1, r2) := by rw [if_neg (show ¬ (false = true) by decide)] at H; exact H
              clear H
              have H := H1
              clear H1
              have H' := Aside0.mk H
              clear H
              go_wp2
              go_meet
              case rel => exact ⟨_, (((Int.tmod x6_1 10) != 0)), (by first | rfl | (simp; done) | (simp [*]; done)), H', ⟨by have := HK1.out; first | omega | exact Nat.le_refl _⟩, by repeat (first | exact Drawn0.refl _ | apply Drawn0.step)⟩
          case rest =>
            clear HC5
            try clear p2
            try clear c3
            try clear c3b0
            try clear c3b1
            try clear c4
            try clear c4b0
            try clear c6
            try clear p2
            obtain ⟨kq, x24_4, rfl, HA, HJ4, ⟨mc4, rfl⟩⟩ := hcut
            cases kq with
            | zero => exact absurd HA.out (by simp [resource_negativeScaleInt64.j1])
            | succ kj4 =>
              have H := HA.out
              clear HA
              simp only [resource_negativeScaleInt64.j1] at H
              have HC7 := Aside0.mk H
              clear H
              go_upto_if 24 with (fail)
              go_cut [7] (fun v7 wc => ∃ (kq : Nat) (x7_6 : Bool), v7 = .bool x7_6 ∧ Aside0 (resource_negativeScaleInt64.j2 kq a0 a1 x6_1 x7_6 x8_1 = some (r1, r2)) ∧ Aside0 (kq ≤ kj4) ∧ Drawn0 w wc)
              case first =>
                have H := HC7.out
                clear HC7
                by_cases c8 : x24_4 = true
                · subst c8
                  have H1 : (resource_negativeScaleInt64.j2 kj4 a0 a1 x6_1 true x8_1) = some (r1, r2) := by rw [if_pos rfl] at H; exact H
                  clear H
                  have H := H1
                  clear H1
                  have H' := Aside0.mk H
                  clear H
                  go_wp2
                  go_meet
                  case rel => exact ⟨_, (true), (by first | rfl | (simp; done) | (simp [*]; done)), H', ⟨by have := HK1.out; have := HJ4.out; first | omega | exact Nat.le_refl _⟩, by repeat (first | exact Drawn0.refl _ | apply Drawn0.step)⟩
                · replace c8 := Bool.eq_false_iff.mpr c8
                  subst c8
                  have H1 : (resource_negativeScaleInt64.j2 kj4 a0 a1 x6_1 x7_1 x8_1) = some (r1, r2) := by rw [if_neg (show ¬ (false = true) by decide)] at H; exact H
                  clear H
                  have H := H1
                  clear H1
                  have H' := Aside0.mk H
                  clear H
                  go_wp2
                  go_meet
                  case rel => exact ⟨_, (x7_1), (by first | rfl | (simp; done) | (simp [*]; done)), H', ⟨by have := HK1.out; have := HJ4.out; first | omega | exact Nat.le_refl _⟩, by repeat (first | exact Drawn0.refl _ | apply Drawn0.step)⟩
              case rest =>
                clear HC7
                try clear p2
                try clear c3
                try clear c3b0
                try clear c3b1
                try clear c4
                try clear c4b0
                try clear c6
                try clear c8
                try clear p2
                obtain ⟨kq, x7_6, rfl, HA, HJ6, ⟨mc6, rfl⟩⟩ := hcut
                cases kq with
                | zero => exact absurd HA.out (by simp [resource_negativeScaleInt64.j2])
                | succ kj6 =>
                  have H := HA.out
                  clear HA
                  simp only [resource_negativeScaleInt64.j2] at H
                  by_cases c9 : (wrap64 (Int.tdiv x6_1 10)) = 0
                  · rw [if_pos c9] at H
                    have c9b0 : ((wrap64 (Int.tdiv x6_1 10)) == 0) = true := beq_iff_eq.mpr c9
                    have c9b1 : ((wrap64 (Int.tdiv x6_1 10)) != 0) = false := bne_eq_false_iff_eq.mpr c9
                    clear c9
                    by_cases c10 : x7_6 = true
                    · subst c10
                      have H1 : (if a0 > 0 then (some (1, false)) else (some ((-1), false))) = some (r1, r2) := by rw [if_pos rfl] at H; exact H
                      clear H
                      have H := H1
                      clear H1
                      by_cases c11 : a0 > 0
                      · rw [if_pos c11] at H
                        have c11b0 : decide (0 < a0) = true := decide_eq_true c11
                        clear c11
                        simp only [Option.some.injEq, Prod.mk.injEq] at H
                        obtain ⟨rfl, rfl⟩ := H
                        go_wp2
                        go_ret2
                        exact ⟨by first | rfl | (simp; done) | (simp [*]; done), by repeat (first | exact Drawn0.refl _ | apply Drawn0.step)⟩
                      · rw [if_neg c11] at H
                        have c11b0 : decide (0 < a0) = false := decide_eq_false c11
                        clear c11
                        simp only [Option.some.injEq, Prod.mk.injEq] at H
                        obtain ⟨rfl, rfl⟩ := H
                        go_wp2
                        go_ret2
                        exact ⟨by first | rfl | (simp; done) | (simp [*]; done), by repeat (first | exact Drawn0.refl _ | apply Drawn0.step)⟩
                    · replace c10 := Bool.eq_false_iff.mpr c10
                      subst c10
                      have H1 : (some (0, true)) = some (r1, r2) := by rw [if_neg (show ¬ (false = true) by decide)] at H; exact H
                      clear H
                      have H := H1
                      clear H1
                      simp only [Option.some.injEq, Prod.mk.injEq] at H
                      obtain ⟨rfl, rfl⟩ := H
                      go_wp2
                      go_ret2
                      exact ⟨by first | rfl | (simp; done) | (simp [*]; done), by repeat (first | exact Drawn0.refl _ | apply Drawn0.step)⟩
                  · rw [if_neg c9] at H
                    have c9b0 : ((wrap64 (Int.tdiv x6_1 10)) == 0) = false := beq_eq_false_iff_ne.mpr c9
                    have c9b1 : ((wrap64 (Int.tdiv x6_1 10)) != 0) = true := bne_iff_ne.mpr c9
                    have H' := Aside0.mk H
                    clear H
                    go_wp2
                    go_roundg kj6
                    case measure => have := HK1.out; have := HJ4.out; have := HJ6.out; omega
                    case rel => exact ⟨(wrap64 (Int.tdiv x6_1 10)), (x7_6), (wrap32 (x8_1 + 1)), (by first | rfl | (simp; done) | (simp [*]; done)), (by first | rfl | (simp; done) | (simp [*]; done)), (by first | rfl | (simp; done) | (simp [*]; done)), H', ⟨by have := HK1.out; have := HJ4.out; have := HJ6.out; omega⟩, by repeat (first | exact Drawn0.refl _ | apply Drawn0.step)⟩
        · rw [if_neg c4] at H
          have c4b0 : decide (x8_1 < a1) = false := decide_eq_false c4
          clear c4
          by_cases c12 : x7_1 = true
          · subst c12
            have H1 : (if a0 > 0 then (some (wrap64 (x6_1 + 1), !true)) else (some (wrap64 (x6_1 - 1), !true))) = some (r1, r2) := by rw [if_pos rfl] at H; exact H
            clear H
            have H := H1
            clear H1
            by_cases c13 : a0 > 0
            · rw [if_pos c13] at H
              have c13b0 : decide (0 < a0) = true := decide_eq_true c13
              clear c13
              simp only [Option.some.injEq, Prod.mk.injEq] at H
              obtain ⟨rfl, rfl⟩ := H
              go_wp2
              go_ret2
              exact ⟨by first | rfl | (simp; done) | (simp [*]; done), by repeat (first | exact Drawn0.refl _ | apply Drawn0.step)⟩
            · rw [if_neg c13] at H
              have c13b0 : decide (0 < a0) = false := decide_eq_false c13
              clear c13
              simp only [Option.some.injEq, Prod.mk.injEq] at H
              obtain ⟨rfl, rfl⟩ := H
              go_wp2
              go_ret2
              exact ⟨by first | rfl | (simp; done) | (simp [*]; done), by repeat (first | exact Drawn0.refl _ | apply Drawn0.step)⟩
          · replace c12 := Bool.eq_false_iff.mpr c12
            subst c12
            have H1 : (some (x6_1, !false)) = some (r1, r2) := by rw [if_neg (show ¬ (false = true) by decide)] at H; exact H
            clear H
            have H := H1
            clear H1
            simp only [Option.some.injEq, Prod.mk.injEq] at H
            obtain ⟨rfl, rfl⟩ := H
            go_wp2
            go_ret2
            exact ⟨by first | rfl | (simp; done) | (simp [*]; done), by repeat (first | exact Drawn0.refl _ | apply Drawn0.step)⟩

/-! ### resource_int64Amount_AsScaledInt64: function 25 -/
def resource_int64Amount_AsScaledInt64.f (k : Nat) (a0_0 : Int) (a0_1 : Int) (a1 : Int) : Option (Int × Bool) := if a0_1 < a1 then ((resource_negativeScaleInt64.f k a0_0 (wrap32 (a1 - a0_1))).bind fun bt202 => (some (bt202.1, true))) else ((resource_positiveScaleInt64.f k a0_0 (wrap32 (a0_1 - a1))).bind fun bt204 => (some (bt204.1, bt204.2)))
theorem resource_int64Amount_AsScaledInt64.mono : ∀ a0 a1 a2 k, LeO (resource_int64Amount_AsScaledInt64.f k a0 a1 a2) (resource_int64Amount_AsScaledInt64.f (k + 1) a0 a1 a2) := by
  intro a0 a1 a2 k
  unfold resource_int64Amount_AsScaledInt64.f
  repeat' first
      | (with_reducible exact resource_negativeScaleInt64.mono _ _ _)
      | (with_reducible exact resource_positiveScaleInt64.mono _ _ _)
      | (with_reducible exact LeO.refl _)
      | (with_reducible exact LeO.none _)
      | (with_reducible refine LeO.ite ?_ ?_)
      | (with_reducible refine LeO.bind ?_ (fun _ => ?_))
      | exact resource_negativeScaleInt64.mono _ _ _
      | exact resource_positiveScaleInt64.mono _ _ _
      | exact LeO.none _
      | refine LeO.ite ?_ ?_
      | refine LeO.bind ?_ (fun _ => ?_)
set_option maxHeartbeats 8000000 in
set_option maxRecDepth 100000 in
theorem resource_int64Amount_AsScaledInt64.calls (k : Nat) (a0_0 : Int) (a0_1 : Int) (a1 : Int) (r1 : Int) (r2 : Bool) (w : World) (h : resource_int64Amount_AsScaledInt64.f k a0_0 a0_1 a1 = some (r1, r2)) :
    Calls Try.prog 25 #[.agg #[.int .i64 a0_0, .int .i32 a0_1], .int .i32 a1] w fun e w' => e = .returned (.tuple #[.int .i64 r1, .bool r2]) ∧ Below w.heap.size w w' := by
  have hu47 := Try.underlying47
  have HB := Aside0.mk (Below.refl w.heap.size w)
  have H : (if a0_1 < a1 then ((resource_negativeScaleInt64.f k a0_0 (wrap32 (a1 - a0_1))).bind fun bt202 => (some (bt202.1, true))) else ((resource_positiveScaleInt64.f k a0_0 (wrap32 (a0_1 - a1))).bind fun bt204 => (some (bt204.1, bt204.2)))) = some (r1, r2) := h
  clear h
  by_cases c3 : a0_1 < a1
  · rw [if_pos c3] at H
    have c3b0 : decide (a0_1 < a1) = true := decide_eq_true c3
    clear c3
    replace H := Option.bind_eq_some_iff.mp H
    obtain ⟨⟨t202, t203⟩, A40, H⟩ := H
    replace H : (some (t202, true)) = some (r1, r2) := H
    have A4 := Aside0.mk A40
    clear A40
    simp only [Option.some.injEq, Prod.mk.injEq] at H
    obtain ⟨rfl, rfl⟩ := H
    go_enter Try.func25, Try.ntmps25
    go_wp2_with (first | ((with_reducible refine gate_dst (N := 2) rfl ?_); refine box_event ?hg (N := 2) ?hd (cs := #[.int .i64 a0_0, .int .i32 a0_1]) (t := 47) ?hr ?_; (case hd => rfl); (case hg => rfl); (case hr => first | (go_simp; done) | (go_simp; rfl)); intro gb201 hg w5 hbox hb; have n0_ := Aside0.mk (below_step (by repeat (first | (with_reducible first | exact HB.out | apply below_alloc | apply pw_below_drewN | apply below_drew1) | exact HB.out)) hb); have n1_ := Aside0.mk (hbox); have n2_ := Aside0.mk ((by rw [hg]; exact (below_size (by repeat (first | (with_reducible first | exact HB.out | apply below_alloc | apply pw_below_drewN | apply below_drew1) | exact HB.out))) : w.heap.size ≤ gb201)); have n3_ := Aside0.mk ((by rw [hg]; exact (below_size (by repeat (first | (with_reducible first | exact HB.out | apply below_alloc | apply pw_below_drewN | apply below_drew1) | exact HB.out))) : w.heap.size ≤ gb201)); clear HB; have HB := n0_; have BK201 := n1_; have GW201 := n2_; have GE201 := n3_; clear n0_ n1_ n2_ n3_; clear hb hbox hg; have hcz6_0 : w5.cell? ⟨gb201, 0, none⟩ = some (.int .i64 a0_0) := (blk_cell BK201.out 0).trans rfl; have hcz6_1 : w5.cell? ⟨gb201, 1, none⟩ = some (.int .i32 a0_1) := (blk_cell BK201.out 1).trans rfl; have hfz6_0 := blk_frozen BK201.out 0; have hfz6_1 := blk_frozen BK201.out 1) | ((with_reducible refine gate_callee (f := 31) rfl ?_); refine goesL_ (some 17) rfl rfl Try.func31 (by kernel_rfl) rfl #[.int .i64 a0_0, .int .i32 (wrap32 (a1 - a0_1))] rfl (by (try simp only [List.map_toArray, List.map_cons, List.map_nil]); first | done | rfl | (simp only [List.length_drop, List.length_take]; rfl)) ?_; (with_reducible refine (resource_negativeScaleInt64.calls k a0_0 (wrap32 (a1 - a0_1)) t202 t203 _ A4.out).mono ?_); rintro e w' ⟨rfl, ⟨nd, rfl⟩⟩; refine ⟨_, rfl, ?_⟩))
    go_ret2
    exact ⟨by first | rfl | (simp [errW_none, errW_some] <;> rfl) | (simp [*, errW_none, errW_some] <;> rfl), by repeat (first | (with_reducible first | exact HB.out | apply below_alloc | apply pw_below_drewN | apply below_drew1 | refine below_set ?_ GE201.out) | exact HB.out)⟩
  · rw [if_neg c3] at H
    have c3b0 : decide (a0_1 < a1) = false := decide_eq_false c3
    clear c3
    replace H := Option.bind_eq_some_iff.mp H
    obtain ⟨⟨t204, t205⟩, A70, H⟩ := H
    replace H : (some (t204, t205)) = some (r1, r2) := H
    have A7 := Aside0.mk A70
    clear A70
    simp only [Option.some.injEq, Prod.mk.injEq] at H
    obtain ⟨rfl, rfl⟩ := H
    go_enter Try.func25, Try.ntmps25
    go_wp2_with (first | ((with_reducible refine gate_dst (N := 2) rfl ?_); refine box_event ?hg (N := 2) ?hd (cs := #[.int .i64 a0_0, .int .i32 a0_1]) (t := 47) ?hr ?_; (case hd => rfl); (case hg => rfl); (case hr => first | (go_simp; done) | (go_simp; rfl)); intro gb201 hg w8 hbox hb; have n0_ := Aside0.mk (below_step (by repeat (first | (with_reducible first | exact HB.out | apply below_alloc | apply pw_below_drewN | apply below_drew1) | exact HB.out)) hb); have n1_ := Aside0.mk (hbox); have n2_ := Aside0.mk ((by rw [hg]; exact (below_size (by repeat (first | (with_reducible first | exact HB.out | apply below_alloc | apply pw_below_drewN | apply below_drew1) | exact HB.out))) : w.heap.size ≤ gb201)); have n3_ := Aside0.mk ((by rw [hg]; exact (below_size (by repeat (first | (with_reducible first | exact HB.out | apply below_alloc | apply pw_below_drewN | apply below_drew1) | exact HB.out))) : w.heap.size ≤ gb201)); clear HB; have HB := n0_; have BK201 := n1_; have GW201 := n2_; have GE201 := n3_; clear n0_ n1_ n2_ n3_; clear hb hbox hg; have hcz9_0 : w8.cell? ⟨gb201, 0, none⟩ = some (.int .i64 a0_0) := (blk_cell BK201.out 0).trans rfl; have hcz9_1 : w8.cell? ⟨gb201, 1, none⟩ = some (.int .i32 a0_1) := (blk_cell BK201.out 1).trans rfl; have hfz9_0 := blk_frozen BK201.out 0; have hfz9_1 := blk_frozen BK201.out 1) | ((with_reducible refine gate_callee (f := 29) rfl ?_); refine goesL_ (some 27) rfl rfl Try.func29 (by kernel_rfl) rfl #[.int .i64 a0_0, .int .i32 (wrap32 (a0_1 - a1))] rfl (by (try simp only [List.map_toArray, List.map_cons, List.map_nil]); first | done | rfl | (simp only [List.length_drop, List.length_take]; rfl)) ?_; (with_reducible refine (resource_positiveScaleInt64.calls k a0_0 (wrap32 (a0_1 - a1)) t204 t205 _ A7.out).mono ?_); rintro e w' ⟨rfl, ⟨nd, rfl⟩⟩; refine ⟨_, rfl, ?_⟩))
    go_ret2
    exact ⟨by first | rfl | (simp [errW_none, errW_some] <;> rfl) | (simp [*, errW_none, errW_some] <;> rfl), by repeat (first | (with_reducible first | exact HB.out | apply below_alloc | apply pw_below_drewN | apply below_drew1 | refine below_set ?_ GE201.out) | exact HB.out)⟩

/-! ### impl_AmountScaled: function 14 -/
def impl_AmountScaled.f (k : Nat) (a0_0 : Int) (a0_1 : Int) (a1 : Int) : Option (Int × Bool) := (resource_ZzAmount.f a0_0 (wrap32 (a0_1))).bind fun bt207 => ((resource_int64Amount_AsScaledInt64.f k bt207.1 bt207.2 (wrap32 (a1))).bind fun bt209 => (some (bt209.1, bt209.2)))
theorem impl_AmountScaled.mono : ∀ a0 a1 a2 k, LeO (impl_AmountScaled.f k a0 a1 a2) (impl_AmountScaled.f (k + 1) a0 a1 a2) := by
  intro a0 a1 a2 k
  unfold impl_AmountScaled.f
  repeat' first
      | (with_reducible exact resource_int64Amount_AsScaledInt64.mono _ _ _ _)
      | (with_reducible exact LeO.refl _)
      | (with_reducible exact LeO.none _)
      | (with_reducible refine LeO.ite ?_ ?_)
      | (with_reducible refine LeO.bind ?_ (fun _ => ?_))
      | exact resource_int64Amount_AsScaledInt64.mono _ _ _ _
      | exact LeO.none _
      | refine LeO.ite ?_ ?_
      | refine LeO.bind ?_ (fun _ => ?_)
set_option maxHeartbeats 8000000 in
set_option maxRecDepth 100000 in
theorem impl_AmountScaled.calls (k : Nat) (a0_0 : Int) (a0_1 : Int) (a1 : Int) (r1 : Int) (r2 : Bool) (w : World) (h : impl_AmountScaled.f k a0_0 a0_1 a1 = some (r1, r2)) :
    Calls Try.prog 14 #[.agg #[.int .i64 a0_0, .int .i64 a0_1], .int .i64 a1] w fun e w' => e = .returned (.tuple #[.int .i64 r1, .bool r2]) ∧ Below w.heap.size w w' := by
  have hu23 := Try.underlying23
  have HB := Aside0.mk (Below.refl w.heap.size w)
  have H : ((resource_ZzAmount.f a0_0 (wrap32 (a0_1))).bind fun bt207 => ((resource_int64Amount_AsScaledInt64.f k bt207.1 bt207.2 (wrap32 (a1))).bind fun bt209 => (some (bt209.1, bt209.2)))) = some (r1, r2) := h
  clear h
  replace H := Option.bind_eq_some_iff.mp H
  obtain ⟨⟨t207, t208⟩, A30, H⟩ := H
  replace H : ((resource_int64Amount_AsScaledInt64.f k t207 t208 (wrap32 (a1))).bind fun bt209 => (some (bt209.1, bt209.2))) = some (r1, r2) := H
  have A3 := Aside0.mk A30
  clear A30
  replace H := Option.bind_eq_some_iff.mp H
  obtain ⟨⟨t209, t210⟩, A40, H⟩ := H
  replace H : (some (t209, t210)) = some (r1, r2) := H
  have A4 := Aside0.mk A40
  clear A40
  simp only [Option.some.injEq, Prod.mk.injEq] at H
  obtain ⟨rfl, rfl⟩ := H
  go_enter Try.func14, Try.ntmps14
  go_wp2_with (first | ((with_reducible refine gate_dst (N := 2) rfl ?_); refine box_event ?hg (N := 2) ?hd (cs := #[.int .i64 a0_0, .int .i64 a0_1]) (t := 23) ?hr ?_; (case hd => rfl); (case hg => rfl); (case hr => first | (go_simp; done) | (go_simp; rfl)); intro gb206 hg w5 hbox hb; have n0_ := Aside0.mk (below_step (by repeat (first | (with_reducible first | exact HB.out | apply below_alloc | apply pw_below_drewN | apply below_drew1) | exact HB.out)) hb); have n1_ := Aside0.mk (hbox); have n2_ := Aside0.mk ((by rw [hg]; exact (below_size (by repeat (first | (with_reducible first | exact HB.out | apply below_alloc | apply pw_below_drewN | apply below_drew1) | exact HB.out))) : w.heap.size ≤ gb206)); have n3_ := Aside0.mk ((by rw [hg]; exact (below_size (by repeat (first | (with_reducible first | exact HB.out | apply below_alloc | apply pw_below_drewN | apply below_drew1) | exact HB.out))) : w.heap.size ≤ gb206)); clear HB; have HB := n0_; have BK206 := n1_; have GW206 := n2_; have GE206 := n3_; clear n0_ n1_ n2_ n3_; clear hb hbox hg; have hcz6_0 : w5.cell? ⟨gb206, 0, none⟩ = some (.int .i64 a0_0) := (blk_cell BK206.out 0).trans rfl; have hcz6_1 : w5.cell? ⟨gb206, 1, none⟩ = some (.int .i64 a0_1) := (blk_cell BK206.out 1).trans rfl; have hfz6_0 := blk_frozen BK206.out 0; have hfz6_1 := blk_frozen BK206.out 1) | ((with_reducible refine gate_callee (f := 18) rfl ?_); refine goesL_ (some 11) rfl rfl Try.func18 (by kernel_rfl) rfl #[.int .i64 a0_0, .int .i32 (wrap32 (a0_1))] rfl (by (try simp only [List.map_toArray, List.map_cons, List.map_nil]); first | done | rfl | (simp only [List.length_drop, List.length_take]; rfl)) ?_; (with_reducible refine (resource_ZzAmount.calls a0_0 (wrap32 (a0_1)) t207 t208 _ A3.out).mono ?_); rintro e w7 ⟨rfl, hb⟩; refine ⟨_, rfl, ?_⟩; have n0_ := Aside0.mk (blk_below (g := gb206) (o := .cells #[.int .i64 a0_0, .int .i64 a0_1] 23 (0, 0)) (by (with_reducible repeat (first | refine blk_drewN ?_ _ | refine blk_drew ?_ | refine blk_alloc ?_ _)); exact BK206.out) hb); have n1_ := Aside0.mk (below_step (by repeat (first | (with_reducible first | exact HB.out | apply below_alloc | apply pw_below_drewN | apply below_drew1 | refine below_set ?_ GE206.out) | exact HB.out)) hb); clear BK206; clear HB; have BK206 := n0_; have HB := n1_; clear n0_ n1_; (try clear hb); (try clear hb2); (try clear hk); (try clear hi)) | ((with_reducible refine gate_callee (f := 25) rfl ?_); refine goesL_ (some 14) rfl rfl Try.func25 (by kernel_rfl) rfl #[.agg #[.int .i64 t207, .int .i32 t208], .int .i32 (wrap32 (a1))] rfl (by (try simp only [List.map_toArray, List.map_cons, List.map_nil]); first | done | rfl | (simp only [List.length_drop, List.length_take]; rfl)) ?_; (with_reducible refine (resource_int64Amount_AsScaledInt64.calls k t207 t208 (wrap32 (a1)) t209 t210 _ A4.out).mono ?_); rintro e w8 ⟨rfl, hb⟩; refine ⟨_, rfl, ?_⟩; have n0_ := Aside0.mk (blk_below (g := gb206) (o := .cells #[.int .i64 a0_0, .int .i64 a0_1] 23 (0, 0)) (by (with_reducible repeat (first | refine blk_drewN ?_ _ | refine blk_drew ?_ | refine blk_alloc ?_ _)); exact BK206.out) hb); have n1_ := Aside0.mk (below_step (by repeat (first | (with_reducible first | exact HB.out | apply below_alloc | apply pw_below_drewN | apply below_drew1 | refine below_set ?_ GE206.out) | exact HB.out)) hb); clear BK206; clear HB; have BK206 := n0_; have HB := n1_; clear n0_ n1_; (try clear hb); (try clear hb2); (try clear hk); (try clear hi)))
  go_ret2
  exact ⟨by first | rfl | (simp [errW_none, errW_some] <;> rfl) | (simp [*, errW_none, errW_some] <;> rfl), by repeat (first | (with_reducible first | exact HB.out | apply below_alloc | apply pw_below_drewN | apply below_drew1 | refine below_set ?_ GE206.out) | exact HB.out)⟩

/-! ### spec_DecimalUp: function 15 -/
mutual
def spec_DecimalUp.j0 : Nat → Int → Bool → Bool → List Int → Int → Option (Bool × List Int × Int × Bool)
  | 0, _, _, _, _, _ => none
  | k + 1, x1, x18, x212000, x212001, x212002 => if x18 = true then (some (x212000, x212001, x212002, true)) else ((some (([0] : List Int) : List Int)).bind fun y213 => (if 0 ≤ (mx 0 (wrap64 ((wrap64 ((x212001.length : Int) + x212002)) - x1))) then (if (mx 0 (wrap64 ((wrap64 ((x212001.length : Int) + x212002)) - x1))) ≤ (x212001.length : Int) then ((some (x212001.take ((mx 0 (wrap64 ((wrap64 ((x212001.length : Int) + x212002)) - x1))) : Int).toNat : List Int)).bind fun y216 => (if y213.length + y216.length < 17592186044416 then ((some (y213 ++ y216 : List Int)).bind fun y220 => (spec_DecimalUp.l0 k x1 y220 (wrap64 ((y220.length : Int) - 1)) x212000 x212001 x212002)) else (none))) else (none)) else (none)))
def spec_DecimalUp.l0 : Nat → Int → List Int → Int → Bool → List Int → Int → Option (Bool × List Int × Int × Bool)
  | 0, _, _, _, _, _, _ => none
  | k + 1, x1, x7, x8, x212000, x212001, x212002 => if 0 ≤ x8 then (if x8 < (x7.length : Int) then ((some (x7.set (x8 : Int).toNat (wrap64 ((rd x7 x8) + 1)) : List Int)).bind fun y224 => (if (rd y224 x8) < 10 then ((spec_decimal.f k x212000 y224 x1).bind fun bt226 => (some (bt226.1, bt226.2.1, bt226.2.2, false))) else (spec_DecimalUp.l0 k x1 (y224.set (x8 : Int).toNat 0) (wrap64 (x8 - 1)) x212000 x212001 x212002))) else (none)) else (none)
end
def spec_DecimalUp.f (k : Nat) (a0_0 : Bool) (l0_1 : List Int) (a0_2 : Int) (a1 : Int) : Option (Bool × List Int × Int × Bool) := if (l0_1.length : Int) = 0 then (spec_DecimalUp.j0 k a1 true a0_0 l0_1 a0_2) else (spec_DecimalUp.j0 k a1 (decide (a0_2 ≥ a1)) a0_0 l0_1 a0_2)
theorem spec_DecimalUp.mono_l : ∀ k, (∀ y0 y1 y2 y3 y4, LeO (spec_DecimalUp.j0 k y0 y1 y2 y3 y4) (spec_DecimalUp.j0 (k + 1) y0 y1 y2 y3 y4)) ∧ (∀ y0 y1 y2 y3 y4 y5, LeO (spec_DecimalUp.l0 k y0 y1 y2 y3 y4 y5) (spec_DecimalUp.l0 (k + 1) y0 y1 y2 y3 y4 y5))
  | 0 => ⟨fun _ _ _ _ _ r h => by simp [spec_DecimalUp.j0] at h, fun _ _ _ _ _ _ r h => by simp [spec_DecimalUp.l0] at h⟩
  | k + 1 => by
    obtain ⟨ih0, ih1⟩ := spec_DecimalUp.mono_l k
    refine ⟨?_, ?_⟩
    · intro y0 y1 y2 y3 y4
      unfold spec_DecimalUp.j0
      repeat' first
      | (with_reducible exact ih0 _ _ _ _ _)
      | (with_reducible exact ih1 _ _ _ _ _ _)
      | (with_reducible exact spec_decimal.mono _ _ _ _)
      | (with_reducible exact LeO.refl _)
      | (with_reducible exact LeO.none _)
      | (with_reducible refine LeO.ite ?_ ?_)
      | (with_reducible refine LeO.bind ?_ (fun _ => ?_))
      | exact ih0 _ _ _ _ _
      | exact ih1 _ _ _ _ _ _
      | exact spec_decimal.mono _ _ _ _
      | exact LeO.none _
      | refine LeO.ite ?_ ?_
      | refine LeO.bind ?_ (fun _ => ?_)
    · intro y0 y1 y2 y3 y4 y5
      unfold spec_DecimalUp.l0
      repeat' first
      | (with_reducible exact ih0 _ _ _ _ _)
      | (with_reducible exact ih1 _ _ _ _ _ _)
      | (with_reducible exact spec_decimal.mono _ _ _ _)
      | (with_reducible exact LeO.refl _)
      | (with_reducible exact LeO.none _)
      | (with_reducible refine LeO.ite ?_ ?_)
      | (with_reducible refine LeO.bind ?_ (fun _ => ?_))
      | exact ih0 _ _ _ _ _
      | exact ih1 _ _ _ _ _ _
      | exact spec_decimal.mono _ _ _ _
      | exact LeO.none _
      | refine LeO.ite ?_ ?_
      | refine LeO.bind ?_ (fun _ => ?_)
theorem spec_DecimalUp.mono : ∀ a0 a1 a2 a3 k, LeO (spec_DecimalUp.f k a0 a1 a2 a3) (spec_DecimalUp.f (k + 1) a0 a1 a2 a3) := by
  intro a0 a1 a2 a3 k
  obtain ⟨ih0, ih1⟩ := spec_DecimalUp.mono_l k
  unfold spec_DecimalUp.f
  repeat' first
      | (with_reducible exact ih0 _ _ _ _ _)
      | (with_reducible exact ih1 _ _ _ _ _ _)
      | (with_reducible exact spec_decimal.mono _ _ _ _)
      | (with_reducible exact LeO.refl _)
      | (with_reducible exact LeO.none _)
      | (with_reducible refine LeO.ite ?_ ?_)
      | (with_reducible refine LeO.bind ?_ (fun _ => ?_))
      | exact ih0 _ _ _ _ _
      | exact ih1 _ _ _ _ _ _
      | exact spec_decimal.mono _ _ _ _
      | exact LeO.none _
      | refine LeO.ite ?_ ?_
      | refine LeO.bind ?_ (fun _ => ?_)
set_option maxHeartbeats 8000000 in
set_option maxRecDepth 100000 in
theorem spec_DecimalUp.calls (k : Nat) (a0_0 : Bool) (P0_1_ : Nat → Prop) (u9000_ : Value) (l0_1 : List Int) (a0_2 : Int) (a1 : Int) (r1 : Bool) (r2 : List Int) (r3 : Int) (r4 : Bool) (w0 w : World) (hB : Below w0.heap.size w0 w) (ho0_1 : Kd.R (Kd.int .i64) 3 w w0.heap.size P0_1_ u9000_ l0_1) (h : spec_DecimalUp.f k a0_0 l0_1 a0_2 a1 = some (r1, r2, r3, r4)) :
    Calls Try.prog 15 #[.agg #[.bool a0_0, u9000_, .int .i64 a0_2], .int .i64 a1] w fun e w' => ∃ v1_ : Value, e = .returned (.tuple #[.agg #[.bool r1, v1_, .int .i64 r3], .bool r4]) ∧ Kd.R (Kd.int .i64) 3 w' w0.heap.size (fun k_ => (P0_1_ k_ ∨ w.heap.size ≤ k_)) v1_ r2 ∧ Below w0.heap.size w0 w' ∧ Kept w w' (fun k_ => P0_1_ k_) := by
  have hu26 := Try.underlying26
  have HO0_1 := Aside0.mk (show Kd.R (Kd.int .i64) 3 w w0.heap.size (fun k_ => (P0_1_ k_ ∨ w.heap.size ≤ k_)) u9000_ l0_1 from Kd.R_mono ho0_1 (fun k_ hk => (.inl hk)))
  have HK := Aside0.mk (Kept.refl w (fun k_ => P0_1_ k_))
  have HW0 := Aside0.mk hB.size
  have HB := Aside0.mk hB
  clear hB
  have H : (if (l0_1.length : Int) = 0 then (spec_DecimalUp.j0 k a1 true a0_0 l0_1 a0_2) else (spec_DecimalUp.j0 k a1 (decide (a0_2 ≥ a1)) a0_0 l0_1 a0_2)) = some (r1, r2, r3, r4) := h
  clear h
  have HC3 := Aside0.mk H
  clear H
  obtain ⟨Ao4, co4, eo4⟩ := Kd.R_slice HO0_1.out
  subst eo4
  go_enter Try.func15, Try.ntmps15
  go_upto_region 1 with (first | ((with_reducible refine gate_dst (N := 2) rfl ?_); refine box_event ?hg (N := 2) ?hd (cs := #[.bool a0_0, .slice Ao4 l0_1.length co4, .int .i64 a0_2]) (t := 26) ?hr ?_; (case hd => rfl); (case hg => rfl); (case hr => first | (go_simp; done) | (go_simp; rfl)); intro gb211 hg w5 hbox hb; have n0_ := Aside0.mk (Kd.R_below (by (with_reducible repeat (first | apply Kd.R_alloc | apply Kd.R_drewN | apply Kd.R_drew)); exact HO0_1.out) hb); have n1_ := Aside0.mk (Kept.below (S := (fun k_ => P0_1_ k_)) (by repeat (first | (with_reducible first | exact HK.out | apply Kept.alloc | apply Kept.drewN | apply Kept.drew) | exact HK.out)) hb); have n2_ := Aside0.mk (below_step (by repeat (first | (with_reducible first | exact HB.out | apply below_alloc | apply pw_below_drewN | apply below_drew1) | exact HB.out)) hb); have n3_ := Aside0.mk (hbox); have n4_ := Aside0.mk ((by rw [hg]; exact (by first | exact HK.out.1 | exact (show Kept w _ (fun k_ => P0_1_ k_) from by repeat (first | (with_reducible first | exact HK.out | apply Kept.alloc | apply Kept.drewN | apply Kept.drew) | exact HK.out)).1) : w.heap.size ≤ gb211)); have n5_ := Aside0.mk ((by rw [hg]; exact (below_size (by repeat (first | (with_reducible first | exact HB.out | apply below_alloc | apply pw_below_drewN | apply below_drew1) | exact HB.out))) : w0.heap.size ≤ gb211)); clear HO0_1; clear HK; clear HB; have HO0_1 := n0_; have HK := n1_; have HB := n2_; have BK211 := n3_; have GW211 := n4_; have GE211 := n5_; clear n0_ n1_ n2_ n3_ n4_ n5_; clear hb hbox hg) | ((with_reducible refine gate_dst (N := 4) rfl ?_); refine box_event ?hg (N := 4) ?hd (cs := #[.bool false, .slice none 0 0, .int .i64 0]) (t := 26) ?hr ?_; (case hd => rfl); (case hg => rfl); (case hr => first | (go_simp; done) | (go_simp; rfl)); intro gb212 hg w6 hbox hb; have n0_ := Aside0.mk (Kd.R_below (by (with_reducible repeat (first | apply Kd.R_alloc | apply Kd.R_drewN | apply Kd.R_drew)); exact HO0_1.out) hb); have n1_ := Aside0.mk (blk_below (g := gb211) (o := .cells #[.bool a0_0, .slice Ao4 l0_1.length co4, .int .i64 a0_2] 26 (0, 0)) (by (with_reducible repeat (first | refine blk_drewN ?_ _ | refine blk_drew ?_ | refine blk_alloc ?_ _)); exact BK211.out) hb); have n2_ := Aside0.mk (Kept.below (S := (fun k_ => P0_1_ k_)) (by repeat (first | (with_reducible first | exact HK.out | apply Kept.alloc | apply Kept.drewN | apply Kept.drew | refine Kept.setCell ?_ (.inr GW211.out) _) | exact HK.out)) hb); have n3_ := Aside0.mk (below_step (by repeat (first | (with_reducible first | exact HB.out | apply below_alloc | apply pw_below_drewN | apply below_drew1 | refine below_set ?_ GE211.out) | exact HB.out)) hb); have n4_ := Aside0.mk (hbox); have n5_ := Aside0.mk ((by rw [hg]; exact (by first | exact HK.out.1 | exact (show Kept w _ (fun k_ => P0_1_ k_) from by repeat (first | (with_reducible first | exact HK.out | apply Kept.alloc | apply Kept.drewN | apply Kept.drew | refine Kept.setCell ?_ (.inr GW211.out) _) | exact HK.out)).1) : w.heap.size ≤ gb212)); have n6_ := Aside0.mk ((by rw [hg]; exact (below_size (by repeat (first | (with_reducible first | exact HB.out | apply below_alloc | apply pw_below_drewN | apply below_drew1 | refine below_set ?_ GE211.out) | exact HB.out))) : w0.heap.size ≤ gb212)); have n7_ := Aside0.mk ((by rw [hg]; exact Nat.ne_of_lt (blk_lt (g := gb211) (o := .cells #[.bool a0_0, .slice Ao4 l0_1.length co4, .int .i64 a0_2] 26 (0, 0)) (by (with_reducible repeat (first | refine blk_drewN ?_ _ | refine blk_drew ?_ | refine blk_alloc ?_ _)); exact BK211.out)) : gb211 ≠ gb212)); have n8_ := Aside0.mk ((by rw [hg]; exact Nat.ne_of_gt (blk_lt (g := gb211) (o := .cells #[.bool a0_0, .slice Ao4 l0_1.length co4, .int .i64 a0_2] 26 (0, 0)) (by (with_reducible repeat (first | refine blk_drewN ?_ _ | refine blk_drew ?_ | refine blk_alloc ?_ _)); exact BK211.out)) : gb212 ≠ gb211)); clear HO0_1; clear BK211; clear HK; clear HB; have HO0_1 := n0_; have BK211 := n1_; have HK := n2_; have HB := n3_; have BK212 := n4_; have GW212 := n5_; have GE212 := n6_; have NB211_212 := n7_; have NB212_211 := n8_; clear n0_ n1_ n2_ n3_ n4_ n5_ n6_ n7_ n8_; clear hb hbox hg))
  (try simp only [Act.put, List.setIfInBounds_toArray, List.set_cons_zero, List.set_cons_succ])
  go_cut [18] (fun v18 wc => ∃ (kq : Nat) (x18_2 : Bool), v18 = .bool x18_2 ∧ Aside0 (spec_DecimalUp.j0 kq a1 x18_2 a0_0 l0_1 a0_2 = some (r1, r2, r3, r4)) ∧ Aside0 (kq ≤ k) ∧ Aside0 (Kd.R (Kd.int .i64) 3 wc w0.heap.size (fun k_ => (P0_1_ k_ ∨ w.heap.size ≤ k_)) (.slice Ao4 l0_1.length co4) l0_1) ∧ Aside0 (wc.heap[gb211]? = some (.cells #[.bool a0_0, (.slice Ao4 l0_1.length co4), .int .i64 a0_2] 26 (0, 0))) ∧ Aside0 (wc.heap[gb212]? = some (.cells #[.bool false, (.slice none 0 0), .int .i64 0] 26 (0, 0))) ∧ Aside0 (Kept w wc (fun k_ => P0_1_ k_)) ∧ Aside0 (Below w0.heap.size w0 wc))
  case first =>
    have H := HC3.out
    clear HC3
    by_cases c7 : (l0_1.length : Int) = 0
    · rw [if_pos c7] at H
      have c7b0 : ((l0_1.length : Int) == 0) = true := beq_iff_eq.mpr c7
      have c7b1 : ((l0_1.length : Int) != 0) = false := bne_eq_false_iff_eq.mpr c7
      clear c7
      (first | rw [c7b0] | (simp only [i64_w, i32_w]; rw [c7b0]) | skip)
      have H' := Aside0.mk H
      clear H
      have hnb8 := NB211_212.out
      have hnc8 := NB212_211.out
      have hcz9_0 : w6.cell? ⟨gb211, 0, none⟩ = some (.bool a0_0) := (blk_cell BK211.out 0).trans rfl
      have hcz9_1 : w6.cell? ⟨gb211, 1, none⟩ = some (.slice Ao4 l0_1.length co4) := (blk_cell BK211.out 1).trans rfl
      have hcz9_2 : w6.cell? ⟨gb211, 2, none⟩ = some (.int .i64 a0_2) := (blk_cell BK211.out 2).trans rfl
      have hfz9_0 := blk_frozen BK211.out 0
      have hfz9_1 := blk_frozen BK211.out 1
      have hfz9_2 := blk_frozen BK211.out 2
      go_wp2
      go_meet
      case rel => exact ⟨_, (true), (by first | rfl | (simp; done) | (simp [*]; done)), H', ⟨by first | omega | exact Nat.le_refl _⟩, ⟨by (with_reducible repeat (first | apply Kd.R_alloc | apply Kd.R_drewN | apply Kd.R_drew)); exact HO0_1.out⟩, ⟨by (with_reducible repeat (first | refine blk_drewN ?_ _ | refine blk_drew ?_ | refine blk_alloc ?_ _)); exact BK211.out⟩, ⟨by (with_reducible repeat (first | refine blk_drewN ?_ _ | refine blk_drew ?_ | refine blk_alloc ?_ _)); exact BK212.out⟩, ⟨by repeat (first | (with_reducible first | exact HK.out | apply Kept.alloc | apply Kept.drewN | apply Kept.drew | refine Kept.setCell ?_ (.inr GW211.out) _ | refine Kept.setCell ?_ (.inr GW212.out) _) | exact HK.out)⟩, ⟨by repeat (first | (with_reducible first | exact HB.out | apply below_alloc | apply pw_below_drewN | apply below_drew1 | refine below_set ?_ GE211.out | refine below_set ?_ GE212.out) | exact HB.out)⟩⟩
    · rw [if_neg c7] at H
      have c7b0 : ((l0_1.length : Int) == 0) = false := beq_eq_false_iff_ne.mpr c7
      have c7b1 : ((l0_1.length : Int) != 0) = true := bne_iff_ne.mpr c7
      have c7b2 : ¬ (l0_1 = []) := fun h_ => c7 (by rw [h_]; rfl)
      (first | rw [c7b0] | (simp only [i64_w, i32_w]; rw [c7b0]) | skip)
      have H' := Aside0.mk H
      clear H
      have hnb10 := NB211_212.out
      have hnc10 := NB212_211.out
      have hcz11_0 : w6.cell? ⟨gb211, 0, none⟩ = some (.bool a0_0) := (blk_cell BK211.out 0).trans rfl
      have hcz11_1 : w6.cell? ⟨gb211, 1, none⟩ = some (.slice Ao4 l0_1.length co4) := (blk_cell BK211.out 1).trans rfl
      have hcz11_2 : w6.cell? ⟨gb211, 2, none⟩ = some (.int .i64 a0_2) := (blk_cell BK211.out 2).trans rfl
      have hfz11_0 := blk_frozen BK211.out 0
      have hfz11_1 := blk_frozen BK211.out 1
      have hfz11_2 := blk_frozen BK211.out 2
      go_wp2
      go_meet
      case rel => exact ⟨_, (decide (a0_2 ≥ a1)), (by first | rfl | (simp; done) | (simp [*]; done)), H', ⟨by first | omega | exact Nat.le_refl _⟩, ⟨by (with_reducible repeat (first | apply Kd.R_alloc | apply Kd.R_drewN | apply Kd.R_drew)); exact HO0_1.out⟩, ⟨by (with_reducible repeat (first | refine blk_drewN ?_ _ | refine blk_drew ?_ | refine blk_alloc ?_ _)); exact BK211.out⟩, ⟨by (with_reducible repeat (first | refine blk_drewN ?_ _ | refine blk_drew ?_ | refine blk_alloc ?_ _)); exact BK212.out⟩, ⟨by repeat (first | (with_reducible first | exact HK.out | apply Kept.alloc | apply Kept.drewN | apply Kept.drew | refine Kept.setCell ?_ (.inr GW211.out) _ | refine Kept.setCell ?_ (.inr GW212.out) _) | exact HK.out)⟩, ⟨by repeat (first | (with_reducible first | exact HB.out | apply below_alloc | apply pw_below_drewN | apply below_drew1 | refine below_set ?_ GE211.out | refine below_set ?_ GE212.out) | exact HB.out)⟩⟩
  case rest =>
    clear HC3
    try clear c1
    try clear p2
    try clear c7
    try clear c7b0
    try clear c7b1
    try clear c7b2
    try clear c8
    try clear c10
    try clear hcz11_0
    try clear hcz11_1
    try clear hcz11_2
    try clear hcz9_0
    try clear hcz9_1
    try clear hcz9_2
    try clear hfz11_0
    try clear hfz11_1
    try clear hfz11_2
    try clear hfz9_0
    try clear hfz9_1
    try clear hfz9_2
    obtain ⟨kq, x18_2, rfl, HA, HJ2, HO_212001, BK211, BK212, HK, HB⟩ := hcut
    cases kq with
    | zero => exact absurd HA.out (by simp [spec_DecimalUp.j0])
    | succ kj2 =>
      have H := HA.out
      clear HA
      simp only [spec_DecimalUp.j0] at H
      by_cases c12 : x18_2 = true
      · subst c12
        have H1 : (some (a0_0, l0_1, a0_2, true)) = some (r1, r2, r3, r4) := by rw [if_pos rfl] at H; exact H
        clear H
        have H := H1
        clear H1
        simp only [Option.some.injEq, Prod.mk.injEq] at H
        obtain ⟨rfl, rfl, rfl, rfl⟩ := H
        have hnb13 := NB211_212.out
        have hnc13 := NB212_211.out
        have hcz14_0 : wc.cell? ⟨gb211, 0, none⟩ = some (.bool a0_0) := (blk_cell BK211.out 0).trans rfl
        have hcz14_1 : wc.cell? ⟨gb211, 1, none⟩ = some (.slice Ao4 l0_1.length co4) := (blk_cell BK211.out 1).trans rfl
        have hcz14_2 : wc.cell? ⟨gb211, 2, none⟩ = some (.int .i64 a0_2) := (blk_cell BK211.out 2).trans rfl
        have hfz14_0 := blk_frozen BK211.out 0
        have hfz14_1 := blk_frozen BK211.out 1
        have hfz14_2 := blk_frozen BK211.out 2
        have hcz15_0 : wc.cell? ⟨gb212, 0, none⟩ = some (.bool false) := (blk_cell BK212.out 0).trans rfl
        have hcz15_1 : wc.cell? ⟨gb212, 1, none⟩ = some (.slice none 0 0) := (blk_cell BK212.out 1).trans rfl
        have hcz15_2 : wc.cell? ⟨gb212, 2, none⟩ = some (.int .i64 0) := (blk_cell BK212.out 2).trans rfl
        have hfz15_0 := blk_frozen BK212.out 0
        have hfz15_1 := blk_frozen BK212.out 1
        have hfz15_2 := blk_frozen BK212.out 2
        go_wp2
        refine bodyPost_ret (results_ct rfl _ _ gb212 26 #[.bool a0_0, .slice Ao4 l0_1.length co4, .int .i64 a0_2] (0, 0) _ rfl (by (with_reducible repeat (first | refine blk_drewN ?_ _ | refine blk_drew ?_ | refine blk_alloc ?_ _)); refine blk_put (cs := #[.bool a0_0, .slice Ao4 l0_1.length co4, .int .i64 0]) ?_ 2 _ rfl; (with_reducible repeat (first | refine blk_drewN ?_ _ | refine blk_drew ?_ | refine blk_alloc ?_ _)); refine blk_put (cs := #[.bool a0_0, .slice none 0 0, .int .i64 0]) ?_ 1 _ rfl; (with_reducible repeat (first | refine blk_drewN ?_ _ | refine blk_drew ?_ | refine blk_alloc ?_ _)); refine blk_put (cs := #[.bool false, .slice none 0 0, .int .i64 0]) ?_ 0 _ rfl; (with_reducible repeat (first | refine blk_drewN ?_ _ | refine blk_drew ?_ | refine blk_alloc ?_ _)); exact BK212.out) Try.underlying26 rfl (by kernel_rfl)) rfl ?_
        exact ⟨_, by first | rfl | (simp [errW_none, errW_some] <;> rfl) | (simp [*, errW_none, errW_some] <;> rfl), by (with_reducible repeat (first | apply Kd.R_alloc | apply Kd.R_drewN | apply Kd.R_drew)); exact Kd.R_mono (Kd.R_far (p := ⟨gb212, 2, none⟩) (Kd.R_far (p := ⟨gb212, 1, none⟩) (Kd.R_far (p := ⟨gb212, 0, none⟩) (Kd.R_types HO_212001.out BK212.out (by decide)) (fun _ hk => hk.2) (.bool a0_0)) (fun _ hk => hk.2) (.slice Ao4 l0_1.length co4)) (fun _ hk => hk.2) (.int .i64 a0_2)) (fun _ hk => hk.1), by repeat (first | (with_reducible first | exact HB.out | apply below_alloc | apply pw_below_drewN | apply below_drew1 | refine below_set ?_ GE211.out | refine below_set ?_ GE212.out) | exact HB.out), by repeat (first | (with_reducible first | exact HK.out | apply Kept.alloc | apply Kept.drewN | apply Kept.drew | refine Kept.setCell ?_ (.inr GW211.out) _ | refine Kept.setCell ?_ (.inr GW212.out) _) | exact HK.out)⟩
      · replace c12 := Bool.eq_false_iff.mpr c12
        subst c12
        have H1 : ((some (([0] : List Int) : List Int)).bind fun y213 => (if 0 ≤ (mx 0 (wrap64 ((wrap64 ((l0_1.length : Int) + a0_2)) - a1))) then (if (mx 0 (wrap64 ((wrap64 ((l0_1.length : Int) + a0_2)) - a1))) ≤ (l0_1.length : Int) then ((some (l0_1.take ((mx 0 (wrap64 ((wrap64 ((l0_1.length : Int) + a0_2)) - a1))) : Int).toNat : List Int)).bind fun y216 => (if y213.length + y216.length < 17592186044416 then ((some (y213 ++ y216 : List Int)).bind fun y220 => (spec_DecimalUp.l0 kj2 a1 y220 (wrap64 ((y220.length : Int) - 1)) a0_0 l0_1 a0_2)) else (none))) else (none)) else (none))) = some (r1, r2, r3, r4) := by rw [if_neg (show ¬ (false = true) by decide)] at H; exact H
        clear H
        have H := H1
        clear H1
        obtain ⟨ji16, hji16⟩ : ∃ j_ : Int, (mx 0 (wrap64 ((wrap64 ((l0_1.length : Int) + a0_2)) - a1))) = j_ := ⟨_, rfl⟩
        replace H : ((some (([0] : List Int) : List Int)).bind fun y213 => (if 0 ≤ (ji16) then (if (ji16) ≤ (l0_1.length : Int) then ((some (l0_1.take ((ji16) : Int).toNat : List Int)).bind fun y216 => (if y213.length + y216.length < 17592186044416 then ((some (y213 ++ y216 : List Int)).bind fun y220 => (spec_DecimalUp.l0 kj2 a1 y220 (wrap64 ((y220.length : Int) - 1)) a0_0 l0_1 a0_2)) else (none))) else (none)) else (none))) = some (r1, r2, r3, r4) := by first | (rw [hji16] at H; exact H) | (simp only [hji16] at H ⊢; exact H)
        have hji16_ : (if 0 < (wrap64 ((wrap64 ((l0_1.length : Int) + a0_2)) - a1)) then (wrap64 ((wrap64 ((l0_1.length : Int) + a0_2)) - a1)) else 0) = ji16 := hji16
        obtain ⟨y213, hy213⟩ : ∃ y_ : List Int, y_ = (([0] : List Int)) := ⟨_, rfl⟩
        replace H : (if 0 ≤ (ji16) then (if (ji16) ≤ (l0_1.length : Int) then ((some (l0_1.take ((ji16) : Int).toNat : List Int)).bind fun y216 => (if y213.length + y216.length < 17592186044416 then ((some (y213 ++ y216 : List Int)).bind fun y220 => (spec_DecimalUp.l0 kj2 a1 y220 (wrap64 ((y220.length : Int) - 1)) a0_0 l0_1 a0_2)) else (none))) else (none)) else (none)) = some (r1, r2, r3, r4) := by first | (rw [hy213]; with_reducible exact H) | (have H2_ := (Option.bind_some _ _).symm.trans H; rw [hy213]; with_reducible exact H2_) | (have H2_ := (Option.bind_some _ _).symm.trans H; with_reducible exact H2_) | with_reducible exact H | (rw [hy213]; exact H) | exact H
        have Ny213 := Aside0.mk hy213
        clear hy213
        by_cases c17 : 0 ≤ (ji16)
        · rw [if_pos c17] at H
          have c17b0 := eq_true c17
          have c17b1 : decide (0 ≤ (ji16)) = true := decide_eq_true c17
          clear c17
          by_cases c18 : (ji16) ≤ (l0_1.length : Int)
          · rw [if_pos c18] at H
            have c18b0 := eq_true c18
            have c18b1 : decide ((ji16) ≤ (l0_1.length : Int)) = true := decide_eq_true c18
            clear c18
            obtain ⟨y216, hy216⟩ : ∃ y_ : List Int, y_ = (l0_1.take ((ji16) : Int).toNat) := ⟨_, rfl⟩
            replace H : (if y213.length + y216.length < 17592186044416 then ((some (y213 ++ y216 : List Int)).bind fun y220 => (spec_DecimalUp.l0 kj2 a1 y220 (wrap64 ((y220.length : Int) - 1)) a0_0 l0_1 a0_2)) else (none)) = some (r1, r2, r3, r4) := by first | (rw [hy216]; with_reducible exact H) | (have H2_ := (Option.bind_some _ _).symm.trans H; rw [hy216]; with_reducible exact H2_) | (have H2_ := (Option.bind_some _ _).symm.trans H; with_reducible exact H2_) | with_reducible exact H | (rw [hy216]; exact H) | exact H
            have Ny216 := Aside0.mk hy216
            clear hy216
            by_cases c19 : y213.length + y216.length < 17592186044416
            · rw [if_pos c19] at H
              have LMc19 := Aside0.mk c19
              clear c19
              obtain ⟨y220, hy220⟩ : ∃ y_ : List Int, y_ = (y213 ++ y216) := ⟨_, rfl⟩
              replace H : (spec_DecimalUp.l0 kj2 a1 y220 (wrap64 ((y220.length : Int) - 1)) a0_0 l0_1 a0_2) = some (r1, r2, r3, r4) := by first | (rw [hy220]; with_reducible exact H) | (have H2_ := (Option.bind_some _ _).symm.trans H; rw [hy220]; with_reducible exact H2_) | (have H2_ := (Option.bind_some _ _).symm.trans H; with_reducible exact H2_) | with_reducible exact H | (rw [hy220]; exact H) | exact H
              have Ny220 := Aside0.mk hy220
              clear hy220
              have H' := Aside0.mk H
              clear H
              have hnb20 := NB211_212.out
              have hnc20 := NB212_211.out
              have hcz21_0 : wc.cell? ⟨gb211, 0, none⟩ = some (.bool a0_0) := (blk_cell BK211.out 0).trans rfl
              have hcz21_1 : wc.cell? ⟨gb211, 1, none⟩ = some (.slice Ao4 l0_1.length co4) := (blk_cell BK211.out 1).trans rfl
              have hcz21_2 : wc.cell? ⟨gb211, 2, none⟩ = some (.int .i64 a0_2) := (blk_cell BK211.out 2).trans rfl
              have hfz21_0 := blk_frozen BK211.out 0
              have hfz21_1 := blk_frozen BK211.out 1
              have hfz21_2 := blk_frozen BK211.out 2
              go_wp2_with (first | ((with_reducible refine gate_dst (N := 29) rfl ?_); refine Kd.R_lit (Kd.int .i64) _ 3 ?hg (N := 29) ?hd (xs := ([0] : List Int)) (inner := [.int .i64 0]) (ok := fun _ => True) (okp := fun _ => True) ?hr ?hp (fun _ hk => hk) trivial (Below.refl _ _) (Nat.le_refl _) (by simp) ?_; (case hd => rfl); (case hg => rfl); (case hr => first | (go_simp; done) | (go_simp; rfl)); (case hp => exact (Reps.one (show Kd.M (Kd.int .i64) _ _ _ 0 [.int .i64 0] from rfl) (Reps.none _ _))); intro v214 w22 ho23 hb hg_ hnew_; clear hg_ hnew_; (first | rw [← Ny213.out] at ho23 | (simp only [Int.reduceToNat] at ho23; rw [← Ny213.out] at ho23)); have n0_ := Aside0.mk (Kd.R_elder' (by (with_reducible repeat (first | apply Kd.R_alloc | apply Kd.R_drewN | apply Kd.R_drew)); exact HO_212001.out) (Kd.R_base ho23) hb); have n1_ := Aside0.mk (Kd.R_lower (Kd.R_new' (Kd.R_newM (M := fun k_ => (P0_1_ k_ ∨ w.heap.size ≤ k_)) ho23 (by first | exact HK.out.1 | exact (show Kept w _ (fun k_ => P0_1_ k_) from by repeat (first | (with_reducible first | exact HK.out | apply Kept.alloc | apply Kept.drewN | apply Kept.drew | refine Kept.setCell ?_ (.inr GW211.out) _ | refine Kept.setCell ?_ (.inr GW212.out) _) | exact HK.out)).1) (fun k_ h_ => .inr h_)) (Kd.R_lt (by (with_reducible repeat (first | apply Kd.R_alloc | apply Kd.R_drewN | apply Kd.R_drew)); exact HO_212001.out))) (below_size (by repeat (first | (with_reducible first | exact HB.out | apply below_alloc | apply pw_below_drewN | apply below_drew1 | refine below_set ?_ GE211.out | refine below_set ?_ GE212.out) | exact HB.out)))); have n2_ := Aside0.mk (blk_below (g := gb211) (o := .cells #[.bool a0_0, .slice Ao4 l0_1.length co4, .int .i64 a0_2] 26 (0, 0)) (by (with_reducible repeat (first | refine blk_drewN ?_ _ | refine blk_drew ?_ | refine blk_alloc ?_ _)); exact BK211.out) hb); have n3_ := Aside0.mk (blk_below (g := gb212) (o := .cells #[.bool false, .slice none 0 0, .int .i64 0] 26 (0, 0)) (by (with_reducible repeat (first | refine blk_drewN ?_ _ | refine blk_drew ?_ | refine blk_alloc ?_ _)); exact BK212.out) hb); have n4_ := Aside0.mk (Kept.below (S := (fun k_ => P0_1_ k_)) (by repeat (first | (with_reducible first | exact HK.out | apply Kept.alloc | apply Kept.drewN | apply Kept.drew | refine Kept.setCell ?_ (.inr GW211.out) _ | refine Kept.setCell ?_ (.inr GW212.out) _) | exact HK.out)) hb); have n5_ := Aside0.mk (below_step (by repeat (first | (with_reducible first | exact HB.out | apply below_alloc | apply pw_below_drewN | apply below_drew1 | refine below_set ?_ GE211.out | refine below_set ?_ GE212.out) | exact HB.out)) hb); clear HO_212001; clear BK211; clear BK212; clear HK; clear HB; have HO_212001 := n0_; have HO215 := n1_; have BK211 := n2_; have BK212 := n3_; have HK := n4_; have HB := n5_; clear n0_ n1_ n2_ n3_ n4_ n5_; clear hb ho23; have hcz24_0 : w22.cell? ⟨gb211, 0, none⟩ = some (.bool a0_0) := (blk_cell BK211.out 0).trans rfl; have hcz24_1 : w22.cell? ⟨gb211, 1, none⟩ = some (.slice Ao4 l0_1.length co4) := (blk_cell BK211.out 1).trans rfl; have hcz24_2 : w22.cell? ⟨gb211, 2, none⟩ = some (.int .i64 a0_2) := (blk_cell BK211.out 2).trans rfl; have hfz24_0 := blk_frozen BK211.out 0; have hfz24_1 := blk_frozen BK211.out 1; have hfz24_2 := blk_frozen BK211.out 2; have q25 : ((ji16) : Int) ≤ ((l0_1.length : Int) : Int) := of_decide_eq_true (by first | (with_reducible assumption) | assumption); obtain ⟨i025, hi025, _, hsz25, _⟩ := info_parts info3; have hroom25 : l0_1.length ≤ co4 := (Kd.R_reads' HO_212001.out).2.1; have hC25 : Kd.C (Kd.int .i64) _ Ao4 l0_1.length l0_1 := (Kd.R_reads' HO_212001.out).2.2; have hcut25 := cut_to (P := Try.prog) 24 3 .i64 Try.underlying24 hi025 Ao4 l0_1.length co4 (ji16) (of_decide_eq_true (by first | (with_reducible assumption) | assumption)) q25 hroom25; have hr25 := Kd.C_take (m := ((ji16) : Int).toNat) hC25 (by omega); have hy25 : y216.length = ((ji16) : Int).toNat := (by rw [Ny216.out, List.length_take]; omega); rw [← Ny216.out] at hr25; rw [← hy25] at hcut25; have HR219 := Aside0.mk hr25; have HC219 := Aside0.mk (show y216.length ≤ co4 from by omega); clear hr25 hC25 hroom25 hi025 hsz25; have KY25 := Aside0.mk hy25; clear hy25; have KL25 := Aside0.mk (show ((ji16) : Int).toNat ≤ l0_1.length from by omega); replace q25 := eq_true q25) | ((with_reducible refine gate_builtin (b := .append) (xs := #[.tmp 29, .tmp 33]) rfl ?_); at_builtin; refine Kd.R_append_rows (Kd.int .i64) (w0 := w0) w0.heap.size rfl (.tmp 29) (.tmp 33) 24 3 (.int .i64 0) 8 rfl Try.underlying24 info3 rfl (by decide) (by omega) v214 y213 y216 _ _ _ (fun k_ => (P0_1_ k_ ∨ w.heap.size ≤ k_) ∧ some k_ ≠ (.slice Ao4 l0_1.length co4 : Value).ownBlock) (fun _ => False) rfl rfl ?aO ?aR (fun _ _ h => h) (fun _ h => h.elim) ?aF ?aB ?aS ?aL ?_; (case aR => repeat (first | exact (by repeat (first | (with_reducible exact HR219.out) | (with_reducible refine Kd.C_alloc ?_ _) | (with_reducible refine Kd.C_drewN ?_ _) | (with_reducible refine Kd.C_drew ?_) | exact HR219.out)) | (with_reducible refine Kd.C_alloc ?_ _) | (with_reducible refine Kd.C_drewN ?_ _) | (with_reducible refine Kd.C_drew ?_))); (case aB => exact (by repeat (first | (with_reducible first | exact HB.out | apply below_alloc | apply pw_below_drewN | apply below_drew1 | refine below_set ?_ GE211.out | refine below_set ?_ GE212.out) | exact HB.out))); (case aF => exact (fun k_ hk => ⟨(.inr (Nat.le_trans (by first | exact HK.out.1 | exact (show Kept w _ (fun k_ => P0_1_ k_) from by repeat (first | (with_reducible first | exact HK.out | apply Kept.alloc | apply Kept.drewN | apply Kept.drew | refine Kept.setCell ?_ (.inr GW211.out) _ | refine Kept.setCell ?_ (.inr GW212.out) _) | exact HK.out)).1) hk)), Kd.fresh' (Kd.R_lt (by (with_reducible repeat (first | apply Kd.R_alloc | apply Kd.R_drewN | apply Kd.R_drew)); exact HO_212001.out)) k_ hk⟩)); (case aO => exact (by (with_reducible repeat (first | apply Kd.R_alloc | apply Kd.R_drewN | apply Kd.R_drew)); exact Kd.R_mono HO215.out (fun _ hk => ⟨hk.1.1, hk.2⟩))); (case aS => exact (below_size (by repeat (first | (with_reducible first | exact HB.out | apply below_alloc | apply pw_below_drewN | apply below_drew1 | refine below_set ?_ GE211.out | refine below_set ?_ GE212.out) | exact HB.out)))); (case aL => have := LMc19.out; omega); intro v221 w26 ho hb hg hat; rw [← Ny220.out] at ho; have n0_ := Aside0.mk (Kd.R_after (ok := (fun k_ => (P0_1_ k_ ∨ w.heap.size ≤ k_))) (by (with_reducible repeat (first | apply Kd.R_alloc | apply Kd.R_drewN | apply Kd.R_drew)); exact HO_212001.out) hg hat); have n1_ := Aside0.mk (blk_grown (g := gb211) (o := .cells #[.bool a0_0, .slice Ao4 l0_1.length co4, .int .i64 a0_2] 26 (0, 0)) (by (with_reducible repeat (first | refine blk_drewN ?_ _ | refine blk_drew ?_ | refine blk_alloc ?_ _)); exact BK211.out) hg (Kd.R_ne HO215.out BK211.out (by decide))); have n2_ := Aside0.mk (blk_grown (g := gb212) (o := .cells #[.bool false, .slice none 0 0, .int .i64 0] 26 (0, 0)) (by (with_reducible repeat (first | refine blk_drewN ?_ _ | refine blk_drew ?_ | refine blk_alloc ?_ _)); exact BK212.out) hg (Kd.R_ne HO215.out BK212.out (by decide))); have n3_ := Aside0.mk (hb); have n4_ := Aside0.mk (Kept.of_grown (S := (fun k_ => P0_1_ k_)) hg (by repeat (first | (with_reducible first | exact HK.out | apply Kept.alloc | apply Kept.drewN | apply Kept.drew | refine Kept.setCell ?_ (.inr GW211.out) _ | refine Kept.setCell ?_ (.inr GW212.out) _) | exact HK.out)) (fun k_ e_ => (HO215.out.1 k_ e_).1.1)); have n5_ := Aside0.mk ((show Kd.C (Kd.int .i64) w26 Ao4 y216.length y216 from by rw [Ny216.out]; exact Kd.C_take (m := ((ji16) : Int).toNat) ((Kd.R_reads' (Kd.R_after (ok := (fun k_ => (P0_1_ k_ ∨ w.heap.size ≤ k_))) (by (with_reducible repeat (first | apply Kd.R_alloc | apply Kd.R_drewN | apply Kd.R_drew)); exact HO_212001.out) hg hat)).2.2) KL25.out)); have n6_ := Aside0.mk (ho); clear HO_212001; clear BK211; clear BK212; clear HB; clear HK; clear HR219; clear HO215; have HO_212001 := n0_; have BK211 := n1_; have BK212 := n2_; have HB := n3_; have HK := n4_; have HR219 := n5_; have HO222 := n6_; clear n0_ n1_ n2_ n3_ n4_ n5_ n6_; clear ho hb hg hat; obtain ⟨Ao27, co27, eo27⟩ := Kd.R_slice HO222.out; subst eo27))
              go_loopg [8] kj2 (fun kq v8 w' => ∃ (x7_2 : List Int) (x8_2 : Int), v8 = .int .i64 x8_2 ∧ Aside0 (spec_DecimalUp.l0 kq a1 x7_2 x8_2 a0_0 l0_1 a0_2 = some (r1, r2, r3, r4)) ∧ Aside0 (kq ≤ kj2) ∧ Aside0 (Kd.R (Kd.int .i64) 3 w' w0.heap.size (fun k_ => (P0_1_ k_ ∨ w.heap.size ≤ k_) ∧ some k_ ≠ ((.slice Ao4 l0_1.length co4) : Value).ownBlock) (.slice Ao27 y220.length co27) x7_2) ∧ Aside0 (Kd.R (Kd.int .i64) 3 w' w0.heap.size (fun k_ => (P0_1_ k_ ∨ w.heap.size ≤ k_) ∧ some k_ ≠ ((.slice Ao27 y220.length co27) : Value).ownBlock) (.slice Ao4 l0_1.length co4) l0_1) ∧ Aside0 (w'.heap[gb211]? = some (.cells #[.bool a0_0, (.slice Ao4 l0_1.length co4), .int .i64 a0_2] 26 (0, 0))) ∧ Aside0 (w'.heap[gb212]? = some (.cells #[.bool false, (.slice none 0 0), .int .i64 0] 26 (0, 0))) ∧ Aside0 (Kd.C (Kd.int .i64) w' Ao4 y216.length y216) ∧ Aside0 (Kept w w' (fun k_ => P0_1_ k_)) ∧ Aside0 (Below w0.heap.size w0 w'))
              case atStart => exact ⟨(y220), (wrap64 ((y220.length : Int) - 1)), (by first | rfl | (simp; done) | (simp [*]; done)), H', ⟨Nat.le_refl _⟩, ⟨by (with_reducible repeat (first | apply Kd.R_alloc | apply Kd.R_drewN | apply Kd.R_drew)); exact HO222.out⟩, ⟨by (with_reducible repeat (first | apply Kd.R_alloc | apply Kd.R_drewN | apply Kd.R_drew)); exact HO_212001.out⟩, ⟨by (with_reducible repeat (first | refine blk_drewN ?_ _ | refine blk_drew ?_ | refine blk_alloc ?_ _)); exact BK211.out⟩, ⟨by (with_reducible repeat (first | refine blk_drewN ?_ _ | refine blk_drew ?_ | refine blk_alloc ?_ _)); exact BK212.out⟩, ⟨by repeat (first | (with_reducible exact HR219.out) | (with_reducible refine Kd.C_alloc ?_ _) | (with_reducible refine Kd.C_drewN ?_ _) | (with_reducible refine Kd.C_drew ?_) | exact HR219.out)⟩, ⟨by repeat (first | (with_reducible first | exact HK.out | apply Kept.alloc | apply Kept.drewN | apply Kept.drew | refine Kept.setCell ?_ (.inr GW211.out) _ | refine Kept.setCell ?_ (.inr GW212.out) _) | exact HK.out)⟩, ⟨by repeat (first | (with_reducible first | exact HB.out | apply below_alloc | apply pw_below_drewN | apply below_drew1 | refine below_set ?_ GE211.out | refine below_set ?_ GE212.out) | exact HB.out)⟩⟩
              case round =>
                clear H'
                try clear c1
                try clear c2
                try clear p2
                try clear q2
                try clear p6
                try clear c7
                try clear c7b0
                try clear c7b1
                try clear c7b2
                try clear c8
                try clear c10
                try clear c12
                try clear c13
                try clear c15
                try clear c17
                try clear c17b0
                try clear c17b1
                try clear c18
                try clear c18b0
                try clear c18b1
                try clear c19
                try clear c20
                try clear q25
                try clear hcz11_0
                try clear hcz11_1
                try clear hcz11_2
                try clear hcz14_0
                try clear hcz14_1
                try clear hcz14_2
                try clear hcz15_0
                try clear hcz15_1
                try clear hcz15_2
                try clear hcz21_0
                try clear hcz21_1
                try clear hcz21_2
                try clear hcz24_0
                try clear hcz24_1
                try clear hcz24_2
                try clear hcz9_0
                try clear hcz9_1
                try clear hcz9_2
                try clear hfz11_0
                try clear hfz11_1
                try clear hfz11_2
                try clear hfz14_0
                try clear hfz14_1
                try clear hfz14_2
                try clear hfz15_0
                try clear hfz15_1
                try clear hfz15_2
                try clear hfz21_0
                try clear hfz21_1
                try clear hfz21_2
                try clear hfz24_0
                try clear hfz24_1
                try clear hfz24_2
                try clear hfz9_0
                try clear hfz9_1
                try clear hfz9_2
                try clear p2
                try clear q25
                obtain ⟨x7_2, x8_2, rfl, HA, HK2, HO_7, HO_212001, BK211, BK212, HR219, HK, HB⟩ := hrel
                have hl7_2 := (Kd.R_reads' HO_7.out).1
                rw [hl7_2] at HO_7
                (try simp only [hl7_2])
                (try simp only [hl7_2] at BK211)
                (try simp only [hl7_2] at BK212)
                (try simp only [hl7_2] at HO_212001)
                cases gk with
                | zero => exact absurd HA.out (by simp [spec_DecimalUp.l0])
                | succ k2 =>
                  have H := HA.out
                  clear HA
                  simp only [spec_DecimalUp.l0] at H
                  by_cases c28 : 0 ≤ x8_2
                  · rw [if_pos c28] at H
                    have c28b0 : decide (0 ≤ x8_2) = true := decide_eq_true c28
                    clear c28
                    by_cases c29 : x8_2 < (x7_2.length : Int)
                    · rw [if_pos c29] at H
                      have c29b0 : decide (x8_2 < (x7_2.length : Int)) = true := decide_eq_true c29
                      clear c29
                      obtain ⟨y224, hy224⟩ : ∃ y_ : List Int, y_ = (x7_2.set (x8_2 : Int).toNat (wrap64 ((rd x7_2 x8_2) + 1))) := ⟨_, rfl⟩
                      replace H : (if (rd y224 x8_2) < 10 then ((spec_decimal.f k2 a0_0 y224 a1).bind fun bt226 => (some (bt226.1, bt226.2.1, bt226.2.2, false))) else (spec_DecimalUp.l0 k2 a1 (y224.set (x8_2 : Int).toNat 0) (wrap64 (x8_2 - 1)) a0_0 l0_1 a0_2)) = some (r1, r2, r3, r4) := by first | (rw [hy224]; with_reducible exact H) | (have H2_ := (Option.bind_some _ _).symm.trans H; rw [hy224]; with_reducible exact H2_) | (have H2_ := (Option.bind_some _ _).symm.trans H; with_reducible exact H2_) | with_reducible exact H | (rw [hy224]; exact H) | exact H
                      have Ny224 := Aside0.mk hy224
                      clear hy224
                      by_cases c31 : (rd y224 x8_2) < 10
                      · rw [if_pos c31] at H
                        have c31b0 : decide ((rd y224 x8_2) < 10) = true := decide_eq_true c31
                        clear c31
                        replace H := Option.bind_eq_some_iff.mp H
                        obtain ⟨⟨t226, t227, t230⟩, A320, H⟩ := H
                        replace H : (some (t226, t227, t230, false)) = some (r1, r2, r3, r4) := H
                        have A32 := Aside0.mk A320
                        clear A320
                        simp only [Option.some.injEq, Prod.mk.injEq] at H
                        obtain ⟨rfl, rfl, rfl, rfl⟩ := H
                        have p223 : 0 ≤ (x8_2 : Int) := of_decide_eq_true (by first | (with_reducible assumption) | assumption)
                        have q223 : x8_2 < (x7_2.length : Int) := of_decide_eq_true (by first | (with_reducible assumption) | assumption)
                        obtain ⟨ad223, e223, hx223_0⟩ := Kd.at_int (Kd.R_reads' HO_7.out).2.2 x8_2 p223 q223
                        cases e223
                        replace p223 := eq_true p223
                        replace q223 := eq_true q223
                        have p30 : 0 ≤ (x8_2 : Int) := of_decide_eq_true (by first | (with_reducible assumption) | assumption)
                        have q30 : (x8_2 : Int) < ((x7_2.length : Int) : Int) := of_decide_eq_true (by first | (with_reducible assumption) | assumption)
                        obtain ⟨go30, co30, eo30, gb30, gl30, cl30, HG30⟩ := Kd.R_form HO_7.out (by omega)
                        (first | cases eo30 | (injection eo30 with ea_ en_ ec_; (first | subst ea_ | (injection ea_ with ea_; subst ea_)); subst ec_; clear en_))
                        have GB30 := Aside0.mk gb30
                        have GG30 := Aside0.mk HG30
                        clear gb30 gl30 HG30
                        have HMgo30 := Aside0.mk (show (P0_1_ go30 ∨ w.heap.size ≤ go30) from (HO_7.out.1 _ rfl).1)
                        (first | simp only [add_plain] at hx223_0 | skip)
                        obtain ⟨hx30_0, hf30_0⟩ := Kd.R_celln 0 HO_7.out (x8_2 : Int) p30 q30
                        replace p30 := eq_true p30
                        replace q30 := eq_true q30
                        have HP33 := Kd.R_putg HO_7.out (x8_2 : Int) (wrap64 ((rd x7_2 x8_2) + 1))
                        go_wp2_with (first | ((with_reducible refine gate_store (t := 3) (p := 45) rfl ?_); refine store_event (t := 3) (p := 45) (v := ?vo_w34) (w1 := (wr.setCell ⟨go30, (x8_2 : Int).toNat, none⟩ (.int .i64 (wrap64 ((rd x7_2 x8_2) + 1))))) ?hg ?ho ?hn ?hr ?_; (case ho => rfl); (case hg => rfl); (case hn => rfl); (case hr => first | (go_simp; done) | (go_simp; rfl)); intro w34 hw; have hg : wr.grownBy w34 (some go30) := (by rw [hw]; exact HP33.2); have hp_ : Kd.R (Kd.int .i64) 3 w34 w0.heap.size (fun k_ => (P0_1_ k_ ∨ w.heap.size ≤ k_) ∧ some k_ ≠ (.slice Ao4 l0_1.length co4 : Value).ownBlock) (.slice (some ⟨go30, 0, none⟩) x7_2.length co27) y224 := (by rw [hw, Ny224.out]; exact HP33.1); clear HP33; have n0_ := Aside0.mk (hp_); have n1_ := Aside0.mk (Kd.R_after (v := (.slice (some ⟨go30, 0, none⟩) x7_2.length co27)) (v1 := (.slice (some ⟨go30, 0, none⟩) x7_2.length co27)) (ok := (fun k_ => (P0_1_ k_ ∨ w.heap.size ≤ k_))) (by (with_reducible repeat (first | apply Kd.R_alloc | apply Kd.R_drewN | apply Kd.R_drew)); exact HO_212001.out) hg (.inl rfl)); have n2_ := Aside0.mk (blk_grown (g := gb211) (o := .cells #[.bool a0_0, .slice Ao4 l0_1.length co4, .int .i64 a0_2] 26 (0, 0)) (by (with_reducible repeat (first | refine blk_drewN ?_ _ | refine blk_drew ?_ | refine blk_alloc ?_ _)); exact BK211.out) hg (Kd.R_ne HO_7.out BK211.out (by decide))); have n3_ := Aside0.mk (blk_grown (g := gb212) (o := .cells #[.bool false, .slice none 0 0, .int .i64 0] 26 (0, 0)) (by (with_reducible repeat (first | refine blk_drewN ?_ _ | refine blk_drew ?_ | refine blk_alloc ?_ _)); exact BK212.out) hg (Kd.R_ne HO_7.out BK212.out (by decide))); have n4_ := Aside0.mk ((by rw [hw]; exact below_set (HB.out) GB30.out : Below w0.heap.size w0 w34)); have n5_ := Aside0.mk (Kept.of_grown (S := (fun k_ => P0_1_ k_)) hg (by repeat (first | (with_reducible first | exact HK.out | apply Kept.alloc | apply Kept.drewN | apply Kept.drew | refine Kept.setCell ?_ (.inr GW211.out) _ | refine Kept.setCell ?_ (.inr GW212.out) _) | exact HK.out)) (fun k_ e_ => (HO_7.out.1 k_ e_).1)); have n6_ := Aside0.mk ((show Kd.C (Kd.int .i64) w34 Ao4 y216.length y216 from by rw [Ny216.out]; exact Kd.C_take (m := ((ji16) : Int).toNat) ((Kd.R_reads' (Kd.R_after (v := (.slice (some ⟨go30, 0, none⟩) x7_2.length co27)) (v1 := (.slice (some ⟨go30, 0, none⟩) x7_2.length co27)) (ok := (fun k_ => (P0_1_ k_ ∨ w.heap.size ≤ k_))) (by (with_reducible repeat (first | apply Kd.R_alloc | apply Kd.R_drewN | apply Kd.R_drew)); exact HO_212001.out) hg (.inl rfl))).2.2) KL25.out)); clear HO_7; clear HO_212001; clear BK211; clear BK212; clear HB; clear HK; clear HR219; have HO_7 := n0_; have HO_212001 := n1_; have BK211 := n2_; have BK212 := n3_; have HB := n4_; have HK := n5_; have HR219 := n6_; clear n0_ n1_ n2_ n3_ n4_ n5_ n6_; clear hg hw hp_; have p225 : 0 ≤ (x8_2 : Int) := of_decide_eq_true (by first | (with_reducible assumption) | assumption); have q225 : x8_2 < (y224.length : Int) := (by have h_ : (x8_2 : Int) < ((x7_2.length : Int) : Int) := of_decide_eq_true (by first | (with_reducible assumption) | assumption); first | (have e_ := (Kd.R_reads' HO_7.out).1; omega) | simpa only [Ny224.out, List.length_set] using h_); have ql225 : ((x8_2 : Int) < ((x7_2.length : Int) : Int)) = True := eq_true (of_decide_eq_true (by first | (with_reducible assumption) | assumption)); obtain ⟨ad225, e225, hx225_0⟩ := Kd.at_int (Kd.R_reads' HO_7.out).2.2 x8_2 p225 q225; obtain rfl : (⟨go30, 0, none⟩ : Addr) = ad225 := (by injection e225); (first | simp only [add_plain] at hx225_0 | simp only [add_at] at hx225_0 | simp only [Addr.add, Nat.zero_add] at hx225_0 | skip); replace p225 := eq_true p225; replace q225 := eq_true q225; have hnb35 := NB211_212.out; have hnc35 := NB212_211.out; have hcz36_0 : w34.cell? ⟨gb211, 0, none⟩ = some (.bool a0_0) := (blk_cell BK211.out 0).trans rfl; have hcz36_1 : w34.cell? ⟨gb211, 1, none⟩ = some (.slice Ao4 l0_1.length co4) := (blk_cell BK211.out 1).trans rfl; have hcz36_2 : w34.cell? ⟨gb211, 2, none⟩ = some (.int .i64 a0_2) := (blk_cell BK211.out 2).trans rfl; have hfz36_0 := blk_frozen BK211.out 0; have hfz36_1 := blk_frozen BK211.out 1; have hfz36_2 := blk_frozen BK211.out 2) | ((with_reducible refine gate_callee (f := 24) rfl ?_); refine goesL_ (some 58) rfl rfl Try.func24 (by kernel_rfl) rfl #[.bool a0_0, .slice (some ⟨go30, 0, none⟩) y224.length co27, .int .i64 a1] rfl (by (try simp only [List.map_toArray, List.map_cons, List.map_nil]); first | done | (rw [show y224.length = x7_2.length from (Kd.R_reads' HO_7.out).1.symm] <;> rfl) | rfl | (simp only [List.length_drop, List.length_take]; rfl)) ?_; (with_reducible refine (spec_decimal.calls k2 a0_0 (fun k_ => some k_ = (.slice (some ⟨go30, 0, none⟩) x7_2.length co27 : Value).ownBlock) _ _ y224 a1 t226 t227 t230 _ ?side1 A32.out).mono ?_); (case side1 => rw [show y224.length = x7_2.length from (Kd.R_reads' HO_7.out).1.symm]; exact Kd.R_V (Kd.R_tight rfl (Kd.R_types (Kd.R_types (HO_7.out) BK211.out (by decide)) BK212.out (by decide)))); rintro e w37 ⟨v228, rfl, ho0, hb⟩; refine ⟨_, rfl, ?_⟩; have n0_ := Aside0.mk (Kd.R_elder' (by (with_reducible repeat (first | apply Kd.R_alloc | apply Kd.R_drewN | apply Kd.R_drew)); exact HO_7.out) (Kd.R_base ho0) hb); have n1_ := Aside0.mk (Kd.R_elder' (by (with_reducible repeat (first | apply Kd.R_alloc | apply Kd.R_drewN | apply Kd.R_drew)); exact HO_212001.out) (Kd.R_base ho0) hb); have n2_ := Aside0.mk (Kd.R_lower (Kd.R_new' (Kd.R_new' (Kd.R_newM (M := fun k_ => (P0_1_ k_ ∨ w.heap.size ≤ k_)) (Kd.R_mono (ok' := fun k_ => True) ho0 (fun _ hk_ => trivial)) (by first | exact HK.out.1 | exact (show Kept w _ (fun k_ => P0_1_ k_) from by repeat (first | (with_reducible first | exact HK.out | apply Kept.alloc | apply Kept.drewN | apply Kept.drew | refine Kept.setCell ?_ (.inr GW211.out) _ | refine Kept.setCell ?_ (.inr GW212.out) _) | exact HK.out)).1) (fun k_ h_ => .inr h_)) (Kd.R_lt (by (with_reducible repeat (first | apply Kd.R_alloc | apply Kd.R_drewN | apply Kd.R_drew)); exact HO_7.out))) (Kd.R_lt (by (with_reducible repeat (first | apply Kd.R_alloc | apply Kd.R_drewN | apply Kd.R_drew)); exact HO_212001.out))) (below_size (by repeat (first | (with_reducible first | exact HB.out | apply below_alloc | apply pw_below_drewN | apply below_drew1 | refine below_set ?_ GE211.out | refine below_set ?_ GE212.out) | exact HB.out)))); have n3_ := Aside0.mk (blk_below (g := gb211) (o := .cells #[.bool a0_0, .slice Ao4 l0_1.length co4, .int .i64 a0_2] 26 (0, 0)) (by (with_reducible repeat (first | refine blk_drewN ?_ _ | refine blk_drew ?_ | refine blk_alloc ?_ _)); exact BK211.out) hb); have n4_ := Aside0.mk (blk_below (g := gb212) (o := .cells #[.bool false, .slice none 0 0, .int .i64 0] 26 (0, 0)) (by (with_reducible repeat (first | refine blk_drewN ?_ _ | refine blk_drew ?_ | refine blk_alloc ?_ _)); exact BK212.out) hb); have n5_ := Aside0.mk (Kd.C_below (by repeat (first | (with_reducible exact HR219.out) | (with_reducible refine Kd.C_alloc ?_ _) | (with_reducible refine Kd.C_drewN ?_ _) | (with_reducible refine Kd.C_drew ?_) | exact HR219.out)) hb); have n6_ := Aside0.mk (Kept.below (S := (fun k_ => P0_1_ k_)) (by repeat (first | (with_reducible first | exact HK.out | apply Kept.alloc | apply Kept.drewN | apply Kept.drew | refine Kept.setCell ?_ (.inr GW211.out) _ | refine Kept.setCell ?_ (.inr GW212.out) _) | exact HK.out)) hb); have n7_ := Aside0.mk (below_step (by repeat (first | (with_reducible first | exact HB.out | apply below_alloc | apply pw_below_drewN | apply below_drew1 | refine below_set ?_ GE211.out | refine below_set ?_ GE212.out) | exact HB.out)) hb); clear HO_7; clear HO_212001; clear BK211; clear BK212; clear HR219; clear HK; clear HB; have HO_7 := n0_; have HO_212001 := n1_; have HO229 := n2_; have BK211 := n3_; have BK212 := n4_; have HR219 := n5_; have HK := n6_; have HB := n7_; clear n0_ n1_ n2_ n3_ n4_ n5_ n6_ n7_; (try clear hb); (try clear hb2); (try clear hk); (try clear hi); (try clear ho0); have hcz38_0 : w37.cell? ⟨gb212, 0, none⟩ = some (.bool false) := (blk_cell BK212.out 0).trans rfl; have hcz38_1 : w37.cell? ⟨gb212, 1, none⟩ = some (.slice none 0 0) := (blk_cell BK212.out 1).trans rfl; have hcz38_2 : w37.cell? ⟨gb212, 2, none⟩ = some (.int .i64 0) := (blk_cell BK212.out 2).trans rfl; have hfz38_0 := blk_frozen BK212.out 0; have hfz38_1 := blk_frozen BK212.out 1; have hfz38_2 := blk_frozen BK212.out 2; obtain ⟨Ao39, co39, eo39⟩ := Kd.R_slice HO229.out; subst eo39))
                        refine bodyPost_ret (results_ct rfl _ _ gb212 26 #[.bool t226, .slice Ao39 t227.length co39, .int .i64 t230] (0, 0) _ rfl (by (with_reducible repeat (first | refine blk_drewN ?_ _ | refine blk_drew ?_ | refine blk_alloc ?_ _)); refine blk_put (cs := #[.bool t226, .slice Ao39 t227.length co39, .int .i64 0]) ?_ 2 _ rfl; (with_reducible repeat (first | refine blk_drewN ?_ _ | refine blk_drew ?_ | refine blk_alloc ?_ _)); refine blk_put (cs := #[.bool t226, .slice none 0 0, .int .i64 0]) ?_ 1 _ rfl; (with_reducible repeat (first | refine blk_drewN ?_ _ | refine blk_drew ?_ | refine blk_alloc ?_ _)); refine blk_put (cs := #[.bool false, .slice none 0 0, .int .i64 0]) ?_ 0 _ rfl; (with_reducible repeat (first | refine blk_drewN ?_ _ | refine blk_drew ?_ | refine blk_alloc ?_ _)); exact BK212.out) Try.underlying26 rfl (by kernel_rfl)) rfl ?_
                        exact ⟨_, by first | rfl | (simp [errW_none, errW_some] <;> rfl) | (simp only [← hji16]; first | rfl | (simp [errW_none, errW_some] <;> rfl)) | (simp [*, errW_none, errW_some] <;> rfl), by (with_reducible repeat (first | apply Kd.R_alloc | apply Kd.R_drewN | apply Kd.R_drew)); exact Kd.R_mono (Kd.R_far (p := ⟨gb212, 2, none⟩) (Kd.R_far (p := ⟨gb212, 1, none⟩) (Kd.R_far (p := ⟨gb212, 0, none⟩) (Kd.R_types HO229.out BK212.out (by decide)) (fun _ hk => hk.2) (.bool t226)) (fun _ hk => hk.2) (.slice Ao39 t227.length co39)) (fun _ hk => hk.2) (.int .i64 t230)) (fun _ hk => hk.1.1.1.1), by repeat (first | (with_reducible first | exact HB.out | apply below_alloc | apply pw_below_drewN | apply below_drew1 | refine below_set ?_ GE211.out | refine below_set ?_ GE212.out) | exact HB.out), by repeat (first | (with_reducible first | exact HK.out | apply Kept.alloc | apply Kept.drewN | apply Kept.drew | refine Kept.setCell ?_ (.inr GW211.out) _ | refine Kept.setCell ?_ (.inr GW212.out) _) | exact HK.out)⟩
                      · rw [if_neg c31] at H
                        have c31b0 : decide ((rd y224 x8_2) < 10) = false := decide_eq_false c31
                        clear c31
                        obtain ⟨y231, hy231⟩ : ∃ y_ : List Int, y_ = (y224.set (x8_2 : Int).toNat 0) := ⟨_, rfl⟩
                        replace H : (spec_DecimalUp.l0 k2 a1 y231 (wrap64 (x8_2 - 1)) a0_0 l0_1 a0_2) = some (r1, r2, r3, r4) := by first | (rw [hy231]; with_reducible exact H) | (have H2_ := (Option.bind_some _ _).symm.trans H; rw [hy231]; with_reducible exact H2_) | (have H2_ := (Option.bind_some _ _).symm.trans H; with_reducible exact H2_) | with_reducible exact H | (rw [hy231]; exact H) | exact H
                        have Ny231 := Aside0.mk hy231
                        clear hy231
                        have H' := Aside0.mk H
                        clear H
                        have p223 : 0 ≤ (x8_2 : Int) := of_decide_eq_true (by first | (with_reducible assumption) | assumption)
                        have q223 : x8_2 < (x7_2.length : Int) := of_decide_eq_true (by first | (with_reducible assumption) | assumption)
                        obtain ⟨ad223, e223, hx223_0⟩ := Kd.at_int (Kd.R_reads' HO_7.out).2.2 x8_2 p223 q223
                        cases e223
                        replace p223 := eq_true p223
                        replace q223 := eq_true q223
                        have p30 : 0 ≤ (x8_2 : Int) := of_decide_eq_true (by first | (with_reducible assumption) | assumption)
                        have q30 : (x8_2 : Int) < ((x7_2.length : Int) : Int) := of_decide_eq_true (by first | (with_reducible assumption) | assumption)
                        obtain ⟨go30, co30, eo30, gb30, gl30, cl30, HG30⟩ := Kd.R_form HO_7.out (by omega)
                        (first | cases eo30 | (injection eo30 with ea_ en_ ec_; (first | subst ea_ | (injection ea_ with ea_; subst ea_)); subst ec_; clear en_))
                        have GB30 := Aside0.mk gb30
                        have GG30 := Aside0.mk HG30
                        clear gb30 gl30 HG30
                        have HMgo30 := Aside0.mk (show (P0_1_ go30 ∨ w.heap.size ≤ go30) from (HO_7.out.1 _ rfl).1)
                        (first | simp only [add_plain] at hx223_0 | skip)
                        obtain ⟨hx30_0, hf30_0⟩ := Kd.R_celln 0 HO_7.out (x8_2 : Int) p30 q30
                        replace p30 := eq_true p30
                        replace q30 := eq_true q30
                        have HP41 := Kd.R_putg HO_7.out (x8_2 : Int) (wrap64 ((rd x7_2 x8_2) + 1))
                        go_wp2_with (first | ((with_reducible refine gate_store (t := 3) (p := 45) rfl ?_); refine store_event (t := 3) (p := 45) (v := ?vo_w42) (w1 := (wr.setCell ⟨go30, (x8_2 : Int).toNat, none⟩ (.int .i64 (wrap64 ((rd x7_2 x8_2) + 1))))) ?hg ?ho ?hn ?hr ?_; (case ho => rfl); (case hg => rfl); (case hn => rfl); (case hr => first | (go_simp; done) | (go_simp; rfl)); intro w42 hw; have hg : wr.grownBy w42 (some go30) := (by rw [hw]; exact HP41.2); have hp_ : Kd.R (Kd.int .i64) 3 w42 w0.heap.size (fun k_ => (P0_1_ k_ ∨ w.heap.size ≤ k_) ∧ some k_ ≠ (.slice Ao4 l0_1.length co4 : Value).ownBlock) (.slice (some ⟨go30, 0, none⟩) x7_2.length co27) y224 := (by rw [hw, Ny224.out]; exact HP41.1); clear HP41; have n0_ := Aside0.mk (hp_); have n1_ := Aside0.mk (Kd.R_after (v := (.slice (some ⟨go30, 0, none⟩) x7_2.length co27)) (v1 := (.slice (some ⟨go30, 0, none⟩) x7_2.length co27)) (ok := (fun k_ => (P0_1_ k_ ∨ w.heap.size ≤ k_))) (by (with_reducible repeat (first | apply Kd.R_alloc | apply Kd.R_drewN | apply Kd.R_drew)); exact HO_212001.out) hg (.inl rfl)); have n2_ := Aside0.mk (blk_grown (g := gb211) (o := .cells #[.bool a0_0, .slice Ao4 l0_1.length co4, .int .i64 a0_2] 26 (0, 0)) (by (with_reducible repeat (first | refine blk_drewN ?_ _ | refine blk_drew ?_ | refine blk_alloc ?_ _)); exact BK211.out) hg (Kd.R_ne HO_7.out BK211.out (by decide))); have n3_ := Aside0.mk (blk_grown (g := gb212) (o := .cells #[.bool false, .slice none 0 0, .int .i64 0] 26 (0, 0)) (by (with_reducible repeat (first | refine blk_drewN ?_ _ | refine blk_drew ?_ | refine blk_alloc ?_ _)); exact BK212.out) hg (Kd.R_ne HO_7.out BK212.out (by decide))); have n4_ := Aside0.mk ((by rw [hw]; exact below_set (HB.out) GB30.out : Below w0.heap.size w0 w42)); have n5_ := Aside0.mk (Kept.of_grown (S := (fun k_ => P0_1_ k_)) hg (by repeat (first | (with_reducible first | exact HK.out | apply Kept.alloc | apply Kept.drewN | apply Kept.drew | refine Kept.setCell ?_ (.inr GW211.out) _ | refine Kept.setCell ?_ (.inr GW212.out) _) | exact HK.out)) (fun k_ e_ => (HO_7.out.1 k_ e_).1)); have n6_ := Aside0.mk ((show Kd.C (Kd.int .i64) w42 Ao4 y216.length y216 from by rw [Ny216.out]; exact Kd.C_take (m := ((ji16) : Int).toNat) ((Kd.R_reads' (Kd.R_after (v := (.slice (some ⟨go30, 0, none⟩) x7_2.length co27)) (v1 := (.slice (some ⟨go30, 0, none⟩) x7_2.length co27)) (ok := (fun k_ => (P0_1_ k_ ∨ w.heap.size ≤ k_))) (by (with_reducible repeat (first | apply Kd.R_alloc | apply Kd.R_drewN | apply Kd.R_drew)); exact HO_212001.out) hg (.inl rfl))).2.2) KL25.out)); clear HO_7; clear HO_212001; clear BK211; clear BK212; clear HB; clear HK; clear HR219; have HO_7 := n0_; have HO_212001 := n1_; have BK211 := n2_; have BK212 := n3_; have HB := n4_; have HK := n5_; have HR219 := n6_; clear n0_ n1_ n2_ n3_ n4_ n5_ n6_; clear hg hw hp_; have p225 : 0 ≤ (x8_2 : Int) := of_decide_eq_true (by first | (with_reducible assumption) | assumption); have q225 : x8_2 < (y224.length : Int) := (by have h_ : (x8_2 : Int) < ((x7_2.length : Int) : Int) := of_decide_eq_true (by first | (with_reducible assumption) | assumption); first | (have e_ := (Kd.R_reads' HO_7.out).1; omega) | simpa only [Ny224.out, List.length_set] using h_); have ql225 : ((x8_2 : Int) < ((x7_2.length : Int) : Int)) = True := eq_true (of_decide_eq_true (by first | (with_reducible assumption) | assumption)); obtain ⟨ad225, e225, hx225_0⟩ := Kd.at_int (Kd.R_reads' HO_7.out).2.2 x8_2 p225 q225; obtain rfl : (⟨go30, 0, none⟩ : Addr) = ad225 := (by injection e225); (first | simp only [add_plain] at hx225_0 | simp only [add_at] at hx225_0 | simp only [Addr.add, Nat.zero_add] at hx225_0 | skip); replace p225 := eq_true p225; replace q225 := eq_true q225; have p40 : 0 ≤ (x8_2 : Int) := of_decide_eq_true (by first | (with_reducible assumption) | assumption); have q40 : (x8_2 : Int) < ((x7_2.length : Int) : Int) := of_decide_eq_true (by first | (with_reducible assumption) | assumption); obtain ⟨hx40_0, hf40_0⟩ := Kd.R_celln 0 HO_7.out (x8_2 : Int) p40 q40; replace p40 := eq_true p40; replace q40 := eq_true q40; obtain ⟨hy43_, hz43_⟩ := Kd.R_celln 0 HO_7.out (x8_2 : Int) (of_decide_eq_true (by first | (with_reducible assumption) | assumption)) (of_decide_eq_true (by first | (with_reducible assumption) | assumption)); have HP43 := Kd.R_putg HO_7.out (x8_2 : Int) 0) | ((with_reducible refine gate_store (t := 3) (p := 53) rfl ?_); refine store_event (t := 3) (p := 53) (v := ?vo_w44) (w1 := (w42.setCell ⟨go30, (x8_2 : Int).toNat, none⟩ (.int .i64 0))) ?hg ?ho ?hn ?hr ?_; (case ho => rfl); (case hg => rfl); (case hn => rfl); (case hr => first | (go_simp; done) | (go_simp; rfl)); intro w44 hw; have hg : w42.grownBy w44 (some go30) := (by rw [hw]; exact HP43.2); have hp_ : Kd.R (Kd.int .i64) 3 w44 w0.heap.size (fun k_ => (P0_1_ k_ ∨ w.heap.size ≤ k_) ∧ some k_ ≠ (.slice Ao4 l0_1.length co4 : Value).ownBlock) (.slice (some ⟨go30, 0, none⟩) x7_2.length co27) y231 := (by rw [hw, Ny231.out]; exact HP43.1); clear HP43; have n0_ := Aside0.mk (hp_); have n1_ := Aside0.mk (Kd.R_after (v := (.slice (some ⟨go30, 0, none⟩) x7_2.length co27)) (v1 := (.slice (some ⟨go30, 0, none⟩) x7_2.length co27)) (ok := (fun k_ => (P0_1_ k_ ∨ w.heap.size ≤ k_))) (by (with_reducible repeat (first | apply Kd.R_alloc | apply Kd.R_drewN | apply Kd.R_drew)); exact HO_212001.out) hg (.inl rfl)); have n2_ := Aside0.mk (blk_grown (g := gb211) (o := .cells #[.bool a0_0, .slice Ao4 l0_1.length co4, .int .i64 a0_2] 26 (0, 0)) (by (with_reducible repeat (first | refine blk_drewN ?_ _ | refine blk_drew ?_ | refine blk_alloc ?_ _)); exact BK211.out) hg (Kd.R_ne HO_7.out BK211.out (by decide))); have n3_ := Aside0.mk (blk_grown (g := gb212) (o := .cells #[.bool false, .slice none 0 0, .int .i64 0] 26 (0, 0)) (by (with_reducible repeat (first | refine blk_drewN ?_ _ | refine blk_drew ?_ | refine blk_alloc ?_ _)); exact BK212.out) hg (Kd.R_ne HO_7.out BK212.out (by decide))); have n4_ := Aside0.mk ((by rw [hw]; exact below_set (HB.out) GB30.out : Below w0.heap.size w0 w44)); have n5_ := Aside0.mk (Kept.of_grown (S := (fun k_ => P0_1_ k_)) hg (by repeat (first | (with_reducible first | exact HK.out | apply Kept.alloc | apply Kept.drewN | apply Kept.drew | refine Kept.setCell ?_ (.inr GW211.out) _ | refine Kept.setCell ?_ (.inr GW212.out) _) | exact HK.out)) (fun k_ e_ => (HO_7.out.1 k_ e_).1)); have n6_ := Aside0.mk ((show Kd.C (Kd.int .i64) w44 Ao4 y216.length y216 from by rw [Ny216.out]; exact Kd.C_take (m := ((ji16) : Int).toNat) ((Kd.R_reads' (Kd.R_after (v := (.slice (some ⟨go30, 0, none⟩) x7_2.length co27)) (v1 := (.slice (some ⟨go30, 0, none⟩) x7_2.length co27)) (ok := (fun k_ => (P0_1_ k_ ∨ w.heap.size ≤ k_))) (by (with_reducible repeat (first | apply Kd.R_alloc | apply Kd.R_drewN | apply Kd.R_drew)); exact HO_212001.out) hg (.inl rfl))).2.2) KL25.out)); clear HO_7; clear HO_212001; clear BK211; clear BK212; clear HB; clear HK; clear HR219; have HO_7 := n0_; have HO_212001 := n1_; have BK211 := n2_; have BK212 := n3_; have HB := n4_; have HK := n5_; have HR219 := n6_; clear n0_ n1_ n2_ n3_ n4_ n5_ n6_; clear hg hw hp_))
                        (try simp only [← hl7_2])
                        go_roundg k2
                        case measure => have := HJ2.out; have := HK2.out; omega
                        case rel => exact ⟨(y231), (wrap64 (x8_2 - 1)), (by first | rfl | (simp; done) | (simp [*]; done)), H', ⟨by have := HJ2.out; have := HK2.out; omega⟩, ⟨by (try simp only [hl7_2]); (with_reducible repeat (first | apply Kd.R_alloc | apply Kd.R_drewN | apply Kd.R_drew)); exact HO_7.out⟩, ⟨by (try simp only [hl7_2]); (with_reducible repeat (first | apply Kd.R_alloc | apply Kd.R_drewN | apply Kd.R_drew)); exact HO_212001.out⟩, ⟨by (try simp only [hl7_2]); (with_reducible repeat (first | refine blk_drewN ?_ _ | refine blk_drew ?_ | refine blk_alloc ?_ _)); exact BK211.out⟩, ⟨by (try simp only [hl7_2]); (with_reducible repeat (first | refine blk_drewN ?_ _ | refine blk_drew ?_ | refine blk_alloc ?_ _)); exact BK212.out⟩, ⟨by repeat (first | (with_reducible exact HR219.out) | (with_reducible refine Kd.C_alloc ?_ _) | (with_reducible refine Kd.C_drewN ?_ _) | (with_reducible refine Kd.C_drew ?_) | exact HR219.out)⟩, ⟨by repeat (first | (with_reducible first | exact HK.out | apply Kept.alloc | apply Kept.drewN | apply Kept.drew | refine Kept.setCell ?_ (.inr GW211.out) _ | refine Kept.setCell ?_ (.inr GW212.out) _) | exact HK.out)⟩, ⟨by repeat (first | (with_reducible first | exact HB.out | apply below_alloc | apply pw_below_drewN | apply below_drew1 | refine below_set ?_ GE211.out | refine below_set ?_ GE212.out) | exact HB.out)⟩⟩
                    · rw [if_neg c29] at H
                      exact absurd H (by simp)
                  · rw [if_neg c28] at H
                    exact absurd H (by simp)
            · rw [if_neg c19] at H
              exact absurd H (by simp)
          · rw [if_neg c18] at H
            exact absurd H (by simp)
        · rw [if_neg c17] at H
          exact absurd H (by simp)

end Go.Proofs.Ytihbljdghmfidaa.PFnAmountScaled
