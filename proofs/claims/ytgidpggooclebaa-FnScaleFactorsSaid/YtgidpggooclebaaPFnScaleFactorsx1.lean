/- The functions that FnScaleFactors reaches, as plain Lean functions, and that the machine's calls do what these say: begun as a text that print.sh wrote; one cut's row and its two ends are mine. -/
import Derived.Test.YtgidpggooclebaaPFnScaleFactorsx0
namespace Go.Proofs.Ytgidpggooclebaa.PFnScaleFactors
open Go.RowKit Go.Proofs.YtgidpggooclebaaW.PrintWords Go.Proofs.YtgidpggooclebaaW.PrintLast Go.Proofs.YtgidpggooclebaaW.PrintMore
attribute [local go_sem] max2_int min2_int max_two min_two max_three min_three max_four min_four   -- for this text's walks alone
set_option linter.unusedVariables false
set_option linter.unusedSimpArgs false

/-! ### resource_removeInt64Factors: function 38 -/
mutual
def resource_removeInt64Factors.j0 : Nat → Int → Int → Int → Bool → Option (Int × Int)
  | 0, _, _, _, _ => none
  | k + 1, x1, x4, x5, x6 => if x1 = 10 then (resource_removeInt64Factors.l0 k x4 x5 x6) else (if x1 = 1024 then (resource_removeInt64Factors.l1 k x4 x5 x6) else (resource_removeInt64Factors.l2 k x1 x4 x5 x6))
def resource_removeInt64Factors.l0 : Nat → Int → Int → Bool → Option (Int × Int)
  | 0, _, _, _ => none
  | k + 1, x4, x5, x6 => if x4 ≥ 10 then (if (Int.tmod x4 10) = 0 then (resource_removeInt64Factors.l0 k (wrap64 (Int.tdiv x4 10)) (wrap32 (x5 + 1)) x6) else (if x6 = true then (some (wrap64 (-x4), x5)) else (some (x4, x5)))) else (if x6 = true then (some (wrap64 (-x4), x5)) else (some (x4, x5)))
def resource_removeInt64Factors.l1 : Nat → Int → Int → Bool → Option (Int × Int)
  | 0, _, _, _ => none
  | k + 1, x4, x5, x6 => if x4 ≥ 1024 then (if (Int.tmod x4 1024) = 0 then (resource_removeInt64Factors.l1 k (wrap64 (Int.tdiv x4 1024)) (wrap32 (x5 + 1)) x6) else (if x6 = true then (some (wrap64 (-x4), x5)) else (some (x4, x5)))) else (if x6 = true then (some (wrap64 (-x4), x5)) else (some (x4, x5)))
def resource_removeInt64Factors.l2 : Nat → Int → Int → Int → Bool → Option (Int × Int)
  | 0, _, _, _, _ => none
  | k + 1, x1, x4, x5, x6 => if x4 ≥ x1 then (if x1 = 0 then (none) else (if (Int.tmod x4 x1) = 0 then (resource_removeInt64Factors.l2 k x1 (wrap64 (Int.tdiv x4 x1)) (wrap32 (x5 + 1)) x6) else (if x6 = true then (some (wrap64 (-x4), x5)) else (some (x4, x5))))) else (if x6 = true then (some (wrap64 (-x4), x5)) else (some (x4, x5)))
end
def resource_removeInt64Factors.f (k : Nat) (a0 : Int) (a1 : Int) : Option (Int × Int) := if a0 < 0 then (resource_removeInt64Factors.j0 k a1 (wrap64 (-a0)) 0 (decide (a0 < 0))) else (resource_removeInt64Factors.j0 k a1 a0 0 (decide (a0 < 0)))
theorem resource_removeInt64Factors.mono_l : ∀ k, (∀ y0 y1 y2 y3, LeO (resource_removeInt64Factors.j0 k y0 y1 y2 y3) (resource_removeInt64Factors.j0 (k + 1) y0 y1 y2 y3)) ∧ (∀ y0 y1 y2, LeO (resource_removeInt64Factors.l0 k y0 y1 y2) (resource_removeInt64Factors.l0 (k + 1) y0 y1 y2)) ∧ (∀ y0 y1 y2, LeO (resource_removeInt64Factors.l1 k y0 y1 y2) (resource_removeInt64Factors.l1 (k + 1) y0 y1 y2)) ∧ (∀ y0 y1 y2 y3, LeO (resource_removeInt64Factors.l2 k y0 y1 y2 y3) (resource_removeInt64Factors.l2 (k + 1) y0 y1 y2 y3))
  | 0 => ⟨fun _ _ _ _ r h => by simp [resource_removeInt64Factors.j0] at h, fun _ _ _ r h => by simp [resource_removeInt64Factors.l0] at h, fun _ _ _ r h => by simp [resource_removeInt64Factors.l1] at h, fun _ _ _ _ r h => by simp [resource_removeInt64Factors.l2] at h⟩
  | k + 1 => by
    obtain ⟨ih0, ih1, ih2, ih3⟩ := resource_removeInt64Factors.mono_l k
    refine ⟨?_, ?_, ?_, ?_⟩
    · intro y0 y1 y2 y3
      unfold resource_removeInt64Factors.j0
      repeat' first
      | (with_reducible exact ih0 _ _ _ _)
      | (with_reducible exact ih1 _ _ _)
      | (with_reducible exact ih2 _ _ _)
      | (with_reducible exact ih3 _ _ _ _)
      | (with_reducible exact LeO.refl _)
      | (with_reducible exact LeO.none _)
      | (with_reducible refine LeO.ite ?_ ?_)
      | (with_reducible refine LeO.bind ?_ (fun _ => ?_))
      | exact ih0 _ _ _ _
      | exact ih1 _ _ _
      | exact ih2 _ _ _
      | exact ih3 _ _ _ _
      | exact LeO.none _
      | refine LeO.ite ?_ ?_
      | refine LeO.bind ?_ (fun _ => ?_)
    · intro y0 y1 y2
      unfold resource_removeInt64Factors.l0
      repeat' first
      | (with_reducible exact ih0 _ _ _ _)
      | (with_reducible exact ih1 _ _ _)
      | (with_reducible exact ih2 _ _ _)
      | (with_reducible exact ih3 _ _ _ _)
      | (with_reducible exact LeO.refl _)
      | (with_reducible exact LeO.none _)
      | (with_reducible refine LeO.ite ?_ ?_)
      | (with_reducible refine LeO.bind ?_ (fun _ => ?_))
      | exact ih0 _ _ _ _
      | exact ih1 _ _ _
      | exact ih2 _ _ _
      | exact ih3 _ _ _ _
      | exact LeO.none _
      | refine LeO.ite ?_ ?_
      | refine LeO.bind ?_ (fun _ => ?_)
    · intro y0 y1 y2
      unfold resource_removeInt64Factors.l1
      repeat' first
      | (with_reducible exact ih0 _ _ _ _)
      | (with_reducible exact ih1 _ _ _)
      | (with_reducible exact ih2 _ _ _)
      | (with_reducible exact ih3 _ _ _ _)
      | (with_reducible exact LeO.refl _)
      | (with_reducible exact LeO.none _)
      | (with_reducible refine LeO.ite ?_ ?_)
      | (with_reducible refine LeO.bind ?_ (fun _ => ?_))
      | exact ih0 _ _ _ _
      | exact ih1 _ _ _
      | exact ih2 _ _ _
      | exact ih3 _ _ _ _
      | exact LeO.none _
      | refine LeO.ite ?_ ?_
      | refine LeO.bind ?_ (fun _ => ?_)
    · intro y0 y1 y2 y3
      unfold resource_removeInt64Factors.l2
      repeat' first
      | (with_reducible exact ih0 _ _ _ _)
      | (with_reducible exact ih1 _ _ _)
      | (with_reducible exact ih2 _ _ _)
      | (with_reducible exact ih3 _ _ _ _)
      | (with_reducible exact LeO.refl _)
      | (with_reducible exact LeO.none _)
      | (with_reducible refine LeO.ite ?_ ?_)
      | (with_reducible refine LeO.bind ?_ (fun _ => ?_))
      | exact ih0 _ _ _ _
      | exact ih1 _ _ _
      | exact ih2 _ _ _
      | exact ih3 _ _ _ _
      | exact LeO.none _
      | refine LeO.ite ?_ ?_
      | refine LeO.bind ?_ (fun _ => ?_)
theorem resource_removeInt64Factors.mono : ∀ a0 a1 k, LeO (resource_removeInt64Factors.f k a0 a1) (resource_removeInt64Factors.f (k + 1) a0 a1) := by
  intro a0 a1 k
  obtain ⟨ih0, ih1, ih2, ih3⟩ := resource_removeInt64Factors.mono_l k
  unfold resource_removeInt64Factors.f
  repeat' first
      | (with_reducible exact ih0 _ _ _ _)
      | (with_reducible exact ih1 _ _ _)
      | (with_reducible exact ih2 _ _ _)
      | (with_reducible exact ih3 _ _ _ _)
      | (with_reducible exact LeO.refl _)
      | (with_reducible exact LeO.none _)
      | (with_reducible refine LeO.ite ?_ ?_)
      | (with_reducible refine LeO.bind ?_ (fun _ => ?_))
      | exact ih0 _ _ _ _
      | exact ih1 _ _ _
      | exact ih2 _ _ _
      | exact ih3 _ _ _ _
      | exact LeO.none _
      | refine LeO.ite ?_ ?_
      | refine LeO.bind ?_ (fun _ => ?_)
set_option maxHeartbeats 8000000 in
set_option maxRecDepth 100000 in
theorem resource_removeInt64Factors.calls (k : Nat) (a0 : Int) (a1 : Int) (r1 : Int) (r2 : Int) (w : World) (h : resource_removeInt64Factors.f k a0 a1 = some (r1, r2)) :
    Calls Try.prog 38 #[.int .i64 a0, .int .i64 a1] w fun e w' => e = .returned (.tuple #[.int .i64 r1, .int .i32 r2]) ∧ Drawn0 w w' := by
  have H : (if a0 < 0 then (resource_removeInt64Factors.j0 k a1 (wrap64 (-a0)) 0 (decide (a0 < 0))) else (resource_removeInt64Factors.j0 k a1 a0 0 (decide (a0 < 0)))) = some (r1, r2) := h
  clear h
  have HC3 := Aside0.mk H
  clear H
  go_enter Try.func38, Try.ntmps38
  go_upto_if 10 with (fail)
  go_cut [4, 6] (fun v4 v6 wc => ∃ (kq : Nat) (x4_2 : Int), v4 = .int .i64 x4_2 ∧ v6 = .bool (decide (a0 < 0)) ∧ Aside0 (resource_removeInt64Factors.j0 kq a1 x4_2 0 (decide (a0 < 0)) = some (r1, r2)) ∧ Aside0 (kq ≤ k) ∧ Drawn0 w wc)
  case first =>
    have H := HC3.out
    clear HC3
    by_cases c4 : a0 < 0
    · rw [if_pos c4] at H
      have c4b0 : decide (a0 < 0) = true := decide_eq_true c4
      clear c4
      (first | rw [c4b0] | (simp only [i64_w, i32_w]; rw [c4b0]) | skip)
      have H' := Aside0.mk H
      clear H
      go_wp2
      go_meet
      case rel => exact ⟨_, (wrap64 (-a0)), (by first | rfl | (simp; done) | (simp [*]; done)), (by first | rfl | (rw [c4b0])), H', ⟨by first | omega | exact Nat.le_refl _⟩, by repeat (first | exact Drawn0.refl _ | apply Drawn0.step)⟩
    · rw [if_neg c4] at H
      have c4b0 : decide (a0 < 0) = false := decide_eq_false c4
      clear c4
      (first | rw [c4b0] | (simp only [i64_w, i32_w]; rw [c4b0]) | skip)
      have H' := Aside0.mk H
      clear H
      go_wp2
      go_meet
      case rel => exact ⟨_, (a0), (by first | rfl | (simp; done) | (simp [*]; done)), (by first | rfl | (rw [c4b0])), H', ⟨by first | omega | exact Nat.le_refl _⟩, by repeat (first | exact Drawn0.refl _ | apply Drawn0.step)⟩
  case rest =>
    clear HC3
    try clear p2
    try clear c3
    try clear c4
    try clear c4b0
    obtain ⟨kq, x4_2, rfl, rfl, HA, HJ2, ⟨mc2, rfl⟩⟩ := hcut
    generalize decide (a0 < 0) = nb at *
    cases kq with
    | zero => exact absurd HA.out (by simp [resource_removeInt64Factors.j0])
    | succ kj2 =>
      have H := HA.out
      clear HA
      simp only [resource_removeInt64Factors.j0] at H
      by_cases c5 : a1 = 10
      · rw [if_pos c5] at H
        have c5b0 : (a1 == 10) = true := beq_iff_eq.mpr c5
        have c5b1 : (a1 != 10) = false := bne_eq_false_iff_eq.mpr c5
        clear c5
        have H' := Aside0.mk H
        clear H
        go_wp2
        go_loopg [4, 5] kj2 (fun kq v4 v5 w' => ∃ (x4_2 : Int) (x5_2 : Int), v4 = .int .i64 x4_2 ∧ v5 = .int .i32 x5_2 ∧ Aside0 (resource_removeInt64Factors.l0 kq x4_2 x5_2 nb = some (r1, r2)) ∧ Aside0 (kq ≤ kj2) ∧ Drawn0 w w')
        case atStart => exact ⟨(x4_2), (0), (by first | rfl | (simp; done) | (simp [*]; done)), (by first | rfl | (simp; done) | (simp [*]; done)), H', ⟨Nat.le_refl _⟩, by repeat (first | exact Drawn0.refl _ | apply Drawn0.step)⟩
        case round =>
          clear H'
          try clear c2
          try clear p2
          try clear c3
          try clear c4
          try clear c4b0
          try clear c5
          try clear c5b0
          try clear c5b1
          try clear p2
          obtain ⟨x4_2, x5_2, rfl, rfl, HA, HK2, ⟨m2, rfl⟩⟩ := hrel
          cases gk with
          | zero => exact absurd HA.out (by simp [resource_removeInt64Factors.l0])
          | succ k2 =>
            have H := HA.out
            clear HA
            simp only [resource_removeInt64Factors.l0] at H
            by_cases c6 : x4_2 ≥ 10
            · rw [if_pos c6] at H
              have c6b0 : decide (10 ≤ x4_2) = true := decide_eq_true c6
              clear c6
              by_cases c7 : (Int.tmod x4_2 10) = 0
              · rw [if_pos c7] at H
                have c7b0 : ((Int.tmod x4_2 10) == 0) = true := beq_iff_eq.mpr c7
                have c7b1 : ((Int.tmod x4_2 10) != 0) = false := bne_eq_false_iff_eq.mpr c7
                clear c7
                have H' := Aside0.mk H
                clear H
                go_wp2
                go_roundg k2
                case measure => have := HJ2.out; have := HK2.out; omega
                case rel => exact ⟨(wrap64 (Int.tdiv x4_2 10)), (wrap32 (x5_2 + 1)), (by first | rfl | (simp; done) | (simp [*]; done)), (by first | rfl | (simp; done) | (simp [*]; done)), H', ⟨by have := HJ2.out; have := HK2.out; omega⟩, by repeat (first | exact Drawn0.refl _ | apply Drawn0.step)⟩
              · rw [if_neg c7] at H
                have c7b0 : ((Int.tmod x4_2 10) == 0) = false := beq_eq_false_iff_ne.mpr c7
                have c7b1 : ((Int.tmod x4_2 10) != 0) = true := bne_iff_ne.mpr c7
                by_cases c8 : nb = true
                · subst c8
                  rw [if_pos rfl] at H
                  simp only [Option.some.injEq, Prod.mk.injEq] at H
                  obtain ⟨rfl, rfl⟩ := H
                  go_wp2
                  go_ret2
                  exact ⟨by first | rfl | (simp; done) | (simp [*]; done), by repeat (first | exact Drawn0.refl _ | apply Drawn0.step)⟩
                · have c8b0 : nb = false := by simpa using c8
                  clear c8
                  subst c8b0
                  rw [if_neg (by decide)] at H
                  simp only [Option.some.injEq, Prod.mk.injEq] at H
                  obtain ⟨rfl, rfl⟩ := H
                  go_wp2
                  go_ret2
                  exact ⟨by first | rfl | (simp; done) | (simp [*]; done), by repeat (first | exact Drawn0.refl _ | apply Drawn0.step)⟩
            · rw [if_neg c6] at H
              have c6b0 : decide (10 ≤ x4_2) = false := decide_eq_false c6
              clear c6
              by_cases c9 : nb = true
              · subst c9
                rw [if_pos rfl] at H
                simp only [Option.some.injEq, Prod.mk.injEq] at H
                obtain ⟨rfl, rfl⟩ := H
                go_wp2
                go_ret2
                exact ⟨by first | rfl | (simp; done) | (simp [*]; done), by repeat (first | exact Drawn0.refl _ | apply Drawn0.step)⟩
              · have c9b0 : nb = false := by simpa using c9
                clear c9
                subst c9b0
                rw [if_neg (by decide)] at H
                simp only [Option.some.injEq, Prod.mk.injEq] at H
                obtain ⟨rfl, rfl⟩ := H
                go_wp2
                go_ret2
                exact ⟨by first | rfl | (simp; done) | (simp [*]; done), by repeat (first | exact Drawn0.refl _ | apply Drawn0.step)⟩
      · rw [if_neg c5] at H
        have c5b0 : (a1 == 10) = false := beq_eq_false_iff_ne.mpr c5
        have c5b1 : (a1 != 10) = true := bne_iff_ne.mpr c5
        by_cases c10 : a1 = 1024
        · rw [if_pos c10] at H
          have c10b0 : (a1 == 1024) = true := beq_iff_eq.mpr c10
          have c10b1 : (a1 != 1024) = false := bne_eq_false_iff_eq.mpr c10
          clear c10
          have H' := Aside0.mk H
          clear H
          go_wp2
          go_loopg [4, 5] kj2 (fun kq v4 v5 w' => ∃ (x4_2 : Int) (x5_2 : Int), v4 = .int .i64 x4_2 ∧ v5 = .int .i32 x5_2 ∧ Aside0 (resource_removeInt64Factors.l1 kq x4_2 x5_2 nb = some (r1, r2)) ∧ Aside0 (kq ≤ kj2) ∧ Drawn0 w w')
          case atStart => exact ⟨(x4_2), (0), (by first | rfl | (simp; done) | (simp [*]; done)), (by first | rfl | (simp; done) | (simp [*]; done)), H', ⟨Nat.le_refl _⟩, by repeat (first | exact Drawn0.refl _ | apply Drawn0.step)⟩
          case round =>
            clear H'
            try clear c1
            try clear c2
            try clear p2
            try clear c3
            try clear p3
            try clear c4
            try clear c4b0
            try clear c5
            try clear c5b0
            try clear c5b1
            try clear c6
            try clear c6b0
            try clear p6
            try clear c7
            try clear c7b0
            try clear c7b1
            try clear c8
            try clear c8b0
            try clear c9
            try clear c9b0
            try clear c10
            try clear c10b0
            try clear c10b1
            try clear p2
            obtain ⟨x4_2, x5_2, rfl, rfl, HA, HK2, ⟨m2, rfl⟩⟩ := hrel
            cases gk with
            | zero => exact absurd HA.out (by simp [resource_removeInt64Factors.l1])
            | succ k2 =>
              have H := HA.out
              clear HA
              simp only [resource_removeInt64Factors.l1] at H
              by_cases c11 : x4_2 ≥ 1024
              · rw [if_pos c11] at H
                have c11b0 : decide (1024 ≤ x4_2) = true := decide_eq_true c11
                clear c11
                by_cases c12 : (Int.tmod x4_2 1024) = 0
                · rw [if_pos c12] at H
                  have c12b0 : ((Int.tmod x4_2 1024) == 0) = true := beq_iff_eq.mpr c12
                  have c12b1 : ((Int.tmod x4_2 1024) != 0) = false := bne_eq_false_iff_eq.mpr c12
                  clear c12
                  have H' := Aside0.mk H
                  clear H
                  go_wp2
                  go_roundg k2
                  case measure => have := HJ2.out; have := HK2.out; omega
                  case rel => exact ⟨(wrap64 (Int.tdiv x4_2 1024)), (wrap32 (x5_2 + 1)), (by first | rfl | (simp; done) | (simp [*]; done)), (by first | rfl | (simp; done) | (simp [*]; done)), H', ⟨by have := HJ2.out; have := HK2.out; omega⟩, by repeat (first | exact Drawn0.refl _ | apply Drawn0.step)⟩
                · rw [if_neg c12] at H
                  have c12b0 : ((Int.tmod x4_2 1024) == 0) = false := beq_eq_false_iff_ne.mpr c12
                  have c12b1 : ((Int.tmod x4_2 1024) != 0) = true := bne_iff_ne.mpr c12
                  by_cases c13 : nb = true
                  · subst c13
                    rw [if_pos rfl] at H
                    simp only [Option.some.injEq, Prod.mk.injEq] at H
                    obtain ⟨rfl, rfl⟩ := H
                    go_wp2
                    go_ret2
                    exact ⟨by first | rfl | (simp; done) | (simp [*]; done), by repeat (first | exact Drawn0.refl _ | apply Drawn0.step)⟩
                  · have c13b0 : nb = false := by simpa using c13
                    clear c13
                    subst c13b0
                    rw [if_neg (by decide)] at H
                    simp only [Option.some.injEq, Prod.mk.injEq] at H
                    obtain ⟨rfl, rfl⟩ := H
                    go_wp2
                    go_ret2
                    exact ⟨by first | rfl | (simp; done) | (simp [*]; done), by repeat (first | exact Drawn0.refl _ | apply Drawn0.step)⟩
              · rw [if_neg c11] at H
                have c11b0 : decide (1024 ≤ x4_2) = false := decide_eq_false c11
                clear c11
                by_cases c14 : nb = true
                · subst c14
                  rw [if_pos rfl] at H
                  simp only [Option.some.injEq, Prod.mk.injEq] at H
                  obtain ⟨rfl, rfl⟩ := H
                  go_wp2
                  go_ret2
                  exact ⟨by first | rfl | (simp; done) | (simp [*]; done), by repeat (first | exact Drawn0.refl _ | apply Drawn0.step)⟩
                · have c14b0 : nb = false := by simpa using c14
                  clear c14
                  subst c14b0
                  rw [if_neg (by decide)] at H
                  simp only [Option.some.injEq, Prod.mk.injEq] at H
                  obtain ⟨rfl, rfl⟩ := H
                  go_wp2
                  go_ret2
                  exact ⟨by first | rfl | (simp; done) | (simp [*]; done), by repeat (first | exact Drawn0.refl _ | apply Drawn0.step)⟩
        · rw [if_neg c10] at H
          have c10b0 : (a1 == 1024) = false := beq_eq_false_iff_ne.mpr c10
          have c10b1 : (a1 != 1024) = true := bne_iff_ne.mpr c10
          have H' := Aside0.mk H
          clear H
          go_wp2
          go_loopg [4, 5] kj2 (fun kq v4 v5 w' => ∃ (x4_2 : Int) (x5_2 : Int), v4 = .int .i64 x4_2 ∧ v5 = .int .i32 x5_2 ∧ Aside0 (resource_removeInt64Factors.l2 kq a1 x4_2 x5_2 nb = some (r1, r2)) ∧ Aside0 (kq ≤ kj2) ∧ Drawn0 w w')
          case atStart => exact ⟨(x4_2), (0), (by first | rfl | (simp; done) | (simp [*]; done)), (by first | rfl | (simp; done) | (simp [*]; done)), H', ⟨Nat.le_refl _⟩, by repeat (first | exact Drawn0.refl _ | apply Drawn0.step)⟩
          case round =>
            clear H'
            try clear c1
            try clear c2
            try clear p2
            try clear c3
            try clear p3
            try clear c4
            try clear c4b0
            try clear c5
            try clear c5b0
            try clear c5b1
            try clear c6
            try clear c6b0
            try clear p6
            try clear c7
            try clear c7b0
            try clear c7b1
            try clear c8
            try clear c8b0
            try clear c9
            try clear c9b0
            try clear c10
            try clear c10b0
            try clear c10b1
            try clear c11
            try clear c11b0
            try clear c12
            try clear c12b0
            try clear c12b1
            try clear c13
            try clear c13b0
            try clear c14
            try clear c14b0
            try clear p2
            try clear p3
            try clear p6
            obtain ⟨x4_2, x5_2, rfl, rfl, HA, HK2, ⟨m2, rfl⟩⟩ := hrel
            cases gk with
            | zero => exact absurd HA.out (by simp [resource_removeInt64Factors.l2])
            | succ k2 =>
              have H := HA.out
              clear HA
              simp only [resource_removeInt64Factors.l2] at H
              by_cases c15 : x4_2 ≥ a1
              · rw [if_pos c15] at H
                have c15b0 : decide (a1 ≤ x4_2) = true := decide_eq_true c15
                clear c15
                by_cases c16 : a1 = 0
                · rw [if_pos c16] at H
                  exact absurd H (by simp)
                · rw [if_neg c16] at H
                  have c16b0 : (a1 == 0) = false := beq_eq_false_iff_ne.mpr c16
                  have c16b1 : (a1 != 0) = true := bne_iff_ne.mpr c16
                  by_cases c17 : (Int.tmod x4_2 a1) = 0
                  · rw [if_pos c17] at H
                    have c17b0 : ((Int.tmod x4_2 a1) == 0) = true := beq_iff_eq.mpr c17
                    have c17b1 : ((Int.tmod x4_2 a1) != 0) = false := bne_eq_false_iff_eq.mpr c17
                    clear c17
                    have H' := Aside0.mk H
                    clear H
                    go_wp2
                    go_roundg k2
                    case measure => have := HJ2.out; have := HK2.out; omega
                    case rel => exact ⟨(wrap64 (Int.tdiv x4_2 a1)), (wrap32 (x5_2 + 1)), (by first | rfl | (simp; done) | (simp [*]; done)), (by first | rfl | (simp; done) | (simp [*]; done)), H', ⟨by have := HJ2.out; have := HK2.out; omega⟩, by repeat (first | exact Drawn0.refl _ | apply Drawn0.step)⟩
                  · rw [if_neg c17] at H
                    have c17b0 : ((Int.tmod x4_2 a1) == 0) = false := beq_eq_false_iff_ne.mpr c17
                    have c17b1 : ((Int.tmod x4_2 a1) != 0) = true := bne_iff_ne.mpr c17
                    by_cases c18 : nb = true
                    · subst c18
                      rw [if_pos rfl] at H
                      simp only [Option.some.injEq, Prod.mk.injEq] at H
                      obtain ⟨rfl, rfl⟩ := H
                      go_wp2
                      go_ret2
                      exact ⟨by first | rfl | (simp; done) | (simp [*]; done), by repeat (first | exact Drawn0.refl _ | apply Drawn0.step)⟩
                    · have c18b0 : nb = false := by simpa using c18
                      clear c18
                      subst c18b0
                      rw [if_neg (by decide)] at H
                      simp only [Option.some.injEq, Prod.mk.injEq] at H
                      obtain ⟨rfl, rfl⟩ := H
                      go_wp2
                      go_ret2
                      exact ⟨by first | rfl | (simp; done) | (simp [*]; done), by repeat (first | exact Drawn0.refl _ | apply Drawn0.step)⟩
              · rw [if_neg c15] at H
                have c15b0 : decide (a1 ≤ x4_2) = false := decide_eq_false c15
                clear c15
                by_cases c19 : nb = true
                · subst c19
                  rw [if_pos rfl] at H
                  simp only [Option.some.injEq, Prod.mk.injEq] at H
                  obtain ⟨rfl, rfl⟩ := H
                  go_wp2
                  go_ret2
                  exact ⟨by first | rfl | (simp; done) | (simp [*]; done), by repeat (first | exact Drawn0.refl _ | apply Drawn0.step)⟩
                · have c19b0 : nb = false := by simpa using c19
                  clear c19
                  subst c19b0
                  rw [if_neg (by decide)] at H
                  simp only [Option.some.injEq, Prod.mk.injEq] at H
                  obtain ⟨rfl, rfl⟩ := H
                  go_wp2
                  go_ret2
                  exact ⟨by first | rfl | (simp; done) | (simp [*]; done), by repeat (first | exact Drawn0.refl _ | apply Drawn0.step)⟩

/-! ### resource_ZzRemoveFactors: function 30 -/
def resource_ZzRemoveFactors.f (k : Nat) (a0 : Int) (a1 : Int) : Option (Int × Int) := (resource_removeInt64Factors.f k a0 a1).bind fun bt101 => (some (bt101.1, bt101.2))
theorem resource_ZzRemoveFactors.mono : ∀ a0 a1 k, LeO (resource_ZzRemoveFactors.f k a0 a1) (resource_ZzRemoveFactors.f (k + 1) a0 a1) := by
  intro a0 a1 k
  unfold resource_ZzRemoveFactors.f
  repeat' first
      | (with_reducible exact resource_removeInt64Factors.mono _ _ _)
      | (with_reducible exact LeO.refl _)
      | (with_reducible exact LeO.none _)
      | (with_reducible refine LeO.ite ?_ ?_)
      | (with_reducible refine LeO.bind ?_ (fun _ => ?_))
      | exact resource_removeInt64Factors.mono _ _ _
      | exact LeO.none _
      | refine LeO.ite ?_ ?_
      | refine LeO.bind ?_ (fun _ => ?_)
set_option maxHeartbeats 8000000 in
set_option maxRecDepth 100000 in
theorem resource_ZzRemoveFactors.calls (k : Nat) (a0 : Int) (a1 : Int) (r1 : Int) (r2 : Int) (w : World) (h : resource_ZzRemoveFactors.f k a0 a1 = some (r1, r2)) :
    Calls Try.prog 30 #[.int .i64 a0, .int .i64 a1] w fun e w' => e = .returned (.tuple #[.int .i64 r1, .int .i32 r2]) ∧ Drawn0 w w' := by
  have H : ((resource_removeInt64Factors.f k a0 a1).bind fun bt101 => (some (bt101.1, bt101.2))) = some (r1, r2) := h
  clear h
  replace H := Option.bind_eq_some_iff.mp H
  obtain ⟨⟨t101, t102⟩, A30, H⟩ := H
  replace H : (some (t101, t102)) = some (r1, r2) := H
  have A3 := Aside0.mk A30
  clear A30
  simp only [Option.some.injEq, Prod.mk.injEq] at H
  obtain ⟨rfl, rfl⟩ := H
  go_enter Try.func30, Try.ntmps30
  go_wp2_with (first | ((with_reducible refine gate_callee (f := 38) rfl ?_); refine goesL_ (some 8) rfl rfl Try.func38 (by kernel_rfl) rfl #[.int .i64 a0, .int .i64 a1] rfl (by (try simp only [List.map_toArray, List.map_cons, List.map_nil]); first | done | rfl | (simp only [List.length_drop, List.length_take]; rfl)) ?_; (with_reducible refine (resource_removeInt64Factors.calls k a0 a1 t101 t102 _ A3.out).mono ?_); rintro e w' ⟨rfl, ⟨nd, rfl⟩⟩; refine ⟨_, rfl, ?_⟩))
  go_ret2
  exact ⟨by first | rfl | (simp; done) | (simp [*]; done), by repeat (first | exact Drawn0.refl _ | apply Drawn0.step)⟩

/-! ### impl_TakeFactors: function 18 -/
def impl_TakeFactors.f (k : Nat) (a0 : Int) (a1 : Int) : Option (Int × Int) := (resource_ZzRemoveFactors.f k a0 a1).bind fun bt103 => (some (bt103.1, wrap64 (bt103.2)))
theorem impl_TakeFactors.mono : ∀ a0 a1 k, LeO (impl_TakeFactors.f k a0 a1) (impl_TakeFactors.f (k + 1) a0 a1) := by
  intro a0 a1 k
  unfold impl_TakeFactors.f
  repeat' first
      | (with_reducible exact resource_ZzRemoveFactors.mono _ _ _)
      | (with_reducible exact LeO.refl _)
      | (with_reducible exact LeO.none _)
      | (with_reducible refine LeO.ite ?_ ?_)
      | (with_reducible refine LeO.bind ?_ (fun _ => ?_))
      | exact resource_ZzRemoveFactors.mono _ _ _
      | exact LeO.none _
      | refine LeO.ite ?_ ?_
      | refine LeO.bind ?_ (fun _ => ?_)
set_option maxHeartbeats 8000000 in
set_option maxRecDepth 100000 in
theorem impl_TakeFactors.calls (k : Nat) (a0 : Int) (a1 : Int) (r1 : Int) (r2 : Int) (w : World) (h : impl_TakeFactors.f k a0 a1 = some (r1, r2)) :
    Calls Try.prog 18 #[.int .i64 a0, .int .i64 a1] w fun e w' => e = .returned (.tuple #[.int .i64 r1, .int .i64 r2]) ∧ Drawn0 w w' := by
  have H : ((resource_ZzRemoveFactors.f k a0 a1).bind fun bt103 => (some (bt103.1, wrap64 (bt103.2)))) = some (r1, r2) := h
  clear h
  replace H := Option.bind_eq_some_iff.mp H
  obtain ⟨⟨t103, t104⟩, A30, H⟩ := H
  replace H : (some (t103, wrap64 (t104))) = some (r1, r2) := H
  have A3 := Aside0.mk A30
  clear A30
  simp only [Option.some.injEq, Prod.mk.injEq] at H
  obtain ⟨rfl, rfl⟩ := H
  go_enter Try.func18, Try.ntmps18
  go_wp2_with (first | ((with_reducible refine gate_callee (f := 30) rfl ?_); refine goesL_ (some 11) rfl rfl Try.func30 (by kernel_rfl) rfl #[.int .i64 a0, .int .i64 a1] rfl (by (try simp only [List.map_toArray, List.map_cons, List.map_nil]); first | done | rfl | (simp only [List.length_drop, List.length_take]; rfl)) ?_; (with_reducible refine (resource_ZzRemoveFactors.calls k a0 a1 t103 t104 _ A3.out).mono ?_); rintro e w' ⟨rfl, ⟨nd, rfl⟩⟩; refine ⟨_, rfl, ?_⟩))
  go_ret2
  exact ⟨by first | rfl | (simp; done) | (simp [*]; done), by repeat (first | exact Drawn0.refl _ | apply Drawn0.step)⟩

/-! ### spec_Factors: function 19 -/
def spec_Factors.l0 : Nat → Int → Int → Int → Option (Int × Int)
  | 0, _, _, _ => none
  | k + 1, x0, x1, x6 => if x0 ≥ x1 then (if x1 = 0 then (none) else (if (Int.tmod x0 x1) = 0 then (spec_Factors.l0 k (wrap64 (Int.tdiv x0 x1)) x1 (wrap64 (x6 + 1))) else (some (x0, x6)))) else (if x0 ≤ (wrap64 (-x1)) then (if x1 = 0 then (none) else (if (Int.tmod x0 x1) = 0 then (spec_Factors.l0 k (wrap64 (Int.tdiv x0 x1)) x1 (wrap64 (x6 + 1))) else (some (x0, x6)))) else (some (x0, x6)))
def spec_Factors.f (k : Nat) (a0 : Int) (a1 : Int) : Option (Int × Int) := spec_Factors.l0 k a0 a1 0
theorem spec_Factors.mono_l : ∀ k, (∀ y0 y1 y2, LeO (spec_Factors.l0 k y0 y1 y2) (spec_Factors.l0 (k + 1) y0 y1 y2))
  | 0 => fun _ _ _ r h => by simp [spec_Factors.l0] at h
  | k + 1 => by
    have ih0 := spec_Factors.mono_l k
    · intro y0 y1 y2
      unfold spec_Factors.l0
      repeat' first
      | (with_reducible exact ih0 _ _ _)
      | (with_reducible exact LeO.refl _)
      | (with_reducible exact LeO.none _)
      | (with_reducible refine LeO.ite ?_ ?_)
      | (with_reducible refine LeO.bind ?_ (fun _ => ?_))
      | exact ih0 _ _ _
      | exact LeO.none _
      | refine LeO.ite ?_ ?_
      | refine LeO.bind ?_ (fun _ => ?_)
theorem spec_Factors.mono : ∀ a0 a1 k, LeO (spec_Factors.f k a0 a1) (spec_Factors.f (k + 1) a0 a1) := by
  intro a0 a1 k
  have ih0 := spec_Factors.mono_l k
  unfold spec_Factors.f
  repeat' first
      | (with_reducible exact ih0 _ _ _)
      | (with_reducible exact LeO.refl _)
      | (with_reducible exact LeO.none _)
      | (with_reducible refine LeO.ite ?_ ?_)
      | (with_reducible refine LeO.bind ?_ (fun _ => ?_))
      | exact ih0 _ _ _
      | exact LeO.none _
      | refine LeO.ite ?_ ?_
      | refine LeO.bind ?_ (fun _ => ?_)
set_option maxHeartbeats 8000000 in
set_option maxRecDepth 100000 in
theorem spec_Factors.calls (k : Nat) (a0 : Int) (a1 : Int) (r1 : Int) (r2 : Int) (w : World) (h : spec_Factors.f k a0 a1 = some (r1, r2)) :
    Calls Try.prog 19 #[.int .i64 a0, .int .i64 a1] w fun e w' => e = .returned (.tuple #[.int .i64 r1, .int .i64 r2]) ∧ Drawn0 w w' := by
  have H : (spec_Factors.l0 k a0 a1 0) = some (r1, r2) := h
  clear h
  have H' := Aside0.mk H
  clear H
  go_enter Try.func19, Try.ntmps19
  go_wp2
  go_loopg [0, 6] k (fun kq v0 v6 w' => ∃ (x0_1 : Int) (x6_1 : Int), v0 = .int .i64 x0_1 ∧ v6 = .int .i64 x6_1 ∧ Aside0 (spec_Factors.l0 kq x0_1 a1 x6_1 = some (r1, r2)) ∧ Aside0 (kq ≤ k) ∧ Drawn0 w w')
  case atStart => exact ⟨(a0), (0), (by first | rfl | (simp; done) | (simp [*]; done)), (by first | rfl | (simp; done) | (simp [*]; done)), H', ⟨Nat.le_refl _⟩, by repeat (first | exact Drawn0.refl _ | apply Drawn0.step)⟩
  case round =>
    clear H'
    try clear c1
    try clear p2
    obtain ⟨x0_1, x6_1, rfl, rfl, HA, HK1, ⟨m1, rfl⟩⟩ := hrel
    cases gk with
    | zero => exact absurd HA.out (by simp [spec_Factors.l0])
    | succ k1 =>
      have H := HA.out
      clear HA
      simp only [spec_Factors.l0] at H
      by_cases c3 : x0_1 ≥ a1
      · rw [if_pos c3] at H
        have c3b0 : decide (a1 ≤ x0_1) = true := decide_eq_true c3
        clear c3
        by_cases c4 : a1 = 0
        · rw [if_pos c4] at H
          exact absurd H (by simp)
        · rw [if_neg c4] at H
          have c4b0 : (a1 == 0) = false := beq_eq_false_iff_ne.mpr c4
          have c4b1 : (a1 != 0) = true := bne_iff_ne.mpr c4
          by_cases c5 : (Int.tmod x0_1 a1) = 0
          · rw [if_pos c5] at H
            have c5b0 : ((Int.tmod x0_1 a1) == 0) = true := beq_iff_eq.mpr c5
            have c5b1 : ((Int.tmod x0_1 a1) != 0) = false := bne_eq_false_iff_eq.mpr c5
            clear c5
            have H' := Aside0.mk H
            clear H
            go_wp2
            go_roundg k1
            case measure => have := HK1.out; omega
            case rel => exact ⟨(wrap64 (Int.tdiv x0_1 a1)), (wrap64 (x6_1 + 1)), (by first | rfl | (simp; done) | (simp [*]; done)), (by first | rfl | (simp; done) | (simp [*]; done)), H', ⟨by have := HK1.out; omega⟩, by repeat (first | exact Drawn0.refl _ | apply Drawn0.step)⟩
          · rw [if_neg c5] at H
            have c5b0 : ((Int.tmod x0_1 a1) == 0) = false := beq_eq_false_iff_ne.mpr c5
            have c5b1 : ((Int.tmod x0_1 a1) != 0) = true := bne_iff_ne.mpr c5
            simp only [Option.some.injEq, Prod.mk.injEq] at H
            obtain ⟨rfl, rfl⟩ := H
            go_wp2
            go_ret2
            exact ⟨by first | rfl | (simp; done) | (simp [*]; done), by repeat (first | exact Drawn0.refl _ | apply Drawn0.step)⟩
      · rw [if_neg c3] at H
        have c3b0 : decide (a1 ≤ x0_1) = false := decide_eq_false c3
        clear c3
        by_cases c6 : x0_1 ≤ (wrap64 (-a1))
        · rw [if_pos c6] at H
          have c6b0 : decide (x0_1 ≤ (wrap64 (-a1))) = true := decide_eq_true c6
          clear c6
          by_cases c7 : a1 = 0
          · rw [if_pos c7] at H
            exact absurd H (by simp)
          · rw [if_neg c7] at H
            have c7b0 : (a1 == 0) = false := beq_eq_false_iff_ne.mpr c7
            have c7b1 : (a1 != 0) = true := bne_iff_ne.mpr c7
            by_cases c8 : (Int.tmod x0_1 a1) = 0
            · rw [if_pos c8] at H
              have c8b0 : ((Int.tmod x0_1 a1) == 0) = true := beq_iff_eq.mpr c8
              have c8b1 : ((Int.tmod x0_1 a1) != 0) = false := bne_eq_false_iff_eq.mpr c8
              clear c8
              have H' := Aside0.mk H
              clear H
              go_wp2
              go_roundg k1
              case measure => have := HK1.out; omega
              case rel => exact ⟨(wrap64 (Int.tdiv x0_1 a1)), (wrap64 (x6_1 + 1)), (by first | rfl | (simp; done) | (simp [*]; done)), (by first | rfl | (simp; done) | (simp [*]; done)), H', ⟨by have := HK1.out; omega⟩, by repeat (first | exact Drawn0.refl _ | apply Drawn0.step)⟩
            · rw [if_neg c8] at H
              have c8b0 : ((Int.tmod x0_1 a1) == 0) = false := beq_eq_false_iff_ne.mpr c8
              have c8b1 : ((Int.tmod x0_1 a1) != 0) = true := bne_iff_ne.mpr c8
              simp only [Option.some.injEq, Prod.mk.injEq] at H
              obtain ⟨rfl, rfl⟩ := H
              go_wp2
              go_ret2
              exact ⟨by first | rfl | (simp; done) | (simp [*]; done), by repeat (first | exact Drawn0.refl _ | apply Drawn0.step)⟩
        · rw [if_neg c6] at H
          have c6b0 : decide (x0_1 ≤ (wrap64 (-a1))) = false := decide_eq_false c6
          clear c6
          simp only [Option.some.injEq, Prod.mk.injEq] at H
          obtain ⟨rfl, rfl⟩ := H
          go_wp2
          go_ret2
          exact ⟨by first | rfl | (simp; done) | (simp [*]; done), by repeat (first | exact Drawn0.refl _ | apply Drawn0.step)⟩

/-! ### laws_FnScaleFactors: function 6 -/
def laws_FnScaleFactors.j0 : Nat → Int → Int → Bool → Option (Bool)
  | 0, _, _, _ => none
  | k + 1, x0, x1, x16 => if x16 = true then (some true) else ((impl_TakeFactors.f k x0 x1).bind fun bt105 => ((spec_Factors.f k x0 x1).bind fun bt107 => ((impl_TakeFactors.f k 3000 10).bind fun bt109 => (if bt105.1 = bt107.1 then (if bt105.2 = bt107.2 then (if bt109.1 = 3 then (some (bt109.2 == 3)) else (some false)) else (some false)) else (some false)))))
def laws_FnScaleFactors.f (k : Nat) (a0 : Int) (a1 : Int) : Option (Bool) := if a1 < 2 then (laws_FnScaleFactors.j0 k a0 a1 true) else (laws_FnScaleFactors.j0 k a0 a1 (a0 == (-9223372036854775808)))
theorem laws_FnScaleFactors.mono_l : ∀ k, (∀ y0 y1 y2, LeO (laws_FnScaleFactors.j0 k y0 y1 y2) (laws_FnScaleFactors.j0 (k + 1) y0 y1 y2))
  | 0 => fun _ _ _ r h => by simp [laws_FnScaleFactors.j0] at h
  | k + 1 => by
    have ih0 := laws_FnScaleFactors.mono_l k
    · intro y0 y1 y2
      unfold laws_FnScaleFactors.j0
      repeat' first
      | (with_reducible exact ih0 _ _ _)
      | (with_reducible exact impl_TakeFactors.mono _ _ _)
      | (with_reducible exact spec_Factors.mono _ _ _)
      | (with_reducible exact LeO.refl _)
      | (with_reducible exact LeO.none _)
      | (with_reducible refine LeO.ite ?_ ?_)
      | (with_reducible refine LeO.bind ?_ (fun _ => ?_))
      | exact ih0 _ _ _
      | exact impl_TakeFactors.mono _ _ _
      | exact spec_Factors.mono _ _ _
      | exact LeO.none _
      | refine LeO.ite ?_ ?_
      | refine LeO.bind ?_ (fun _ => ?_)
theorem laws_FnScaleFactors.mono : ∀ a0 a1 k, LeO (laws_FnScaleFactors.f k a0 a1) (laws_FnScaleFactors.f (k + 1) a0 a1) := by
  intro a0 a1 k
  have ih0 := laws_FnScaleFactors.mono_l k
  unfold laws_FnScaleFactors.f
  repeat' first
      | (with_reducible exact ih0 _ _ _)
      | (with_reducible exact impl_TakeFactors.mono _ _ _)
      | (with_reducible exact spec_Factors.mono _ _ _)
      | (with_reducible exact LeO.refl _)
      | (with_reducible exact LeO.none _)
      | (with_reducible refine LeO.ite ?_ ?_)
      | (with_reducible refine LeO.bind ?_ (fun _ => ?_))
      | exact ih0 _ _ _
      | exact impl_TakeFactors.mono _ _ _
      | exact spec_Factors.mono _ _ _
      | exact LeO.none _
      | refine LeO.ite ?_ ?_
      | refine LeO.bind ?_ (fun _ => ?_)
set_option maxHeartbeats 8000000 in
set_option maxRecDepth 100000 in
theorem laws_FnScaleFactors.calls (k : Nat) (a0 : Int) (a1 : Int) (r : Bool) (w : World) (h : laws_FnScaleFactors.f k a0 a1 = some r) :
    Calls Try.prog 6 #[.int .i64 a0, .int .i64 a1] w fun e w' => e = .returned (.bool r) ∧ Drawn0 w w' := by
  have H : (if a1 < 2 then (laws_FnScaleFactors.j0 k a0 a1 true) else (laws_FnScaleFactors.j0 k a0 a1 (a0 == (-9223372036854775808)))) = some r := h
  clear h
  have HC3 := Aside0.mk H
  clear H
  go_enter Try.func6, Try.ntmps6
  go_upto_region 1 with (fail)
  go_cut [16] (fun v16 wc => ∃ (kq : Nat) (x16_2 : Bool), v16 = .bool x16_2 ∧ Aside0 (laws_FnScaleFactors.j0 kq a0 a1 x16_2 = some r) ∧ Aside0 (kq ≤ k) ∧ Drawn0 w wc)
  case first =>
    have H := HC3.out
    clear HC3
    by_cases c4 : a1 < 2
    · rw [if_pos c4] at H
      have c4b0 : decide (a1 < 2) = true := decide_eq_true c4
      clear c4
      (first | rw [c4b0] | (simp only [i64_w, i32_w]; rw [c4b0]) | skip)
      have H' := Aside0.mk H
      clear H
      go_wp2
      go_meet
      case rel => exact ⟨_, (true), (by first | rfl | (simp; done) | (simp [*]; done)), H', ⟨by first | omega | exact Nat.le_refl _⟩, by repeat (first | exact Drawn0.refl _ | apply Drawn0.step)⟩
    · rw [if_neg c4] at H
      have c4b0 : decide (a1 < 2) = false := decide_eq_false c4
      clear c4
      (first | rw [c4b0] | (simp only [i64_w, i32_w]; rw [c4b0]) | skip)
      have H' := Aside0.mk H
      clear H
      go_wp2
      go_meet
      case rel => exact ⟨_, ((a0 == (-9223372036854775808))), (by first | rfl | (simp; done) | (simp [*]; done)), H', ⟨by first | omega | exact Nat.le_refl _⟩, by repeat (first | exact Drawn0.refl _ | apply Drawn0.step)⟩
  case rest =>
    clear HC3
    try clear p2
    try clear c4
    try clear c4b0
    obtain ⟨kq, x16_2, rfl, HA, HJ2, ⟨mc2, rfl⟩⟩ := hcut
    cases kq with
    | zero => exact absurd HA.out (by simp [laws_FnScaleFactors.j0])
    | succ kj2 =>
      have H := HA.out
      clear HA
      simp only [laws_FnScaleFactors.j0] at H
      by_cases c5 : x16_2 = true
      · subst c5
        have H1 : (some true) = some r := by rw [if_pos rfl] at H; exact H
        clear H
        have H := H1
        clear H1
        obtain rfl := Option.some.inj H
        go_wp2
        go_ret
        exact ⟨by first | rfl | (simp; done) | (simp [*]; done), by repeat (first | exact Drawn0.refl _ | apply Drawn0.step)⟩
      · replace c5 := Bool.eq_false_iff.mpr c5
        subst c5
        have H1 : ((impl_TakeFactors.f kj2 a0 a1).bind fun bt105 => ((spec_Factors.f kj2 a0 a1).bind fun bt107 => ((impl_TakeFactors.f kj2 3000 10).bind fun bt109 => (if bt105.1 = bt107.1 then (if bt105.2 = bt107.2 then (if bt109.1 = 3 then (some (bt109.2 == 3)) else (some false)) else (some false)) else (some false))))) = some r := by rw [if_neg (show ¬ (false = true) by decide)] at H; exact H
        clear H
        have H := H1
        clear H1
        replace H := Option.bind_eq_some_iff.mp H
        obtain ⟨⟨t105, t106⟩, A60, H⟩ := H
        replace H : ((spec_Factors.f kj2 a0 a1).bind fun bt107 => ((impl_TakeFactors.f kj2 3000 10).bind fun bt109 => (if t105 = bt107.1 then (if t106 = bt107.2 then (if bt109.1 = 3 then (some (bt109.2 == 3)) else (some false)) else (some false)) else (some false)))) = some r := H
        have A6 := Aside0.mk A60
        clear A60
        replace H := Option.bind_eq_some_iff.mp H
        obtain ⟨⟨t107, t108⟩, A70, H⟩ := H
        replace H : ((impl_TakeFactors.f kj2 3000 10).bind fun bt109 => (if t105 = t107 then (if t106 = t108 then (if bt109.1 = 3 then (some (bt109.2 == 3)) else (some false)) else (some false)) else (some false))) = some r := H
        have A7 := Aside0.mk A70
        clear A70
        replace H := Option.bind_eq_some_iff.mp H
        obtain ⟨⟨t109, t110⟩, A80, H⟩ := H
        replace H : (if t105 = t107 then (if t106 = t108 then (if t109 = 3 then (some (t110 == 3)) else (some false)) else (some false)) else (some false)) = some r := H
        have A8 := Aside0.mk A80
        clear A80
        by_cases c9 : t105 = t107
        · rw [if_pos c9] at H
          have c9b0 : (t105 == t107) = true := beq_iff_eq.mpr c9
          have c9b1 : (t105 != t107) = false := bne_eq_false_iff_eq.mpr c9
          clear c9
          by_cases c10 : t106 = t108
          · rw [if_pos c10] at H
            have c10b0 : (t106 == t108) = true := beq_iff_eq.mpr c10
            have c10b1 : (t106 != t108) = false := bne_eq_false_iff_eq.mpr c10
            clear c10
            by_cases c11 : t109 = 3
            · rw [if_pos c11] at H
              have c11b0 : (t109 == 3) = true := beq_iff_eq.mpr c11
              have c11b1 : (t109 != 3) = false := bne_eq_false_iff_eq.mpr c11
              clear c11
              obtain rfl := Option.some.inj H
              go_wp2_with (first | ((with_reducible refine gate_callee (f := 18) rfl ?_); refine goesL_ (some 20) rfl rfl Try.func18 (by kernel_rfl) rfl #[.int .i64 a0, .int .i64 a1] rfl (by (try simp only [List.map_toArray, List.map_cons, List.map_nil]); first | done | rfl | (simp only [List.length_drop, List.length_take]; rfl)) ?_; (with_reducible refine (impl_TakeFactors.calls kj2 a0 a1 t105 t106 _ A6.out).mono ?_); rintro e w' ⟨rfl, ⟨nd, rfl⟩⟩; refine ⟨_, rfl, ?_⟩) | ((with_reducible refine gate_callee (f := 19) rfl ?_); refine goesL_ (some 26) rfl rfl Try.func19 (by kernel_rfl) rfl #[.int .i64 a0, .int .i64 a1] rfl (by (try simp only [List.map_toArray, List.map_cons, List.map_nil]); first | done | rfl | (simp only [List.length_drop, List.length_take]; rfl)) ?_; (with_reducible refine (spec_Factors.calls kj2 a0 a1 t107 t108 _ A7.out).mono ?_); rintro e w' ⟨rfl, ⟨nd, rfl⟩⟩; refine ⟨_, rfl, ?_⟩) | ((with_reducible refine gate_callee (f := 18) rfl ?_); refine goesL_ (some 30) rfl rfl Try.func18 (by kernel_rfl) rfl #[.int .i64 3000, .int .i64 10] rfl (by (try simp only [List.map_toArray, List.map_cons, List.map_nil]); first | done | rfl | (simp only [List.length_drop, List.length_take]; rfl)) ?_; (with_reducible refine (impl_TakeFactors.calls kj2 3000 10 t109 t110 _ A8.out).mono ?_); rintro e w' ⟨rfl, ⟨nd, rfl⟩⟩; refine ⟨_, rfl, ?_⟩))
              go_ret
              exact ⟨by first | rfl | (simp; done) | (simp [*]; done), by repeat (first | exact Drawn0.refl _ | apply Drawn0.step)⟩
            · rw [if_neg c11] at H
              have c11b0 : (t109 == 3) = false := beq_eq_false_iff_ne.mpr c11
              have c11b1 : (t109 != 3) = true := bne_iff_ne.mpr c11
              obtain rfl := Option.some.inj H
              go_wp2_with (first | ((with_reducible refine gate_callee (f := 18) rfl ?_); refine goesL_ (some 20) rfl rfl Try.func18 (by kernel_rfl) rfl #[.int .i64 a0, .int .i64 a1] rfl (by (try simp only [List.map_toArray, List.map_cons, List.map_nil]); first | done | rfl | (simp only [List.length_drop, List.length_take]; rfl)) ?_; (with_reducible refine (impl_TakeFactors.calls kj2 a0 a1 t105 t106 _ A6.out).mono ?_); rintro e w' ⟨rfl, ⟨nd, rfl⟩⟩; refine ⟨_, rfl, ?_⟩) | ((with_reducible refine gate_callee (f := 19) rfl ?_); refine goesL_ (some 26) rfl rfl Try.func19 (by kernel_rfl) rfl #[.int .i64 a0, .int .i64 a1] rfl (by (try simp only [List.map_toArray, List.map_cons, List.map_nil]); first | done | rfl | (simp only [List.length_drop, List.length_take]; rfl)) ?_; (with_reducible refine (spec_Factors.calls kj2 a0 a1 t107 t108 _ A7.out).mono ?_); rintro e w' ⟨rfl, ⟨nd, rfl⟩⟩; refine ⟨_, rfl, ?_⟩) | ((with_reducible refine gate_callee (f := 18) rfl ?_); refine goesL_ (some 30) rfl rfl Try.func18 (by kernel_rfl) rfl #[.int .i64 3000, .int .i64 10] rfl (by (try simp only [List.map_toArray, List.map_cons, List.map_nil]); first | done | rfl | (simp only [List.length_drop, List.length_take]; rfl)) ?_; (with_reducible refine (impl_TakeFactors.calls kj2 3000 10 t109 t110 _ A8.out).mono ?_); rintro e w' ⟨rfl, ⟨nd, rfl⟩⟩; refine ⟨_, rfl, ?_⟩))
              go_ret
              exact ⟨by first | rfl | (simp; done) | (simp [*]; done), by repeat (first | exact Drawn0.refl _ | apply Drawn0.step)⟩
          · rw [if_neg c10] at H
            have c10b0 : (t106 == t108) = false := beq_eq_false_iff_ne.mpr c10
            have c10b1 : (t106 != t108) = true := bne_iff_ne.mpr c10
            obtain rfl := Option.some.inj H
            go_wp2_with (first | ((with_reducible refine gate_callee (f := 18) rfl ?_); refine goesL_ (some 20) rfl rfl Try.func18 (by kernel_rfl) rfl #[.int .i64 a0, .int .i64 a1] rfl (by (try simp only [List.map_toArray, List.map_cons, List.map_nil]); first | done | rfl | (simp only [List.length_drop, List.length_take]; rfl)) ?_; (with_reducible refine (impl_TakeFactors.calls kj2 a0 a1 t105 t106 _ A6.out).mono ?_); rintro e w' ⟨rfl, ⟨nd, rfl⟩⟩; refine ⟨_, rfl, ?_⟩) | ((with_reducible refine gate_callee (f := 19) rfl ?_); refine goesL_ (some 26) rfl rfl Try.func19 (by kernel_rfl) rfl #[.int .i64 a0, .int .i64 a1] rfl (by (try simp only [List.map_toArray, List.map_cons, List.map_nil]); first | done | rfl | (simp only [List.length_drop, List.length_take]; rfl)) ?_; (with_reducible refine (spec_Factors.calls kj2 a0 a1 t107 t108 _ A7.out).mono ?_); rintro e w' ⟨rfl, ⟨nd, rfl⟩⟩; refine ⟨_, rfl, ?_⟩) | ((with_reducible refine gate_callee (f := 18) rfl ?_); refine goesL_ (some 30) rfl rfl Try.func18 (by kernel_rfl) rfl #[.int .i64 3000, .int .i64 10] rfl (by (try simp only [List.map_toArray, List.map_cons, List.map_nil]); first | done | rfl | (simp only [List.length_drop, List.length_take]; rfl)) ?_; (with_reducible refine (impl_TakeFactors.calls kj2 3000 10 t109 t110 _ A8.out).mono ?_); rintro e w' ⟨rfl, ⟨nd, rfl⟩⟩; refine ⟨_, rfl, ?_⟩))
            go_ret
            exact ⟨by first | rfl | (simp; done) | (simp [*]; done), by repeat (first | exact Drawn0.refl _ | apply Drawn0.step)⟩
        · rw [if_neg c9] at H
          have c9b0 : (t105 == t107) = false := beq_eq_false_iff_ne.mpr c9
          have c9b1 : (t105 != t107) = true := bne_iff_ne.mpr c9
          obtain rfl := Option.some.inj H
          go_wp2_with (first | ((with_reducible refine gate_callee (f := 18) rfl ?_); refine goesL_ (some 20) rfl rfl Try.func18 (by kernel_rfl) rfl #[.int .i64 a0, .int .i64 a1] rfl (by (try simp only [List.map_toArray, List.map_cons, List.map_nil]); first | done | rfl | (simp only [List.length_drop, List.length_take]; rfl)) ?_; (with_reducible refine (impl_TakeFactors.calls kj2 a0 a1 t105 t106 _ A6.out).mono ?_); rintro e w' ⟨rfl, ⟨nd, rfl⟩⟩; refine ⟨_, rfl, ?_⟩) | ((with_reducible refine gate_callee (f := 19) rfl ?_); refine goesL_ (some 26) rfl rfl Try.func19 (by kernel_rfl) rfl #[.int .i64 a0, .int .i64 a1] rfl (by (try simp only [List.map_toArray, List.map_cons, List.map_nil]); first | done | rfl | (simp only [List.length_drop, List.length_take]; rfl)) ?_; (with_reducible refine (spec_Factors.calls kj2 a0 a1 t107 t108 _ A7.out).mono ?_); rintro e w' ⟨rfl, ⟨nd, rfl⟩⟩; refine ⟨_, rfl, ?_⟩) | ((with_reducible refine gate_callee (f := 18) rfl ?_); refine goesL_ (some 30) rfl rfl Try.func18 (by kernel_rfl) rfl #[.int .i64 3000, .int .i64 10] rfl (by (try simp only [List.map_toArray, List.map_cons, List.map_nil]); first | done | rfl | (simp only [List.length_drop, List.length_take]; rfl)) ?_; (with_reducible refine (impl_TakeFactors.calls kj2 3000 10 t109 t110 _ A8.out).mono ?_); rintro e w' ⟨rfl, ⟨nd, rfl⟩⟩; refine ⟨_, rfl, ?_⟩))
          go_ret
          exact ⟨by first | rfl | (simp; done) | (simp [*]; done), by repeat (first | exact Drawn0.refl _ | apply Drawn0.step)⟩

/-- THE ONE PURE STATEMENT of laws_FnScaleFactors: yours. -/
def laws_FnScaleFactors.Pure : Prop := ∀ (a0 : Int) (a1 : Int), (Lit.int .i64 a0).wf = true → (Lit.int .i64 a1).wf = true → ∃ k, laws_FnScaleFactors.f k a0 a1 = some true
theorem laws_FnScaleFactors.walk (P : laws_FnScaleFactors.Pure) (a0 : Int) (a1 : Int) (w : World) (w0 : (Lit.int .i64 a0).wf = true) (w1 : (Lit.int .i64 a1).wf = true) :
    Calls Try.prog 6 #[.int .i64 a0, .int .i64 a1] w fun e w' => e = .returned (.bool true) ∧ Below w.heap.size w w' := by
  obtain ⟨k, h⟩ := P a0 a1 w0 w1
  refine (laws_FnScaleFactors.calls k a0 a1 true w h).mono ?_
  rintro e w' ⟨rfl, hd⟩
  exact ⟨rfl, hd.below⟩

end Go.Proofs.Ytgidpggooclebaa.PFnScaleFactors
