/- Functions of the program as plain Lean functions, and that the machine's calls do what these say: written for this claim by wip/myprint.py over the kit's print.py. -/
import Derived.Test.YtihlmkgffifknaaDoorPFnIntStrScaledx0
namespace Go.Proofs.YtihlmkgffifknaaDoor.PFnIntStrScaled
open Go.RowKit Go.Proofs.YtihlmkgffifknaaDoorW.PrintWords Go.Proofs.YtihlmkgffifknaaDoorW.PrintLast Go.Proofs.YtihlmkgffifknaaDoorW.PrintMore
attribute [local go_sem] max2_int min2_int max_two min_two max_three min_three max_four min_four   -- for this text's walks alone
set_option linter.unusedVariables false
set_option linter.unusedSimpArgs false

/-! ### spec_NumWhole: function 13 -/
mutual
def spec_NumWhole.j0 : Nat → ByteArray → Int → Int → Bool → Option (Int × Bool)
  | 0, _, _, _, _ => none
  | k + 1, x0, x1, x2, x8 => if x8 = true then (spec_NumWhole.j1 k x0 x1 x2 x8 true) else (if x0.toList = ([] : List UInt8) then (spec_NumWhole.j1 k x0 x1 x2 x8 false) else (if 0 < (x0.size : Int) then (spec_NumWhole.j1 k x0 x1 x2 x8 ((bt x0 0) == 43)) else (none)))
def spec_NumWhole.j1 : Nat → ByteArray → Int → Int → Bool → Bool → Option (Int × Bool)
  | 0, _, _, _, _, _ => none
  | k + 1, x0, x1, x2, x8, x28 => if x28 = true then (if 1 ≤ (x0.size : Int) then (spec_NumWhole.j2 k (x0.extract 1 x0.size) x1 x2 x8) else (none)) else (spec_NumWhole.j2 k x0 x1 x2 x8)
def spec_NumWhole.j2 : Nat → ByteArray → Int → Int → Bool → Option (Int × Bool)
  | 0, _, _, _, _ => none
  | k + 1, x0, x1, x2, x8 => if x0.toList = ([] : List UInt8) then (some (0, false)) else (spec_NumWhole.l0 k x0 x1 x2 x8 0 0)
def spec_NumWhole.l0 : Nat → ByteArray → Int → Int → Bool → Int → Int → Option (Int × Bool)
  | 0, _, _, _, _, _, _ => none
  | k + 1, x0, x1, x2, x8, x9, x10 => if x10 < (x0.size : Int) then (if 0 ≤ x10 then (if (wrap64 ((wrap64 (bt x0 x10)) - 48)) < 0 then (spec_NumWhole.j4 k x0 x1 x2 x8 x9 x10 (wrap64 ((wrap64 (bt x0 x10)) - 48)) true) else (spec_NumWhole.j4 k x0 x1 x2 x8 x9 x10 (wrap64 ((wrap64 (bt x0 x10)) - 48)) (decide ((wrap64 ((wrap64 (bt x0 x10)) - 48)) > 9)))) else (none)) else (if x9 ≥ x1 then (some (x9, decide (x9 ≤ x2))) else (some (x9, false)))
def spec_NumWhole.j4 : Nat → ByteArray → Int → Int → Bool → Int → Int → Int → Bool → Option (Int × Bool)
  | 0, _, _, _, _, _, _, _, _ => none
  | k + 1, x0, x1, x2, x8, x9, x10, x11, x49 => if x49 = true then (some (0, false)) else (if x8 = true then (if x9 < (wrap64 (Int.tdiv (wrap64 (x1 + x11)) 10)) then (some (0, false)) else (spec_NumWhole.l0 k x0 x1 x2 x8 (wrap64 ((wrap64 (10 * x9)) - x11)) (wrap64 (x10 + 1)))) else (if x9 > (wrap64 (Int.tdiv (wrap64 (x2 - x11)) 10)) then (some (0, false)) else (spec_NumWhole.l0 k x0 x1 x2 x8 (wrap64 ((wrap64 (10 * x9)) + x11)) (wrap64 (x10 + 1)))))
end
def spec_NumWhole.f (k : Nat) (a0 : ByteArray) (a1 : Int) (a2 : Int) : Option (Int × Bool) := if a0.toList = ([] : List UInt8) then (spec_NumWhole.j0 k a0 a1 a2 false) else (if 0 < (a0.size : Int) then (spec_NumWhole.j0 k a0 a1 a2 ((bt a0 0) == 45)) else (none))
theorem spec_NumWhole.mono_l : ∀ k, (∀ y0 y1 y2 y3, LeO (spec_NumWhole.j0 k y0 y1 y2 y3) (spec_NumWhole.j0 (k + 1) y0 y1 y2 y3)) ∧ (∀ y0 y1 y2 y3 y4, LeO (spec_NumWhole.j1 k y0 y1 y2 y3 y4) (spec_NumWhole.j1 (k + 1) y0 y1 y2 y3 y4)) ∧ (∀ y0 y1 y2 y3, LeO (spec_NumWhole.j2 k y0 y1 y2 y3) (spec_NumWhole.j2 (k + 1) y0 y1 y2 y3)) ∧ (∀ y0 y1 y2 y3 y4 y5, LeO (spec_NumWhole.l0 k y0 y1 y2 y3 y4 y5) (spec_NumWhole.l0 (k + 1) y0 y1 y2 y3 y4 y5)) ∧ (∀ y0 y1 y2 y3 y4 y5 y6 y7, LeO (spec_NumWhole.j4 k y0 y1 y2 y3 y4 y5 y6 y7) (spec_NumWhole.j4 (k + 1) y0 y1 y2 y3 y4 y5 y6 y7))
  | 0 => ⟨fun _ _ _ _ r h => by simp [spec_NumWhole.j0] at h, fun _ _ _ _ _ r h => by simp [spec_NumWhole.j1] at h, fun _ _ _ _ r h => by simp [spec_NumWhole.j2] at h, fun _ _ _ _ _ _ r h => by simp [spec_NumWhole.l0] at h, fun _ _ _ _ _ _ _ _ r h => by simp [spec_NumWhole.j4] at h⟩
  | k + 1 => by
    obtain ⟨ih0, ih1, ih2, ih3, ih4⟩ := spec_NumWhole.mono_l k
    refine ⟨?_, ?_, ?_, ?_, ?_⟩
    · intro y0 y1 y2 y3
      unfold spec_NumWhole.j0
      repeat' first
      | (with_reducible exact ih0 _ _ _ _)
      | (with_reducible exact ih1 _ _ _ _ _)
      | (with_reducible exact ih2 _ _ _ _)
      | (with_reducible exact ih3 _ _ _ _ _ _)
      | (with_reducible exact ih4 _ _ _ _ _ _ _ _)
      | (with_reducible exact LeO.refl _)
      | (with_reducible exact LeO.none _)
      | (with_reducible refine LeO.ite ?_ ?_)
      | (with_reducible refine LeO.bind ?_ (fun _ => ?_))
      | exact ih0 _ _ _ _
      | exact ih1 _ _ _ _ _
      | exact ih2 _ _ _ _
      | exact ih3 _ _ _ _ _ _
      | exact ih4 _ _ _ _ _ _ _ _
      | exact LeO.none _
      | refine LeO.ite ?_ ?_
      | refine LeO.bind ?_ (fun _ => ?_)
    · intro y0 y1 y2 y3 y4
      unfold spec_NumWhole.j1
      repeat' first
      | (with_reducible exact ih0 _ _ _ _)
      | (with_reducible exact ih1 _ _ _ _ _)
      | (with_reducible exact ih2 _ _ _ _)
      | (with_reducible exact ih3 _ _ _ _ _ _)
      | (with_reducible exact ih4 _ _ _ _ _ _ _ _)
      | (with_reducible exact LeO.refl _)
      | (with_reducible exact LeO.none _)
      | (with_reducible refine LeO.ite ?_ ?_)
      | (with_reducible refine LeO.bind ?_ (fun _ => ?_))
      | exact ih0 _ _ _ _
      | exact ih1 _ _ _ _ _
      | exact ih2 _ _ _ _
      | exact ih3 _ _ _ _ _ _
      | exact ih4 _ _ _ _ _ _ _ _
      | exact LeO.none _
      | refine LeO.ite ?_ ?_
      | refine LeO.bind ?_ (fun _ => ?_)
    · intro y0 y1 y2 y3
      unfold spec_NumWhole.j2
      repeat' first
      | (with_reducible exact ih0 _ _ _ _)
      | (with_reducible exact ih1 _ _ _ _ _)
      | (with_reducible exact ih2 _ _ _ _)
      | (with_reducible exact ih3 _ _ _ _ _ _)
      | (with_reducible exact ih4 _ _ _ _ _ _ _ _)
      | (with_reducible exact LeO.refl _)
      | (with_reducible exact LeO.none _)
      | (with_reducible refine LeO.ite ?_ ?_)
      | (with_reducible refine LeO.bind ?_ (fun _ => ?_))
      | exact ih0 _ _ _ _
      | exact ih1 _ _ _ _ _
      | exact ih2 _ _ _ _
      | exact ih3 _ _ _ _ _ _
      | exact ih4 _ _ _ _ _ _ _ _
      | exact LeO.none _
      | refine LeO.ite ?_ ?_
      | refine LeO.bind ?_ (fun _ => ?_)
    · intro y0 y1 y2 y3 y4 y5
      unfold spec_NumWhole.l0
      repeat' first
      | (with_reducible exact ih0 _ _ _ _)
      | (with_reducible exact ih1 _ _ _ _ _)
      | (with_reducible exact ih2 _ _ _ _)
      | (with_reducible exact ih3 _ _ _ _ _ _)
      | (with_reducible exact ih4 _ _ _ _ _ _ _ _)
      | (with_reducible exact LeO.refl _)
      | (with_reducible exact LeO.none _)
      | (with_reducible refine LeO.ite ?_ ?_)
      | (with_reducible refine LeO.bind ?_ (fun _ => ?_))
      | exact ih0 _ _ _ _
      | exact ih1 _ _ _ _ _
      | exact ih2 _ _ _ _
      | exact ih3 _ _ _ _ _ _
      | exact ih4 _ _ _ _ _ _ _ _
      | exact LeO.none _
      | refine LeO.ite ?_ ?_
      | refine LeO.bind ?_ (fun _ => ?_)
    · intro y0 y1 y2 y3 y4 y5 y6 y7
      unfold spec_NumWhole.j4
      repeat' first
      | (with_reducible exact ih0 _ _ _ _)
      | (with_reducible exact ih1 _ _ _ _ _)
      | (with_reducible exact ih2 _ _ _ _)
      | (with_reducible exact ih3 _ _ _ _ _ _)
      | (with_reducible exact ih4 _ _ _ _ _ _ _ _)
      | (with_reducible exact LeO.refl _)
      | (with_reducible exact LeO.none _)
      | (with_reducible refine LeO.ite ?_ ?_)
      | (with_reducible refine LeO.bind ?_ (fun _ => ?_))
      | exact ih0 _ _ _ _
      | exact ih1 _ _ _ _ _
      | exact ih2 _ _ _ _
      | exact ih3 _ _ _ _ _ _
      | exact ih4 _ _ _ _ _ _ _ _
      | exact LeO.none _
      | refine LeO.ite ?_ ?_
      | refine LeO.bind ?_ (fun _ => ?_)
theorem spec_NumWhole.mono : ∀ a0 a1 a2 k, LeO (spec_NumWhole.f k a0 a1 a2) (spec_NumWhole.f (k + 1) a0 a1 a2) := by
  intro a0 a1 a2 k
  obtain ⟨ih0, ih1, ih2, ih3, ih4⟩ := spec_NumWhole.mono_l k
  unfold spec_NumWhole.f
  repeat' first
      | (with_reducible exact ih0 _ _ _ _)
      | (with_reducible exact ih1 _ _ _ _ _)
      | (with_reducible exact ih2 _ _ _ _)
      | (with_reducible exact ih3 _ _ _ _ _ _)
      | (with_reducible exact ih4 _ _ _ _ _ _ _ _)
      | (with_reducible exact LeO.refl _)
      | (with_reducible exact LeO.none _)
      | (with_reducible refine LeO.ite ?_ ?_)
      | (with_reducible refine LeO.bind ?_ (fun _ => ?_))
      | exact ih0 _ _ _ _
      | exact ih1 _ _ _ _ _
      | exact ih2 _ _ _ _
      | exact ih3 _ _ _ _ _ _
      | exact ih4 _ _ _ _ _ _ _ _
      | exact LeO.none _
      | refine LeO.ite ?_ ?_
      | refine LeO.bind ?_ (fun _ => ?_)
set_option maxHeartbeats 8000000 in
set_option maxRecDepth 100000 in
theorem spec_NumWhole.calls (k : Nat) (a0 : ByteArray) (a1 : Int) (a2 : Int) (r1 : Int) (r2 : Bool) (w : World) (h : spec_NumWhole.f k a0 a1 a2 = some (r1, r2)) :
    Calls Tryd.prog 13 #[.string a0, .int .i64 a1, .int .i64 a2] w fun e w' => e = .returned (.tuple #[.int .i64 r1, .bool r2]) ∧ Drawn0 w w' := by
  have H : (if a0.toList = ([] : List UInt8) then (spec_NumWhole.j0 k a0 a1 a2 false) else (if 0 < (a0.size : Int) then (spec_NumWhole.j0 k a0 a1 a2 ((bt a0 0) == 45)) else (none))) = some (r1, r2) := h
  clear h
  have HC4 := Aside0.mk H
  clear H
  go_enter Tryd.func13, Tryd.ntmps13
  go_upto_region 1 with (fail)
  go_cut [8] (fun v8 wc => ∃ (kq : Nat) (x8_3 : Bool), v8 = .bool x8_3 ∧ Aside0 (spec_NumWhole.j0 kq a0 a1 a2 x8_3 = some (r1, r2)) ∧ Aside0 (kq ≤ k) ∧ Drawn0 w wc)
  case first =>
    have H := HC4.out
    clear HC4
    by_cases c5 : a0.toList = ([] : List UInt8)
    · rw [if_pos c5] at H
      have c5b0 : (a0.toList == ([] : List UInt8)) = true := beq_iff_eq.mpr c5
      have c5b1 : (a0.toList != ([] : List UInt8)) = false := bne_eq_false_iff_eq.mpr c5
      clear c5
      (first | rw [c5b0] | (simp only [i64_w, i32_w]; rw [c5b0]) | skip)
      have H' := Aside0.mk H
      clear H
      go_wp2
      go_meet
      case rel => exact ⟨_, (false), (by first | rfl | (simp; done) | (simp [*]; done)), H', ⟨by first | omega | exact Nat.le_refl _⟩, by repeat (first | exact Drawn0.refl _ | apply Drawn0.step)⟩
    · rw [if_neg c5] at H
      have c5b0 : (a0.toList == ([] : List UInt8)) = false := beq_eq_false_iff_ne.mpr c5
      have c5b1 : (a0.toList != ([] : List UInt8)) = true := bne_iff_ne.mpr c5
      (first | rw [c5b0] | (simp only [i64_w, i32_w]; rw [c5b0]) | skip)
      by_cases c6 : 0 < (a0.size : Int)
      · rw [if_pos c6] at H
        have c6b0 : decide (0 < (a0.size : Int)) = true := decide_eq_true c6
        have c6b1 : decide (0 < a0.size) = true := decide_eq_true (by omega)
        clear c6
        have H' := Aside0.mk H
        clear H
        have p7 : 0 ≤ (0 : Int) := (by omega)
        have q7 : 0 < a0.size := (by have : (0 : Int) < (a0.size : Int) := of_decide_eq_true (by first | (with_reducible assumption) | assumption); omega)
        have hx7 : ∀ h : 0 < a0.size, ((a0[0]'h).toNat : Int) = bt a0 0 := bt_at a0 0
        clear p7
        have qi7 : (0 < (a0.size : Int)) = True := eq_true (of_decide_eq_true (by first | (with_reducible assumption) | assumption))
        replace q7 := eq_true q7
        go_wp2
        go_meet
        case rel => exact ⟨_, (((bt a0 0) == 45)), (by first | rfl | (simp; done) | (simp [*]; done)), H', ⟨by first | omega | exact Nat.le_refl _⟩, by repeat (first | exact Drawn0.refl _ | apply Drawn0.step)⟩
      · rw [if_neg c6] at H
        exact absurd H (by simp)
  case rest =>
    clear HC4
    try clear c1
    try clear p2
    try clear c5
    try clear c5b0
    try clear c5b1
    try clear c6
    try clear c6b0
    try clear c6b1
    try clear p7
    try clear q7
    try clear hx7
    try clear qi7
    try clear p7
    try clear q7
    obtain ⟨kq, x8_3, rfl, HA, HJ3, ⟨mc3, rfl⟩⟩ := hcut
    cases kq with
    | zero => exact absurd HA.out (by simp [spec_NumWhole.j0])
    | succ kj3 =>
      have H := HA.out
      clear HA
      simp only [spec_NumWhole.j0] at H
      have HC8 := Aside0.mk H
      clear H
      go_upto_region 2 with (fail)
      go_cut [28] (fun v28 wc => ∃ (kq : Nat) (x28_7 : Bool), v28 = .bool x28_7 ∧ Aside0 (spec_NumWhole.j1 kq a0 a1 a2 x8_3 x28_7 = some (r1, r2)) ∧ Aside0 (kq ≤ kj3) ∧ Drawn0 w wc)
      case first =>
        have H := HC8.out
        clear HC8
        by_cases c9 : x8_3 = true
        · subst c9
          have H1 : (spec_NumWhole.j1 kj3 a0 a1 a2 true true) = some (r1, r2) := by rw [if_pos rfl] at H; exact H
          clear H
          have H := H1
          clear H1
          have H' := Aside0.mk H
          clear H
          go_wp2
          go_meet
          case rel => exact ⟨_, (true), (by first | rfl | (simp; done) | (simp [*]; done)), H', ⟨by have := HJ3.out; first | omega | exact Nat.le_refl _⟩, by repeat (first | exact Drawn0.refl _ | apply Drawn0.step)⟩
        · replace c9 := Bool.eq_false_iff.mpr c9
          subst c9
          have H1 : (if a0.toList = ([] : List UInt8) then (spec_NumWhole.j1 kj3 a0 a1 a2 false false) else (if 0 < (a0.size : Int) then (spec_NumWhole.j1 kj3 a0 a1 a2 false ((bt a0 0) == 43)) else (none))) = some (r1, r2) := by rw [if_neg (show ¬ (false = true) by decide)] at H; exact H
          clear H
          have H := H1
          clear H1
          by_cases c10 : a0.toList = ([] : List UInt8)
          · rw [if_pos c10] at H
            have c10b0 : (a0.toList == ([] : List UInt8)) = true := beq_iff_eq.mpr c10
            have c10b1 : (a0.toList != ([] : List UInt8)) = false := bne_eq_false_iff_eq.mpr c10
            clear c10
            (first | rw [c10b0] | (simp only [i64_w, i32_w]; rw [c10b0]) | skip)
            have H' := Aside0.mk H
            clear H
            go_wp2
            go_meet
            case rel => exact ⟨_, (false), (by first | rfl | (simp; done) | (simp [*]; done)), H', ⟨by have := HJ3.out; first | omega | exact Nat.le_refl _⟩, by repeat (first | exact Drawn0.refl _ | apply Drawn0.step)⟩
          · rw [if_neg c10] at H
            have c10b0 : (a0.toList == ([] : List UInt8)) = false := beq_eq_false_iff_ne.mpr c10
            have c10b1 : (a0.toList != ([] : List UInt8)) = true := bne_iff_ne.mpr c10
            (first | rw [c10b0] | (simp only [i64_w, i32_w]; rw [c10b0]) | skip)
            by_cases c11 : 0 < (a0.size : Int)
            · rw [if_pos c11] at H
              have c11b0 : decide (0 < (a0.size : Int)) = true := decide_eq_true c11
              have c11b1 : decide (0 < a0.size) = true := decide_eq_true (by omega)
              clear c11
              have H' := Aside0.mk H
              clear H
              have p12 : 0 ≤ (0 : Int) := (by omega)
              have q12 : 0 < a0.size := (by have : (0 : Int) < (a0.size : Int) := of_decide_eq_true (by first | (with_reducible assumption) | assumption); omega)
              have hx12 : ∀ h : 0 < a0.size, ((a0[0]'h).toNat : Int) = bt a0 0 := bt_at a0 0
              clear p12
              have qi12 : (0 < (a0.size : Int)) = True := eq_true (of_decide_eq_true (by first | (with_reducible assumption) | assumption))
              replace q12 := eq_true q12
              go_wp2
              go_meet
              case rel => exact ⟨_, (((bt a0 0) == 43)), (by first | rfl | (simp; done) | (simp [*]; done)), H', ⟨by have := HJ3.out; first | omega | exact Nat.le_refl _⟩, by repeat (first | exact Drawn0.refl _ | apply Drawn0.step)⟩
            · rw [if_neg c11] at H
              exact absurd H (by simp)
      case rest =>
        clear HC8
        try clear c1
        try clear p1
        try clear q1
        try clear hx1
        try clear qi1
        try clear p2
        try clear c3
        try clear c5
        try clear c5b0
        try clear c5b1
        try clear c6
        try clear c6b0
        try clear c6b1
        try clear p7
        try clear q7
        try clear hx7
        try clear qi7
        try clear c9
        try clear c10
        try clear c10b0
        try clear c10b1
        try clear c11
        try clear c11b0
        try clear c11b1
        try clear p12
        try clear q12
        try clear hx12
        try clear qi12
        try clear p12
        try clear p2
        try clear p7
        try clear q12
        try clear q7
        obtain ⟨kq, x28_7, rfl, HA, HJ7, ⟨mc7, rfl⟩⟩ := hcut
        cases kq with
        | zero => exact absurd HA.out (by simp [spec_NumWhole.j1])
        | succ kj7 =>
          have H := HA.out
          clear HA
          simp only [spec_NumWhole.j1] at H
          have HC13 := Aside0.mk H
          clear H
          go_upto_if 28 with (fail)
          go_cut [0] (fun v0 wc => ∃ (kq : Nat) (x0_12 : ByteArray), v0 = .string x0_12 ∧ Aside0 (spec_NumWhole.j2 kq x0_12 a1 a2 x8_3 = some (r1, r2)) ∧ Aside0 (kq ≤ kj7) ∧ Drawn0 w wc)
          case first =>
            have H := HC13.out
            clear HC13
            by_cases c14 : x28_7 = true
            · subst c14
              have H1 : (if 1 ≤ (a0.size : Int) then (spec_NumWhole.j2 kj7 (a0.extract 1 a0.size) a1 a2 x8_3) else (none)) = some (r1, r2) := by rw [if_pos rfl] at H; exact H
              clear H
              have H := H1
              clear H1
              by_cases c15 : 1 ≤ (a0.size : Int)
              · rw [if_pos c15] at H
                have c15b0 := eq_true c15
                have c15b1 : decide (1 ≤ (a0.size : Int)) = true := decide_eq_true c15
                clear c15
                have H' := Aside0.mk H
                clear H
                go_wp2
                go_meet
                case rel => exact ⟨_, (a0.extract 1 a0.size), (by first | rfl | (simp; done) | (simp [*]; done)), H', ⟨by have := HJ3.out; have := HJ7.out; first | omega | exact Nat.le_refl _⟩, by repeat (first | exact Drawn0.refl _ | apply Drawn0.step)⟩
              · rw [if_neg c15] at H
                exact absurd H (by simp)
            · replace c14 := Bool.eq_false_iff.mpr c14
              subst c14
              have H1 : (spec_NumWhole.j2 kj7 a0 a1 a2 x8_3) = some (r1, r2) := by rw [if_neg (show ¬ (false = true) by decide)] at H; exact H
              clear H
              have H := H1
              clear H1
              have H' := Aside0.mk H
              clear H
              go_wp2
              go_meet
              case rel => exact ⟨_, (a0), (by first | rfl | (simp; done) | (simp [*]; done)), H', ⟨by have := HJ3.out; have := HJ7.out; first | omega | exact Nat.le_refl _⟩, by repeat (first | exact Drawn0.refl _ | apply Drawn0.step)⟩
          case rest =>
            clear HC13
            try clear c1
            try clear p1
            try clear q1
            try clear hx1
            try clear qi1
            try clear p2
            try clear c3
            try clear c5
            try clear c5b0
            try clear c5b1
            try clear c6
            try clear c6b0
            try clear c6b1
            try clear c7
            try clear p7
            try clear q7
            try clear hx7
            try clear qi7
            try clear c9
            try clear c10
            try clear c10b0
            try clear c10b1
            try clear c11
            try clear c11b0
            try clear c11b1
            try clear p12
            try clear q12
            try clear hx12
            try clear qi12
            try clear c13
            try clear c14
            try clear c15
            try clear c15b0
            try clear c15b1
            try clear p1
            try clear p12
            try clear p2
            try clear p7
            try clear q1
            try clear q12
            try clear q7
            obtain ⟨kq, x0_12, rfl, HA, HJ12, ⟨mc12, rfl⟩⟩ := hcut
            cases kq with
            | zero => exact absurd HA.out (by simp [spec_NumWhole.j2])
            | succ kj12 =>
              have H := HA.out
              clear HA
              simp only [spec_NumWhole.j2] at H
              by_cases c16 : x0_12.toList = ([] : List UInt8)
              · rw [if_pos c16] at H
                have c16b0 : (x0_12.toList == ([] : List UInt8)) = true := beq_iff_eq.mpr c16
                have c16b1 : (x0_12.toList != ([] : List UInt8)) = false := bne_eq_false_iff_eq.mpr c16
                clear c16
                simp only [Option.some.injEq, Prod.mk.injEq] at H
                obtain ⟨rfl, rfl⟩ := H
                go_wp2
                go_ret2
                exact ⟨by first | rfl | (simp; done) | (simp [*]; done), by repeat (first | exact Drawn0.refl _ | apply Drawn0.step)⟩
              · rw [if_neg c16] at H
                have c16b0 : (x0_12.toList == ([] : List UInt8)) = false := beq_eq_false_iff_ne.mpr c16
                have c16b1 : (x0_12.toList != ([] : List UInt8)) = true := bne_iff_ne.mpr c16
                have H' := Aside0.mk H
                clear H
                go_wp2
                go_loopg [9, 10] kj12 (fun kq v9 v10 w' => ∃ (x9_4 : Int) (x10_4 : Int), v9 = .int .i64 x9_4 ∧ v10 = .int .i64 x10_4 ∧ Aside0 (spec_NumWhole.l0 kq x0_12 a1 a2 x8_3 x9_4 x10_4 = some (r1, r2)) ∧ Aside0 (kq ≤ kj12) ∧ Drawn0 w w')
                case atStart => exact ⟨(0), (0), (by first | rfl | (simp; done) | (simp [*]; done)), (by first | rfl | (simp; done) | (simp [*]; done)), H', ⟨Nat.le_refl _⟩, by repeat (first | exact Drawn0.refl _ | apply Drawn0.step)⟩
                case round =>
                  clear H'
                  try clear c1
                  try clear p1
                  try clear q1
                  try clear hx1
                  try clear qi1
                  try clear p2
                  try clear c3
                  try clear c5
                  try clear c5b0
                  try clear c5b1
                  try clear c6
                  try clear c6b0
                  try clear c6b1
                  try clear c7
                  try clear p7
                  try clear q7
                  try clear hx7
                  try clear qi7
                  try clear c9
                  try clear c10
                  try clear c10b0
                  try clear c10b1
                  try clear c11
                  try clear c11b0
                  try clear c11b1
                  try clear c12
                  try clear p12
                  try clear q12
                  try clear hx12
                  try clear qi12
                  try clear c13
                  try clear c14
                  try clear c15
                  try clear c15b0
                  try clear c15b1
                  try clear c16
                  try clear c16b0
                  try clear c16b1
                  try clear p1
                  try clear p12
                  try clear p2
                  try clear p7
                  try clear q1
                  try clear q12
                  try clear q7
                  obtain ⟨x9_4, x10_4, rfl, rfl, HA, HK4, ⟨m4, rfl⟩⟩ := hrel
                  cases gk with
                  | zero => exact absurd HA.out (by simp [spec_NumWhole.l0])
                  | succ k4 =>
                    have H := HA.out
                    clear HA
                    simp only [spec_NumWhole.l0] at H
                    by_cases c17 : x10_4 < (x0_12.size : Int)
                    · rw [if_pos c17] at H
                      have c17b0 : decide (x10_4 < (x0_12.size : Int)) = true := decide_eq_true c17
                      clear c17
                      by_cases c18 : 0 ≤ x10_4
                      · rw [if_pos c18] at H
                        have c18b0 : decide (0 ≤ x10_4) = true := decide_eq_true c18
                        clear c18
                        have HC20 := Aside0.mk H
                        clear H
                        have p19 : 0 ≤ (x10_4 : Int) := of_decide_eq_true (by first | (with_reducible assumption) | assumption)
                        have q19 : x10_4 < (x0_12.size : Int) := of_decide_eq_true (by first | (with_reducible assumption) | assumption)
                        have hx19 := bt_at x0_12 x10_4
                        replace p19 := eq_true p19
                        replace q19 := eq_true q19
                        go_upto_region 11 with (fail)
                        go_cut [49] (fun v49 wc => ∃ (kq : Nat) (x49_19 : Bool), v49 = .bool x49_19 ∧ Aside0 (spec_NumWhole.j4 kq x0_12 a1 a2 x8_3 x9_4 x10_4 (wrap64 ((wrap64 (bt x0_12 x10_4)) - 48)) x49_19 = some (r1, r2)) ∧ Aside0 (kq ≤ k4) ∧ Drawn0 w wc)
                        case first =>
                          have H := HC20.out
                          clear HC20
                          by_cases c21 : (wrap64 ((wrap64 (bt x0_12 x10_4)) - 48)) < 0
                          · rw [if_pos c21] at H
                            have c21b0 : decide ((wrap64 ((wrap64 (bt x0_12 x10_4)) - 48)) < 0) = true := decide_eq_true c21
                            clear c21
                            (first | rw [c21b0] | (simp only [i64_w, i32_w]; rw [c21b0]) | skip)
                            have H' := Aside0.mk H
                            clear H
                            go_wp2
                            go_meet
                            case rel => exact ⟨_, (true), (by first | rfl | (simp; done) | (simp [*]; done)), H', ⟨by have := HJ3.out; have := HJ7.out; have := HJ12.out; have := HK4.out; first | omega | exact Nat.le_refl _⟩, by repeat (first | exact Drawn0.refl _ | apply Drawn0.step)⟩
                          · rw [if_neg c21] at H
                            have c21b0 : decide ((wrap64 ((wrap64 (bt x0_12 x10_4)) - 48)) < 0) = false := decide_eq_false c21
                            clear c21
                            (first | rw [c21b0] | (simp only [i64_w, i32_w]; rw [c21b0]) | skip)
                            have H' := Aside0.mk H
                            clear H
                            go_wp2
                            go_meet
                            case rel => exact ⟨_, (decide ((wrap64 ((wrap64 (bt x0_12 x10_4)) - 48)) > 9)), (by first | rfl | (simp; done) | (simp [*]; done)), H', ⟨by have := HJ3.out; have := HJ7.out; have := HJ12.out; have := HK4.out; first | omega | exact Nat.le_refl _⟩, by repeat (first | exact Drawn0.refl _ | apply Drawn0.step)⟩
                        case rest =>
                          clear HC20
                          try clear c1
                          try clear p1
                          try clear q1
                          try clear hx1
                          try clear qi1
                          try clear c2
                          try clear p2
                          try clear c3
                          try clear c5
                          try clear c5b0
                          try clear c5b1
                          try clear c6
                          try clear c6b0
                          try clear c6b1
                          try clear p6
                          try clear c7
                          try clear p7
                          try clear q7
                          try clear hx7
                          try clear qi7
                          try clear c9
                          try clear c10
                          try clear c10b0
                          try clear c10b1
                          try clear c11
                          try clear c11b0
                          try clear c11b1
                          try clear c12
                          try clear p12
                          try clear q12
                          try clear hx12
                          try clear qi12
                          try clear c13
                          try clear c14
                          try clear c15
                          try clear c15b0
                          try clear c15b1
                          try clear c16
                          try clear c16b0
                          try clear c16b1
                          try clear c17
                          try clear c17b0
                          try clear c18
                          try clear c18b0
                          try clear p19
                          try clear q19
                          try clear hx19
                          try clear c21
                          try clear c21b0
                          try clear p1
                          try clear p12
                          try clear p19
                          try clear p2
                          try clear p7
                          try clear q1
                          try clear q12
                          try clear q19
                          try clear q7
                          obtain ⟨kq, x49_19, rfl, HA, HJ19, ⟨mc19, rfl⟩⟩ := hcut
                          cases kq with
                          | zero => exact absurd HA.out (by simp [spec_NumWhole.j4])
                          | succ kj19 =>
                            have H := HA.out
                            clear HA
                            simp only [spec_NumWhole.j4] at H
                            by_cases c22 : x49_19 = true
                            · subst c22
                              have H1 : (some (0, false)) = some (r1, r2) := by rw [if_pos rfl] at H; exact H
                              clear H
                              have H := H1
                              clear H1
                              simp only [Option.some.injEq, Prod.mk.injEq] at H
                              obtain ⟨rfl, rfl⟩ := H
                              go_wp2
                              go_ret2
                              exact ⟨by first | rfl | (simp; done) | (simp [*]; done), by repeat (first | exact Drawn0.refl _ | apply Drawn0.step)⟩
                            · replace c22 := Bool.eq_false_iff.mpr c22
                              subst c22
                              have H1 : (if x8_3 = true then (if x9_4 < (wrap64 (Int.tdiv (wrap64 (a1 + (wrap64 ((wrap64 (bt x0_12 x10_4)) - 48)))) 10)) then (some (0, false)) else (spec_NumWhole.l0 kj19 x0_12 a1 a2 x8_3 (wrap64 ((wrap64 (10 * x9_4)) - (wrap64 ((wrap64 (bt x0_12 x10_4)) - 48)))) (wrap64 (x10_4 + 1)))) else (if x9_4 > (wrap64 (Int.tdiv (wrap64 (a2 - (wrap64 ((wrap64 (bt x0_12 x10_4)) - 48)))) 10)) then (some (0, false)) else (spec_NumWhole.l0 kj19 x0_12 a1 a2 x8_3 (wrap64 ((wrap64 (10 * x9_4)) + (wrap64 ((wrap64 (bt x0_12 x10_4)) - 48)))) (wrap64 (x10_4 + 1))))) = some (r1, r2) := by rw [if_neg (show ¬ (false = true) by decide)] at H; exact H
                              clear H
                              have H := H1
                              clear H1
                              by_cases c23 : x8_3 = true
                              · subst c23
                                have H1 : (if x9_4 < (wrap64 (Int.tdiv (wrap64 (a1 + (wrap64 ((wrap64 (bt x0_12 x10_4)) - 48)))) 10)) then (some (0, false)) else (spec_NumWhole.l0 kj19 x0_12 a1 a2 true (wrap64 ((wrap64 (10 * x9_4)) - (wrap64 ((wrap64 (bt x0_12 x10_4)) - 48)))) (wrap64 (x10_4 + 1)))) = some (r1, r2) := by rw [if_pos rfl] at H; exact H
                                clear H
                                have H := H1
                                clear H1
                                by_cases c24 : x9_4 < (wrap64 (Int.tdiv (wrap64 (a1 + (wrap64 ((wrap64 (bt x0_12 x10_4)) - 48)))) 10))
                                · rw [if_pos c24] at H
                                  have c24b0 : decide (x9_4 < (wrap64 (Int.tdiv (wrap64 (a1 + (wrap64 ((wrap64 (bt x0_12 x10_4)) - 48)))) 10))) = true := decide_eq_true c24
                                  clear c24
                                  simp only [Option.some.injEq, Prod.mk.injEq] at H
                                  obtain ⟨rfl, rfl⟩ := H
                                  go_wp2
                                  go_ret2
                                  exact ⟨by first | rfl | (simp; done) | (simp [*]; done), by repeat (first | exact Drawn0.refl _ | apply Drawn0.step)⟩
                                · rw [if_neg c24] at H
                                  have c24b0 : decide (x9_4 < (wrap64 (Int.tdiv (wrap64 (a1 + (wrap64 ((wrap64 (bt x0_12 x10_4)) - 48)))) 10))) = false := decide_eq_false c24
                                  clear c24
                                  have H' := Aside0.mk H
                                  clear H
                                  go_wp2
                                  go_roundg kj19
                                  case measure => have := HJ3.out; have := HJ7.out; have := HJ12.out; have := HK4.out; have := HJ19.out; omega
                                  case rel => exact ⟨(wrap64 ((wrap64 (10 * x9_4)) - (wrap64 ((wrap64 (bt x0_12 x10_4)) - 48)))), (wrap64 (x10_4 + 1)), (by first | rfl | (simp; done) | (simp [*]; done)), (by first | rfl | (simp; done) | (simp [*]; done)), H', ⟨by have := HJ3.out; have := HJ7.out; have := HJ12.out; have := HK4.out; have := HJ19.out; omega⟩, by repeat (first | exact Drawn0.refl _ | apply Drawn0.step)⟩
                              · replace c23 := Bool.eq_false_iff.mpr c23
                                subst c23
                                have H1 : (if x9_4 > (wrap64 (Int.tdiv (wrap64 (a2 - (wrap64 ((wrap64 (bt x0_12 x10_4)) - 48)))) 10)) then (some (0, false)) else (spec_NumWhole.l0 kj19 x0_12 a1 a2 false (wrap64 ((wrap64 (10 * x9_4)) + (wrap64 ((wrap64 (bt x0_12 x10_4)) - 48)))) (wrap64 (x10_4 + 1)))) = some (r1, r2) := by rw [if_neg (show ¬ (false = true) by decide)] at H; exact H
                                clear H
                                have H := H1
                                clear H1
                                by_cases c25 : x9_4 > (wrap64 (Int.tdiv (wrap64 (a2 - (wrap64 ((wrap64 (bt x0_12 x10_4)) - 48)))) 10))
                                · rw [if_pos c25] at H
                                  have c25b0 : decide ((wrap64 (Int.tdiv (wrap64 (a2 - (wrap64 ((wrap64 (bt x0_12 x10_4)) - 48)))) 10)) < x9_4) = true := decide_eq_true c25
                                  clear c25
                                  simp only [Option.some.injEq, Prod.mk.injEq] at H
                                  obtain ⟨rfl, rfl⟩ := H
                                  go_wp2
                                  go_ret2
                                  exact ⟨by first | rfl | (simp; done) | (simp [*]; done), by repeat (first | exact Drawn0.refl _ | apply Drawn0.step)⟩
                                · rw [if_neg c25] at H
                                  have c25b0 : decide ((wrap64 (Int.tdiv (wrap64 (a2 - (wrap64 ((wrap64 (bt x0_12 x10_4)) - 48)))) 10)) < x9_4) = false := decide_eq_false c25
                                  clear c25
                                  have H' := Aside0.mk H
                                  clear H
                                  go_wp2
                                  go_roundg kj19
                                  case measure => have := HJ3.out; have := HJ7.out; have := HJ12.out; have := HK4.out; have := HJ19.out; omega
                                  case rel => exact ⟨(wrap64 ((wrap64 (10 * x9_4)) + (wrap64 ((wrap64 (bt x0_12 x10_4)) - 48)))), (wrap64 (x10_4 + 1)), (by first | rfl | (simp; done) | (simp [*]; done)), (by first | rfl | (simp; done) | (simp [*]; done)), H', ⟨by have := HJ3.out; have := HJ7.out; have := HJ12.out; have := HK4.out; have := HJ19.out; omega⟩, by repeat (first | exact Drawn0.refl _ | apply Drawn0.step)⟩
                      · rw [if_neg c18] at H
                        exact absurd H (by simp)
                    · rw [if_neg c17] at H
                      have c17b0 : decide (x10_4 < (x0_12.size : Int)) = false := decide_eq_false c17
                      clear c17
                      by_cases c26 : x9_4 ≥ a1
                      · rw [if_pos c26] at H
                        have c26b0 : decide (a1 ≤ x9_4) = true := decide_eq_true c26
                        clear c26
                        simp only [Option.some.injEq, Prod.mk.injEq] at H
                        obtain ⟨rfl, rfl⟩ := H
                        go_wp2
                        go_ret2
                        exact ⟨by first | rfl | (simp; done) | (simp [*]; done), by repeat (first | exact Drawn0.refl _ | apply Drawn0.step)⟩
                      · rw [if_neg c26] at H
                        have c26b0 : decide (a1 ≤ x9_4) = false := decide_eq_false c26
                        clear c26
                        simp only [Option.some.injEq, Prod.mk.injEq] at H
                        obtain ⟨rfl, rfl⟩ := H
                        go_wp2
                        go_ret2
                        exact ⟨by first | rfl | (simp; done) | (simp [*]; done), by repeat (first | exact Drawn0.refl _ | apply Drawn0.step)⟩

/-! ### laws_intPercent: function 19 -/
def laws_intPercent.f (k : Nat) (a0 : ByteArray) : Option (Int × Bool) := if a0.toList = ([] : List UInt8) then (some (0, false)) else (if 0 ≤ (wrap64 ((a0.size : Int) - 1)) then (if (wrap64 ((a0.size : Int) - 1)) < (a0.size : Int) then (if (bt a0 (wrap64 ((a0.size : Int) - 1))) = 37 then (if (wrap64 ((a0.size : Int) - 1)) ≤ (a0.size : Int) then ((spec_NumWhole.f k (a0.extract 0 ((wrap64 ((a0.size : Int) - 1)) : Int).toNat) (-9223372036854775808) 9223372036854775807).bind fun bt115 => (some (bt115.1, bt115.2))) else (none)) else (some (0, false))) else (none)) else (none))
theorem laws_intPercent.mono : ∀ a0 k, LeO (laws_intPercent.f k a0) (laws_intPercent.f (k + 1) a0) := by
  intro a0 k
  unfold laws_intPercent.f
  repeat' first
      | (with_reducible exact spec_NumWhole.mono _ _ _ _)
      | (with_reducible exact LeO.refl _)
      | (with_reducible exact LeO.none _)
      | (with_reducible refine LeO.ite ?_ ?_)
      | (with_reducible refine LeO.bind ?_ (fun _ => ?_))
      | exact spec_NumWhole.mono _ _ _ _
      | exact LeO.none _
      | refine LeO.ite ?_ ?_
      | refine LeO.bind ?_ (fun _ => ?_)
set_option maxHeartbeats 8000000 in
set_option maxRecDepth 100000 in
theorem laws_intPercent.calls (k : Nat) (a0 : ByteArray) (r1 : Int) (r2 : Bool) (w : World) (h : laws_intPercent.f k a0 = some (r1, r2)) :
    Calls Tryd.prog 19 #[.string a0] w fun e w' => e = .returned (.tuple #[.int .i64 r1, .bool r2]) ∧ Drawn0 w w' := by
  have H : (if a0.toList = ([] : List UInt8) then (some (0, false)) else (if 0 ≤ (wrap64 ((a0.size : Int) - 1)) then (if (wrap64 ((a0.size : Int) - 1)) < (a0.size : Int) then (if (bt a0 (wrap64 ((a0.size : Int) - 1))) = 37 then (if (wrap64 ((a0.size : Int) - 1)) ≤ (a0.size : Int) then ((spec_NumWhole.f k (a0.extract 0 ((wrap64 ((a0.size : Int) - 1)) : Int).toNat) (-9223372036854775808) 9223372036854775807).bind fun bt115 => (some (bt115.1, bt115.2))) else (none)) else (some (0, false))) else (none)) else (none))) = some (r1, r2) := h
  clear h
  by_cases c2 : a0.toList = ([] : List UInt8)
  · rw [if_pos c2] at H
    have c2b0 : (a0.toList == ([] : List UInt8)) = true := beq_iff_eq.mpr c2
    have c2b1 : (a0.toList != ([] : List UInt8)) = false := bne_eq_false_iff_eq.mpr c2
    clear c2
    simp only [Option.some.injEq, Prod.mk.injEq] at H
    obtain ⟨rfl, rfl⟩ := H
    go_enter Tryd.func19, Tryd.ntmps19
    go_wp2
    go_ret2
    exact ⟨by first | rfl | (simp; done) | (simp [*]; done), by repeat (first | exact Drawn0.refl _ | apply Drawn0.step)⟩
  · rw [if_neg c2] at H
    have c2b0 : (a0.toList == ([] : List UInt8)) = false := beq_eq_false_iff_ne.mpr c2
    have c2b1 : (a0.toList != ([] : List UInt8)) = true := bne_iff_ne.mpr c2
    obtain ⟨ji3, hji3⟩ : ∃ j_ : Int, (wrap64 ((a0.size : Int) - 1)) = j_ := ⟨_, rfl⟩
    replace H : (if 0 ≤ (ji3) then (if (ji3) < (a0.size : Int) then (if (bt a0 (ji3)) = 37 then (if (ji3) ≤ (a0.size : Int) then ((spec_NumWhole.f k (a0.extract 0 ((ji3) : Int).toNat) (-9223372036854775808) 9223372036854775807).bind fun bt115 => (some (bt115.1, bt115.2))) else (none)) else (some (0, false))) else (none)) else (none)) = some (r1, r2) := by first | (rw [hji3] at H; exact H) | (simp only [hji3] at H ⊢; exact H)
    have hji3w : (IntKind.i64.wrap ((a0.size : Int) - 1)) = ji3 := (i64_w _).trans hji3
    by_cases c4 : 0 ≤ (ji3)
    · rw [if_pos c4] at H
      have c4b0 : decide (0 ≤ (ji3)) = true := decide_eq_true c4
      clear c4
      by_cases c5 : (ji3) < (a0.size : Int)
      · rw [if_pos c5] at H
        have c5b0 : decide ((ji3) < (a0.size : Int)) = true := decide_eq_true c5
        clear c5
        by_cases c7 : (bt a0 (ji3)) = 37
        · rw [if_pos c7] at H
          have c7b0 : ((bt a0 (ji3)) == 37) = true := beq_iff_eq.mpr c7
          have c7b1 : ((bt a0 (ji3)) != 37) = false := bne_eq_false_iff_eq.mpr c7
          clear c7
          have c8b0 := eq_true (of_decide_eq_true (by first | (with_reducible assumption) | assumption) : 0 ≤ (ji3))
          by_cases c9 : (ji3) ≤ (a0.size : Int)
          · rw [if_pos c9] at H
            have c9b0 := eq_true c9
            have c9b1 : decide ((ji3) ≤ (a0.size : Int)) = true := decide_eq_true c9
            clear c9
            replace H := Option.bind_eq_some_iff.mp H
            obtain ⟨⟨t115, t116⟩, A100, H⟩ := H
            replace H : (some (t115, t116)) = some (r1, r2) := H
            have A10 := Aside0.mk A100
            clear A100
            simp only [Option.some.injEq, Prod.mk.injEq] at H
            obtain ⟨rfl, rfl⟩ := H
            have p6 : 0 ≤ ((ji3) : Int) := of_decide_eq_true (by first | (with_reducible assumption) | assumption)
            have q6 : (ji3) < (a0.size : Int) := of_decide_eq_true (by first | (with_reducible assumption) | assumption)
            have hx6 := bt_at a0 (ji3)
            replace p6 := eq_true p6
            replace q6 := eq_true q6
            go_enter Tryd.func19, Tryd.ntmps19
            go_wp2_with (first | ((with_reducible refine gate_callee (f := 13) rfl ?_); refine goesL_ (some 19) rfl rfl Tryd.func13 (by kernel_rfl) rfl #[.string (a0.extract 0 ((ji3) : Int).toNat), .int .i64 (-9223372036854775808), .int .i64 9223372036854775807] rfl (by (try simp only [List.map_toArray, List.map_cons, List.map_nil]); first | done | (simp only [hji3]; rfl) | rfl | (simp only [List.length_drop, List.length_take]; rfl)) ?_; (with_reducible refine (spec_NumWhole.calls k (a0.extract 0 ((ji3) : Int).toNat) (-9223372036854775808) 9223372036854775807 t115 t116 _ A10.out).mono ?_); rintro e w' ⟨rfl, ⟨nd, rfl⟩⟩; refine ⟨_, rfl, ?_⟩))
            go_ret2
            exact ⟨by first | rfl | (simp; done) | (simp only [← hji3] <;> (first | rfl | simp)) | (simp [*]; done), by repeat (first | exact Drawn0.refl _ | apply Drawn0.step)⟩
          · rw [if_neg c9] at H
            exact absurd H (by simp)
        · rw [if_neg c7] at H
          have c7b0 : ((bt a0 (ji3)) == 37) = false := beq_eq_false_iff_ne.mpr c7
          have c7b1 : ((bt a0 (ji3)) != 37) = true := bne_iff_ne.mpr c7
          simp only [Option.some.injEq, Prod.mk.injEq] at H
          obtain ⟨rfl, rfl⟩ := H
          have p6 : 0 ≤ ((ji3) : Int) := of_decide_eq_true (by first | (with_reducible assumption) | assumption)
          have q6 : (ji3) < (a0.size : Int) := of_decide_eq_true (by first | (with_reducible assumption) | assumption)
          have hx6 := bt_at a0 (ji3)
          replace p6 := eq_true p6
          replace q6 := eq_true q6
          go_enter Tryd.func19, Tryd.ntmps19
          go_wp2
          go_ret2
          exact ⟨by first | rfl | (simp; done) | (simp only [← hji3] <;> (first | rfl | simp)) | (simp [*]; done), by repeat (first | exact Drawn0.refl _ | apply Drawn0.step)⟩
      · rw [if_neg c5] at H
        exact absurd H (by simp)
    · rw [if_neg c4] at H
      exact absurd H (by simp)

/-! ### spec_NumAbove: function 20 -/
def spec_NumAbove.f (a0 : Int) (a1 : Int) : Option (Int) := if a1 = 0 then (none) else (if (Int.tmod a0 a1) > 0 then (some (wrap64 ((wrap64 (Int.tdiv a0 a1)) + 1))) else (some (wrap64 (Int.tdiv a0 a1))))
set_option maxHeartbeats 8000000 in
set_option maxRecDepth 100000 in
theorem spec_NumAbove.calls (a0 : Int) (a1 : Int) (r : Int) (w : World) (h : spec_NumAbove.f a0 a1 = some r) :
    Calls Tryd.prog 20 #[.int .i64 a0, .int .i64 a1] w fun e w' => e = .returned (.int .i64 r) ∧ Drawn0 w w' := by
  have H : (if a1 = 0 then (none) else (if (Int.tmod a0 a1) > 0 then (some (wrap64 ((wrap64 (Int.tdiv a0 a1)) + 1))) else (some (wrap64 (Int.tdiv a0 a1))))) = some r := h
  clear h
  by_cases c3 : a1 = 0
  · rw [if_pos c3] at H
    exact absurd H (by simp)
  · rw [if_neg c3] at H
    have c3b0 : (a1 == 0) = false := beq_eq_false_iff_ne.mpr c3
    have c3b1 : (a1 != 0) = true := bne_iff_ne.mpr c3
    by_cases c4 : (Int.tmod a0 a1) > 0
    · rw [if_pos c4] at H
      have c4b0 : decide (0 < (Int.tmod a0 a1)) = true := decide_eq_true c4
      clear c4
      obtain rfl := Option.some.inj H
      go_enter Tryd.func20, Tryd.ntmps20
      go_wp2
      go_ret
      exact ⟨by first | rfl | (simp; done) | (simp [*]; done), by repeat (first | exact Drawn0.refl _ | apply Drawn0.step)⟩
    · rw [if_neg c4] at H
      have c4b0 : decide (0 < (Int.tmod a0 a1)) = false := decide_eq_false c4
      clear c4
      obtain rfl := Option.some.inj H
      go_enter Tryd.func20, Tryd.ntmps20
      go_wp2
      go_ret
      exact ⟨by first | rfl | (simp; done) | (simp [*]; done), by repeat (first | exact Drawn0.refl _ | apply Drawn0.step)⟩

/-! ### spec_NumBelow: function 21 -/
def spec_NumBelow.f (a0 : Int) (a1 : Int) : Option (Int) := if a1 = 0 then (none) else (if (Int.tmod a0 a1) < 0 then (some (wrap64 ((wrap64 (Int.tdiv a0 a1)) - 1))) else (some (wrap64 (Int.tdiv a0 a1))))
set_option maxHeartbeats 8000000 in
set_option maxRecDepth 100000 in
theorem spec_NumBelow.calls (a0 : Int) (a1 : Int) (r : Int) (w : World) (h : spec_NumBelow.f a0 a1 = some r) :
    Calls Tryd.prog 21 #[.int .i64 a0, .int .i64 a1] w fun e w' => e = .returned (.int .i64 r) ∧ Drawn0 w w' := by
  have H : (if a1 = 0 then (none) else (if (Int.tmod a0 a1) < 0 then (some (wrap64 ((wrap64 (Int.tdiv a0 a1)) - 1))) else (some (wrap64 (Int.tdiv a0 a1))))) = some r := h
  clear h
  by_cases c3 : a1 = 0
  · rw [if_pos c3] at H
    exact absurd H (by simp)
  · rw [if_neg c3] at H
    have c3b0 : (a1 == 0) = false := beq_eq_false_iff_ne.mpr c3
    have c3b1 : (a1 != 0) = true := bne_iff_ne.mpr c3
    by_cases c4 : (Int.tmod a0 a1) < 0
    · rw [if_pos c4] at H
      have c4b0 : decide ((Int.tmod a0 a1) < 0) = true := decide_eq_true c4
      clear c4
      obtain rfl := Option.some.inj H
      go_enter Tryd.func21, Tryd.ntmps21
      go_wp2
      go_ret
      exact ⟨by first | rfl | (simp; done) | (simp [*]; done), by repeat (first | exact Drawn0.refl _ | apply Drawn0.step)⟩
    · rw [if_neg c4] at H
      have c4b0 : decide ((Int.tmod a0 a1) < 0) = false := decide_eq_false c4
      clear c4
      obtain rfl := Option.some.inj H
      go_enter Tryd.func21, Tryd.ntmps21
      go_wp2
      go_ret
      exact ⟨by first | rfl | (simp; done) | (simp [*]; done), by repeat (first | exact Drawn0.refl _ | apply Drawn0.step)⟩

-- NOT PRINTED: function 6 (laws_FnIntStrScaled)

end Go.Proofs.YtihlmkgffifknaaDoor.PFnIntStrScaled
