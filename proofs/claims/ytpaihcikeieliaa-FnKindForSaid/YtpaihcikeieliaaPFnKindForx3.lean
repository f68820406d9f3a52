/- Functions of the program as plain Lean functions, and that the machine's calls do what these say: written for this claim by wip/myprint.py over the kit's print.py. -/
import Derived.Test.YtpaihcikeieliaaPFnKindForx0
import Derived.Test.YtpaihcikeieliaaPFnKindForx1
import Derived.Test.YtpaihcikeieliaaPFnKindForx2
namespace Go.Proofs.Ytpaihcikeieliaa.PFnKindFor
open Go.RowKit Go.Proofs.YtpaihcikeieliaaW.PrintWords Go.Proofs.YtpaihcikeieliaaW.PrintLast Go.Proofs.YtpaihcikeieliaaW.PrintMore
attribute [local go_sem] max2_int min2_int max_two min_two max_three min_three max_four min_four   -- for this text's walks alone
set_option linter.unusedVariables false
set_option linter.unusedSimpArgs false

attribute [local go_sem high] eqA25
/-! ### spec_KindHas: function 12 -/
def spec_KindHas.l0 : Nat → ByteArray → ByteArray → List (S25) → Bool → Bool → Int → Option (Bool × Bool)
  | 0, _, _, _, _, _, _ => none
  | k + 1, x0, x1, x2, x8, x9, x10 => if x10 < (x2.length : Int) then (if x8 = true then (if x9 = true then (spec_KindHas.l0 k x0 x1 x2 true true (wrap64 (x10 + 1))) else (if 0 ≤ x10 then (if ((rd_T25 x2 x10).f0).toList = x0.toList then (spec_KindHas.l0 k x0 x1 x2 true (((rd_T25 x2 x10).f1).toList == x1.toList) (wrap64 (x10 + 1))) else (spec_KindHas.l0 k x0 x1 x2 true false (wrap64 (x10 + 1)))) else (none))) else (if 0 ≤ x10 then (if x9 = true then (spec_KindHas.l0 k x0 x1 x2 (((rd_T25 x2 x10).f0).toList == x0.toList) true (wrap64 (x10 + 1))) else (if ((rd_T25 x2 x10).f0).toList = x0.toList then (spec_KindHas.l0 k x0 x1 x2 (((rd_T25 x2 x10).f0).toList == x0.toList) (((rd_T25 x2 x10).f1).toList == x1.toList) (wrap64 (x10 + 1))) else (spec_KindHas.l0 k x0 x1 x2 (((rd_T25 x2 x10).f0).toList == x0.toList) false (wrap64 (x10 + 1))))) else (none))) else (some (x8, x9))
def spec_KindHas.f (k : Nat) (a0 : ByteArray) (a1 : ByteArray) (l2 : List (S25)) : Option (Bool × Bool) := spec_KindHas.l0 k a0 a1 l2 false false 0
theorem spec_KindHas.mono_l : ∀ k, (∀ y0 y1 y2 y3 y4 y5, LeO (spec_KindHas.l0 k y0 y1 y2 y3 y4 y5) (spec_KindHas.l0 (k + 1) y0 y1 y2 y3 y4 y5))
  | 0 => fun _ _ _ _ _ _ r h => by simp [spec_KindHas.l0] at h
  | k + 1 => by
    have ih0 := spec_KindHas.mono_l k
    · intro y0 y1 y2 y3 y4 y5
      unfold spec_KindHas.l0
      repeat' first
      | (with_reducible exact ih0 _ _ _ _ _ _)
      | (with_reducible exact LeO.refl _)
      | (with_reducible exact LeO.none _)
      | (with_reducible refine LeO.ite ?_ ?_)
      | (with_reducible refine LeO.bind ?_ (fun _ => ?_))
      | exact ih0 _ _ _ _ _ _
      | exact LeO.none _
      | refine LeO.ite ?_ ?_
      | refine LeO.bind ?_ (fun _ => ?_)
theorem spec_KindHas.mono : ∀ a0 a1 a2 k, LeO (spec_KindHas.f k a0 a1 a2) (spec_KindHas.f (k + 1) a0 a1 a2) := by
  intro a0 a1 a2 k
  have ih0 := spec_KindHas.mono_l k
  unfold spec_KindHas.f
  repeat' first
      | (with_reducible exact ih0 _ _ _ _ _ _)
      | (with_reducible exact LeO.refl _)
      | (with_reducible exact LeO.none _)
      | (with_reducible refine LeO.ite ?_ ?_)
      | (with_reducible refine LeO.bind ?_ (fun _ => ?_))
      | exact ih0 _ _ _ _ _ _
      | exact LeO.none _
      | refine LeO.ite ?_ ?_
      | refine LeO.bind ?_ (fun _ => ?_)
set_option maxHeartbeats 8000000 in
set_option maxRecDepth 100000 in
theorem spec_KindHas.calls (k : Nat) (a0 : ByteArray) (a1 : ByteArray) (A2 : Option Addr) (c2 : Nat) (l2 : List (S25)) (r1 : Bool) (r2 : Bool) (w : World) (hr2 : Kd.C k25 w A2 l2.length l2) (hc2 : l2.length ≤ c2) (h : spec_KindHas.f k a0 a1 l2 = some (r1, r2)) :
    Calls Try.prog 12 #[.string a0, .string a1, .slice A2 l2.length c2] w fun e w' => e = .returned (.tuple #[.bool r1, .bool r2]) ∧ Drawn0 w w' := by
  have HR2 := Aside0.mk hr2
  have HC2 := Aside0.mk hc2
  clear hr2 hc2
  have H : (spec_KindHas.l0 k a0 a1 l2 false false 0) = some (r1, r2) := h
  clear h
  have H' := Aside0.mk H
  clear H
  go_enter Try.func12, Try.ntmps12
  go_wp2
  go_loopg [8, 9, 10] k (fun kq v8 v9 v10 w' => ∃ (x8_1 : Bool) (x9_1 : Bool) (x10_1 : Int), v8 = .bool x8_1 ∧ v9 = .bool x9_1 ∧ v10 = .int .i64 x10_1 ∧ Aside0 (spec_KindHas.l0 kq a0 a1 l2 x8_1 x9_1 x10_1 = some (r1, r2)) ∧ Aside0 (kq ≤ k) ∧ Drawn0 w w')
  case atStart => exact ⟨(false), (false), (0), (by first | rfl | (simp; done) | (simp [*]; done)), (by first | rfl | (simp; done) | (simp [*]; done)), (by first | rfl | (simp; done) | (simp [*]; done)), H', ⟨Nat.le_refl _⟩, by repeat (first | exact Drawn0.refl _ | apply Drawn0.step)⟩
  case round =>
    clear H'
    try clear c1
    try clear c2
    try clear p2
    obtain ⟨x8_1, x9_1, x10_1, rfl, rfl, rfl, HA, HK1, ⟨m1, rfl⟩⟩ := hrel
    cases gk with
    | zero => exact absurd HA.out (by simp [spec_KindHas.l0])
    | succ k1 =>
      have H := HA.out
      clear HA
      simp only [spec_KindHas.l0] at H
      by_cases c4 : x10_1 < (l2.length : Int)
      · rw [if_pos c4] at H
        have c4b0 : decide (x10_1 < (l2.length : Int)) = true := decide_eq_true c4
        clear c4
        by_cases c5 : x8_1 = true
        · subst c5
          have H1 : (if x9_1 = true then (spec_KindHas.l0 k1 a0 a1 l2 true true (wrap64 (x10_1 + 1))) else (if 0 ≤ x10_1 then (if ((rd_T25 l2 x10_1).f0).toList = a0.toList then (spec_KindHas.l0 k1 a0 a1 l2 true (((rd_T25 l2 x10_1).f1).toList == a1.toList) (wrap64 (x10_1 + 1))) else (spec_KindHas.l0 k1 a0 a1 l2 true false (wrap64 (x10_1 + 1)))) else (none))) = some (r1, r2) := by rw [if_pos rfl] at H; exact H
          clear H
          have H := H1
          clear H1
          by_cases c6 : x9_1 = true
          · subst c6
            have H1 : (spec_KindHas.l0 k1 a0 a1 l2 true true (wrap64 (x10_1 + 1))) = some (r1, r2) := by rw [if_pos rfl] at H; exact H
            clear H
            have H := H1
            clear H1
            have H' := Aside0.mk H
            clear H
            go_wp2
            go_roundg k1
            case measure => have := HK1.out; omega
            case rel => exact ⟨(true), (true), (wrap64 (x10_1 + 1)), (by first | rfl | (simp; done) | (simp [*]; done)), (by first | rfl | (simp; done) | (simp [*]; done)), (by first | rfl | (simp; done) | (simp [*]; done)), H', ⟨by have := HK1.out; omega⟩, by repeat (first | exact Drawn0.refl _ | apply Drawn0.step)⟩
          · replace c6 := Bool.eq_false_iff.mpr c6
            subst c6
            have H1 : (if 0 ≤ x10_1 then (if ((rd_T25 l2 x10_1).f0).toList = a0.toList then (spec_KindHas.l0 k1 a0 a1 l2 true (((rd_T25 l2 x10_1).f1).toList == a1.toList) (wrap64 (x10_1 + 1))) else (spec_KindHas.l0 k1 a0 a1 l2 true false (wrap64 (x10_1 + 1)))) else (none)) = some (r1, r2) := by rw [if_neg (show ¬ (false = true) by decide)] at H; exact H
            clear H
            have H := H1
            clear H1
            by_cases c7 : 0 ≤ x10_1
            · rw [if_pos c7] at H
              have c7b0 : decide (0 ≤ x10_1) = true := decide_eq_true c7
              clear c7
              by_cases c8 : ((rd_T25 l2 x10_1).f0).toList = a0.toList
              · rw [if_pos c8] at H
                have c8b0 : (((rd_T25 l2 x10_1).f0).toList == a0.toList) = true := beq_iff_eq.mpr c8
                have c8b1 : (((rd_T25 l2 x10_1).f0).toList != a0.toList) = false := bne_eq_false_iff_eq.mpr c8
                clear c8
                have H' := Aside0.mk H
                clear H
                have p135 : 0 ≤ (x10_1 : Int) := of_decide_eq_true (by first | (with_reducible assumption) | assumption)
                have q135 : x10_1 < (l2.length : Int) := of_decide_eq_true (by first | (with_reducible assumption) | assumption)
                obtain ⟨ad135, e135, hx135_0, hx135_1, hx135_2⟩ := at_T25 HR2.out x10_1 p135 q135
                cases e135
                replace p135 := eq_true p135
                replace q135 := eq_true q135
                have p136 : 0 ≤ (x10_1 : Int) := of_decide_eq_true (by first | (with_reducible assumption) | assumption)
                have q136 : x10_1 < (l2.length : Int) := of_decide_eq_true (by first | (with_reducible assumption) | assumption)
                obtain ⟨ad136, e136, hx136_0, hx136_1, hx136_2⟩ := at_T25 HR2.out x10_1 p136 q136
                obtain rfl : ad135 = ad136 := (by injection e136)
                replace p136 := eq_true p136
                replace q136 := eq_true q136
                go_wp2
                go_roundg k1
                case measure => have := HK1.out; omega
                case rel => exact ⟨(true), ((((rd_T25 l2 x10_1).f1).toList == a1.toList)), (wrap64 (x10_1 + 1)), (by first | rfl | (simp; done) | (simp [*]; done)), (by first | rfl | (simp; done) | (simp [*]; done)), (by first | rfl | (simp; done) | (simp [*]; done)), H', ⟨by have := HK1.out; omega⟩, by repeat (first | exact Drawn0.refl _ | apply Drawn0.step)⟩
              · rw [if_neg c8] at H
                have c8b0 : (((rd_T25 l2 x10_1).f0).toList == a0.toList) = false := beq_eq_false_iff_ne.mpr c8
                have c8b1 : (((rd_T25 l2 x10_1).f0).toList != a0.toList) = true := bne_iff_ne.mpr c8
                have H' := Aside0.mk H
                clear H
                have p135 : 0 ≤ (x10_1 : Int) := of_decide_eq_true (by first | (with_reducible assumption) | assumption)
                have q135 : x10_1 < (l2.length : Int) := of_decide_eq_true (by first | (with_reducible assumption) | assumption)
                obtain ⟨ad135, e135, hx135_0, hx135_1, hx135_2⟩ := at_T25 HR2.out x10_1 p135 q135
                cases e135
                replace p135 := eq_true p135
                replace q135 := eq_true q135
                go_wp2
                go_roundg k1
                case measure => have := HK1.out; omega
                case rel => exact ⟨(true), (false), (wrap64 (x10_1 + 1)), (by first | rfl | (simp; done) | (simp [*]; done)), (by first | rfl | (simp; done) | (simp [*]; done)), (by first | rfl | (simp; done) | (simp [*]; done)), H', ⟨by have := HK1.out; omega⟩, by repeat (first | exact Drawn0.refl _ | apply Drawn0.step)⟩
            · rw [if_neg c7] at H
              exact absurd H (by simp)
        · replace c5 := Bool.eq_false_iff.mpr c5
          subst c5
          have H1 : (if 0 ≤ x10_1 then (if x9_1 = true then (spec_KindHas.l0 k1 a0 a1 l2 (((rd_T25 l2 x10_1).f0).toList == a0.toList) true (wrap64 (x10_1 + 1))) else (if ((rd_T25 l2 x10_1).f0).toList = a0.toList then (spec_KindHas.l0 k1 a0 a1 l2 (((rd_T25 l2 x10_1).f0).toList == a0.toList) (((rd_T25 l2 x10_1).f1).toList == a1.toList) (wrap64 (x10_1 + 1))) else (spec_KindHas.l0 k1 a0 a1 l2 (((rd_T25 l2 x10_1).f0).toList == a0.toList) false (wrap64 (x10_1 + 1))))) else (none)) = some (r1, r2) := by rw [if_neg (show ¬ (false = true) by decide)] at H; exact H
          clear H
          have H := H1
          clear H1
          by_cases c9 : 0 ≤ x10_1
          · rw [if_pos c9] at H
            have c9b0 : decide (0 ≤ x10_1) = true := decide_eq_true c9
            clear c9
            by_cases c10 : x9_1 = true
            · subst c10
              have H1 : (spec_KindHas.l0 k1 a0 a1 l2 (((rd_T25 l2 x10_1).f0).toList == a0.toList) true (wrap64 (x10_1 + 1))) = some (r1, r2) := by rw [if_pos rfl] at H; exact H
              clear H
              have H := H1
              clear H1
              have H' := Aside0.mk H
              clear H
              have p137 : 0 ≤ (x10_1 : Int) := of_decide_eq_true (by first | (with_reducible assumption) | assumption)
              have q137 : x10_1 < (l2.length : Int) := of_decide_eq_true (by first | (with_reducible assumption) | assumption)
              obtain ⟨ad137, e137, hx137_0, hx137_1, hx137_2⟩ := at_T25 HR2.out x10_1 p137 q137
              cases e137
              replace p137 := eq_true p137
              replace q137 := eq_true q137
              go_wp2
              go_roundg k1
              case measure => have := HK1.out; omega
              case rel => exact ⟨((((rd_T25 l2 x10_1).f0).toList == a0.toList)), (true), (wrap64 (x10_1 + 1)), (by first | rfl | (simp; done) | (simp [*]; done)), (by first | rfl | (simp; done) | (simp [*]; done)), (by first | rfl | (simp; done) | (simp [*]; done)), H', ⟨by have := HK1.out; omega⟩, by repeat (first | exact Drawn0.refl _ | apply Drawn0.step)⟩
            · replace c10 := Bool.eq_false_iff.mpr c10
              subst c10
              have H1 : (if ((rd_T25 l2 x10_1).f0).toList = a0.toList then (spec_KindHas.l0 k1 a0 a1 l2 (((rd_T25 l2 x10_1).f0).toList == a0.toList) (((rd_T25 l2 x10_1).f1).toList == a1.toList) (wrap64 (x10_1 + 1))) else (spec_KindHas.l0 k1 a0 a1 l2 (((rd_T25 l2 x10_1).f0).toList == a0.toList) false (wrap64 (x10_1 + 1)))) = some (r1, r2) := by rw [if_neg (show ¬ (false = true) by decide)] at H; exact H
              clear H
              have H := H1
              clear H1
              by_cases c11 : ((rd_T25 l2 x10_1).f0).toList = a0.toList
              · rw [if_pos c11] at H
                have c11b0 : (((rd_T25 l2 x10_1).f0).toList == a0.toList) = true := beq_iff_eq.mpr c11
                have c11b1 : (((rd_T25 l2 x10_1).f0).toList != a0.toList) = false := bne_eq_false_iff_eq.mpr c11
                clear c11
                have H' := Aside0.mk H
                clear H
                have p137 : 0 ≤ (x10_1 : Int) := of_decide_eq_true (by first | (with_reducible assumption) | assumption)
                have q137 : x10_1 < (l2.length : Int) := of_decide_eq_true (by first | (with_reducible assumption) | assumption)
                obtain ⟨ad137, e137, hx137_0, hx137_1, hx137_2⟩ := at_T25 HR2.out x10_1 p137 q137
                cases e137
                replace p137 := eq_true p137
                replace q137 := eq_true q137
                have p138 : 0 ≤ (x10_1 : Int) := of_decide_eq_true (by first | (with_reducible assumption) | assumption)
                have q138 : x10_1 < (l2.length : Int) := of_decide_eq_true (by first | (with_reducible assumption) | assumption)
                obtain ⟨ad138, e138, hx138_0, hx138_1, hx138_2⟩ := at_T25 HR2.out x10_1 p138 q138
                obtain rfl : ad137 = ad138 := (by injection e138)
                replace p138 := eq_true p138
                replace q138 := eq_true q138
                have p139 : 0 ≤ (x10_1 : Int) := of_decide_eq_true (by first | (with_reducible assumption) | assumption)
                have q139 : x10_1 < (l2.length : Int) := of_decide_eq_true (by first | (with_reducible assumption) | assumption)
                obtain ⟨ad139, e139, hx139_0, hx139_1, hx139_2⟩ := at_T25 HR2.out x10_1 p139 q139
                obtain rfl : ad137 = ad139 := (by injection e139)
                replace p139 := eq_true p139
                replace q139 := eq_true q139
                go_wp2
                go_roundg k1
                case measure => have := HK1.out; omega
                case rel => exact ⟨((((rd_T25 l2 x10_1).f0).toList == a0.toList)), ((((rd_T25 l2 x10_1).f1).toList == a1.toList)), (wrap64 (x10_1 + 1)), (by first | rfl | (simp; done) | (simp [*]; done)), (by first | rfl | (simp; done) | (simp [*]; done)), (by first | rfl | (simp; done) | (simp [*]; done)), H', ⟨by have := HK1.out; omega⟩, by repeat (first | exact Drawn0.refl _ | apply Drawn0.step)⟩
              · rw [if_neg c11] at H
                have c11b0 : (((rd_T25 l2 x10_1).f0).toList == a0.toList) = false := beq_eq_false_iff_ne.mpr c11
                have c11b1 : (((rd_T25 l2 x10_1).f0).toList != a0.toList) = true := bne_iff_ne.mpr c11
                have H' := Aside0.mk H
                clear H
                have p137 : 0 ≤ (x10_1 : Int) := of_decide_eq_true (by first | (with_reducible assumption) | assumption)
                have q137 : x10_1 < (l2.length : Int) := of_decide_eq_true (by first | (with_reducible assumption) | assumption)
                obtain ⟨ad137, e137, hx137_0, hx137_1, hx137_2⟩ := at_T25 HR2.out x10_1 p137 q137
                cases e137
                replace p137 := eq_true p137
                replace q137 := eq_true q137
                have p138 : 0 ≤ (x10_1 : Int) := of_decide_eq_true (by first | (with_reducible assumption) | assumption)
                have q138 : x10_1 < (l2.length : Int) := of_decide_eq_true (by first | (with_reducible assumption) | assumption)
                obtain ⟨ad138, e138, hx138_0, hx138_1, hx138_2⟩ := at_T25 HR2.out x10_1 p138 q138
                obtain rfl : ad137 = ad138 := (by injection e138)
                replace p138 := eq_true p138
                replace q138 := eq_true q138
                go_wp2
                go_roundg k1
                case measure => have := HK1.out; omega
                case rel => exact ⟨((((rd_T25 l2 x10_1).f0).toList == a0.toList)), (false), (wrap64 (x10_1 + 1)), (by first | rfl | (simp; done) | (simp [*]; done)), (by first | rfl | (simp; done) | (simp [*]; done)), (by first | rfl | (simp; done) | (simp [*]; done)), H', ⟨by have := HK1.out; omega⟩, by repeat (first | exact Drawn0.refl _ | apply Drawn0.step)⟩
          · rw [if_neg c9] at H
            exact absurd H (by simp)
      · rw [if_neg c4] at H
        have c4b0 : decide (x10_1 < (l2.length : Int)) = false := decide_eq_false c4
        clear c4
        simp only [Option.some.injEq, Prod.mk.injEq] at H
        obtain ⟨rfl, rfl⟩ := H
        go_wp2
        go_ret2
        exact ⟨by first | rfl | (simp; done) | (simp [*]; done), by repeat (first | exact Drawn0.refl _ | apply Drawn0.step)⟩

/-! ### spec_KindFirst: function 13 -/
def spec_KindFirst.l0 : Nat → ByteArray → ByteArray → List (S25) → Bool → Int → Option (ByteArray × ByteArray × ByteArray × Bool)
  | 0, _, _, _, _, _ => none
  | k + 1, x0, x1, x2, x3, x10 => if x10 < (x2.length : Int) then (if 0 ≤ x10 then (if ((rd_T25 x2 x10).f0).toList = x0.toList then (if x3 = true then (if ((rd_T25 x2 x10).f1).toList = x1.toList then (some ((rd_T25 x2 x10).f0, (rd_T25 x2 x10).f1, (rd_T25 x2 x10).f2, true)) else (spec_KindFirst.l0 k x0 x1 x2 x3 (wrap64 (x10 + 1)))) else (some ((rd_T25 x2 x10).f0, (rd_T25 x2 x10).f1, (rd_T25 x2 x10).f2, true))) else (spec_KindFirst.l0 k x0 x1 x2 x3 (wrap64 (x10 + 1)))) else (none)) else (some ((⟨#[]⟩ : ByteArray), (⟨#[]⟩ : ByteArray), (⟨#[]⟩ : ByteArray), false))
def spec_KindFirst.f (k : Nat) (a0 : ByteArray) (a1 : ByteArray) (l2 : List (S25)) (a3 : Bool) : Option (ByteArray × ByteArray × ByteArray × Bool) := spec_KindFirst.l0 k a0 a1 l2 a3 0
theorem spec_KindFirst.mono_l : ∀ k, (∀ y0 y1 y2 y3 y4, LeO (spec_KindFirst.l0 k y0 y1 y2 y3 y4) (spec_KindFirst.l0 (k + 1) y0 y1 y2 y3 y4))
  | 0 => fun _ _ _ _ _ r h => by simp [spec_KindFirst.l0] at h
  | k + 1 => by
    have ih0 := spec_KindFirst.mono_l k
    · intro y0 y1 y2 y3 y4
      unfold spec_KindFirst.l0
      repeat' first
      | (with_reducible exact ih0 _ _ _ _ _)
      | (with_reducible exact LeO.refl _)
      | (with_reducible exact LeO.none _)
      | (with_reducible refine LeO.ite ?_ ?_)
      | (with_reducible refine LeO.bind ?_ (fun _ => ?_))
      | exact ih0 _ _ _ _ _
      | exact LeO.none _
      | refine LeO.ite ?_ ?_
      | refine LeO.bind ?_ (fun _ => ?_)
theorem spec_KindFirst.mono : ∀ a0 a1 a2 a3 k, LeO (spec_KindFirst.f k a0 a1 a2 a3) (spec_KindFirst.f (k + 1) a0 a1 a2 a3) := by
  intro a0 a1 a2 a3 k
  have ih0 := spec_KindFirst.mono_l k
  unfold spec_KindFirst.f
  repeat' first
      | (with_reducible exact ih0 _ _ _ _ _)
      | (with_reducible exact LeO.refl _)
      | (with_reducible exact LeO.none _)
      | (with_reducible refine LeO.ite ?_ ?_)
      | (with_reducible refine LeO.bind ?_ (fun _ => ?_))
      | exact ih0 _ _ _ _ _
      | exact LeO.none _
      | refine LeO.ite ?_ ?_
      | refine LeO.bind ?_ (fun _ => ?_)
set_option maxHeartbeats 8000000 in
set_option maxRecDepth 100000 in
theorem spec_KindFirst.calls (k : Nat) (a0 : ByteArray) (a1 : ByteArray) (A2 : Option Addr) (c2 : Nat) (l2 : List (S25)) (a3 : Bool) (r1 : ByteArray) (r2 : ByteArray) (r3 : ByteArray) (r4 : Bool) (w : World) (hr2 : Kd.C k25 w A2 l2.length l2) (hc2 : l2.length ≤ c2) (h : spec_KindFirst.f k a0 a1 l2 a3 = some (r1, r2, r3, r4)) :
    Calls Try.prog 13 #[.string a0, .string a1, .slice A2 l2.length c2, .bool a3] w fun e w' => e = .returned (.tuple #[.agg #[.string r1, .string r2, .string r3], .bool r4]) ∧ Below w.heap.size w w' := by
  have hu25 := Try.underlying25
  have HR2 := Aside0.mk hr2
  have HC2 := Aside0.mk hc2
  clear hr2 hc2
  have HB := Aside0.mk (Below.refl w.heap.size w)
  have H : (spec_KindFirst.l0 k a0 a1 l2 a3 0) = some (r1, r2, r3, r4) := h
  clear h
  have H' := Aside0.mk H
  clear H
  go_enter Try.func13, Try.ntmps13
  go_wp2_with (first | ((with_reducible refine gate_dst (N := 8) rfl ?_); refine box_event ?hg (N := 8) ?hd (cs := #[.string (⟨#[]⟩ : ByteArray), .string (⟨#[]⟩ : ByteArray), .string (⟨#[]⟩ : ByteArray)]) (t := 25) ?hr ?_; (case hd => rfl); (case hg => rfl); (case hr => first | (go_simp; done) | (go_simp; rfl)); intro gb140 hg w5 hbox hb; have n0_ := Aside0.mk (below_step (by repeat (first | (with_reducible first | exact HB.out | apply below_alloc | apply pw_below_drewN | apply below_drew1) | exact HB.out)) hb); have n1_ := Aside0.mk (hbox); have n2_ := Aside0.mk ((by rw [hg]; exact (below_size (by repeat (first | (with_reducible first | exact HB.out | apply below_alloc | apply pw_below_drewN | apply below_drew1) | exact HB.out))) : w.heap.size ≤ gb140)); have n3_ := Aside0.mk ((by rw [hg]; exact (below_size (by repeat (first | (with_reducible first | exact HB.out | apply below_alloc | apply pw_below_drewN | apply below_drew1) | exact HB.out))) : w.heap.size ≤ gb140)); clear HB; have HB := n0_; have BK140 := n1_; have GW140 := n2_; have GE140 := n3_; clear n0_ n1_ n2_ n3_; clear hb hbox hg))
  go_loopg [10] k (fun kq v10 w' => ∃ (x10_1 : Int) (x141000_1 : ByteArray) (x141001_1 : ByteArray) (x141002_1 : ByteArray), v10 = .int .i64 x10_1 ∧ Aside0 (spec_KindFirst.l0 kq a0 a1 l2 a3 x10_1 = some (r1, r2, r3, r4)) ∧ Aside0 (kq ≤ k) ∧ Aside0 (w'.heap[gb140]? = some (.cells #[.string x141000_1, .string x141001_1, .string x141002_1] 25 (0, 0))) ∧ Aside0 (Below w.heap.size w w'))
  case atStart => exact ⟨(0), ((⟨#[]⟩ : ByteArray)), ((⟨#[]⟩ : ByteArray)), ((⟨#[]⟩ : ByteArray)), (by first | rfl | (simp; done) | (simp [*]; done)), H', ⟨Nat.le_refl _⟩, ⟨by (with_reducible repeat (first | refine blk_drewN ?_ _ | refine blk_drew ?_ | refine blk_alloc ?_ _)); exact BK140.out⟩, ⟨by repeat (first | (with_reducible first | exact HB.out | apply below_alloc | apply pw_below_drewN | apply below_drew1 | refine below_set ?_ GE140.out) | exact HB.out)⟩⟩
  case round =>
    clear H'
    try clear c1
    try clear c2
    try clear p2
    obtain ⟨x10_1, x141000_1, x141001_1, x141002_1, rfl, HA, HK1, BK140, HB⟩ := hrel
    cases gk with
    | zero => exact absurd HA.out (by simp [spec_KindFirst.l0])
    | succ k1 =>
      have H := HA.out
      clear HA
      simp only [spec_KindFirst.l0] at H
      by_cases c6 : x10_1 < (l2.length : Int)
      · rw [if_pos c6] at H
        have c6b0 : decide (x10_1 < (l2.length : Int)) = true := decide_eq_true c6
        clear c6
        by_cases c7 : 0 ≤ x10_1
        · rw [if_pos c7] at H
          have c7b0 : decide (0 ≤ x10_1) = true := decide_eq_true c7
          clear c7
          by_cases c8 : ((rd_T25 l2 x10_1).f0).toList = a0.toList
          · rw [if_pos c8] at H
            have c8b0 : (((rd_T25 l2 x10_1).f0).toList == a0.toList) = true := beq_iff_eq.mpr c8
            have c8b1 : (((rd_T25 l2 x10_1).f0).toList != a0.toList) = false := bne_eq_false_iff_eq.mpr c8
            clear c8
            by_cases c9 : a3 = true
            · subst c9
              have H1 : (if ((rd_T25 l2 x10_1).f1).toList = a1.toList then (some ((rd_T25 l2 x10_1).f0, (rd_T25 l2 x10_1).f1, (rd_T25 l2 x10_1).f2, true)) else (spec_KindFirst.l0 k1 a0 a1 l2 true (wrap64 (x10_1 + 1)))) = some (r1, r2, r3, r4) := by rw [if_pos rfl] at H; exact H
              clear H
              have H := H1
              clear H1
              by_cases c10 : ((rd_T25 l2 x10_1).f1).toList = a1.toList
              · rw [if_pos c10] at H
                have c10b0 : (((rd_T25 l2 x10_1).f1).toList == a1.toList) = true := beq_iff_eq.mpr c10
                have c10b1 : (((rd_T25 l2 x10_1).f1).toList != a1.toList) = false := bne_eq_false_iff_eq.mpr c10
                clear c10
                simp only [Option.some.injEq, Prod.mk.injEq] at H
                obtain ⟨rfl, rfl, rfl, rfl⟩ := H
                have p141 : 0 ≤ (x10_1 : Int) := of_decide_eq_true (by first | (with_reducible assumption) | assumption)
                have q141 : x10_1 < (l2.length : Int) := of_decide_eq_true (by first | (with_reducible assumption) | assumption)
                obtain ⟨ad141, e141, hx141_0, hx141_1, hx141_2⟩ := at_T25 HR2.out x10_1 p141 q141
                cases e141
                replace hx141_0 := (HB.out.cell (World.block_lt_of_cell? w _ hx141_0)).trans hx141_0
                replace hx141_1 := (HB.out.cell (World.block_lt_of_cell? w _ hx141_1)).trans hx141_1
                replace hx141_2 := (HB.out.cell (World.block_lt_of_cell? w _ hx141_2)).trans hx141_2
                replace p141 := eq_true p141
                replace q141 := eq_true q141
                have p142 : 0 ≤ (x10_1 : Int) := of_decide_eq_true (by first | (with_reducible assumption) | assumption)
                have q142 : x10_1 < (l2.length : Int) := of_decide_eq_true (by first | (with_reducible assumption) | assumption)
                obtain ⟨ad142, e142, hx142_0, hx142_1, hx142_2⟩ := at_T25 HR2.out x10_1 p142 q142
                obtain rfl : ad141 = ad142 := (by injection e142)
                replace hx142_0 := (HB.out.cell (World.block_lt_of_cell? w _ hx142_0)).trans hx142_0
                replace hx142_1 := (HB.out.cell (World.block_lt_of_cell? w _ hx142_1)).trans hx142_1
                replace hx142_2 := (HB.out.cell (World.block_lt_of_cell? w _ hx142_2)).trans hx142_2
                replace p142 := eq_true p142
                replace q142 := eq_true q142
                have p143 : 0 ≤ (x10_1 : Int) := of_decide_eq_true (by first | (with_reducible assumption) | assumption)
                have q143 : x10_1 < (l2.length : Int) := of_decide_eq_true (by first | (with_reducible assumption) | assumption)
                obtain ⟨ad143, e143, hx143_0, hx143_1, hx143_2⟩ := at_T25 HR2.out x10_1 p143 q143
                obtain rfl : ad141 = ad143 := (by injection e143)
                replace hx143_0 := (HB.out.cell (World.block_lt_of_cell? w _ hx143_0)).trans hx143_0
                replace hx143_1 := (HB.out.cell (World.block_lt_of_cell? w _ hx143_1)).trans hx143_1
                replace hx143_2 := (HB.out.cell (World.block_lt_of_cell? w _ hx143_2)).trans hx143_2
                replace p143 := eq_true p143
                replace q143 := eq_true q143
                have hcz11_0 : wr.cell? ⟨gb140, 0, none⟩ = some (.string x141000_1) := (blk_cell BK140.out 0).trans rfl
                have hcz11_1 : wr.cell? ⟨gb140, 1, none⟩ = some (.string x141001_1) := (blk_cell BK140.out 1).trans rfl
                have hcz11_2 : wr.cell? ⟨gb140, 2, none⟩ = some (.string x141002_1) := (blk_cell BK140.out 2).trans rfl
                have hfz11_0 := blk_frozen BK140.out 0
                have hfz11_1 := blk_frozen BK140.out 1
                have hfz11_2 := blk_frozen BK140.out 2
                go_wp2
                refine bodyPost_ret (results_ct rfl _ _ gb140 25 #[.string ((rd_T25 l2 x10_1).f0), .string ((rd_T25 l2 x10_1).f1), .string ((rd_T25 l2 x10_1).f2)] (0, 0) _ rfl (by (with_reducible repeat (first | refine blk_drewN ?_ _ | refine blk_drew ?_ | refine blk_alloc ?_ _)); refine blk_put (cs := #[.string ((rd_T25 l2 x10_1).f0), .string ((rd_T25 l2 x10_1).f1), .string x141002_1]) ?_ 2 _ rfl; (with_reducible repeat (first | refine blk_drewN ?_ _ | refine blk_drew ?_ | refine blk_alloc ?_ _)); refine blk_put (cs := #[.string ((rd_T25 l2 x10_1).f0), .string x141001_1, .string x141002_1]) ?_ 1 _ rfl; (with_reducible repeat (first | refine blk_drewN ?_ _ | refine blk_drew ?_ | refine blk_alloc ?_ _)); refine blk_put (cs := #[.string x141000_1, .string x141001_1, .string x141002_1]) ?_ 0 _ rfl; (with_reducible repeat (first | refine blk_drewN ?_ _ | refine blk_drew ?_ | refine blk_alloc ?_ _)); exact BK140.out) Try.underlying25 rfl (by kernel_rfl)) rfl ?_
                exact ⟨by first | rfl | (simp [errW_none, errW_some] <;> rfl) | (simp [*, errW_none, errW_some] <;> rfl), by repeat (first | (with_reducible first | exact HB.out | apply below_alloc | apply pw_below_drewN | apply below_drew1 | refine below_set ?_ GE140.out) | exact HB.out)⟩
              · rw [if_neg c10] at H
                have c10b0 : (((rd_T25 l2 x10_1).f1).toList == a1.toList) = false := beq_eq_false_iff_ne.mpr c10
                have c10b1 : (((rd_T25 l2 x10_1).f1).toList != a1.toList) = true := bne_iff_ne.mpr c10
                have H' := Aside0.mk H
                clear H
                have p141 : 0 ≤ (x10_1 : Int) := of_decide_eq_true (by first | (with_reducible assumption) | assumption)
                have q141 : x10_1 < (l2.length : Int) := of_decide_eq_true (by first | (with_reducible assumption) | assumption)
                obtain ⟨ad141, e141, hx141_0, hx141_1, hx141_2⟩ := at_T25 HR2.out x10_1 p141 q141
                cases e141
                replace hx141_0 := (HB.out.cell (World.block_lt_of_cell? w _ hx141_0)).trans hx141_0
                replace hx141_1 := (HB.out.cell (World.block_lt_of_cell? w _ hx141_1)).trans hx141_1
                replace hx141_2 := (HB.out.cell (World.block_lt_of_cell? w _ hx141_2)).trans hx141_2
                replace p141 := eq_true p141
                replace q141 := eq_true q141
                have p142 : 0 ≤ (x10_1 : Int) := of_decide_eq_true (by first | (with_reducible assumption) | assumption)
                have q142 : x10_1 < (l2.length : Int) := of_decide_eq_true (by first | (with_reducible assumption) | assumption)
                obtain ⟨ad142, e142, hx142_0, hx142_1, hx142_2⟩ := at_T25 HR2.out x10_1 p142 q142
                obtain rfl : ad141 = ad142 := (by injection e142)
                replace hx142_0 := (HB.out.cell (World.block_lt_of_cell? w _ hx142_0)).trans hx142_0
                replace hx142_1 := (HB.out.cell (World.block_lt_of_cell? w _ hx142_1)).trans hx142_1
                replace hx142_2 := (HB.out.cell (World.block_lt_of_cell? w _ hx142_2)).trans hx142_2
                replace p142 := eq_true p142
                replace q142 := eq_true q142
                go_wp2
                go_roundg k1
                case measure => have := HK1.out; omega
                case rel => exact ⟨(wrap64 (x10_1 + 1)), (x141000_1), (x141001_1), (x141002_1), (by first | rfl | (simp; done) | (simp [*]; done)), H', ⟨by have := HK1.out; omega⟩, ⟨by (with_reducible repeat (first | refine blk_drewN ?_ _ | refine blk_drew ?_ | refine blk_alloc ?_ _)); exact BK140.out⟩, ⟨by repeat (first | (with_reducible first | exact HB.out | apply below_alloc | apply pw_below_drewN | apply below_drew1 | refine below_set ?_ GE140.out) | exact HB.out)⟩⟩
            · replace c9 := Bool.eq_false_iff.mpr c9
              subst c9
              have H1 : (some ((rd_T25 l2 x10_1).f0, (rd_T25 l2 x10_1).f1, (rd_T25 l2 x10_1).f2, true)) = some (r1, r2, r3, r4) := by rw [if_neg (show ¬ (false = true) by decide)] at H; exact H
              clear H
              have H := H1
              clear H1
              simp only [Option.some.injEq, Prod.mk.injEq] at H
              obtain ⟨rfl, rfl, rfl, rfl⟩ := H
              have p141 : 0 ≤ (x10_1 : Int) := of_decide_eq_true (by first | (with_reducible assumption) | assumption)
              have q141 : x10_1 < (l2.length : Int) := of_decide_eq_true (by first | (with_reducible assumption) | assumption)
              obtain ⟨ad141, e141, hx141_0, hx141_1, hx141_2⟩ := at_T25 HR2.out x10_1 p141 q141
              cases e141
              replace hx141_0 := (HB.out.cell (World.block_lt_of_cell? w _ hx141_0)).trans hx141_0
              replace hx141_1 := (HB.out.cell (World.block_lt_of_cell? w _ hx141_1)).trans hx141_1
              replace hx141_2 := (HB.out.cell (World.block_lt_of_cell? w _ hx141_2)).trans hx141_2
              replace p141 := eq_true p141
              replace q141 := eq_true q141
              have p144 : 0 ≤ (x10_1 : Int) := of_decide_eq_true (by first | (with_reducible assumption) | assumption)
              have q144 : x10_1 < (l2.length : Int) := of_decide_eq_true (by first | (with_reducible assumption) | assumption)
              obtain ⟨ad144, e144, hx144_0, hx144_1, hx144_2⟩ := at_T25 HR2.out x10_1 p144 q144
              obtain rfl : ad141 = ad144 := (by injection e144)
              replace hx144_0 := (HB.out.cell (World.block_lt_of_cell? w _ hx144_0)).trans hx144_0
              replace hx144_1 := (HB.out.cell (World.block_lt_of_cell? w _ hx144_1)).trans hx144_1
              replace hx144_2 := (HB.out.cell (World.block_lt_of_cell? w _ hx144_2)).trans hx144_2
              replace p144 := eq_true p144
              replace q144 := eq_true q144
              have hcz12_0 : wr.cell? ⟨gb140, 0, none⟩ = some (.string x141000_1) := (blk_cell BK140.out 0).trans rfl
              have hcz12_1 : wr.cell? ⟨gb140, 1, none⟩ = some (.string x141001_1) := (blk_cell BK140.out 1).trans rfl
              have hcz12_2 : wr.cell? ⟨gb140, 2, none⟩ = some (.string x141002_1) := (blk_cell BK140.out 2).trans rfl
              have hfz12_0 := blk_frozen BK140.out 0
              have hfz12_1 := blk_frozen BK140.out 1
              have hfz12_2 := blk_frozen BK140.out 2
              go_wp2
              refine bodyPost_ret (results_ct rfl _ _ gb140 25 #[.string ((rd_T25 l2 x10_1).f0), .string ((rd_T25 l2 x10_1).f1), .string ((rd_T25 l2 x10_1).f2)] (0, 0) _ rfl (by (with_reducible repeat (first | refine blk_drewN ?_ _ | refine blk_drew ?_ | refine blk_alloc ?_ _)); refine blk_put (cs := #[.string ((rd_T25 l2 x10_1).f0), .string ((rd_T25 l2 x10_1).f1), .string x141002_1]) ?_ 2 _ rfl; (with_reducible repeat (first | refine blk_drewN ?_ _ | refine blk_drew ?_ | refine blk_alloc ?_ _)); refine blk_put (cs := #[.string ((rd_T25 l2 x10_1).f0), .string x141001_1, .string x141002_1]) ?_ 1 _ rfl; (with_reducible repeat (first | refine blk_drewN ?_ _ | refine blk_drew ?_ | refine blk_alloc ?_ _)); refine blk_put (cs := #[.string x141000_1, .string x141001_1, .string x141002_1]) ?_ 0 _ rfl; (with_reducible repeat (first | refine blk_drewN ?_ _ | refine blk_drew ?_ | refine blk_alloc ?_ _)); exact BK140.out) Try.underlying25 rfl (by kernel_rfl)) rfl ?_
              exact ⟨by first | rfl | (simp [errW_none, errW_some] <;> rfl) | (simp [*, errW_none, errW_some] <;> rfl), by repeat (first | (with_reducible first | exact HB.out | apply below_alloc | apply pw_below_drewN | apply below_drew1 | refine below_set ?_ GE140.out) | exact HB.out)⟩
          · rw [if_neg c8] at H
            have c8b0 : (((rd_T25 l2 x10_1).f0).toList == a0.toList) = false := beq_eq_false_iff_ne.mpr c8
            have c8b1 : (((rd_T25 l2 x10_1).f0).toList != a0.toList) = true := bne_iff_ne.mpr c8
            have H' := Aside0.mk H
            clear H
            have p141 : 0 ≤ (x10_1 : Int) := of_decide_eq_true (by first | (with_reducible assumption) | assumption)
            have q141 : x10_1 < (l2.length : Int) := of_decide_eq_true (by first | (with_reducible assumption) | assumption)
            obtain ⟨ad141, e141, hx141_0, hx141_1, hx141_2⟩ := at_T25 HR2.out x10_1 p141 q141
            cases e141
            replace hx141_0 := (HB.out.cell (World.block_lt_of_cell? w _ hx141_0)).trans hx141_0
            replace hx141_1 := (HB.out.cell (World.block_lt_of_cell? w _ hx141_1)).trans hx141_1
            replace hx141_2 := (HB.out.cell (World.block_lt_of_cell? w _ hx141_2)).trans hx141_2
            replace p141 := eq_true p141
            replace q141 := eq_true q141
            go_wp2
            go_roundg k1
            case measure => have := HK1.out; omega
            case rel => exact ⟨(wrap64 (x10_1 + 1)), (x141000_1), (x141001_1), (x141002_1), (by first | rfl | (simp; done) | (simp [*]; done)), H', ⟨by have := HK1.out; omega⟩, ⟨by (with_reducible repeat (first | refine blk_drewN ?_ _ | refine blk_drew ?_ | refine blk_alloc ?_ _)); exact BK140.out⟩, ⟨by repeat (first | (with_reducible first | exact HB.out | apply below_alloc | apply pw_below_drewN | apply below_drew1 | refine below_set ?_ GE140.out) | exact HB.out)⟩⟩
        · rw [if_neg c7] at H
          exact absurd H (by simp)
      · rw [if_neg c6] at H
        have c6b0 : decide (x10_1 < (l2.length : Int)) = false := decide_eq_false c6
        clear c6
        simp only [Option.some.injEq, Prod.mk.injEq] at H
        obtain ⟨rfl, rfl, rfl, rfl⟩ := H
        have hcz13_0 : wr.cell? ⟨gb140, 0, none⟩ = some (.string x141000_1) := (blk_cell BK140.out 0).trans rfl
        have hcz13_1 : wr.cell? ⟨gb140, 1, none⟩ = some (.string x141001_1) := (blk_cell BK140.out 1).trans rfl
        have hcz13_2 : wr.cell? ⟨gb140, 2, none⟩ = some (.string x141002_1) := (blk_cell BK140.out 2).trans rfl
        have hfz13_0 := blk_frozen BK140.out 0
        have hfz13_1 := blk_frozen BK140.out 1
        have hfz13_2 := blk_frozen BK140.out 2
        go_wp2
        refine bodyPost_ret (results_ct rfl _ _ gb140 25 #[.string (⟨#[]⟩ : ByteArray), .string (⟨#[]⟩ : ByteArray), .string (⟨#[]⟩ : ByteArray)] (0, 0) _ rfl (by (with_reducible repeat (first | refine blk_drewN ?_ _ | refine blk_drew ?_ | refine blk_alloc ?_ _)); refine blk_put (cs := #[.string (⟨#[]⟩ : ByteArray), .string (⟨#[]⟩ : ByteArray), .string x141002_1]) ?_ 2 _ rfl; (with_reducible repeat (first | refine blk_drewN ?_ _ | refine blk_drew ?_ | refine blk_alloc ?_ _)); refine blk_put (cs := #[.string (⟨#[]⟩ : ByteArray), .string x141001_1, .string x141002_1]) ?_ 1 _ rfl; (with_reducible repeat (first | refine blk_drewN ?_ _ | refine blk_drew ?_ | refine blk_alloc ?_ _)); refine blk_put (cs := #[.string x141000_1, .string x141001_1, .string x141002_1]) ?_ 0 _ rfl; (with_reducible repeat (first | refine blk_drewN ?_ _ | refine blk_drew ?_ | refine blk_alloc ?_ _)); exact BK140.out) Try.underlying25 rfl (by kernel_rfl)) rfl ?_
        exact ⟨by first | rfl | (simp [errW_none, errW_some] <;> rfl) | (simp [*, errW_none, errW_some] <;> rfl), by repeat (first | (with_reducible first | exact HB.out | apply below_alloc | apply pw_below_drewN | apply below_drew1 | refine below_set ?_ GE140.out) | exact HB.out)⟩

/-! ### laws_FnKindFor: function 3 -/
def laws_FnKindFor.j0 : Nat → ByteArray → ByteArray → List (S25) → Bool → Option (Bool)
  | 0, _, _, _, _ => none
  | k + 1, x0, x1, x2, x25 => if x25 = true then (some true) else ((impl_KindFor.f k x0 x1 x2).bind fun bt146 => ((spec_KindHas.f k x0 x1 x2).bind fun bt151 => (if (bt146.2.2.2 != bt151.1) = true then (some false) else (if bt146.2.2.2 = true then ((spec_KindFirst.f k x0 x1 x2 bt151.2).bind fun bt153 => (if bt146.1.toList = x0.toList then (if bt146.2.2.1.toList = bt153.2.2.1.toList then (if bt151.2 = true then (some (bt146.1.toList == bt153.1.toList && (bt146.2.1.toList == bt153.2.1.toList && (bt146.2.2.1.toList == bt153.2.2.1.toList)))) else (some true)) else (some false)) else (some false))) else (some (bt146.1.toList == ([] : List UInt8) && (bt146.2.1.toList == ([] : List UInt8) && (bt146.2.2.1.toList == ([] : List UInt8)))))))))
def laws_FnKindFor.f (k : Nat) (a0 : ByteArray) (a1 : ByteArray) (l2 : List (S25)) : Option (Bool) := if (a0.size : Int) > 2147483647 then (laws_FnKindFor.j0 k a0 a1 l2 true) else (if (a1.size : Int) > 2147483647 then (laws_FnKindFor.j0 k a0 a1 l2 true) else ((laws_zzFits9.f k l2).bind fun t145 => (laws_FnKindFor.j0 k a0 a1 l2 (!t145))))
theorem laws_FnKindFor.mono_l : ∀ k, (∀ y0 y1 y2 y3, LeO (laws_FnKindFor.j0 k y0 y1 y2 y3) (laws_FnKindFor.j0 (k + 1) y0 y1 y2 y3))
  | 0 => fun _ _ _ _ r h => by simp [laws_FnKindFor.j0] at h
  | k + 1 => by
    have ih0 := laws_FnKindFor.mono_l k
    · intro y0 y1 y2 y3
      unfold laws_FnKindFor.j0
      repeat' first
      | (with_reducible exact ih0 _ _ _ _)
      | (with_reducible exact impl_KindFor.mono _ _ _ _)
      | (with_reducible exact laws_zzFits9.mono _ _)
      | (with_reducible exact spec_KindFirst.mono _ _ _ _ _)
      | (with_reducible exact spec_KindHas.mono _ _ _ _)
      | (with_reducible exact LeO.refl _)
      | (with_reducible exact LeO.none _)
      | (with_reducible refine LeO.ite ?_ ?_)
      | (with_reducible refine LeO.bind ?_ (fun _ => ?_))
      | exact ih0 _ _ _ _
      | exact impl_KindFor.mono _ _ _ _
      | exact laws_zzFits9.mono _ _
      | exact spec_KindFirst.mono _ _ _ _ _
      | exact spec_KindHas.mono _ _ _ _
      | exact LeO.none _
      | refine LeO.ite ?_ ?_
      | refine LeO.bind ?_ (fun _ => ?_)
theorem laws_FnKindFor.mono : ∀ a0 a1 a2 k, LeO (laws_FnKindFor.f k a0 a1 a2) (laws_FnKindFor.f (k + 1) a0 a1 a2) := by
  intro a0 a1 a2 k
  have ih0 := laws_FnKindFor.mono_l k
  unfold laws_FnKindFor.f
  repeat' first
      | (with_reducible exact ih0 _ _ _ _)
      | (with_reducible exact impl_KindFor.mono _ _ _ _)
      | (with_reducible exact laws_zzFits9.mono _ _)
      | (with_reducible exact spec_KindFirst.mono _ _ _ _ _)
      | (with_reducible exact spec_KindHas.mono _ _ _ _)
      | (with_reducible exact LeO.refl _)
      | (with_reducible exact LeO.none _)
      | (with_reducible refine LeO.ite ?_ ?_)
      | (with_reducible refine LeO.bind ?_ (fun _ => ?_))
      | exact ih0 _ _ _ _
      | exact impl_KindFor.mono _ _ _ _
      | exact laws_zzFits9.mono _ _
      | exact spec_KindFirst.mono _ _ _ _ _
      | exact spec_KindHas.mono _ _ _ _
      | exact LeO.none _
      | refine LeO.ite ?_ ?_
      | refine LeO.bind ?_ (fun _ => ?_)
set_option maxHeartbeats 8000000 in
set_option maxRecDepth 100000 in
theorem laws_FnKindFor.calls (k : Nat) (a0 : ByteArray) (a1 : ByteArray) (A2 : Option Addr) (c2 : Nat) (l2 : List (S25)) (r : Bool) (w : World) (hr2 : Kd.C k25 w A2 l2.length l2) (hc2 : l2.length ≤ c2) (h : laws_FnKindFor.f k a0 a1 l2 = some r) :
    Calls Try.prog 3 #[.string a0, .string a1, .slice A2 l2.length c2] w fun e w' => e = .returned (.bool r) ∧ Below w.heap.size w w' := by
  have hu25 := Try.underlying25
  have HR2 := Aside0.mk hr2
  have HC2 := Aside0.mk hc2
  clear hr2 hc2
  have HB := Aside0.mk (Below.refl w.heap.size w)
  have H : (if (a0.size : Int) > 2147483647 then (laws_FnKindFor.j0 k a0 a1 l2 true) else (if (a1.size : Int) > 2147483647 then (laws_FnKindFor.j0 k a0 a1 l2 true) else ((laws_zzFits9.f k l2).bind fun t145 => (laws_FnKindFor.j0 k a0 a1 l2 (!t145))))) = some r := h
  clear h
  have HC4 := Aside0.mk H
  clear H
  go_enter Try.func3, Try.ntmps3
  go_upto_region 1 with (fail)
  go_cut [25] (fun v25 wc => ∃ (kq : Nat) (x25_3 : Bool), v25 = .bool x25_3 ∧ Aside0 (laws_FnKindFor.j0 kq a0 a1 l2 x25_3 = some r) ∧ Aside0 (kq ≤ k) ∧ Aside0 (Below w.heap.size w wc))
  case first =>
    have H := HC4.out
    clear HC4
    by_cases c5 : (a0.size : Int) > 2147483647
    · rw [if_pos c5] at H
      have c5b0 : decide (2147483647 < (a0.size : Int)) = true := decide_eq_true c5
      have c5b1 : decide (2147483647 < a0.size) = true := decide_eq_true (by omega)
      clear c5
      (first | rw [c5b0] | (simp only [i64_w, i32_w]; rw [c5b0]) | skip)
      have H' := Aside0.mk H
      clear H
      go_wp2
      go_meet
      case rel => exact ⟨_, (true), (by first | rfl | (simp; done) | (simp [*]; done)), H', ⟨by first | omega | exact Nat.le_refl _⟩, ⟨by repeat (first | (with_reducible first | exact HB.out | apply below_alloc | apply pw_below_drewN | apply below_drew1) | exact HB.out)⟩⟩
    · rw [if_neg c5] at H
      have c5b0 : decide (2147483647 < (a0.size : Int)) = false := decide_eq_false c5
      have c5b1 : decide (2147483647 < a0.size) = false := decide_eq_false (by omega)
      clear c5
      (first | rw [c5b0] | (simp only [i64_w, i32_w]; rw [c5b0]) | skip)
      by_cases c6 : (a1.size : Int) > 2147483647
      · rw [if_pos c6] at H
        have c6b0 : decide (2147483647 < (a1.size : Int)) = true := decide_eq_true c6
        have c6b1 : decide (2147483647 < a1.size) = true := decide_eq_true (by omega)
        clear c6
        have H' := Aside0.mk H
        clear H
        go_wp2
        go_meet
        case rel => exact ⟨_, (true), (by first | rfl | (simp; done) | (simp [*]; done)), H', ⟨by first | omega | exact Nat.le_refl _⟩, ⟨by repeat (first | (with_reducible first | exact HB.out | apply below_alloc | apply pw_below_drewN | apply below_drew1) | exact HB.out)⟩⟩
      · rw [if_neg c6] at H
        have c6b0 : decide (2147483647 < (a1.size : Int)) = false := decide_eq_false c6
        have c6b1 : decide (2147483647 < a1.size) = false := decide_eq_false (by omega)
        clear c6
        replace H := Option.bind_eq_some_iff.mp H
        obtain ⟨t145, A70, H⟩ := H
        replace H : (laws_FnKindFor.j0 k a0 a1 l2 (!t145)) = some r := H
        have A7 := Aside0.mk A70
        clear A70
        have H' := Aside0.mk H
        clear H
        go_wp2_with (first | (go_at_call 10; (with_reducible refine (laws_zzFits9.calls k _ _ l2 t145 _ ?side1 ?side2 A7.out).mono ?_); (case side1 => repeat (first | exact (Kd.C_below HR2.out HB.out) | (with_reducible refine Kd.C_alloc ?_ _) | (with_reducible refine Kd.C_drewN ?_ _) | (with_reducible refine Kd.C_drew ?_))); (case side2 => exact HC2.out); rintro e w8 ⟨rfl, hb⟩; have n0_ := Aside0.mk (below_step (by repeat (first | (with_reducible first | exact HB.out | apply below_alloc | apply pw_below_drewN | apply below_drew1) | exact HB.out)) hb); clear HB; have HB := n0_; clear n0_; (try clear hb); (try clear hb2); (try clear hk); (try clear hi)))
        go_meet
        case rel => exact ⟨_, (!t145), (by first | rfl | (simp; done) | (simp [*]; done)), H', ⟨by first | omega | exact Nat.le_refl _⟩, ⟨by repeat (first | (with_reducible first | exact HB.out | apply below_alloc | apply pw_below_drewN | apply below_drew1) | exact HB.out)⟩⟩
  case rest =>
    clear HC4
    try clear c2
    try clear p2
    try clear c3
    try clear c5
    try clear c5b0
    try clear c5b1
    try clear c6
    try clear c6b0
    try clear c6b1
    obtain ⟨kq, x25_3, rfl, HA, HJ3, HB⟩ := hcut
    cases kq with
    | zero => exact absurd HA.out (by simp [laws_FnKindFor.j0])
    | succ kj3 =>
      have H := HA.out
      clear HA
      simp only [laws_FnKindFor.j0] at H
      by_cases c9 : x25_3 = true
      · subst c9
        have H1 : (some true) = some r := by rw [if_pos rfl] at H; exact H
        clear H
        have H := H1
        clear H1
        obtain rfl := Option.some.inj H
        go_wp2
        go_ret
        exact ⟨by first | rfl | (simp [errW_none, errW_some] <;> rfl) | (simp [*, errW_none, errW_some] <;> rfl), by repeat (first | (with_reducible first | exact HB.out | apply below_alloc | apply pw_below_drewN | apply below_drew1) | exact HB.out)⟩
      · replace c9 := Bool.eq_false_iff.mpr c9
        subst c9
        have H1 : ((impl_KindFor.f kj3 a0 a1 l2).bind fun bt146 => ((spec_KindHas.f kj3 a0 a1 l2).bind fun bt151 => (if (bt146.2.2.2 != bt151.1) = true then (some false) else (if bt146.2.2.2 = true then ((spec_KindFirst.f kj3 a0 a1 l2 bt151.2).bind fun bt153 => (if bt146.1.toList = a0.toList then (if bt146.2.2.1.toList = bt153.2.2.1.toList then (if bt151.2 = true then (some (bt146.1.toList == bt153.1.toList && (bt146.2.1.toList == bt153.2.1.toList && (bt146.2.2.1.toList == bt153.2.2.1.toList)))) else (some true)) else (some false)) else (some false))) else (some (bt146.1.toList == ([] : List UInt8) && (bt146.2.1.toList == ([] : List UInt8) && (bt146.2.2.1.toList == ([] : List UInt8))))))))) = some r := by rw [if_neg (show ¬ (false = true) by decide)] at H; exact H
        clear H
        have H := H1
        clear H1
        replace H := Option.bind_eq_some_iff.mp H
        obtain ⟨⟨t146, t147, t148, t149⟩, A100, H⟩ := H
        replace H : ((spec_KindHas.f kj3 a0 a1 l2).bind fun bt151 => (if (t149 != bt151.1) = true then (some false) else (if t149 = true then ((spec_KindFirst.f kj3 a0 a1 l2 bt151.2).bind fun bt153 => (if t146.toList = a0.toList then (if t148.toList = bt153.2.2.1.toList then (if bt151.2 = true then (some (t146.toList == bt153.1.toList && (t147.toList == bt153.2.1.toList && (t148.toList == bt153.2.2.1.toList)))) else (some true)) else (some false)) else (some false))) else (some (t146.toList == ([] : List UInt8) && (t147.toList == ([] : List UInt8) && (t148.toList == ([] : List UInt8)))))))) = some r := H
        have A10 := Aside0.mk A100
        clear A100
        replace H := Option.bind_eq_some_iff.mp H
        obtain ⟨⟨t151, t152⟩, A110, H⟩ := H
        replace H : (if (t149 != t151) = true then (some false) else (if t149 = true then ((spec_KindFirst.f kj3 a0 a1 l2 t152).bind fun bt153 => (if t146.toList = a0.toList then (if t148.toList = bt153.2.2.1.toList then (if t152 = true then (some (t146.toList == bt153.1.toList && (t147.toList == bt153.2.1.toList && (t148.toList == bt153.2.2.1.toList)))) else (some true)) else (some false)) else (some false))) else (some (t146.toList == ([] : List UInt8) && (t147.toList == ([] : List UInt8) && (t148.toList == ([] : List UInt8))))))) = some r := H
        have A11 := Aside0.mk A110
        clear A110
        by_cases c12 : (t149 != t151) = true
        · rw [if_pos c12] at H
          have c12b0 : (t149 != t151) = true := c12
          (try (have c12b1 : decide (t149 = t151) = false := by simpa using c12))
          (try (have c12b2 : (t149 == t151) = false := by simpa using c12))
          (try (have c12b3 : ¬ (t149 = t151) := by simpa using c12))
          clear c12
          obtain rfl := Option.some.inj H
          go_wp2_with (first | ((with_reducible refine gate_callee (f := 11) rfl ?_); refine goesL_ (some 30) rfl rfl Try.func11 (by kernel_rfl) rfl #[.string a0, .string a1, .slice A2 l2.length c2] rfl (by (try simp only [List.map_toArray, List.map_cons, List.map_nil]); first | done | rfl | (simp only [List.length_drop, List.length_take]; rfl)) ?_; (with_reducible refine (impl_KindFor.calls kj3 a0 a1 _ _ l2 t146 t147 t148 t149 _ ?side1 ?side2 A10.out).mono ?_); (case side1 => repeat (first | exact (Kd.C_below HR2.out HB.out) | (with_reducible refine Kd.C_alloc ?_ _) | (with_reducible refine Kd.C_drewN ?_ _) | (with_reducible refine Kd.C_drew ?_))); (case side2 => exact HC2.out); rintro e w13 ⟨rfl, hb⟩; refine ⟨_, rfl, ?_⟩; have n0_ := Aside0.mk (below_step (by repeat (first | (with_reducible first | exact HB.out | apply below_alloc | apply pw_below_drewN | apply below_drew1) | exact HB.out)) hb); clear HB; have HB := n0_; clear n0_; (try clear hb); (try clear hb2); (try clear hk); (try clear hi)) | ((with_reducible refine gate_dst (N := 7) rfl ?_); (try (refine gate_guard (by rfl) ?_; dsimp only)); refine box_event ?hg (N := 7) ?hd (cs := #[.string (⟨#[]⟩ : ByteArray), .string (⟨#[]⟩ : ByteArray), .string (⟨#[]⟩ : ByteArray)]) (t := 25) ?hr ?_; (case hd => rfl); (case hg => rfl); (case hr => first | (go_simp; done) | (go_simp; rfl)); intro gb150 hg w14 hbox hb; have n0_ := Aside0.mk (below_step (by repeat (first | (with_reducible first | exact HB.out | apply below_alloc | apply pw_below_drewN | apply below_drew1) | exact HB.out)) hb); have n1_ := Aside0.mk (hbox); have n2_ := Aside0.mk ((by rw [hg]; exact (below_size (by repeat (first | (with_reducible first | exact HB.out | apply below_alloc | apply pw_below_drewN | apply below_drew1) | exact HB.out))) : w.heap.size ≤ gb150)); have n3_ := Aside0.mk ((by rw [hg]; exact (below_size (by repeat (first | (with_reducible first | exact HB.out | apply below_alloc | apply pw_below_drewN | apply below_drew1) | exact HB.out))) : w.heap.size ≤ gb150)); clear HB; have HB := n0_; have BK150 := n1_; have GW150 := n2_; have GE150 := n3_; clear n0_ n1_ n2_ n3_; clear hb hbox hg; have hcz15_0 : w14.cell? ⟨gb150, 0, none⟩ = some (.string (⟨#[]⟩ : ByteArray)) := (blk_cell BK150.out 0).trans rfl; have hcz15_1 : w14.cell? ⟨gb150, 1, none⟩ = some (.string (⟨#[]⟩ : ByteArray)) := (blk_cell BK150.out 1).trans rfl; have hcz15_2 : w14.cell? ⟨gb150, 2, none⟩ = some (.string (⟨#[]⟩ : ByteArray)) := (blk_cell BK150.out 2).trans rfl; have hfz15_0 := blk_frozen BK150.out 0; have hfz15_1 := blk_frozen BK150.out 1; have hfz15_2 := blk_frozen BK150.out 2) | ((with_reducible refine gate_callee (f := 12) rfl ?_); refine goesL_ (some 37) rfl rfl Try.func12 (by kernel_rfl) rfl #[.string a0, .string a1, .slice A2 l2.length c2] rfl (by (try simp only [List.map_toArray, List.map_cons, List.map_nil]); first | done | rfl | (simp only [List.length_drop, List.length_take]; rfl)) ?_; (with_reducible refine (spec_KindHas.calls kj3 a0 a1 _ _ l2 t151 t152 _ ?side1 ?side2 A11.out).mono ?_); (case side1 => exact Kd.C_below HR2.out (by repeat (first | (with_reducible first | exact HB.out | apply below_alloc | apply pw_below_drewN | apply below_drew1 | refine below_set ?_ GE150.out) | exact HB.out))); (case side2 => exact HC2.out); rintro e w' ⟨rfl, ⟨nd, rfl⟩⟩; refine ⟨_, rfl, ?_⟩))
          go_ret
          exact ⟨by first | rfl | (simp [errW_none, errW_some] <;> rfl) | (simp [*, errW_none, errW_some] <;> rfl), by repeat (first | (with_reducible first | exact HB.out | apply below_alloc | apply pw_below_drewN | apply below_drew1 | refine below_set ?_ GE150.out) | exact HB.out)⟩
        · rw [if_neg c12] at H
          have c12b0 : (t149 != t151) = false := by simpa using c12
          (try (have c12b1 : decide (t149 = t151) = true := by simpa using c12))
          (try (have c12b2 : (t149 == t151) = true := by simpa using c12))
          clear c12
          by_cases c16 : t149 = true
          · subst c16
            have H1 : ((spec_KindFirst.f kj3 a0 a1 l2 t152).bind fun bt153 => (if t146.toList = a0.toList then (if t148.toList = bt153.2.2.1.toList then (if t152 = true then (some (t146.toList == bt153.1.toList && (t147.toList == bt153.2.1.toList && (t148.toList == bt153.2.2.1.toList)))) else (some true)) else (some false)) else (some false))) = some r := by rw [if_pos rfl] at H; exact H
            clear H
            have H := H1
            clear H1
            replace H := Option.bind_eq_some_iff.mp H
            obtain ⟨⟨t153, t154, t155, t156⟩, A170, H⟩ := H
            replace H : (if t146.toList = a0.toList then (if t148.toList = t155.toList then (if t152 = true then (some (t146.toList == t153.toList && (t147.toList == t154.toList && (t148.toList == t155.toList)))) else (some true)) else (some false)) else (some false)) = some r := H
            have A17 := Aside0.mk A170
            clear A170
            by_cases c18 : t146.toList = a0.toList
            · rw [if_pos c18] at H
              have c18b0 : (t146.toList == a0.toList) = true := beq_iff_eq.mpr c18
              have c18b1 : (t146.toList != a0.toList) = false := bne_eq_false_iff_eq.mpr c18
              clear c18
              by_cases c19 : t148.toList = t155.toList
              · rw [if_pos c19] at H
                have c19b0 : (t148.toList == t155.toList) = true := beq_iff_eq.mpr c19
                have c19b1 : (t148.toList != t155.toList) = false := bne_eq_false_iff_eq.mpr c19
                clear c19
                by_cases c20 : t152 = true
                · subst c20
                  have H1 : (some (t146.toList == t153.toList && (t147.toList == t154.toList && (t148.toList == t155.toList)))) = some r := by rw [if_pos rfl] at H; exact H
                  clear H
                  have H := H1
                  clear H1
                  obtain rfl := Option.some.inj H
                  go_wp2_with (first | ((with_reducible refine gate_callee (f := 11) rfl ?_); refine goesL_ (some 30) rfl rfl Try.func11 (by kernel_rfl) rfl #[.string a0, .string a1, .slice A2 l2.length c2] rfl (by (try simp only [List.map_toArray, List.map_cons, List.map_nil]); first | done | rfl | (simp only [List.length_drop, List.length_take]; rfl)) ?_; (with_reducible refine (impl_KindFor.calls kj3 a0 a1 _ _ l2 t146 t147 t148 true _ ?side1 ?side2 A10.out).mono ?_); (case side1 => repeat (first | exact (Kd.C_below HR2.out HB.out) | (with_reducible refine Kd.C_alloc ?_ _) | (with_reducible refine Kd.C_drewN ?_ _) | (with_reducible refine Kd.C_drew ?_))); (case side2 => exact HC2.out); rintro e w21 ⟨rfl, hb⟩; refine ⟨_, rfl, ?_⟩; have n0_ := Aside0.mk (below_step (by repeat (first | (with_reducible first | exact HB.out | apply below_alloc | apply pw_below_drewN | apply below_drew1) | exact HB.out)) hb); clear HB; have HB := n0_; clear n0_; (try clear hb); (try clear hb2); (try clear hk); (try clear hi)) | ((with_reducible refine gate_dst (N := 7) rfl ?_); (try (refine gate_guard (by rfl) ?_; dsimp only)); refine box_event ?hg (N := 7) ?hd (cs := #[.string (⟨#[]⟩ : ByteArray), .string (⟨#[]⟩ : ByteArray), .string (⟨#[]⟩ : ByteArray)]) (t := 25) ?hr ?_; (case hd => rfl); (case hg => rfl); (case hr => first | (go_simp; done) | (go_simp; rfl)); intro gb150 hg w22 hbox hb; have n0_ := Aside0.mk (below_step (by repeat (first | (with_reducible first | exact HB.out | apply below_alloc | apply pw_below_drewN | apply below_drew1) | exact HB.out)) hb); have n1_ := Aside0.mk (hbox); have n2_ := Aside0.mk ((by rw [hg]; exact (below_size (by repeat (first | (with_reducible first | exact HB.out | apply below_alloc | apply pw_below_drewN | apply below_drew1) | exact HB.out))) : w.heap.size ≤ gb150)); have n3_ := Aside0.mk ((by rw [hg]; exact (below_size (by repeat (first | (with_reducible first | exact HB.out | apply below_alloc | apply pw_below_drewN | apply below_drew1) | exact HB.out))) : w.heap.size ≤ gb150)); clear HB; have HB := n0_; have BK150 := n1_; have GW150 := n2_; have GE150 := n3_; clear n0_ n1_ n2_ n3_; clear hb hbox hg; have hcz23_0 : w22.cell? ⟨gb150, 0, none⟩ = some (.string (⟨#[]⟩ : ByteArray)) := (blk_cell BK150.out 0).trans rfl; have hcz23_1 : w22.cell? ⟨gb150, 1, none⟩ = some (.string (⟨#[]⟩ : ByteArray)) := (blk_cell BK150.out 1).trans rfl; have hcz23_2 : w22.cell? ⟨gb150, 2, none⟩ = some (.string (⟨#[]⟩ : ByteArray)) := (blk_cell BK150.out 2).trans rfl; have hfz23_0 := blk_frozen BK150.out 0; have hfz23_1 := blk_frozen BK150.out 1; have hfz23_2 := blk_frozen BK150.out 2) | ((with_reducible refine gate_callee (f := 12) rfl ?_); refine goesL_ (some 37) rfl rfl Try.func12 (by kernel_rfl) rfl #[.string a0, .string a1, .slice A2 l2.length c2] rfl (by (try simp only [List.map_toArray, List.map_cons, List.map_nil]); first | done | rfl | (simp only [List.length_drop, List.length_take]; rfl)) ?_; (with_reducible refine (spec_KindHas.calls kj3 a0 a1 _ _ l2 t151 true _ ?side1 ?side2 A11.out).mono ?_); (case side1 => exact Kd.C_below HR2.out (by repeat (first | (with_reducible first | exact HB.out | apply below_alloc | apply pw_below_drewN | apply below_drew1 | refine below_set ?_ GE150.out) | exact HB.out))); (case side2 => exact HC2.out); rintro e w' ⟨rfl, ⟨nd, rfl⟩⟩; refine ⟨_, rfl, ?_⟩) | ((with_reducible refine gate_callee (f := 13) rfl ?_); refine goesL_ (some 53) rfl rfl Try.func13 (by kernel_rfl) rfl #[.string a0, .string a1, .slice A2 l2.length c2, .bool true] rfl (by (try simp only [List.map_toArray, List.map_cons, List.map_nil]); first | done | rfl | (simp only [List.length_drop, List.length_take]; rfl)) ?_; (with_reducible refine (spec_KindFirst.calls kj3 a0 a1 _ _ l2 true t153 t154 t155 t156 _ ?side1 ?side2 A17.out).mono ?_); (case side1 => exact Kd.C_below HR2.out (by repeat (first | (with_reducible first | exact HB.out | apply below_alloc | apply pw_below_drewN | apply below_drew1 | refine below_set ?_ GE150.out) | exact HB.out))); (case side2 => exact HC2.out); rintro e w24 ⟨rfl, hb⟩; refine ⟨_, rfl, ?_⟩; have n0_ := Aside0.mk (blk_below (g := gb150) (o := .cells #[.string t146, .string t147, .string t148] 25 (0, 0)) (by (with_reducible repeat (first | refine blk_drewN ?_ _ | refine blk_drew ?_ | refine blk_alloc ?_ _)); refine blk_put (cs := #[.string t146, .string t147, .string (⟨#[]⟩ : ByteArray)]) ?_ 2 _ rfl; (with_reducible repeat (first | refine blk_drewN ?_ _ | refine blk_drew ?_ | refine blk_alloc ?_ _)); refine blk_put (cs := #[.string t146, .string (⟨#[]⟩ : ByteArray), .string (⟨#[]⟩ : ByteArray)]) ?_ 1 _ rfl; (with_reducible repeat (first | refine blk_drewN ?_ _ | refine blk_drew ?_ | refine blk_alloc ?_ _)); refine blk_put (cs := #[.string (⟨#[]⟩ : ByteArray), .string (⟨#[]⟩ : ByteArray), .string (⟨#[]⟩ : ByteArray)]) ?_ 0 _ rfl; (with_reducible repeat (first | refine blk_drewN ?_ _ | refine blk_drew ?_ | refine blk_alloc ?_ _)); exact BK150.out) hb); have n1_ := Aside0.mk (below_step (by repeat (first | (with_reducible first | exact HB.out | apply below_alloc | apply pw_below_drewN | apply below_drew1 | refine below_set ?_ GE150.out) | exact HB.out)) hb); clear BK150; clear HB; have BK150 := n0_; have HB := n1_; clear n0_ n1_; (try clear hb); (try clear hb2); (try clear hk); (try clear hi)) | ((with_reducible refine gate_dst (N := 11) rfl ?_); (try (refine gate_guard (by rfl) ?_; dsimp only)); refine box_event ?hg (N := 11) ?hd (cs := #[.string (⟨#[]⟩ : ByteArray), .string (⟨#[]⟩ : ByteArray), .string (⟨#[]⟩ : ByteArray)]) (t := 25) ?hr ?_; (case hd => rfl); (case hg => rfl); (case hr => first | (go_simp; done) | (go_simp; rfl)); intro gb157 hg w25 hbox hb; have n0_ := Aside0.mk (blk_below (g := gb150) (o := .cells #[.string t146, .string t147, .string t148] 25 (0, 0)) (by (with_reducible repeat (first | refine blk_drewN ?_ _ | refine blk_drew ?_ | refine blk_alloc ?_ _)); exact BK150.out) hb); have n1_ := Aside0.mk (below_step (by repeat (first | (with_reducible first | exact HB.out | apply below_alloc | apply pw_below_drewN | apply below_drew1 | refine below_set ?_ GE150.out) | exact HB.out)) hb); have n2_ := Aside0.mk (hbox); have n3_ := Aside0.mk ((by rw [hg]; exact (below_size (by repeat (first | (with_reducible first | exact HB.out | apply below_alloc | apply pw_below_drewN | apply below_drew1 | refine below_set ?_ GE150.out) | exact HB.out))) : w.heap.size ≤ gb157)); have n4_ := Aside0.mk ((by rw [hg]; exact (below_size (by repeat (first | (with_reducible first | exact HB.out | apply below_alloc | apply pw_below_drewN | apply below_drew1 | refine below_set ?_ GE150.out) | exact HB.out))) : w.heap.size ≤ gb157)); have n5_ := Aside0.mk ((by rw [hg]; exact Nat.ne_of_lt (blk_lt (g := gb150) (o := .cells #[.string t146, .string t147, .string t148] 25 (0, 0)) (by (with_reducible repeat (first | refine blk_drewN ?_ _ | refine blk_drew ?_ | refine blk_alloc ?_ _)); exact BK150.out)) : gb150 ≠ gb157)); have n6_ := Aside0.mk ((by rw [hg]; exact Nat.ne_of_gt (blk_lt (g := gb150) (o := .cells #[.string t146, .string t147, .string t148] 25 (0, 0)) (by (with_reducible repeat (first | refine blk_drewN ?_ _ | refine blk_drew ?_ | refine blk_alloc ?_ _)); exact BK150.out)) : gb157 ≠ gb150)); clear BK150; clear HB; have BK150 := n0_; have HB := n1_; have BK157 := n2_; have GW157 := n3_; have GE157 := n4_; have NB150_157 := n5_; have NB157_150 := n6_; clear n0_ n1_ n2_ n3_ n4_ n5_ n6_; clear hb hbox hg; have hnb26 := NB157_150.out; have hnc26 := NB150_157.out; have hcz27_0 : w25.cell? ⟨gb157, 0, none⟩ = some (.string (⟨#[]⟩ : ByteArray)) := (blk_cell BK157.out 0).trans rfl; have hcz27_1 : w25.cell? ⟨gb157, 1, none⟩ = some (.string (⟨#[]⟩ : ByteArray)) := (blk_cell BK157.out 1).trans rfl; have hcz27_2 : w25.cell? ⟨gb157, 2, none⟩ = some (.string (⟨#[]⟩ : ByteArray)) := (blk_cell BK157.out 2).trans rfl; have hfz27_0 := blk_frozen BK157.out 0; have hfz27_1 := blk_frozen BK157.out 1; have hfz27_2 := blk_frozen BK157.out 2; have hcz28_0 : w25.cell? ⟨gb150, 0, none⟩ = some (.string t146) := (blk_cell BK150.out 0).trans rfl; have hcz28_1 : w25.cell? ⟨gb150, 1, none⟩ = some (.string t147) := (blk_cell BK150.out 1).trans rfl; have hcz28_2 : w25.cell? ⟨gb150, 2, none⟩ = some (.string t148) := (blk_cell BK150.out 2).trans rfl; have hfz28_0 := blk_frozen BK150.out 0; have hfz28_1 := blk_frozen BK150.out 1; have hfz28_2 := blk_frozen BK150.out 2))
                  go_ret
                  exact ⟨by first | rfl | (simp [errW_none, errW_some] <;> rfl) | (simp [*, errW_none, errW_some] <;> rfl), by repeat (first | (with_reducible first | exact HB.out | apply below_alloc | apply pw_below_drewN | apply below_drew1 | refine below_set ?_ GE150.out | refine below_set ?_ GE157.out) | exact HB.out)⟩
                · replace c20 := Bool.eq_false_iff.mpr c20
                  subst c20
                  have H1 : (some true) = some r := by rw [if_neg (show ¬ (false = true) by decide)] at H; exact H
                  clear H
                  have H := H1
                  clear H1
                  obtain rfl := Option.some.inj H
                  go_wp2_with (first | ((with_reducible refine gate_callee (f := 11) rfl ?_); refine goesL_ (some 30) rfl rfl Try.func11 (by kernel_rfl) rfl #[.string a0, .string a1, .slice A2 l2.length c2] rfl (by (try simp only [List.map_toArray, List.map_cons, List.map_nil]); first | done | rfl | (simp only [List.length_drop, List.length_take]; rfl)) ?_; (with_reducible refine (impl_KindFor.calls kj3 a0 a1 _ _ l2 t146 t147 t148 true _ ?side1 ?side2 A10.out).mono ?_); (case side1 => repeat (first | exact (Kd.C_below HR2.out HB.out) | (with_reducible refine Kd.C_alloc ?_ _) | (with_reducible refine Kd.C_drewN ?_ _) | (with_reducible refine Kd.C_drew ?_))); (case side2 => exact HC2.out); rintro e w29 ⟨rfl, hb⟩; refine ⟨_, rfl, ?_⟩; have n0_ := Aside0.mk (below_step (by repeat (first | (with_reducible first | exact HB.out | apply below_alloc | apply pw_below_drewN | apply below_drew1) | exact HB.out)) hb); clear HB; have HB := n0_; clear n0_; (try clear hb); (try clear hb2); (try clear hk); (try clear hi)) | ((with_reducible refine gate_dst (N := 7) rfl ?_); (try (refine gate_guard (by rfl) ?_; dsimp only)); refine box_event ?hg (N := 7) ?hd (cs := #[.string (⟨#[]⟩ : ByteArray), .string (⟨#[]⟩ : ByteArray), .string (⟨#[]⟩ : ByteArray)]) (t := 25) ?hr ?_; (case hd => rfl); (case hg => rfl); (case hr => first | (go_simp; done) | (go_simp; rfl)); intro gb150 hg w30 hbox hb; have n0_ := Aside0.mk (below_step (by repeat (first | (with_reducible first | exact HB.out | apply below_alloc | apply pw_below_drewN | apply below_drew1) | exact HB.out)) hb); have n1_ := Aside0.mk (hbox); have n2_ := Aside0.mk ((by rw [hg]; exact (below_size (by repeat (first | (with_reducible first | exact HB.out | apply below_alloc | apply pw_below_drewN | apply below_drew1) | exact HB.out))) : w.heap.size ≤ gb150)); have n3_ := Aside0.mk ((by rw [hg]; exact (below_size (by repeat (first | (with_reducible first | exact HB.out | apply below_alloc | apply pw_below_drewN | apply below_drew1) | exact HB.out))) : w.heap.size ≤ gb150)); clear HB; have HB := n0_; have BK150 := n1_; have GW150 := n2_; have GE150 := n3_; clear n0_ n1_ n2_ n3_; clear hb hbox hg; have hcz31_0 : w30.cell? ⟨gb150, 0, none⟩ = some (.string (⟨#[]⟩ : ByteArray)) := (blk_cell BK150.out 0).trans rfl; have hcz31_1 : w30.cell? ⟨gb150, 1, none⟩ = some (.string (⟨#[]⟩ : ByteArray)) := (blk_cell BK150.out 1).trans rfl; have hcz31_2 : w30.cell? ⟨gb150, 2, none⟩ = some (.string (⟨#[]⟩ : ByteArray)) := (blk_cell BK150.out 2).trans rfl; have hfz31_0 := blk_frozen BK150.out 0; have hfz31_1 := blk_frozen BK150.out 1; have hfz31_2 := blk_frozen BK150.out 2) | ((with_reducible refine gate_callee (f := 12) rfl ?_); refine goesL_ (some 37) rfl rfl Try.func12 (by kernel_rfl) rfl #[.string a0, .string a1, .slice A2 l2.length c2] rfl (by (try simp only [List.map_toArray, List.map_cons, List.map_nil]); first | done | rfl | (simp only [List.length_drop, List.length_take]; rfl)) ?_; (with_reducible refine (spec_KindHas.calls kj3 a0 a1 _ _ l2 t151 false _ ?side1 ?side2 A11.out).mono ?_); (case side1 => exact Kd.C_below HR2.out (by repeat (first | (with_reducible first | exact HB.out | apply below_alloc | apply pw_below_drewN | apply below_drew1 | refine below_set ?_ GE150.out) | exact HB.out))); (case side2 => exact HC2.out); rintro e w' ⟨rfl, ⟨nd, rfl⟩⟩; refine ⟨_, rfl, ?_⟩) | ((with_reducible refine gate_callee (f := 13) rfl ?_); refine goesL_ (some 53) rfl rfl Try.func13 (by kernel_rfl) rfl #[.string a0, .string a1, .slice A2 l2.length c2, .bool false] rfl (by (try simp only [List.map_toArray, List.map_cons, List.map_nil]); first | done | rfl | (simp only [List.length_drop, List.length_take]; rfl)) ?_; (with_reducible refine (spec_KindFirst.calls kj3 a0 a1 _ _ l2 false t153 t154 t155 t156 _ ?side1 ?side2 A17.out).mono ?_); (case side1 => exact Kd.C_below HR2.out (by repeat (first | (with_reducible first | exact HB.out | apply below_alloc | apply pw_below_drewN | apply below_drew1 | refine below_set ?_ GE150.out) | exact HB.out))); (case side2 => exact HC2.out); rintro e w32 ⟨rfl, hb⟩; refine ⟨_, rfl, ?_⟩; have n0_ := Aside0.mk (blk_below (g := gb150) (o := .cells #[.string t146, .string t147, .string t148] 25 (0, 0)) (by (with_reducible repeat (first | refine blk_drewN ?_ _ | refine blk_drew ?_ | refine blk_alloc ?_ _)); refine blk_put (cs := #[.string t146, .string t147, .string (⟨#[]⟩ : ByteArray)]) ?_ 2 _ rfl; (with_reducible repeat (first | refine blk_drewN ?_ _ | refine blk_drew ?_ | refine blk_alloc ?_ _)); refine blk_put (cs := #[.string t146, .string (⟨#[]⟩ : ByteArray), .string (⟨#[]⟩ : ByteArray)]) ?_ 1 _ rfl; (with_reducible repeat (first | refine blk_drewN ?_ _ | refine blk_drew ?_ | refine blk_alloc ?_ _)); refine blk_put (cs := #[.string (⟨#[]⟩ : ByteArray), .string (⟨#[]⟩ : ByteArray), .string (⟨#[]⟩ : ByteArray)]) ?_ 0 _ rfl; (with_reducible repeat (first | refine blk_drewN ?_ _ | refine blk_drew ?_ | refine blk_alloc ?_ _)); exact BK150.out) hb); have n1_ := Aside0.mk (below_step (by repeat (first | (with_reducible first | exact HB.out | apply below_alloc | apply pw_below_drewN | apply below_drew1 | refine below_set ?_ GE150.out) | exact HB.out)) hb); clear BK150; clear HB; have BK150 := n0_; have HB := n1_; clear n0_ n1_; (try clear hb); (try clear hb2); (try clear hk); (try clear hi)) | ((with_reducible refine gate_dst (N := 11) rfl ?_); (try (refine gate_guard (by rfl) ?_; dsimp only)); refine box_event ?hg (N := 11) ?hd (cs := #[.string (⟨#[]⟩ : ByteArray), .string (⟨#[]⟩ : ByteArray), .string (⟨#[]⟩ : ByteArray)]) (t := 25) ?hr ?_; (case hd => rfl); (case hg => rfl); (case hr => first | (go_simp; done) | (go_simp; rfl)); intro gb157 hg w33 hbox hb; have n0_ := Aside0.mk (blk_below (g := gb150) (o := .cells #[.string t146, .string t147, .string t148] 25 (0, 0)) (by (with_reducible repeat (first | refine blk_drewN ?_ _ | refine blk_drew ?_ | refine blk_alloc ?_ _)); exact BK150.out) hb); have n1_ := Aside0.mk (below_step (by repeat (first | (with_reducible first | exact HB.out | apply below_alloc | apply pw_below_drewN | apply below_drew1 | refine below_set ?_ GE150.out) | exact HB.out)) hb); have n2_ := Aside0.mk (hbox); have n3_ := Aside0.mk ((by rw [hg]; exact (below_size (by repeat (first | (with_reducible first | exact HB.out | apply below_alloc | apply pw_below_drewN | apply below_drew1 | refine below_set ?_ GE150.out) | exact HB.out))) : w.heap.size ≤ gb157)); have n4_ := Aside0.mk ((by rw [hg]; exact (below_size (by repeat (first | (with_reducible first | exact HB.out | apply below_alloc | apply pw_below_drewN | apply below_drew1 | refine below_set ?_ GE150.out) | exact HB.out))) : w.heap.size ≤ gb157)); have n5_ := Aside0.mk ((by rw [hg]; exact Nat.ne_of_lt (blk_lt (g := gb150) (o := .cells #[.string t146, .string t147, .string t148] 25 (0, 0)) (by (with_reducible repeat (first | refine blk_drewN ?_ _ | refine blk_drew ?_ | refine blk_alloc ?_ _)); exact BK150.out)) : gb150 ≠ gb157)); have n6_ := Aside0.mk ((by rw [hg]; exact Nat.ne_of_gt (blk_lt (g := gb150) (o := .cells #[.string t146, .string t147, .string t148] 25 (0, 0)) (by (with_reducible repeat (first | refine blk_drewN ?_ _ | refine blk_drew ?_ | refine blk_alloc ?_ _)); exact BK150.out)) : gb157 ≠ gb150)); clear BK150; clear HB; have BK150 := n0_; have HB := n1_; have BK157 := n2_; have GW157 := n3_; have GE157 := n4_; have NB150_157 := n5_; have NB157_150 := n6_; clear n0_ n1_ n2_ n3_ n4_ n5_ n6_; clear hb hbox hg; have hnb34 := NB157_150.out; have hnc34 := NB150_157.out; have hcz35_0 : w33.cell? ⟨gb157, 0, none⟩ = some (.string (⟨#[]⟩ : ByteArray)) := (blk_cell BK157.out 0).trans rfl; have hcz35_1 : w33.cell? ⟨gb157, 1, none⟩ = some (.string (⟨#[]⟩ : ByteArray)) := (blk_cell BK157.out 1).trans rfl; have hcz35_2 : w33.cell? ⟨gb157, 2, none⟩ = some (.string (⟨#[]⟩ : ByteArray)) := (blk_cell BK157.out 2).trans rfl; have hfz35_0 := blk_frozen BK157.out 0; have hfz35_1 := blk_frozen BK157.out 1; have hfz35_2 := blk_frozen BK157.out 2; have hcz36_0 : w33.cell? ⟨gb150, 0, none⟩ = some (.string t146) := (blk_cell BK150.out 0).trans rfl; have hcz36_1 : w33.cell? ⟨gb150, 1, none⟩ = some (.string t147) := (blk_cell BK150.out 1).trans rfl; have hcz36_2 : w33.cell? ⟨gb150, 2, none⟩ = some (.string t148) := (blk_cell BK150.out 2).trans rfl; have hfz36_0 := blk_frozen BK150.out 0; have hfz36_1 := blk_frozen BK150.out 1; have hfz36_2 := blk_frozen BK150.out 2))
                  go_ret
                  exact ⟨by first | rfl | (simp [errW_none, errW_some] <;> rfl) | (simp [*, errW_none, errW_some] <;> rfl), by repeat (first | (with_reducible first | exact HB.out | apply below_alloc | apply pw_below_drewN | apply below_drew1 | refine below_set ?_ GE150.out | refine below_set ?_ GE157.out) | exact HB.out)⟩
              · rw [if_neg c19] at H
                have c19b0 : (t148.toList == t155.toList) = false := beq_eq_false_iff_ne.mpr c19
                have c19b1 : (t148.toList != t155.toList) = true := bne_iff_ne.mpr c19
                obtain rfl := Option.some.inj H
                go_wp2_with (first | ((with_reducible refine gate_callee (f := 11) rfl ?_); refine goesL_ (some 30) rfl rfl Try.func11 (by kernel_rfl) rfl #[.string a0, .string a1, .slice A2 l2.length c2] rfl (by (try simp only [List.map_toArray, List.map_cons, List.map_nil]); first | done | rfl | (simp only [List.length_drop, List.length_take]; rfl)) ?_; (with_reducible refine (impl_KindFor.calls kj3 a0 a1 _ _ l2 t146 t147 t148 true _ ?side1 ?side2 A10.out).mono ?_); (case side1 => repeat (first | exact (Kd.C_below HR2.out HB.out) | (with_reducible refine Kd.C_alloc ?_ _) | (with_reducible refine Kd.C_drewN ?_ _) | (with_reducible refine Kd.C_drew ?_))); (case side2 => exact HC2.out); rintro e w37 ⟨rfl, hb⟩; refine ⟨_, rfl, ?_⟩; have n0_ := Aside0.mk (below_step (by repeat (first | (with_reducible first | exact HB.out | apply below_alloc | apply pw_below_drewN | apply below_drew1) | exact HB.out)) hb); clear HB; have HB := n0_; clear n0_; (try clear hb); (try clear hb2); (try clear hk); (try clear hi)) | ((with_reducible refine gate_dst (N := 7) rfl ?_); (try (refine gate_guard (by rfl) ?_; dsimp only)); refine box_event ?hg (N := 7) ?hd (cs := #[.string (⟨#[]⟩ : ByteArray), .string (⟨#[]⟩ : ByteArray), .string (⟨#[]⟩ : ByteArray)]) (t := 25) ?hr ?_; (case hd => rfl); (case hg => rfl); (case hr => first | (go_simp; done) | (go_simp; rfl)); intro gb150 hg w38 hbox hb; have n0_ := Aside0.mk (below_step (by repeat (first | (with_reducible first | exact HB.out | apply below_alloc | apply pw_below_drewN | apply below_drew1) | exact HB.out)) hb); have n1_ := Aside0.mk (hbox); have n2_ := Aside0.mk ((by rw [hg]; exact (below_size (by repeat (first | (with_reducible first | exact HB.out | apply below_alloc | apply pw_below_drewN | apply below_drew1) | exact HB.out))) : w.heap.size ≤ gb150)); have n3_ := Aside0.mk ((by rw [hg]; exact (below_size (by repeat (first | (with_reducible first | exact HB.out | apply below_alloc | apply pw_below_drewN | apply below_drew1) | exact HB.out))) : w.heap.size ≤ gb150)); clear HB; have HB := n0_; have BK150 := n1_; have GW150 := n2_; have GE150 := n3_; clear n0_ n1_ n2_ n3_; clear hb hbox hg; have hcz39_0 : w38.cell? ⟨gb150, 0, none⟩ = some (.string (⟨#[]⟩ : ByteArray)) := (blk_cell BK150.out 0).trans rfl; have hcz39_1 : w38.cell? ⟨gb150, 1, none⟩ = some (.string (⟨#[]⟩ : ByteArray)) := (blk_cell BK150.out 1).trans rfl; have hcz39_2 : w38.cell? ⟨gb150, 2, none⟩ = some (.string (⟨#[]⟩ : ByteArray)) := (blk_cell BK150.out 2).trans rfl; have hfz39_0 := blk_frozen BK150.out 0; have hfz39_1 := blk_frozen BK150.out 1; have hfz39_2 := blk_frozen BK150.out 2) | ((with_reducible refine gate_callee (f := 12) rfl ?_); refine goesL_ (some 37) rfl rfl Try.func12 (by kernel_rfl) rfl #[.string a0, .string a1, .slice A2 l2.length c2] rfl (by (try simp only [List.map_toArray, List.map_cons, List.map_nil]); first | done | rfl | (simp only [List.length_drop, List.length_take]; rfl)) ?_; (with_reducible refine (spec_KindHas.calls kj3 a0 a1 _ _ l2 t151 t152 _ ?side1 ?side2 A11.out).mono ?_); (case side1 => exact Kd.C_below HR2.out (by repeat (first | (with_reducible first | exact HB.out | apply below_alloc | apply pw_below_drewN | apply below_drew1 | refine below_set ?_ GE150.out) | exact HB.out))); (case side2 => exact HC2.out); rintro e w' ⟨rfl, ⟨nd, rfl⟩⟩; refine ⟨_, rfl, ?_⟩) | ((with_reducible refine gate_callee (f := 13) rfl ?_); refine goesL_ (some 53) rfl rfl Try.func13 (by kernel_rfl) rfl #[.string a0, .string a1, .slice A2 l2.length c2, .bool t152] rfl (by (try simp only [List.map_toArray, List.map_cons, List.map_nil]); first | done | rfl | (simp only [List.length_drop, List.length_take]; rfl)) ?_; (with_reducible refine (spec_KindFirst.calls kj3 a0 a1 _ _ l2 t152 t153 t154 t155 t156 _ ?side1 ?side2 A17.out).mono ?_); (case side1 => exact Kd.C_below HR2.out (by repeat (first | (with_reducible first | exact HB.out | apply below_alloc | apply pw_below_drewN | apply below_drew1 | refine below_set ?_ GE150.out) | exact HB.out))); (case side2 => exact HC2.out); rintro e w40 ⟨rfl, hb⟩; refine ⟨_, rfl, ?_⟩; have n0_ := Aside0.mk (blk_below (g := gb150) (o := .cells #[.string t146, .string t147, .string t148] 25 (0, 0)) (by (with_reducible repeat (first | refine blk_drewN ?_ _ | refine blk_drew ?_ | refine blk_alloc ?_ _)); refine blk_put (cs := #[.string t146, .string t147, .string (⟨#[]⟩ : ByteArray)]) ?_ 2 _ rfl; (with_reducible repeat (first | refine blk_drewN ?_ _ | refine blk_drew ?_ | refine blk_alloc ?_ _)); refine blk_put (cs := #[.string t146, .string (⟨#[]⟩ : ByteArray), .string (⟨#[]⟩ : ByteArray)]) ?_ 1 _ rfl; (with_reducible repeat (first | refine blk_drewN ?_ _ | refine blk_drew ?_ | refine blk_alloc ?_ _)); refine blk_put (cs := #[.string (⟨#[]⟩ : ByteArray), .string (⟨#[]⟩ : ByteArray), .string (⟨#[]⟩ : ByteArray)]) ?_ 0 _ rfl; (with_reducible repeat (first | refine blk_drewN ?_ _ | refine blk_drew ?_ | refine blk_alloc ?_ _)); exact BK150.out) hb); have n1_ := Aside0.mk (below_step (by repeat (first | (with_reducible first | exact HB.out | apply below_alloc | apply pw_below_drewN | apply below_drew1 | refine below_set ?_ GE150.out) | exact HB.out)) hb); clear BK150; clear HB; have BK150 := n0_; have HB := n1_; clear n0_ n1_; (try clear hb); (try clear hb2); (try clear hk); (try clear hi)) | ((with_reducible refine gate_dst (N := 11) rfl ?_); (try (refine gate_guard (by rfl) ?_; dsimp only)); refine box_event ?hg (N := 11) ?hd (cs := #[.string (⟨#[]⟩ : ByteArray), .string (⟨#[]⟩ : ByteArray), .string (⟨#[]⟩ : ByteArray)]) (t := 25) ?hr ?_; (case hd => rfl); (case hg => rfl); (case hr => first | (go_simp; done) | (go_simp; rfl)); intro gb157 hg w41 hbox hb; have n0_ := Aside0.mk (blk_below (g := gb150) (o := .cells #[.string t146, .string t147, .string t148] 25 (0, 0)) (by (with_reducible repeat (first | refine blk_drewN ?_ _ | refine blk_drew ?_ | refine blk_alloc ?_ _)); exact BK150.out) hb); have n1_ := Aside0.mk (below_step (by repeat (first | (with_reducible first | exact HB.out | apply below_alloc | apply pw_below_drewN | apply below_drew1 | refine below_set ?_ GE150.out) | exact HB.out)) hb); have n2_ := Aside0.mk (hbox); have n3_ := Aside0.mk ((by rw [hg]; exact (below_size (by repeat (first | (with_reducible first | exact HB.out | apply below_alloc | apply pw_below_drewN | apply below_drew1 | refine below_set ?_ GE150.out) | exact HB.out))) : w.heap.size ≤ gb157)); have n4_ := Aside0.mk ((by rw [hg]; exact (below_size (by repeat (first | (with_reducible first | exact HB.out | apply below_alloc | apply pw_below_drewN | apply below_drew1 | refine below_set ?_ GE150.out) | exact HB.out))) : w.heap.size ≤ gb157)); have n5_ := Aside0.mk ((by rw [hg]; exact Nat.ne_of_lt (blk_lt (g := gb150) (o := .cells #[.string t146, .string t147, .string t148] 25 (0, 0)) (by (with_reducible repeat (first | refine blk_drewN ?_ _ | refine blk_drew ?_ | refine blk_alloc ?_ _)); exact BK150.out)) : gb150 ≠ gb157)); have n6_ := Aside0.mk ((by rw [hg]; exact Nat.ne_of_gt (blk_lt (g := gb150) (o := .cells #[.string t146, .string t147, .string t148] 25 (0, 0)) (by (with_reducible repeat (first | refine blk_drewN ?_ _ | refine blk_drew ?_ | refine blk_alloc ?_ _)); exact BK150.out)) : gb157 ≠ gb150)); clear BK150; clear HB; have BK150 := n0_; have HB := n1_; have BK157 := n2_; have GW157 := n3_; have GE157 := n4_; have NB150_157 := n5_; have NB157_150 := n6_; clear n0_ n1_ n2_ n3_ n4_ n5_ n6_; clear hb hbox hg; have hnb42 := NB157_150.out; have hnc42 := NB150_157.out; have hcz43_0 : w41.cell? ⟨gb157, 0, none⟩ = some (.string (⟨#[]⟩ : ByteArray)) := (blk_cell BK157.out 0).trans rfl; have hcz43_1 : w41.cell? ⟨gb157, 1, none⟩ = some (.string (⟨#[]⟩ : ByteArray)) := (blk_cell BK157.out 1).trans rfl; have hcz43_2 : w41.cell? ⟨gb157, 2, none⟩ = some (.string (⟨#[]⟩ : ByteArray)) := (blk_cell BK157.out 2).trans rfl; have hfz43_0 := blk_frozen BK157.out 0; have hfz43_1 := blk_frozen BK157.out 1; have hfz43_2 := blk_frozen BK157.out 2; have hcz44_0 : w41.cell? ⟨gb150, 0, none⟩ = some (.string t146) := (blk_cell BK150.out 0).trans rfl; have hcz44_1 : w41.cell? ⟨gb150, 1, none⟩ = some (.string t147) := (blk_cell BK150.out 1).trans rfl; have hcz44_2 : w41.cell? ⟨gb150, 2, none⟩ = some (.string t148) := (blk_cell BK150.out 2).trans rfl; have hfz44_0 := blk_frozen BK150.out 0; have hfz44_1 := blk_frozen BK150.out 1; have hfz44_2 := blk_frozen BK150.out 2))
                go_ret
                exact ⟨by first | rfl | (simp [errW_none, errW_some] <;> rfl) | (simp [*, errW_none, errW_some] <;> rfl), by repeat (first | (with_reducible first | exact HB.out | apply below_alloc | apply pw_below_drewN | apply below_drew1 | refine below_set ?_ GE150.out | refine below_set ?_ GE157.out) | exact HB.out)⟩
            · rw [if_neg c18] at H
              have c18b0 : (t146.toList == a0.toList) = false := beq_eq_false_iff_ne.mpr c18
              have c18b1 : (t146.toList != a0.toList) = true := bne_iff_ne.mpr c18
              obtain rfl := Option.some.inj H
              go_wp2_with (first | ((with_reducible refine gate_callee (f := 11) rfl ?_); refine goesL_ (some 30) rfl rfl Try.func11 (by kernel_rfl) rfl #[.string a0, .string a1, .slice A2 l2.length c2] rfl (by (try simp only [List.map_toArray, List.map_cons, List.map_nil]); first | done | rfl | (simp only [List.length_drop, List.length_take]; rfl)) ?_; (with_reducible refine (impl_KindFor.calls kj3 a0 a1 _ _ l2 t146 t147 t148 true _ ?side1 ?side2 A10.out).mono ?_); (case side1 => repeat (first | exact (Kd.C_below HR2.out HB.out) | (with_reducible refine Kd.C_alloc ?_ _) | (with_reducible refine Kd.C_drewN ?_ _) | (with_reducible refine Kd.C_drew ?_))); (case side2 => exact HC2.out); rintro e w45 ⟨rfl, hb⟩; refine ⟨_, rfl, ?_⟩; have n0_ := Aside0.mk (below_step (by repeat (first | (with_reducible first | exact HB.out | apply below_alloc | apply pw_below_drewN | apply below_drew1) | exact HB.out)) hb); clear HB; have HB := n0_; clear n0_; (try clear hb); (try clear hb2); (try clear hk); (try clear hi)) | ((with_reducible refine gate_dst (N := 7) rfl ?_); (try (refine gate_guard (by rfl) ?_; dsimp only)); refine box_event ?hg (N := 7) ?hd (cs := #[.string (⟨#[]⟩ : ByteArray), .string (⟨#[]⟩ : ByteArray), .string (⟨#[]⟩ : ByteArray)]) (t := 25) ?hr ?_; (case hd => rfl); (case hg => rfl); (case hr => first | (go_simp; done) | (go_simp; rfl)); intro gb150 hg w46 hbox hb; have n0_ := Aside0.mk (below_step (by repeat (first | (with_reducible first | exact HB.out | apply below_alloc | apply pw_below_drewN | apply below_drew1) | exact HB.out)) hb); have n1_ := Aside0.mk (hbox); have n2_ := Aside0.mk ((by rw [hg]; exact (below_size (by repeat (first | (with_reducible first | exact HB.out | apply below_alloc | apply pw_below_drewN | apply below_drew1) | exact HB.out))) : w.heap.size ≤ gb150)); have n3_ := Aside0.mk ((by rw [hg]; exact (below_size (by repeat (first | (with_reducible first | exact HB.out | apply below_alloc | apply pw_below_drewN | apply below_drew1) | exact HB.out))) : w.heap.size ≤ gb150)); clear HB; have HB := n0_; have BK150 := n1_; have GW150 := n2_; have GE150 := n3_; clear n0_ n1_ n2_ n3_; clear hb hbox hg; have hcz47_0 : w46.cell? ⟨gb150, 0, none⟩ = some (.string (⟨#[]⟩ : ByteArray)) := (blk_cell BK150.out 0).trans rfl; have hcz47_1 : w46.cell? ⟨gb150, 1, none⟩ = some (.string (⟨#[]⟩ : ByteArray)) := (blk_cell BK150.out 1).trans rfl; have hcz47_2 : w46.cell? ⟨gb150, 2, none⟩ = some (.string (⟨#[]⟩ : ByteArray)) := (blk_cell BK150.out 2).trans rfl; have hfz47_0 := blk_frozen BK150.out 0; have hfz47_1 := blk_frozen BK150.out 1; have hfz47_2 := blk_frozen BK150.out 2) | ((with_reducible refine gate_callee (f := 12) rfl ?_); refine goesL_ (some 37) rfl rfl Try.func12 (by kernel_rfl) rfl #[.string a0, .string a1, .slice A2 l2.length c2] rfl (by (try simp only [List.map_toArray, List.map_cons, List.map_nil]); first | done | rfl | (simp only [List.length_drop, List.length_take]; rfl)) ?_; (with_reducible refine (spec_KindHas.calls kj3 a0 a1 _ _ l2 t151 t152 _ ?side1 ?side2 A11.out).mono ?_); (case side1 => exact Kd.C_below HR2.out (by repeat (first | (with_reducible first | exact HB.out | apply below_alloc | apply pw_below_drewN | apply below_drew1 | refine below_set ?_ GE150.out) | exact HB.out))); (case side2 => exact HC2.out); rintro e w' ⟨rfl, ⟨nd, rfl⟩⟩; refine ⟨_, rfl, ?_⟩) | ((with_reducible refine gate_callee (f := 13) rfl ?_); refine goesL_ (some 53) rfl rfl Try.func13 (by kernel_rfl) rfl #[.string a0, .string a1, .slice A2 l2.length c2, .bool t152] rfl (by (try simp only [List.map_toArray, List.map_cons, List.map_nil]); first | done | rfl | (simp only [List.length_drop, List.length_take]; rfl)) ?_; (with_reducible refine (spec_KindFirst.calls kj3 a0 a1 _ _ l2 t152 t153 t154 t155 t156 _ ?side1 ?side2 A17.out).mono ?_); (case side1 => exact Kd.C_below HR2.out (by repeat (first | (with_reducible first | exact HB.out | apply below_alloc | apply pw_below_drewN | apply below_drew1 | refine below_set ?_ GE150.out) | exact HB.out))); (case side2 => exact HC2.out); rintro e w48 ⟨rfl, hb⟩; refine ⟨_, rfl, ?_⟩; have n0_ := Aside0.mk (blk_below (g := gb150) (o := .cells #[.string t146, .string t147, .string t148] 25 (0, 0)) (by (with_reducible repeat (first | refine blk_drewN ?_ _ | refine blk_drew ?_ | refine blk_alloc ?_ _)); refine blk_put (cs := #[.string t146, .string t147, .string (⟨#[]⟩ : ByteArray)]) ?_ 2 _ rfl; (with_reducible repeat (first | refine blk_drewN ?_ _ | refine blk_drew ?_ | refine blk_alloc ?_ _)); refine blk_put (cs := #[.string t146, .string (⟨#[]⟩ : ByteArray), .string (⟨#[]⟩ : ByteArray)]) ?_ 1 _ rfl; (with_reducible repeat (first | refine blk_drewN ?_ _ | refine blk_drew ?_ | refine blk_alloc ?_ _)); refine blk_put (cs := #[.string (⟨#[]⟩ : ByteArray), .string (⟨#[]⟩ : ByteArray), .string (⟨#[]⟩ : ByteArray)]) ?_ 0 _ rfl; (with_reducible repeat (first | refine blk_drewN ?_ _ | refine blk_drew ?_ | refine blk_alloc ?_ _)); exact BK150.out) hb); have n1_ := Aside0.mk (below_step (by repeat (first | (with_reducible first | exact HB.out | apply below_alloc | apply pw_below_drewN | apply below_drew1 | refine below_set ?_ GE150.out) | exact HB.out)) hb); clear BK150; clear HB; have BK150 := n0_; have HB := n1_; clear n0_ n1_; (try clear hb); (try clear hb2); (try clear hk); (try clear hi)) | ((with_reducible refine gate_dst (N := 11) rfl ?_); (try (refine gate_guard (by rfl) ?_; dsimp only)); refine box_event ?hg (N := 11) ?hd (cs := #[.string (⟨#[]⟩ : ByteArray), .string (⟨#[]⟩ : ByteArray), .string (⟨#[]⟩ : ByteArray)]) (t := 25) ?hr ?_; (case hd => rfl); (case hg => rfl); (case hr => first | (go_simp; done) | (go_simp; rfl)); intro gb157 hg w49 hbox hb; have n0_ := Aside0.mk (blk_below (g := gb150) (o := .cells #[.string t146, .string t147, .string t148] 25 (0, 0)) (by (with_reducible repeat (first | refine blk_drewN ?_ _ | refine blk_drew ?_ | refine blk_alloc ?_ _)); exact BK150.out) hb); have n1_ := Aside0.mk (below_step (by repeat (first | (with_reducible first | exact HB.out | apply below_alloc | apply pw_below_drewN | apply below_drew1 | refine below_set ?_ GE150.out) | exact HB.out)) hb); have n2_ := Aside0.mk (hbox); have n3_ := Aside0.mk ((by rw [hg]; exact (below_size (by repeat (first | (with_reducible first | exact HB.out | apply below_alloc | apply pw_below_drewN | apply below_drew1 | refine below_set ?_ GE150.out) | exact HB.out))) : w.heap.size ≤ gb157)); have n4_ := Aside0.mk ((by rw [hg]; exact (below_size (by repeat (first | (with_reducible first | exact HB.out | apply below_alloc | apply pw_below_drewN | apply below_drew1 | refine below_set ?_ GE150.out) | exact HB.out))) : w.heap.size ≤ gb157)); have n5_ := Aside0.mk ((by rw [hg]; exact Nat.ne_of_lt (blk_lt (g := gb150) (o := .cells #[.string t146, .string t147, .string t148] 25 (0, 0)) (by (with_reducible repeat (first | refine blk_drewN ?_ _ | refine blk_drew ?_ | refine blk_alloc ?_ _)); exact BK150.out)) : gb150 ≠ gb157)); have n6_ := Aside0.mk ((by rw [hg]; exact Nat.ne_of_gt (blk_lt (g := gb150) (o := .cells #[.string t146, .string t147, .string t148] 25 (0, 0)) (by (with_reducible repeat (first | refine blk_drewN ?_ _ | refine blk_drew ?_ | refine blk_alloc ?_ _)); exact BK150.out)) : gb157 ≠ gb150)); clear BK150; clear HB; have BK150 := n0_; have HB := n1_; have BK157 := n2_; have GW157 := n3_; have GE157 := n4_; have NB150_157 := n5_; have NB157_150 := n6_; clear n0_ n1_ n2_ n3_ n4_ n5_ n6_; clear hb hbox hg; have hnb50 := NB157_150.out; have hnc50 := NB150_157.out; have hcz51_0 : w49.cell? ⟨gb157, 0, none⟩ = some (.string (⟨#[]⟩ : ByteArray)) := (blk_cell BK157.out 0).trans rfl; have hcz51_1 : w49.cell? ⟨gb157, 1, none⟩ = some (.string (⟨#[]⟩ : ByteArray)) := (blk_cell BK157.out 1).trans rfl; have hcz51_2 : w49.cell? ⟨gb157, 2, none⟩ = some (.string (⟨#[]⟩ : ByteArray)) := (blk_cell BK157.out 2).trans rfl; have hfz51_0 := blk_frozen BK157.out 0; have hfz51_1 := blk_frozen BK157.out 1; have hfz51_2 := blk_frozen BK157.out 2; have hcz52_0 : w49.cell? ⟨gb150, 0, none⟩ = some (.string t146) := (blk_cell BK150.out 0).trans rfl; have hcz52_1 : w49.cell? ⟨gb150, 1, none⟩ = some (.string t147) := (blk_cell BK150.out 1).trans rfl; have hcz52_2 : w49.cell? ⟨gb150, 2, none⟩ = some (.string t148) := (blk_cell BK150.out 2).trans rfl; have hfz52_0 := blk_frozen BK150.out 0; have hfz52_1 := blk_frozen BK150.out 1; have hfz52_2 := blk_frozen BK150.out 2))
              go_ret
              exact ⟨by first | rfl | (simp [errW_none, errW_some] <;> rfl) | (simp [*, errW_none, errW_some] <;> rfl), by repeat (first | (with_reducible first | exact HB.out | apply below_alloc | apply pw_below_drewN | apply below_drew1 | refine below_set ?_ GE150.out | refine below_set ?_ GE157.out) | exact HB.out)⟩
          · replace c16 := Bool.eq_false_iff.mpr c16
            subst c16
            have H1 : (some (t146.toList == ([] : List UInt8) && (t147.toList == ([] : List UInt8) && (t148.toList == ([] : List UInt8))))) = some r := by rw [if_neg (show ¬ (false = true) by decide)] at H; exact H
            clear H
            have H := H1
            clear H1
            obtain rfl := Option.some.inj H
            go_wp2_with (first | ((with_reducible refine gate_callee (f := 11) rfl ?_); refine goesL_ (some 30) rfl rfl Try.func11 (by kernel_rfl) rfl #[.string a0, .string a1, .slice A2 l2.length c2] rfl (by (try simp only [List.map_toArray, List.map_cons, List.map_nil]); first | done | rfl | (simp only [List.length_drop, List.length_take]; rfl)) ?_; (with_reducible refine (impl_KindFor.calls kj3 a0 a1 _ _ l2 t146 t147 t148 false _ ?side1 ?side2 A10.out).mono ?_); (case side1 => repeat (first | exact (Kd.C_below HR2.out HB.out) | (with_reducible refine Kd.C_alloc ?_ _) | (with_reducible refine Kd.C_drewN ?_ _) | (with_reducible refine Kd.C_drew ?_))); (case side2 => exact HC2.out); rintro e w53 ⟨rfl, hb⟩; refine ⟨_, rfl, ?_⟩; have n0_ := Aside0.mk (below_step (by repeat (first | (with_reducible first | exact HB.out | apply below_alloc | apply pw_below_drewN | apply below_drew1) | exact HB.out)) hb); clear HB; have HB := n0_; clear n0_; (try clear hb); (try clear hb2); (try clear hk); (try clear hi)) | ((with_reducible refine gate_dst (N := 7) rfl ?_); (try (refine gate_guard (by rfl) ?_; dsimp only)); refine box_event ?hg (N := 7) ?hd (cs := #[.string (⟨#[]⟩ : ByteArray), .string (⟨#[]⟩ : ByteArray), .string (⟨#[]⟩ : ByteArray)]) (t := 25) ?hr ?_; (case hd => rfl); (case hg => rfl); (case hr => first | (go_simp; done) | (go_simp; rfl)); intro gb150 hg w54 hbox hb; have n0_ := Aside0.mk (below_step (by repeat (first | (with_reducible first | exact HB.out | apply below_alloc | apply pw_below_drewN | apply below_drew1) | exact HB.out)) hb); have n1_ := Aside0.mk (hbox); have n2_ := Aside0.mk ((by rw [hg]; exact (below_size (by repeat (first | (with_reducible first | exact HB.out | apply below_alloc | apply pw_below_drewN | apply below_drew1) | exact HB.out))) : w.heap.size ≤ gb150)); have n3_ := Aside0.mk ((by rw [hg]; exact (below_size (by repeat (first | (with_reducible first | exact HB.out | apply below_alloc | apply pw_below_drewN | apply below_drew1) | exact HB.out))) : w.heap.size ≤ gb150)); clear HB; have HB := n0_; have BK150 := n1_; have GW150 := n2_; have GE150 := n3_; clear n0_ n1_ n2_ n3_; clear hb hbox hg; have hcz55_0 : w54.cell? ⟨gb150, 0, none⟩ = some (.string (⟨#[]⟩ : ByteArray)) := (blk_cell BK150.out 0).trans rfl; have hcz55_1 : w54.cell? ⟨gb150, 1, none⟩ = some (.string (⟨#[]⟩ : ByteArray)) := (blk_cell BK150.out 1).trans rfl; have hcz55_2 : w54.cell? ⟨gb150, 2, none⟩ = some (.string (⟨#[]⟩ : ByteArray)) := (blk_cell BK150.out 2).trans rfl; have hfz55_0 := blk_frozen BK150.out 0; have hfz55_1 := blk_frozen BK150.out 1; have hfz55_2 := blk_frozen BK150.out 2) | ((with_reducible refine gate_callee (f := 12) rfl ?_); refine goesL_ (some 37) rfl rfl Try.func12 (by kernel_rfl) rfl #[.string a0, .string a1, .slice A2 l2.length c2] rfl (by (try simp only [List.map_toArray, List.map_cons, List.map_nil]); first | done | rfl | (simp only [List.length_drop, List.length_take]; rfl)) ?_; (with_reducible refine (spec_KindHas.calls kj3 a0 a1 _ _ l2 t151 t152 _ ?side1 ?side2 A11.out).mono ?_); (case side1 => exact Kd.C_below HR2.out (by repeat (first | (with_reducible first | exact HB.out | apply below_alloc | apply pw_below_drewN | apply below_drew1 | refine below_set ?_ GE150.out) | exact HB.out))); (case side2 => exact HC2.out); rintro e w' ⟨rfl, ⟨nd, rfl⟩⟩; refine ⟨_, rfl, ?_⟩))
            go_ret
            exact ⟨by first | rfl | (simp [errW_none, errW_some] <;> rfl) | (simp [*, errW_none, errW_some] <;> rfl), by repeat (first | (with_reducible first | exact HB.out | apply below_alloc | apply pw_below_drewN | apply below_drew1 | refine below_set ?_ GE150.out) | exact HB.out)⟩

/-- THE ONE PURE STATEMENT of laws_FnKindFor: yours. -/
def laws_FnKindFor.Pure : Prop := ∀ (a0 : ByteArray) (a1 : ByteArray) (l2 : List (S25)), a0.size ≤ maxLen → a1.size ≤ maxLen → (l2.length ≤ maxLen ∧ ∀ x_ ∈ l2, (x_.f0.size ≤ maxLen ∧ (x_.f1.size ≤ maxLen ∧ (x_.f2.size ≤ maxLen)))) → ∃ k, laws_FnKindFor.f k a0 a1 l2 = some true
theorem laws_FnKindFor.walk (P : laws_FnKindFor.Pure) (a0 : ByteArray) (a1 : ByteArray) (A2 : Option Addr) (c2 : Nat) (l2 : List (S25)) (w : World) (hr2 : Kd.C k25 w A2 l2.length l2) (hc2 : l2.length ≤ c2) (w0 : a0.size ≤ maxLen) (w1 : a1.size ≤ maxLen) (w2 : (l2.length ≤ maxLen ∧ ∀ x_ ∈ l2, (x_.f0.size ≤ maxLen ∧ (x_.f1.size ≤ maxLen ∧ (x_.f2.size ≤ maxLen))))) :
    Calls Try.prog 3 #[.string a0, .string a1, .slice A2 l2.length c2] w fun e w' => e = .returned (.bool true) ∧ Below w.heap.size w w' := by
  obtain ⟨k, h⟩ := P a0 a1 l2 w0 w1 w2
  refine (laws_FnKindFor.calls k a0 a1 _ _ l2 true w hr2 hc2 h).mono ?_
  rintro e w' ⟨rfl, hd⟩
  exact ⟨rfl, hd⟩

end Go.Proofs.Ytpaihcikeieliaa.PFnKindFor
