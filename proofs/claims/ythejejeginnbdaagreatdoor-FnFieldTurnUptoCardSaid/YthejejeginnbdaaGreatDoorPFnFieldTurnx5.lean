/- Functions of the program as plain Lean functions, and that the machine's calls do what these say: written for this claim by wip/myprint.py over the kit's print.py. -/
import Derived.Test.YthejejeginnbdaaGreatDoorPFnFieldTurnx0
import Derived.Test.YthejejeginnbdaaGreatDoorPFnFieldTurnx2
import Derived.Test.YthejejeginnbdaaGreatDoorPFnFieldTurnx3
import Derived.Test.YthejejeginnbdaaGreatDoorPFnFieldTurnx4
namespace Go.Proofs.YthejejeginnbdaaGreatDoor.PFnFieldTurn
open Go.RowKit Go.Proofs.YthejejeginnbdaaGreatDoorW.PrintWords Go.Proofs.YthejejeginnbdaaGreatDoorW.PrintLast Go.Proofs.YthejejeginnbdaaGreatDoorW.PrintMore
attribute [local go_sem] max2_int min2_int max_two min_two max_three min_three max_four min_four   -- for this text's walks alone
set_option linter.unusedVariables false
set_option linter.unusedSimpArgs false

/-! ### spec_FieldCut: function 27 -/
mutual
def spec_FieldCut.l0 : Nat → ByteArray → Int → Option (ByteArray × ByteArray × ByteArray × Bool)
  | 0, _, _ => none
  | k + 1, x0, x6 => if x6 < (x0.size : Int) then (if (wrap64 (x6 + 1)) < (x0.size : Int) then (if 0 ≤ x6 then (if x6 ≤ (wrap64 (x6 + 2)) then (if (wrap64 (x6 + 2)) ≤ (x0.size : Int) then (if (x0.extract (x6 : Int).toNat ((wrap64 (x6 + 2)) : Int).toNat).toList = ([33, 61] : List UInt8) then (spec_FieldCut.j1 k x0 x6 true) else (spec_FieldCut.j1 k x0 x6 ((x0.extract (x6 : Int).toNat ((wrap64 (x6 + 2)) : Int).toNat).toList == ([61, 61] : List UInt8)))) else (none)) else (none)) else (none)) else (spec_FieldCut.j1 k x0 x6 false)) else (some ((⟨#[]⟩ : ByteArray), (⟨#[]⟩ : ByteArray), (⟨#[]⟩ : ByteArray), false))
def spec_FieldCut.j1 : Nat → ByteArray → Int → Bool → Option (ByteArray × ByteArray × ByteArray × Bool)
  | 0, _, _, _ => none
  | k + 1, x0, x6, x33 => if x33 = true then (if 0 ≤ x6 then (if x6 ≤ (x0.size : Int) then (if x6 ≤ (wrap64 (x6 + 2)) then (if (wrap64 (x6 + 2)) ≤ (x0.size : Int) then (if 0 ≤ (wrap64 (x6 + 2)) then (some (x0.extract 0 (x6 : Int).toNat, x0.extract (x6 : Int).toNat ((wrap64 (x6 + 2)) : Int).toNat, x0.extract ((wrap64 (x6 + 2)) : Int).toNat x0.size, true)) else (none)) else (none)) else (none)) else (none)) else (none)) else (if 0 ≤ x6 then (if x6 < (x0.size : Int) then (if (bt x0 x6) = 61 then (if x6 ≤ (x0.size : Int) then (if 0 ≤ (wrap64 (x6 + 1)) then (if (wrap64 (x6 + 1)) ≤ (x0.size : Int) then (some (x0.extract 0 (x6 : Int).toNat, (⟨#[61]⟩ : ByteArray), x0.extract ((wrap64 (x6 + 1)) : Int).toNat x0.size, true)) else (none)) else (none)) else (none)) else (spec_FieldCut.l0 k x0 (wrap64 (x6 + 1)))) else (none)) else (none))
end
def spec_FieldCut.f (k : Nat) (a0 : ByteArray) : Option (ByteArray × ByteArray × ByteArray × Bool) := spec_FieldCut.l0 k a0 0
theorem spec_FieldCut.mono_l : ∀ k, (∀ y0 y1, LeO (spec_FieldCut.l0 k y0 y1) (spec_FieldCut.l0 (k + 1) y0 y1)) ∧ (∀ y0 y1 y2, LeO (spec_FieldCut.j1 k y0 y1 y2) (spec_FieldCut.j1 (k + 1) y0 y1 y2))
  | 0 => ⟨fun _ _ r h => by simp [spec_FieldCut.l0] at h, fun _ _ _ r h => by simp [spec_FieldCut.j1] at h⟩
  | k + 1 => by
    obtain ⟨ih0, ih1⟩ := spec_FieldCut.mono_l k
    refine ⟨?_, ?_⟩
    · intro y0 y1
      unfold spec_FieldCut.l0
      repeat' first
      | (with_reducible exact ih0 _ _)
      | (with_reducible exact ih1 _ _ _)
      | (with_reducible exact LeO.refl _)
      | (with_reducible exact LeO.none _)
      | (with_reducible refine LeO.ite ?_ ?_)
      | (with_reducible refine LeO.bind ?_ (fun _ => ?_))
      | exact ih0 _ _
      | exact ih1 _ _ _
      | exact LeO.none _
      | refine LeO.ite ?_ ?_
      | refine LeO.bind ?_ (fun _ => ?_)
    · intro y0 y1 y2
      unfold spec_FieldCut.j1
      repeat' first
      | (with_reducible exact ih0 _ _)
      | (with_reducible exact ih1 _ _ _)
      | (with_reducible exact LeO.refl _)
      | (with_reducible exact LeO.none _)
      | (with_reducible refine LeO.ite ?_ ?_)
      | (with_reducible refine LeO.bind ?_ (fun _ => ?_))
      | exact ih0 _ _
      | exact ih1 _ _ _
      | exact LeO.none _
      | refine LeO.ite ?_ ?_
      | refine LeO.bind ?_ (fun _ => ?_)
theorem spec_FieldCut.mono : ∀ a0 k, LeO (spec_FieldCut.f k a0) (spec_FieldCut.f (k + 1) a0) := by
  intro a0 k
  obtain ⟨ih0, ih1⟩ := spec_FieldCut.mono_l k
  unfold spec_FieldCut.f
  repeat' first
      | (with_reducible exact ih0 _ _)
      | (with_reducible exact ih1 _ _ _)
      | (with_reducible exact LeO.refl _)
      | (with_reducible exact LeO.none _)
      | (with_reducible refine LeO.ite ?_ ?_)
      | (with_reducible refine LeO.bind ?_ (fun _ => ?_))
      | exact ih0 _ _
      | exact ih1 _ _ _
      | exact LeO.none _
      | refine LeO.ite ?_ ?_
      | refine LeO.bind ?_ (fun _ => ?_)
set_option maxHeartbeats 8000000 in
set_option maxRecDepth 100000 in
theorem spec_FieldCut.calls (k : Nat) (a0 : ByteArray) (r1 : ByteArray) (r2 : ByteArray) (r3 : ByteArray) (r4 : Bool) (w : World) (h : spec_FieldCut.f k a0 = some (r1, r2, r3, r4)) :
    Calls Tryz.prog 27 #[.string a0] w fun e w' => e = .returned (.tuple #[.string r1, .string r2, .string r3, .bool r4]) ∧ Drawn0 w w' := by
  have H : (spec_FieldCut.l0 k a0 0) = some (r1, r2, r3, r4) := h
  clear h
  have H' := Aside0.mk H
  clear H
  go_enter Tryz.func27, Tryz.ntmps27
  go_wp2
  repeat (go_quiet (fail); try go_wp2)
  go_loopg [6] k (fun kq v6 w' => ∃ (x6_1 : Int), v6 = .int .i64 x6_1 ∧ Aside0 (spec_FieldCut.l0 kq a0 x6_1 = some (r1, r2, r3, r4)) ∧ Aside0 (kq ≤ k) ∧ Drawn0 w w')
  case atStart => exact ⟨(0), (by first | rfl | (simp; done) | (simp [*]; done)), H', ⟨Nat.le_refl _⟩, by repeat (first | exact Drawn0.refl _ | apply Drawn0.step)⟩
  case round =>
    clear H'
    obtain ⟨x6_1, rfl, HA, HK1, ⟨m1, rfl⟩⟩ := hrel
    cases gk with
    | zero => exact absurd HA.out (by simp [spec_FieldCut.l0])
    | succ k1 =>
      have H := HA.out
      clear HA
      simp only [spec_FieldCut.l0] at H
      by_cases c2 : x6_1 < (a0.size : Int)
      · rw [if_pos c2] at H
        have c2b0 : decide (x6_1 < (a0.size : Int)) = true := decide_eq_true c2
        clear c2
        have HC3 := Aside0.mk H
        clear H
        go_upto_region 4 with (fail)
        repeat (go_quiet (fail); go_upto_region 4 with (fail))
        go_cut [33] (fun v33 wc => ∃ (kq : Nat) (x33_2 : Bool), v33 = .bool x33_2 ∧ Aside0 (spec_FieldCut.j1 kq a0 x6_1 x33_2 = some (r1, r2, r3, r4)) ∧ Aside0 (kq ≤ k1) ∧ Drawn0 w wc)
        case first =>
          have H := HC3.out
          clear HC3
          by_cases c4 : (wrap64 (x6_1 + 1)) < (a0.size : Int)
          · rw [if_pos c4] at H
            have c4b0 : decide ((wrap64 (x6_1 + 1)) < (a0.size : Int)) = true := decide_eq_true c4
            clear c4
            (first | rw [c4b0] | (simp only [i64_w, i32_w]; rw [c4b0]) | skip)
            by_cases c5 : 0 ≤ x6_1
            · rw [if_pos c5] at H
              have c5b0 := eq_true c5
              have c5b1 : decide (0 ≤ x6_1) = true := decide_eq_true c5
              clear c5
              by_cases c6 : x6_1 ≤ (wrap64 (x6_1 + 2))
              · rw [if_pos c6] at H
                have c6b0 := eq_true c6
                have c6b1 : decide (x6_1 ≤ (wrap64 (x6_1 + 2))) = true := decide_eq_true c6
                by_cases c7 : (wrap64 (x6_1 + 2)) ≤ (a0.size : Int)
                · rw [if_pos c7] at H
                  have c7b0 := eq_true c7
                  have c7b1 : decide ((wrap64 (x6_1 + 2)) ≤ (a0.size : Int)) = true := decide_eq_true c7
                  by_cases c8 : (a0.extract (x6_1 : Int).toNat ((wrap64 (x6_1 + 2)) : Int).toNat).toList = ([33, 61] : List UInt8)
                  · rw [if_pos c8] at H
                    have c8b0 : ((a0.extract (x6_1 : Int).toNat ((wrap64 (x6_1 + 2)) : Int).toNat).toList == ([33, 61] : List UInt8)) = true := beq_iff_eq.mpr c8
                    have c8b1 : ((a0.extract (x6_1 : Int).toNat ((wrap64 (x6_1 + 2)) : Int).toNat).toList != ([33, 61] : List UInt8)) = false := bne_eq_false_iff_eq.mpr c8
                    clear c8
                    have H' := Aside0.mk H
                    clear H
                    go_wp2
                    repeat (go_quiet (fail); try go_wp2)
                    go_meet
                    case rel => exact ⟨_, (true), (by first | rfl | (simp; done) | (simp [*]; done)), H', ⟨by have := HK1.out; first | omega | exact Nat.le_refl _⟩, by repeat (first | exact Drawn0.refl _ | apply Drawn0.step)⟩
                  · rw [if_neg c8] at H
                    have c8b0 : ((a0.extract (x6_1 : Int).toNat ((wrap64 (x6_1 + 2)) : Int).toNat).toList == ([33, 61] : List UInt8)) = false := beq_eq_false_iff_ne.mpr c8
                    have c8b1 : ((a0.extract (x6_1 : Int).toNat ((wrap64 (x6_1 + 2)) : Int).toNat).toList != ([33, 61] : List UInt8)) = true := bne_iff_ne.mpr c8
                    have c9b0 := eq_true (of_decide_eq_true (by first | (with_reducible assumption) | assumption) : 0 ≤ x6_1)
                    have c10b0 := eq_true (of_decide_eq_true (by first | (with_reducible assumption) | assumption) : x6_1 ≤ (wrap64 (x6_1 + 2)))
                    have c11b0 := eq_true (of_decide_eq_true (by first | (with_reducible assumption) | assumption) : (wrap64 (x6_1 + 2)) ≤ (a0.size : Int))
                    have H' := Aside0.mk H
                    clear H
                    go_wp2
                    repeat (go_quiet (fail); try go_wp2)
                    go_meet
                    case rel => exact ⟨_, (((a0.extract (x6_1 : Int).toNat ((wrap64 (x6_1 + 2)) : Int).toNat).toList == ([61, 61] : List UInt8))), (by first | rfl | (simp; done) | (simp [*]; done)), H', ⟨by have := HK1.out; first | omega | exact Nat.le_refl _⟩, by repeat (first | exact Drawn0.refl _ | apply Drawn0.step)⟩
                · rw [if_neg c7] at H
                  exact absurd H (by simp)
              · rw [if_neg c6] at H
                exact absurd H (by simp)
            · rw [if_neg c5] at H
              exact absurd H (by simp)
          · rw [if_neg c4] at H
            have c4b0 : decide ((wrap64 (x6_1 + 1)) < (a0.size : Int)) = false := decide_eq_false c4
            clear c4
            (first | rw [c4b0] | (simp only [i64_w, i32_w]; rw [c4b0]) | skip)
            have H' := Aside0.mk H
            clear H
            go_wp2
            repeat (go_quiet (fail); try go_wp2)
            go_meet
            case rel => exact ⟨_, (false), (by first | rfl | (simp; done) | (simp [*]; done)), H', ⟨by have := HK1.out; first | omega | exact Nat.le_refl _⟩, by repeat (first | exact Drawn0.refl _ | apply Drawn0.step)⟩
        case rest =>
          clear HC3
          try clear c1
          try clear c2
          try clear c2b0
          try clear p2
          try clear c4
          try clear c4b0
          try clear c5
          try clear c5b0
          try clear c5b1
          try clear c6
          try clear c6b0
          try clear c6b1
          try clear p6
          try clear c7
          try clear c7b0
          try clear c7b1
          try clear c8
          try clear c8b0
          try clear c8b1
          try clear c9
          try clear c9b0
          try clear c10
          try clear c10b0
          try clear c11
          try clear c11b0
          obtain ⟨kq, x33_2, rfl, HA, HJ2, ⟨mc2, rfl⟩⟩ := hcut
          cases kq with
          | zero => exact absurd HA.out (by simp [spec_FieldCut.j1])
          | succ kj2 =>
            have H := HA.out
            clear HA
            simp only [spec_FieldCut.j1] at H
            by_cases c12 : x33_2 = true
            · subst c12
              have H1 : (if 0 ≤ x6_1 then (if x6_1 ≤ (a0.size : Int) then (if x6_1 ≤ (wrap64 (x6_1 + 2)) then (if (wrap64 (x6_1 + 2)) ≤ (a0.size : Int) then (if 0 ≤ (wrap64 (x6_1 + 2)) then (some (a0.extract 0 (x6_1 : Int).toNat, a0.extract (x6_1 : Int).toNat ((wrap64 (x6_1 + 2)) : Int).toNat, a0.extract ((wrap64 (x6_1 + 2)) : Int).toNat a0.size, true)) else (none)) else (none)) else (none)) else (none)) else (none)) = some (r1, r2, r3, r4) := by rw [if_pos rfl] at H; exact H
              clear H
              have H := H1
              clear H1
              by_cases c13 : 0 ≤ x6_1
              · rw [if_pos c13] at H
                have c13b0 := eq_true c13
                have c13b1 : decide (0 ≤ x6_1) = true := decide_eq_true c13
                clear c13
                by_cases c14 : x6_1 ≤ (a0.size : Int)
                · rw [if_pos c14] at H
                  have c14b0 := eq_true c14
                  have c14b1 : decide (x6_1 ≤ (a0.size : Int)) = true := decide_eq_true c14
                  clear c14
                  have c15b0 := eq_true (of_decide_eq_true (by first | (with_reducible assumption) | assumption) : 0 ≤ x6_1)
                  by_cases c16 : x6_1 ≤ (wrap64 (x6_1 + 2))
                  · rw [if_pos c16] at H
                    have c16b0 := eq_true c16
                    have c16b1 : decide (x6_1 ≤ (wrap64 (x6_1 + 2))) = true := decide_eq_true c16
                    by_cases c17 : (wrap64 (x6_1 + 2)) ≤ (a0.size : Int)
                    · rw [if_pos c17] at H
                      have c17b0 := eq_true c17
                      have c17b1 : decide ((wrap64 (x6_1 + 2)) ≤ (a0.size : Int)) = true := decide_eq_true c17
                      obtain ⟨ji18, hji18⟩ : ∃ j_ : Int, (wrap64 (x6_1 + 2)) = j_ := ⟨_, rfl⟩
                      replace H : (if 0 ≤ (ji18) then (some (a0.extract 0 (x6_1 : Int).toNat, a0.extract (x6_1 : Int).toNat ((ji18) : Int).toNat, a0.extract ((ji18) : Int).toNat a0.size, true)) else (none)) = some (r1, r2, r3, r4) := by first | (rw [hji18] at H; exact H) | (simp only [hji18] at H ⊢; exact H)
                      (try rw [hji18] at c16b0)
                      (try rw [hji18] at c16b1)
                      (try rw [hji18] at c16)
                      (try rw [hji18] at c17b0)
                      (try rw [hji18] at c17b1)
                      (try rw [hji18] at c17)
                      have hji18w : (IntKind.i64.wrap (x6_1 + 2)) = ji18 := (i64_w _).trans hji18
                      by_cases c19 : 0 ≤ (ji18)
                      · rw [if_pos c19] at H
                        have c19b0 := eq_true c19
                        have c19b1 : decide (0 ≤ (ji18)) = true := decide_eq_true c19
                        clear c19
                        have c20b0 := eq_true (of_decide_eq_true (by first | (with_reducible assumption) | assumption) : (ji18) ≤ (a0.size : Int))
                        simp only [Option.some.injEq, Prod.mk.injEq] at H
                        obtain ⟨rfl, rfl, rfl, rfl⟩ := H
                        go_wp2
                        repeat (go_quiet (fail); try go_wp2)
                        refine bodyPost_ret (results_list (rs := [.tmp 2, .tmp 3, .tmp 4, .tmp 5]) rfl (by simp) (.tmp (.tmp (.tmp (.tmp .nil))))) rfl ?_
                        exact ⟨by first | rfl | (simp; done) | (simp only [← hji18] <;> (first | rfl | simp)) | (simp [*]; done), by repeat (first | exact Drawn0.refl _ | apply Drawn0.step)⟩
                      · rw [if_neg c19] at H
                        exact absurd H (by simp)
                    · rw [if_neg c17] at H
                      exact absurd H (by simp)
                  · rw [if_neg c16] at H
                    exact absurd H (by simp)
                · rw [if_neg c14] at H
                  exact absurd H (by simp)
              · rw [if_neg c13] at H
                exact absurd H (by simp)
            · replace c12 := Bool.eq_false_iff.mpr c12
              subst c12
              have H1 : (if 0 ≤ x6_1 then (if x6_1 < (a0.size : Int) then (if (bt a0 x6_1) = 61 then (if x6_1 ≤ (a0.size : Int) then (if 0 ≤ (wrap64 (x6_1 + 1)) then (if (wrap64 (x6_1 + 1)) ≤ (a0.size : Int) then (some (a0.extract 0 (x6_1 : Int).toNat, (⟨#[61]⟩ : ByteArray), a0.extract ((wrap64 (x6_1 + 1)) : Int).toNat a0.size, true)) else (none)) else (none)) else (none)) else (spec_FieldCut.l0 kj2 a0 (wrap64 (x6_1 + 1)))) else (none)) else (none)) = some (r1, r2, r3, r4) := by rw [if_neg (show ¬ (false = true) by decide)] at H; exact H
              clear H
              have H := H1
              clear H1
              by_cases c21 : 0 ≤ x6_1
              · rw [if_pos c21] at H
                have c21b0 : decide (0 ≤ x6_1) = true := decide_eq_true c21
                clear c21
                by_cases c22 : x6_1 < (a0.size : Int)
                · rw [if_pos c22] at H
                  have c22b0 : decide (x6_1 < (a0.size : Int)) = true := decide_eq_true c22
                  clear c22
                  by_cases c24 : (bt a0 x6_1) = 61
                  · rw [if_pos c24] at H
                    have c24b0 : ((bt a0 x6_1) == 61) = true := beq_iff_eq.mpr c24
                    have c24b1 : ((bt a0 x6_1) != 61) = false := bne_eq_false_iff_eq.mpr c24
                    clear c24
                    have c25b0 := eq_true (of_decide_eq_true (by first | (with_reducible assumption) | assumption) : 0 ≤ x6_1)
                    by_cases c26 : x6_1 ≤ (a0.size : Int)
                    · rw [if_pos c26] at H
                      have c26b0 := eq_true c26
                      have c26b1 : decide (x6_1 ≤ (a0.size : Int)) = true := decide_eq_true c26
                      clear c26
                      obtain ⟨ji27, hji27⟩ : ∃ j_ : Int, (wrap64 (x6_1 + 1)) = j_ := ⟨_, rfl⟩
                      replace H : (if 0 ≤ (ji27) then (if (ji27) ≤ (a0.size : Int) then (some (a0.extract 0 (x6_1 : Int).toNat, (⟨#[61]⟩ : ByteArray), a0.extract ((ji27) : Int).toNat a0.size, true)) else (none)) else (none)) = some (r1, r2, r3, r4) := by first | (rw [hji27] at H; exact H) | (simp only [hji27] at H ⊢; exact H)
                      have hji27w : (IntKind.i64.wrap (x6_1 + 1)) = ji27 := (i64_w _).trans hji27
                      by_cases c28 : 0 ≤ (ji27)
                      · rw [if_pos c28] at H
                        have c28b0 := eq_true c28
                        have c28b1 : decide (0 ≤ (ji27)) = true := decide_eq_true c28
                        clear c28
                        by_cases c29 : (ji27) ≤ (a0.size : Int)
                        · rw [if_pos c29] at H
                          have c29b0 := eq_true c29
                          have c29b1 : decide ((ji27) ≤ (a0.size : Int)) = true := decide_eq_true c29
                          clear c29
                          simp only [Option.some.injEq, Prod.mk.injEq] at H
                          obtain ⟨rfl, rfl, rfl, rfl⟩ := H
                          have p23 : 0 ≤ (x6_1 : Int) := of_decide_eq_true (by first | (with_reducible assumption) | assumption)
                          have q23 : x6_1 < (a0.size : Int) := of_decide_eq_true (by first | (with_reducible assumption) | assumption)
                          have hx23 := bt_at a0 x6_1
                          replace p23 := eq_true p23
                          replace q23 := eq_true q23
                          go_wp2
                          repeat (go_quiet (fail); try go_wp2)
                          refine bodyPost_ret (results_list (rs := [.tmp 2, .tmp 3, .tmp 4, .tmp 5]) rfl (by simp) (.tmp (.tmp (.tmp (.tmp .nil))))) rfl ?_
                          exact ⟨by first | rfl | (simp; done) | (simp only [← hji27] <;> (first | rfl | simp)) | (simp [*]; done), by repeat (first | exact Drawn0.refl _ | apply Drawn0.step)⟩
                        · rw [if_neg c29] at H
                          exact absurd H (by simp)
                      · rw [if_neg c28] at H
                        exact absurd H (by simp)
                    · rw [if_neg c26] at H
                      exact absurd H (by simp)
                  · rw [if_neg c24] at H
                    have c24b0 : ((bt a0 x6_1) == 61) = false := beq_eq_false_iff_ne.mpr c24
                    have c24b1 : ((bt a0 x6_1) != 61) = true := bne_iff_ne.mpr c24
                    have H' := Aside0.mk H
                    clear H
                    have p23 : 0 ≤ (x6_1 : Int) := of_decide_eq_true (by first | (with_reducible assumption) | assumption)
                    have q23 : x6_1 < (a0.size : Int) := of_decide_eq_true (by first | (with_reducible assumption) | assumption)
                    have hx23 := bt_at a0 x6_1
                    replace p23 := eq_true p23
                    replace q23 := eq_true q23
                    go_wp2
                    repeat (go_quiet (fail); try go_wp2)
                    go_roundg kj2
                    case measure => have := HK1.out; have := HJ2.out; omega
                    case rel => exact ⟨(wrap64 (x6_1 + 1)), (by first | rfl | (simp; done) | (simp [*]; done)), H', ⟨by have := HK1.out; have := HJ2.out; omega⟩, by repeat (first | exact Drawn0.refl _ | apply Drawn0.step)⟩
                · rw [if_neg c22] at H
                  exact absurd H (by simp)
              · rw [if_neg c21] at H
                exact absurd H (by simp)
      · rw [if_neg c2] at H
        have c2b0 : decide (x6_1 < (a0.size : Int)) = false := decide_eq_false c2
        clear c2
        simp only [Option.some.injEq, Prod.mk.injEq] at H
        obtain ⟨rfl, rfl, rfl, rfl⟩ := H
        go_wp2
        repeat (go_quiet (fail); try go_wp2)
        refine bodyPost_ret (results_list (rs := [.tmp 2, .tmp 3, .tmp 4, .tmp 5]) rfl (by simp) (.tmp (.tmp (.tmp (.tmp .nil))))) rfl ?_
        exact ⟨by first | rfl | (simp; done) | (simp [*]; done), by repeat (first | exact Drawn0.refl _ | apply Drawn0.step)⟩

/-! ### spec_FieldTerms: function 13 -/
mutual
def spec_FieldTerms.l0 : Nat → List (S26) → List ByteArray → Int → Option ((List (S26)) × Bool)
  | 0, _, _, _ => none
  | k + 1, x4, x5, x6 => if x6 < (x5.length : Int) then (if 0 ≤ x6 then (if (rdOf ByteArray.empty x5 x6).toList = ([] : List UInt8) then (spec_FieldTerms.l0 k x4 x5 (wrap64 (x6 + 1))) else ((spec_FieldCut.f k (rdOf ByteArray.empty x5 x6)).bind fun bt187 => ((spec_Unescape.f k bt187.2.2.1).bind fun bt191 => (if bt187.2.2.2 = true then (spec_FieldTerms.j1 k x4 x5 x6 bt187.1 bt187.2.1 bt191.1 (!bt191.2)) else (spec_FieldTerms.j1 k x4 x5 x6 bt187.1 bt187.2.1 bt191.1 true))))) else (none)) else (some (x4, true))
def spec_FieldTerms.j1 : Nat → List (S26) → List ByteArray → Int → ByteArray → ByteArray → ByteArray → Bool → Option ((List (S26)) × Bool)
  | 0, _, _, _, _, _, _, _ => none
  | k + 1, x4, x5, x6, x7, x8, x11, x47 => if x47 = true then (some (([] : List (S26)), false)) else (if x8.toList = ([61, 61] : List UInt8) then (if x7.toList = ([] : List UInt8) then (if x11.toList = ([] : List UInt8) then (spec_FieldTerms.l0 k x4 x5 (wrap64 (x6 + 1))) else (if x4.length < 2932031007402 then (spec_FieldTerms.l0 k (x4 ++ [(⟨x7, (⟨#[61]⟩ : ByteArray), x11⟩ : S26)]) x5 (wrap64 (x6 + 1))) else (none))) else (if x4.length < 2932031007402 then (spec_FieldTerms.l0 k (x4 ++ [(⟨x7, (⟨#[61]⟩ : ByteArray), x11⟩ : S26)]) x5 (wrap64 (x6 + 1))) else (none))) else (if x7.toList = ([] : List UInt8) then (if x11.toList = ([] : List UInt8) then (spec_FieldTerms.l0 k x4 x5 (wrap64 (x6 + 1))) else (if x4.length < 2932031007402 then (spec_FieldTerms.l0 k (x4 ++ [(⟨x7, x8, x11⟩ : S26)]) x5 (wrap64 (x6 + 1))) else (none))) else (if x4.length < 2932031007402 then (spec_FieldTerms.l0 k (x4 ++ [(⟨x7, x8, x11⟩ : S26)]) x5 (wrap64 (x6 + 1))) else (none))))
end
def spec_FieldTerms.f (k : Nat) (a0 : ByteArray) : Option ((List (S26)) × Bool) := (spec_FieldPieces.f k a0).bind fun t179 => ((spec_sorted.f k t179).bind fun t182 => (spec_FieldTerms.l0 k ([] : List (S26)) t182 0))
theorem spec_FieldTerms.mono_l : ∀ k, (∀ y0 y1 y2, LeO (spec_FieldTerms.l0 k y0 y1 y2) (spec_FieldTerms.l0 (k + 1) y0 y1 y2)) ∧ (∀ y0 y1 y2 y3 y4 y5 y6, LeO (spec_FieldTerms.j1 k y0 y1 y2 y3 y4 y5 y6) (spec_FieldTerms.j1 (k + 1) y0 y1 y2 y3 y4 y5 y6))
  | 0 => ⟨fun _ _ _ r h => by simp [spec_FieldTerms.l0] at h, fun _ _ _ _ _ _ _ r h => by simp [spec_FieldTerms.j1] at h⟩
  | k + 1 => by
    obtain ⟨ih0, ih1⟩ := spec_FieldTerms.mono_l k
    refine ⟨?_, ?_⟩
    · intro y0 y1 y2
      unfold spec_FieldTerms.l0
      repeat' first
      | (with_reducible exact ih0 _ _ _)
      | (with_reducible exact ih1 _ _ _ _ _ _ _)
      | (with_reducible exact spec_FieldCut.mono _ _)
      | (with_reducible exact spec_FieldPieces.mono _ _)
      | (with_reducible exact spec_Unescape.mono _ _)
      | (with_reducible exact spec_sorted.mono _ _)
      | (with_reducible exact LeO.refl _)
      | (with_reducible exact LeO.none _)
      | (with_reducible refine LeO.ite ?_ ?_)
      | (with_reducible refine LeO.bind ?_ (fun _ => ?_))
      | exact ih0 _ _ _
      | exact ih1 _ _ _ _ _ _ _
      | exact spec_FieldCut.mono _ _
      | exact spec_FieldPieces.mono _ _
      | exact spec_Unescape.mono _ _
      | exact spec_sorted.mono _ _
      | exact LeO.none _
      | refine LeO.ite ?_ ?_
      | refine LeO.bind ?_ (fun _ => ?_)
    · intro y0 y1 y2 y3 y4 y5 y6
      unfold spec_FieldTerms.j1
      repeat' first
      | (with_reducible exact ih0 _ _ _)
      | (with_reducible exact ih1 _ _ _ _ _ _ _)
      | (with_reducible exact spec_FieldCut.mono _ _)
      | (with_reducible exact spec_FieldPieces.mono _ _)
      | (with_reducible exact spec_Unescape.mono _ _)
      | (with_reducible exact spec_sorted.mono _ _)
      | (with_reducible exact LeO.refl _)
      | (with_reducible exact LeO.none _)
      | (with_reducible refine LeO.ite ?_ ?_)
      | (with_reducible refine LeO.bind ?_ (fun _ => ?_))
      | exact ih0 _ _ _
      | exact ih1 _ _ _ _ _ _ _
      | exact spec_FieldCut.mono _ _
      | exact spec_FieldPieces.mono _ _
      | exact spec_Unescape.mono _ _
      | exact spec_sorted.mono _ _
      | exact LeO.none _
      | refine LeO.ite ?_ ?_
      | refine LeO.bind ?_ (fun _ => ?_)
theorem spec_FieldTerms.mono : ∀ a0 k, LeO (spec_FieldTerms.f k a0) (spec_FieldTerms.f (k + 1) a0) := by
  intro a0 k
  obtain ⟨ih0, ih1⟩ := spec_FieldTerms.mono_l k
  unfold spec_FieldTerms.f
  repeat' first
      | (with_reducible exact ih0 _ _ _)
      | (with_reducible exact ih1 _ _ _ _ _ _ _)
      | (with_reducible exact spec_FieldCut.mono _ _)
      | (with_reducible exact spec_FieldPieces.mono _ _)
      | (with_reducible exact spec_Unescape.mono _ _)
      | (with_reducible exact spec_sorted.mono _ _)
      | (with_reducible exact LeO.refl _)
      | (with_reducible exact LeO.none _)
      | (with_reducible refine LeO.ite ?_ ?_)
      | (with_reducible refine LeO.bind ?_ (fun _ => ?_))
      | exact ih0 _ _ _
      | exact ih1 _ _ _ _ _ _ _
      | exact spec_FieldCut.mono _ _
      | exact spec_FieldPieces.mono _ _
      | exact spec_Unescape.mono _ _
      | exact spec_sorted.mono _ _
      | exact LeO.none _
      | refine LeO.ite ?_ ?_
      | refine LeO.bind ?_ (fun _ => ?_)
set_option maxHeartbeats 8000000 in
set_option maxRecDepth 100000 in
theorem spec_FieldTerms.calls (k : Nat) (a0 : ByteArray) (r1 : List (S26)) (r2 : Bool) (w : World) (h : spec_FieldTerms.f k a0 = some (r1, r2)) :
    Calls Tryz.prog 13 #[.string a0] w fun e w' => ∃ v0_ : Value, e = .returned (.tuple #[v0_, .bool r2]) ∧ Kd.R k26 26 w' w.heap.size (fun _ => True) v0_ r1 ∧ Below w.heap.size w w' := by
  have hu26 := Tryz.underlying26
  have HB := Aside0.mk (Below.refl w.heap.size w)
  have H : ((spec_FieldPieces.f k a0).bind fun t179 => ((spec_sorted.f k t179).bind fun t182 => (spec_FieldTerms.l0 k ([] : List (S26)) t182 0))) = some (r1, r2) := h
  clear h
  replace H := Option.bind_eq_some_iff.mp H
  obtain ⟨t179, A20, H⟩ := H
  replace H : ((spec_sorted.f k t179).bind fun t182 => (spec_FieldTerms.l0 k ([] : List (S26)) t182 0)) = some (r1, r2) := H
  have A2 := Aside0.mk A20
  clear A20
  replace H := Option.bind_eq_some_iff.mp H
  obtain ⟨t182, A30, H⟩ := H
  replace H : (spec_FieldTerms.l0 k ([] : List (S26)) t182 0) = some (r1, r2) := H
  have A3 := Aside0.mk A30
  clear A30
  have H' := Aside0.mk H
  clear H
  go_enter Tryz.func13, Tryz.ntmps13
  go_wp2_with (first | ((with_reducible refine gate_callee (f := 26) rfl ?_); refine goesL_ (some 14) rfl rfl Tryz.func26 (by kernel_rfl) rfl #[.string a0] rfl (by (try simp only [List.map_toArray, List.map_cons, List.map_nil]); first | done | rfl | (simp only [List.length_drop, List.length_take]; rfl)) ?_; (with_reducible refine (spec_FieldPieces.calls k a0 t179 _ A2.out).mono ?_); rintro e w4 ⟨v180, rfl, ho0, hb⟩; refine ⟨_, rfl, ?_⟩; have n0_ := Aside0.mk (Kd.R_lower ho0 (below_size (by repeat (first | (with_reducible first | exact HB.out | apply below_alloc | apply pw_below_drewN | apply below_drew1) | exact HB.out)))); have n1_ := Aside0.mk (below_step (by repeat (first | (with_reducible first | exact HB.out | apply below_alloc | apply pw_below_drewN | apply below_drew1) | exact HB.out)) hb); clear HB; have HO181 := n0_; have HB := n1_; clear n0_ n1_; (try clear hb); (try clear hb2); (try clear hk); (try clear hi); (try clear ho0); obtain ⟨Ao5, co5, eo5⟩ := Kd.R_slice HO181.out; subst eo5) | ((with_reducible refine gate_callee (f := 25) rfl ?_); refine goesL_ (some 15) rfl rfl Tryz.func25 (by kernel_rfl) rfl #[.slice Ao5 t179.length co5] rfl (by (try simp only [List.map_toArray, List.map_cons, List.map_nil]); first | done | rfl | (simp only [List.length_drop, List.length_take]; rfl)) ?_; (with_reducible refine (spec_sorted.calls k _ _ t179 t182 _ ?side1 ?side2 A3.out).mono ?_); (case side1 => repeat (first | exact (Kd.R_reads' HO181.out).2.2 | (with_reducible refine Kd.C_alloc ?_ _) | (with_reducible refine Kd.C_drewN ?_ _) | (with_reducible refine Kd.C_drew ?_))); (case side2 => exact (Kd.R_reads' HO181.out).2.1); rintro e w6 ⟨v183, rfl, ho0, hb⟩; refine ⟨_, rfl, ?_⟩; have n0_ := Aside0.mk (Kd.R_elder' (by (with_reducible repeat (first | apply Kd.R_alloc | apply Kd.R_drewN | apply Kd.R_drew)); exact HO181.out) (Kd.R_base ho0) hb); have n1_ := Aside0.mk (Kd.R_lower (Kd.R_new' ho0 (Kd.R_lt (by (with_reducible repeat (first | apply Kd.R_alloc | apply Kd.R_drewN | apply Kd.R_drew)); exact HO181.out))) (below_size (by repeat (first | (with_reducible first | exact HB.out | apply below_alloc | apply pw_below_drewN | apply below_drew1) | exact HB.out)))); have n2_ := Aside0.mk (below_step (by repeat (first | (with_reducible first | exact HB.out | apply below_alloc | apply pw_below_drewN | apply below_drew1) | exact HB.out)) hb); clear HO181; clear HB; have HO181 := n0_; have HO184 := n1_; have HB := n2_; clear n0_ n1_ n2_; (try clear hb); (try clear hb2); (try clear hk); (try clear hi); (try clear ho0)))
  go_loopg [4, 6] k (fun kq v4 v6 w' => ∃ (x4_1 : List (S26)) (x6_1 : Int), v6 = .int .i64 x6_1 ∧ Aside0 (spec_FieldTerms.l0 kq x4_1 t182 x6_1 = some (r1, r2)) ∧ Aside0 (kq ≤ k) ∧ Aside0 (Kd.R k26 26 w' w.heap.size (fun _ => True) v4 x4_1) ∧ Aside0 (Kd.R Kd.string 9 w' w.heap.size (fun _ => True) v183 t182) ∧ Aside0 (Below w.heap.size w w'))
  case atStart => exact ⟨(([] : List (S26))), (0), (by first | rfl | (simp; done) | (simp [*]; done)), H', ⟨Nat.le_refl _⟩, ⟨by first | exact Kd.R_nil _ _ _ _ _ | exact Kd.N_nil _ _ _ _ _ | exact Kd.V_nil _ _ _ _ _ | exact Kd.Q_nil _ _ _ _ _ | exact Kd.S_nil _ _ _ _ _⟩, ⟨by (with_reducible repeat (first | apply Kd.R_alloc | apply Kd.R_drewN | apply Kd.R_drew)); exact Kd.R_mono HO184.out (fun _ hk => trivial)⟩, ⟨by repeat (first | (with_reducible first | exact HB.out | apply below_alloc | apply pw_below_drewN | apply below_drew1) | exact HB.out)⟩⟩
  case round =>
    clear H'
    try clear c1
    try clear c2
    try clear p2
    obtain ⟨x4_1, x6_1, rfl, HA, HK1, HO_4, HO_5, HB⟩ := hrel
    cases gk with
    | zero => exact absurd HA.out (by simp [spec_FieldTerms.l0])
    | succ k1 =>
      have H := HA.out
      clear HA
      simp only [spec_FieldTerms.l0] at H
      by_cases c7 : x6_1 < (t182.length : Int)
      · rw [if_pos c7] at H
        have c7b0 : decide (x6_1 < (t182.length : Int)) = true := decide_eq_true c7
        clear c7
        by_cases c8 : 0 ≤ x6_1
        · rw [if_pos c8] at H
          have c8b0 : decide (0 ≤ x6_1) = true := decide_eq_true c8
          clear c8
          by_cases c9 : (rdOf ByteArray.empty t182 x6_1).toList = ([] : List UInt8)
          · rw [if_pos c9] at H
            have c9b0 : ((rdOf ByteArray.empty t182 x6_1).toList == ([] : List UInt8)) = true := beq_iff_eq.mpr c9
            have c9b1 : ((rdOf ByteArray.empty t182 x6_1).toList != ([] : List UInt8)) = false := bne_eq_false_iff_eq.mpr c9
            clear c9
            have H' := Aside0.mk H
            clear H
            obtain ⟨Ao10, co10, eo10⟩ := Kd.R_slice HO_5.out
            subst eo10
            have p185 : 0 ≤ (x6_1 : Int) := of_decide_eq_true (by first | (with_reducible assumption) | assumption)
            have q185 : x6_1 < (t182.length : Int) := of_decide_eq_true (by first | (with_reducible assumption) | assumption)
            obtain ⟨ad185, e185, hx185_0⟩ := Kd.at_string (Kd.R_reads' HO_5.out).2.2 x6_1 p185 q185
            cases e185
            replace p185 := eq_true p185
            replace q185 := eq_true q185
            go_wp2
            go_roundg k1
            case measure => have := HK1.out; omega
            case rel => exact ⟨(x4_1), (wrap64 (x6_1 + 1)), (by first | rfl | (simp; done) | (simp [*]; done)), H', ⟨by have := HK1.out; omega⟩, ⟨by (with_reducible repeat (first | apply Kd.R_alloc | apply Kd.R_drewN | apply Kd.R_drew)); exact HO_4.out⟩, ⟨by (with_reducible repeat (first | apply Kd.R_alloc | apply Kd.R_drewN | apply Kd.R_drew)); exact HO_5.out⟩, ⟨by repeat (first | (with_reducible first | exact HB.out | apply below_alloc | apply pw_below_drewN | apply below_drew1) | exact HB.out)⟩⟩
          · rw [if_neg c9] at H
            have c9b0 : ((rdOf ByteArray.empty t182 x6_1).toList == ([] : List UInt8)) = false := beq_eq_false_iff_ne.mpr c9
            have c9b1 : ((rdOf ByteArray.empty t182 x6_1).toList != ([] : List UInt8)) = true := bne_iff_ne.mpr c9
            replace H := Option.bind_eq_some_iff.mp H
            obtain ⟨⟨t187, t188, t189, t190⟩, A110, H⟩ := H
            replace H : ((spec_Unescape.f k1 t189).bind fun bt191 => (if t190 = true then (spec_FieldTerms.j1 k1 x4_1 t182 x6_1 t187 t188 bt191.1 (!bt191.2)) else (spec_FieldTerms.j1 k1 x4_1 t182 x6_1 t187 t188 bt191.1 true))) = some (r1, r2) := H
            have A11 := Aside0.mk A110
            clear A110
            replace H := Option.bind_eq_some_iff.mp H
            obtain ⟨⟨t191, t192⟩, A120, H⟩ := H
            replace H : (if t190 = true then (spec_FieldTerms.j1 k1 x4_1 t182 x6_1 t187 t188 t191 (!t192)) else (spec_FieldTerms.j1 k1 x4_1 t182 x6_1 t187 t188 t191 true)) = some (r1, r2) := H
            have A12 := Aside0.mk A120
            clear A120
            have HC13 := Aside0.mk H
            clear H
            obtain ⟨Ao14, co14, eo14⟩ := Kd.R_slice HO_5.out
            subst eo14
            have p185 : 0 ≤ (x6_1 : Int) := of_decide_eq_true (by first | (with_reducible assumption) | assumption)
            have q185 : x6_1 < (t182.length : Int) := of_decide_eq_true (by first | (with_reducible assumption) | assumption)
            obtain ⟨ad185, e185, hx185_0⟩ := Kd.at_string (Kd.R_reads' HO_5.out).2.2 x6_1 p185 q185
            cases e185
            replace p185 := eq_true p185
            replace q185 := eq_true q185
            have p186 : 0 ≤ (x6_1 : Int) := of_decide_eq_true (by first | (with_reducible assumption) | assumption)
            have q186 : x6_1 < (t182.length : Int) := of_decide_eq_true (by first | (with_reducible assumption) | assumption)
            obtain ⟨ad186, e186, hx186_0⟩ := Kd.at_string (Kd.R_reads' HO_5.out).2.2 x6_1 p186 q186
            obtain rfl : ad185 = ad186 := (by injection e186)
            replace p186 := eq_true p186
            replace q186 := eq_true q186
            go_upto_region 9 with (first | ((with_reducible refine gate_callee (f := 27) rfl ?_); refine goesL_ (some 32) rfl rfl Tryz.func27 (by kernel_rfl) rfl #[.string (rdOf ByteArray.empty t182 x6_1)] rfl (by (try simp only [List.map_toArray, List.map_cons, List.map_nil]); first | done | rfl | (simp only [List.length_drop, List.length_take]; rfl)) ?_; (with_reducible refine (spec_FieldCut.calls k1 (rdOf ByteArray.empty t182 x6_1) t187 t188 t189 t190 _ A11.out).mono ?_); rintro e w' ⟨rfl, ⟨nd, rfl⟩⟩; refine ⟨_, rfl, ?_⟩) | ((with_reducible refine gate_callee (f := 11) rfl ?_); refine goesL_ (some 39) rfl rfl Tryz.func11 (by kernel_rfl) rfl #[.string t189] rfl (by (try simp only [List.map_toArray, List.map_cons, List.map_nil]); first | done | rfl | (simp only [List.length_drop, List.length_take]; rfl)) ?_; (with_reducible refine (spec_Unescape.calls k1 t189 t191 t192 _ A12.out).mono ?_); rintro e w15 ⟨rfl, hb⟩; refine ⟨_, rfl, ?_⟩; have n0_ := Aside0.mk (Kd.R_below (by (with_reducible repeat (first | apply Kd.R_alloc | apply Kd.R_drewN | apply Kd.R_drew)); exact HO_4.out) hb); have n1_ := Aside0.mk (Kd.R_below (by (with_reducible repeat (first | apply Kd.R_alloc | apply Kd.R_drewN | apply Kd.R_drew)); exact HO_5.out) hb); have n2_ := Aside0.mk (below_step (by repeat (first | (with_reducible first | exact HB.out | apply below_alloc | apply pw_below_drewN | apply below_drew1) | exact HB.out)) hb); clear HO_4; clear HO_5; clear HB; have HO_4 := n0_; have HO_5 := n1_; have HB := n2_; clear n0_ n1_ n2_; (try clear hb); (try clear hb2); (try clear hk); (try clear hi)))
            (try simp only [Act.put, List.setIfInBounds_toArray, List.set_cons_zero, List.set_cons_succ])
            go_cut [47] (fun v47 wc => ∃ (kq : Nat) (x47_12 : Bool), v47 = .bool x47_12 ∧ Aside0 (spec_FieldTerms.j1 kq x4_1 t182 x6_1 t187 t188 t191 x47_12 = some (r1, r2)) ∧ Aside0 (kq ≤ k1) ∧ Aside0 (Kd.R k26 26 wc w.heap.size (fun _ => True) u4 x4_1) ∧ Aside0 (Kd.R Kd.string 9 wc w.heap.size (fun _ => True) (.slice (some ad185) t182.length co14) t182) ∧ Aside0 (Below w.heap.size w wc))
            case first =>
              have H := HC13.out
              clear HC13
              by_cases c16 : t190 = true
              · subst c16
                have H1 : (spec_FieldTerms.j1 k1 x4_1 t182 x6_1 t187 t188 t191 (!t192)) = some (r1, r2) := by rw [if_pos rfl] at H; exact H
                clear H
                have H := H1
                clear H1
                have H' := Aside0.mk H
                clear H
                go_wp2
                go_meet
                case rel => exact ⟨_, (!t192), (by first | rfl | (simp; done) | (simp [*]; done)), H', ⟨by have := HK1.out; first | omega | exact Nat.le_refl _⟩, ⟨by (with_reducible repeat (first | apply Kd.R_alloc | apply Kd.R_drewN | apply Kd.R_drew)); exact HO_4.out⟩, ⟨by (with_reducible repeat (first | apply Kd.R_alloc | apply Kd.R_drewN | apply Kd.R_drew)); exact HO_5.out⟩, ⟨by repeat (first | (with_reducible first | exact HB.out | apply below_alloc | apply pw_below_drewN | apply below_drew1) | exact HB.out)⟩⟩
              · replace c16 := Bool.eq_false_iff.mpr c16
                subst c16
                have H1 : (spec_FieldTerms.j1 k1 x4_1 t182 x6_1 t187 t188 t191 true) = some (r1, r2) := by rw [if_neg (show ¬ (false = true) by decide)] at H; exact H
                clear H
                have H := H1
                clear H1
                have H' := Aside0.mk H
                clear H
                go_wp2
                go_meet
                case rel => exact ⟨_, (true), (by first | rfl | (simp; done) | (simp [*]; done)), H', ⟨by have := HK1.out; first | omega | exact Nat.le_refl _⟩, ⟨by (with_reducible repeat (first | apply Kd.R_alloc | apply Kd.R_drewN | apply Kd.R_drew)); exact HO_4.out⟩, ⟨by (with_reducible repeat (first | apply Kd.R_alloc | apply Kd.R_drewN | apply Kd.R_drew)); exact HO_5.out⟩, ⟨by repeat (first | (with_reducible first | exact HB.out | apply below_alloc | apply pw_below_drewN | apply below_drew1) | exact HB.out)⟩⟩
            case rest =>
              clear HC13
              try clear c1
              try clear p1
              try clear q1
              try clear hx1
              try clear c2
              try clear p2
              try clear p6
              try clear c7
              try clear c7b0
              try clear c8
              try clear c8b0
              try clear c9
              try clear c9b0
              try clear c9b1
              try clear c11
              try clear c13
              try clear c16
              try clear hx185_0
              try clear hx186_0
              try clear p185
              try clear p186
              try clear p2
              try clear q185
              try clear q186
              obtain ⟨kq, x47_12, rfl, HA, HJ12, HO_4, HO_5, HB⟩ := hcut
              cases kq with
              | zero => exact absurd HA.out (by simp [spec_FieldTerms.j1])
              | succ kj12 =>
                have H := HA.out
                clear HA
                simp only [spec_FieldTerms.j1] at H
                by_cases c17 : x47_12 = true
                · subst c17
                  have H1 : (some (([] : List (S26)), false)) = some (r1, r2) := by rw [if_pos rfl] at H; exact H
                  clear H
                  have H := H1
                  clear H1
                  simp only [Option.some.injEq, Prod.mk.injEq] at H
                  obtain ⟨rfl, rfl⟩ := H
                  go_wp2
                  go_ret2
                  exact ⟨_, by first | rfl | (simp [errW_none, errW_some] <;> rfl) | (simp [*, errW_none, errW_some] <;> rfl), by first | exact Kd.R_nil _ _ _ _ _ | exact Kd.N_nil _ _ _ _ _ | exact Kd.V_nil _ _ _ _ _ | exact Kd.Q_nil _ _ _ _ _ | exact Kd.S_nil _ _ _ _ _, by repeat (first | (with_reducible first | exact HB.out | apply below_alloc | apply pw_below_drewN | apply below_drew1) | exact HB.out)⟩
                · replace c17 := Bool.eq_false_iff.mpr c17
                  subst c17
                  have H1 : (if t188.toList = ([61, 61] : List UInt8) then (if t187.toList = ([] : List UInt8) then (if t191.toList = ([] : List UInt8) then (spec_FieldTerms.l0 kj12 x4_1 t182 (wrap64 (x6_1 + 1))) else (if x4_1.length < 2932031007402 then (spec_FieldTerms.l0 kj12 (x4_1 ++ [(⟨t187, (⟨#[61]⟩ : ByteArray), t191⟩ : S26)]) t182 (wrap64 (x6_1 + 1))) else (none))) else (if x4_1.length < 2932031007402 then (spec_FieldTerms.l0 kj12 (x4_1 ++ [(⟨t187, (⟨#[61]⟩ : ByteArray), t191⟩ : S26)]) t182 (wrap64 (x6_1 + 1))) else (none))) else (if t187.toList = ([] : List UInt8) then (if t191.toList = ([] : List UInt8) then (spec_FieldTerms.l0 kj12 x4_1 t182 (wrap64 (x6_1 + 1))) else (if x4_1.length < 2932031007402 then (spec_FieldTerms.l0 kj12 (x4_1 ++ [(⟨t187, t188, t191⟩ : S26)]) t182 (wrap64 (x6_1 + 1))) else (none))) else (if x4_1.length < 2932031007402 then (spec_FieldTerms.l0 kj12 (x4_1 ++ [(⟨t187, t188, t191⟩ : S26)]) t182 (wrap64 (x6_1 + 1))) else (none)))) = some (r1, r2) := by rw [if_neg (show ¬ (false = true) by decide)] at H; exact H
                  clear H
                  have H := H1
                  clear H1
                  by_cases c18 : t188.toList = ([61, 61] : List UInt8)
                  · rw [if_pos c18] at H
                    have c18b0 : (t188.toList == ([61, 61] : List UInt8)) = true := beq_iff_eq.mpr c18
                    have c18b1 : (t188.toList != ([61, 61] : List UInt8)) = false := bne_eq_false_iff_eq.mpr c18
                    clear c18
                    by_cases c19 : t187.toList = ([] : List UInt8)
                    · rw [if_pos c19] at H
                      have c19b0 : (t187.toList == ([] : List UInt8)) = true := beq_iff_eq.mpr c19
                      have c19b1 : (t187.toList != ([] : List UInt8)) = false := bne_eq_false_iff_eq.mpr c19
                      clear c19
                      by_cases c20 : t191.toList = ([] : List UInt8)
                      · rw [if_pos c20] at H
                        have c20b0 : (t191.toList == ([] : List UInt8)) = true := beq_iff_eq.mpr c20
                        have c20b1 : (t191.toList != ([] : List UInt8)) = false := bne_eq_false_iff_eq.mpr c20
                        clear c20
                        have H' := Aside0.mk H
                        clear H
                        go_wp2
                        go_roundg kj12
                        case measure => have := HK1.out; have := HJ12.out; omega
                        case rel => exact ⟨(x4_1), (wrap64 (x6_1 + 1)), (by first | rfl | (simp; done) | (simp [*]; done)), H', ⟨by have := HK1.out; have := HJ12.out; omega⟩, ⟨by (with_reducible repeat (first | apply Kd.R_alloc | apply Kd.R_drewN | apply Kd.R_drew)); exact HO_4.out⟩, ⟨by (with_reducible repeat (first | apply Kd.R_alloc | apply Kd.R_drewN | apply Kd.R_drew)); exact HO_5.out⟩, ⟨by repeat (first | (with_reducible first | exact HB.out | apply below_alloc | apply pw_below_drewN | apply below_drew1) | exact HB.out)⟩⟩
                      · rw [if_neg c20] at H
                        have c20b0 : (t191.toList == ([] : List UInt8)) = false := beq_eq_false_iff_ne.mpr c20
                        have c20b1 : (t191.toList != ([] : List UInt8)) = true := bne_iff_ne.mpr c20
                        by_cases c21 : x4_1.length < 2932031007402
                        · rw [if_pos c21] at H
                          have LMc21 := Aside0.mk c21
                          clear c21
                          obtain ⟨y193, hy193⟩ : ∃ y_ : List (S26), y_ = (x4_1 ++ [(⟨t187, (⟨#[61]⟩ : ByteArray), t191⟩ : S26)]) := ⟨_, rfl⟩
                          replace H : (spec_FieldTerms.l0 kj12 y193 t182 (wrap64 (x6_1 + 1))) = some (r1, r2) := by first | (rw [hy193]; with_reducible exact H) | (have H2_ := (Option.bind_some _ _).symm.trans H; rw [hy193]; with_reducible exact H2_) | (have H2_ := (Option.bind_some _ _).symm.trans H; with_reducible exact H2_) | with_reducible exact H | (rw [hy193]; exact H) | exact H
                          have Ny193 := Aside0.mk hy193
                          clear hy193
                          have H' := Aside0.mk H
                          clear H
                          go_wp2_with (first | ((with_reducible refine gate_builtin (b := .append) (xs := #[.tmp 56, .tmp 61]) rfl ?_); at_builtin; refine Kd.R_append k26 (w0 := w) w.heap.size rfl (.tmp 56) (.tmp 61) 27 26 (.agg #[(.string ⟨#[]⟩), (.string ⟨#[]⟩), (.string ⟨#[]⟩)]) 48 rfl Tryz.underlying27 info26 rfl (by decide) (by omega) u4 x4_1 (⟨t187, (⟨#[61]⟩ : ByteArray), t191⟩ : S26) [.string t187, .string (⟨#[61]⟩ : ByteArray), .string t191] (fun _ => True) (fun _ => False) rfl rfl ?aP (fun _ hk => hk.elim) ?aF ?aO ?aB ?aS ?aL ?_; (case aP => exact k26_mkM _ _ _ (⟨t187, (⟨#[61]⟩ : ByteArray), t191⟩ : S26)); (case aB => exact (by repeat (first | (with_reducible first | exact HB.out | apply below_alloc | apply pw_below_drewN | apply below_drew1) | exact HB.out))); (case aF => exact (fun _ _ => trivial)); (case aO => exact (by (with_reducible repeat (first | apply Kd.R_alloc | apply Kd.R_drewN | apply Kd.R_drew)); exact HO_4.out)); (case aS => exact (below_size (by repeat (first | (with_reducible first | exact HB.out | apply below_alloc | apply pw_below_drewN | apply below_drew1) | exact HB.out)))); (case aL => have := LMc21.out; omega); intro v194 w22 ho hb hg hat; rw [← Ny193.out] at ho; have n0_ := Aside0.mk (Kd.R_over' (by (with_reducible repeat (first | apply Kd.R_alloc | apply Kd.R_drewN | apply Kd.R_drew)); exact HO_5.out) (Kd.R_typed (by (with_reducible repeat (first | apply Kd.R_alloc | apply Kd.R_drewN | apply Kd.R_drew)); exact HO_4.out)) (by decide) hg); have n1_ := Aside0.mk (hb); have n2_ := Aside0.mk (ho); clear HO_5; clear HB; clear HO_4; have HO_5 := n0_; have HB := n1_; have HO195 := n2_; clear n0_ n1_ n2_; clear ho hb hg hat))
                          go_roundg kj12
                          case measure => have := HK1.out; have := HJ12.out; omega
                          case rel => exact ⟨(y193), (wrap64 (x6_1 + 1)), (by first | rfl | (simp; done) | (simp [*]; done)), H', ⟨by have := HK1.out; have := HJ12.out; omega⟩, ⟨by (with_reducible repeat (first | apply Kd.R_alloc | apply Kd.R_drewN | apply Kd.R_drew)); exact HO195.out⟩, ⟨by (with_reducible repeat (first | apply Kd.R_alloc | apply Kd.R_drewN | apply Kd.R_drew)); exact HO_5.out⟩, ⟨by repeat (first | (with_reducible first | exact HB.out | apply below_alloc | apply pw_below_drewN | apply below_drew1) | exact HB.out)⟩⟩
                        · rw [if_neg c21] at H
                          exact absurd H (by simp)
                    · rw [if_neg c19] at H
                      have c19b0 : (t187.toList == ([] : List UInt8)) = false := beq_eq_false_iff_ne.mpr c19
                      have c19b1 : (t187.toList != ([] : List UInt8)) = true := bne_iff_ne.mpr c19
                      by_cases c23 : x4_1.length < 2932031007402
                      · rw [if_pos c23] at H
                        have LMc23 := Aside0.mk c23
                        clear c23
                        obtain ⟨y196, hy196⟩ : ∃ y_ : List (S26), y_ = (x4_1 ++ [(⟨t187, (⟨#[61]⟩ : ByteArray), t191⟩ : S26)]) := ⟨_, rfl⟩
                        replace H : (spec_FieldTerms.l0 kj12 y196 t182 (wrap64 (x6_1 + 1))) = some (r1, r2) := by first | (rw [hy196]; with_reducible exact H) | (have H2_ := (Option.bind_some _ _).symm.trans H; rw [hy196]; with_reducible exact H2_) | (have H2_ := (Option.bind_some _ _).symm.trans H; with_reducible exact H2_) | with_reducible exact H | (rw [hy196]; exact H) | exact H
                        have Ny196 := Aside0.mk hy196
                        clear hy196
                        have H' := Aside0.mk H
                        clear H
                        go_wp2_with (first | ((with_reducible refine gate_builtin (b := .append) (xs := #[.tmp 56, .tmp 61]) rfl ?_); at_builtin; refine Kd.R_append k26 (w0 := w) w.heap.size rfl (.tmp 56) (.tmp 61) 27 26 (.agg #[(.string ⟨#[]⟩), (.string ⟨#[]⟩), (.string ⟨#[]⟩)]) 48 rfl Tryz.underlying27 info26 rfl (by decide) (by omega) u4 x4_1 (⟨t187, (⟨#[61]⟩ : ByteArray), t191⟩ : S26) [.string t187, .string (⟨#[61]⟩ : ByteArray), .string t191] (fun _ => True) (fun _ => False) rfl rfl ?aP (fun _ hk => hk.elim) ?aF ?aO ?aB ?aS ?aL ?_; (case aP => exact k26_mkM _ _ _ (⟨t187, (⟨#[61]⟩ : ByteArray), t191⟩ : S26)); (case aB => exact (by repeat (first | (with_reducible first | exact HB.out | apply below_alloc | apply pw_below_drewN | apply below_drew1) | exact HB.out))); (case aF => exact (fun _ _ => trivial)); (case aO => exact (by (with_reducible repeat (first | apply Kd.R_alloc | apply Kd.R_drewN | apply Kd.R_drew)); exact HO_4.out)); (case aS => exact (below_size (by repeat (first | (with_reducible first | exact HB.out | apply below_alloc | apply pw_below_drewN | apply below_drew1) | exact HB.out)))); (case aL => have := LMc23.out; omega); intro v197 w24 ho hb hg hat; rw [← Ny196.out] at ho; have n0_ := Aside0.mk (Kd.R_over' (by (with_reducible repeat (first | apply Kd.R_alloc | apply Kd.R_drewN | apply Kd.R_drew)); exact HO_5.out) (Kd.R_typed (by (with_reducible repeat (first | apply Kd.R_alloc | apply Kd.R_drewN | apply Kd.R_drew)); exact HO_4.out)) (by decide) hg); have n1_ := Aside0.mk (hb); have n2_ := Aside0.mk (ho); clear HO_5; clear HB; clear HO_4; have HO_5 := n0_; have HB := n1_; have HO198 := n2_; clear n0_ n1_ n2_; clear ho hb hg hat))
                        go_roundg kj12
                        case measure => have := HK1.out; have := HJ12.out; omega
                        case rel => exact ⟨(y196), (wrap64 (x6_1 + 1)), (by first | rfl | (simp; done) | (simp [*]; done)), H', ⟨by have := HK1.out; have := HJ12.out; omega⟩, ⟨by (with_reducible repeat (first | apply Kd.R_alloc | apply Kd.R_drewN | apply Kd.R_drew)); exact HO198.out⟩, ⟨by (with_reducible repeat (first | apply Kd.R_alloc | apply Kd.R_drewN | apply Kd.R_drew)); exact HO_5.out⟩, ⟨by repeat (first | (with_reducible first | exact HB.out | apply below_alloc | apply pw_below_drewN | apply below_drew1) | exact HB.out)⟩⟩
                      · rw [if_neg c23] at H
                        exact absurd H (by simp)
                  · rw [if_neg c18] at H
                    have c18b0 : (t188.toList == ([61, 61] : List UInt8)) = false := beq_eq_false_iff_ne.mpr c18
                    have c18b1 : (t188.toList != ([61, 61] : List UInt8)) = true := bne_iff_ne.mpr c18
                    by_cases c25 : t187.toList = ([] : List UInt8)
                    · rw [if_pos c25] at H
                      have c25b0 : (t187.toList == ([] : List UInt8)) = true := beq_iff_eq.mpr c25
                      have c25b1 : (t187.toList != ([] : List UInt8)) = false := bne_eq_false_iff_eq.mpr c25
                      clear c25
                      by_cases c26 : t191.toList = ([] : List UInt8)
                      · rw [if_pos c26] at H
                        have c26b0 : (t191.toList == ([] : List UInt8)) = true := beq_iff_eq.mpr c26
                        have c26b1 : (t191.toList != ([] : List UInt8)) = false := bne_eq_false_iff_eq.mpr c26
                        clear c26
                        have H' := Aside0.mk H
                        clear H
                        go_wp2
                        go_roundg kj12
                        case measure => have := HK1.out; have := HJ12.out; omega
                        case rel => exact ⟨(x4_1), (wrap64 (x6_1 + 1)), (by first | rfl | (simp; done) | (simp [*]; done)), H', ⟨by have := HK1.out; have := HJ12.out; omega⟩, ⟨by (with_reducible repeat (first | apply Kd.R_alloc | apply Kd.R_drewN | apply Kd.R_drew)); exact HO_4.out⟩, ⟨by (with_reducible repeat (first | apply Kd.R_alloc | apply Kd.R_drewN | apply Kd.R_drew)); exact HO_5.out⟩, ⟨by repeat (first | (with_reducible first | exact HB.out | apply below_alloc | apply pw_below_drewN | apply below_drew1) | exact HB.out)⟩⟩
                      · rw [if_neg c26] at H
                        have c26b0 : (t191.toList == ([] : List UInt8)) = false := beq_eq_false_iff_ne.mpr c26
                        have c26b1 : (t191.toList != ([] : List UInt8)) = true := bne_iff_ne.mpr c26
                        by_cases c27 : x4_1.length < 2932031007402
                        · rw [if_pos c27] at H
                          have LMc27 := Aside0.mk c27
                          clear c27
                          obtain ⟨y199, hy199⟩ : ∃ y_ : List (S26), y_ = (x4_1 ++ [(⟨t187, t188, t191⟩ : S26)]) := ⟨_, rfl⟩
                          replace H : (spec_FieldTerms.l0 kj12 y199 t182 (wrap64 (x6_1 + 1))) = some (r1, r2) := by first | (rw [hy199]; with_reducible exact H) | (have H2_ := (Option.bind_some _ _).symm.trans H; rw [hy199]; with_reducible exact H2_) | (have H2_ := (Option.bind_some _ _).symm.trans H; with_reducible exact H2_) | with_reducible exact H | (rw [hy199]; exact H) | exact H
                          have Ny199 := Aside0.mk hy199
                          clear hy199
                          have H' := Aside0.mk H
                          clear H
                          go_wp2_with (first | ((with_reducible refine gate_builtin (b := .append) (xs := #[.tmp 56, .tmp 61]) rfl ?_); at_builtin; refine Kd.R_append k26 (w0 := w) w.heap.size rfl (.tmp 56) (.tmp 61) 27 26 (.agg #[(.string ⟨#[]⟩), (.string ⟨#[]⟩), (.string ⟨#[]⟩)]) 48 rfl Tryz.underlying27 info26 rfl (by decide) (by omega) u4 x4_1 (⟨t187, t188, t191⟩ : S26) [.string t187, .string t188, .string t191] (fun _ => True) (fun _ => False) rfl rfl ?aP (fun _ hk => hk.elim) ?aF ?aO ?aB ?aS ?aL ?_; (case aP => exact k26_mkM _ _ _ (⟨t187, t188, t191⟩ : S26)); (case aB => exact (by repeat (first | (with_reducible first | exact HB.out | apply below_alloc | apply pw_below_drewN | apply below_drew1) | exact HB.out))); (case aF => exact (fun _ _ => trivial)); (case aO => exact (by (with_reducible repeat (first | apply Kd.R_alloc | apply Kd.R_drewN | apply Kd.R_drew)); exact HO_4.out)); (case aS => exact (below_size (by repeat (first | (with_reducible first | exact HB.out | apply below_alloc | apply pw_below_drewN | apply below_drew1) | exact HB.out)))); (case aL => have := LMc27.out; omega); intro v200 w28 ho hb hg hat; rw [← Ny199.out] at ho; have n0_ := Aside0.mk (Kd.R_over' (by (with_reducible repeat (first | apply Kd.R_alloc | apply Kd.R_drewN | apply Kd.R_drew)); exact HO_5.out) (Kd.R_typed (by (with_reducible repeat (first | apply Kd.R_alloc | apply Kd.R_drewN | apply Kd.R_drew)); exact HO_4.out)) (by decide) hg); have n1_ := Aside0.mk (hb); have n2_ := Aside0.mk (ho); clear HO_5; clear HB; clear HO_4; have HO_5 := n0_; have HB := n1_; have HO201 := n2_; clear n0_ n1_ n2_; clear ho hb hg hat))
                          go_roundg kj12
                          case measure => have := HK1.out; have := HJ12.out; omega
                          case rel => exact ⟨(y199), (wrap64 (x6_1 + 1)), (by first | rfl | (simp; done) | (simp [*]; done)), H', ⟨by have := HK1.out; have := HJ12.out; omega⟩, ⟨by (with_reducible repeat (first | apply Kd.R_alloc | apply Kd.R_drewN | apply Kd.R_drew)); exact HO201.out⟩, ⟨by (with_reducible repeat (first | apply Kd.R_alloc | apply Kd.R_drewN | apply Kd.R_drew)); exact HO_5.out⟩, ⟨by repeat (first | (with_reducible first | exact HB.out | apply below_alloc | apply pw_below_drewN | apply below_drew1) | exact HB.out)⟩⟩
                        · rw [if_neg c27] at H
                          exact absurd H (by simp)
                    · rw [if_neg c25] at H
                      have c25b0 : (t187.toList == ([] : List UInt8)) = false := beq_eq_false_iff_ne.mpr c25
                      have c25b1 : (t187.toList != ([] : List UInt8)) = true := bne_iff_ne.mpr c25
                      by_cases c29 : x4_1.length < 2932031007402
                      · rw [if_pos c29] at H
                        have LMc29 := Aside0.mk c29
                        clear c29
                        obtain ⟨y202, hy202⟩ : ∃ y_ : List (S26), y_ = (x4_1 ++ [(⟨t187, t188, t191⟩ : S26)]) := ⟨_, rfl⟩
                        replace H : (spec_FieldTerms.l0 kj12 y202 t182 (wrap64 (x6_1 + 1))) = some (r1, r2) := by first | (rw [hy202]; with_reducible exact H) | (have H2_ := (Option.bind_some _ _).symm.trans H; rw [hy202]; with_reducible exact H2_) | (have H2_ := (Option.bind_some _ _).symm.trans H; with_reducible exact H2_) | with_reducible exact H | (rw [hy202]; exact H) | exact H
                        have Ny202 := Aside0.mk hy202
                        clear hy202
                        have H' := Aside0.mk H
                        clear H
                        go_wp2_with (first | ((with_reducible refine gate_builtin (b := .append) (xs := #[.tmp 56, .tmp 61]) rfl ?_); at_builtin; refine Kd.R_append k26 (w0 := w) w.heap.size rfl (.tmp 56) (.tmp 61) 27 26 (.agg #[(.string ⟨#[]⟩), (.string ⟨#[]⟩), (.string ⟨#[]⟩)]) 48 rfl Tryz.underlying27 info26 rfl (by decide) (by omega) u4 x4_1 (⟨t187, t188, t191⟩ : S26) [.string t187, .string t188, .string t191] (fun _ => True) (fun _ => False) rfl rfl ?aP (fun _ hk => hk.elim) ?aF ?aO ?aB ?aS ?aL ?_; (case aP => exact k26_mkM _ _ _ (⟨t187, t188, t191⟩ : S26)); (case aB => exact (by repeat (first | (with_reducible first | exact HB.out | apply below_alloc | apply pw_below_drewN | apply below_drew1) | exact HB.out))); (case aF => exact (fun _ _ => trivial)); (case aO => exact (by (with_reducible repeat (first | apply Kd.R_alloc | apply Kd.R_drewN | apply Kd.R_drew)); exact HO_4.out)); (case aS => exact (below_size (by repeat (first | (with_reducible first | exact HB.out | apply below_alloc | apply pw_below_drewN | apply below_drew1) | exact HB.out)))); (case aL => have := LMc29.out; omega); intro v203 w30 ho hb hg hat; rw [← Ny202.out] at ho; have n0_ := Aside0.mk (Kd.R_over' (by (with_reducible repeat (first | apply Kd.R_alloc | apply Kd.R_drewN | apply Kd.R_drew)); exact HO_5.out) (Kd.R_typed (by (with_reducible repeat (first | apply Kd.R_alloc | apply Kd.R_drewN | apply Kd.R_drew)); exact HO_4.out)) (by decide) hg); have n1_ := Aside0.mk (hb); have n2_ := Aside0.mk (ho); clear HO_5; clear HB; clear HO_4; have HO_5 := n0_; have HB := n1_; have HO204 := n2_; clear n0_ n1_ n2_; clear ho hb hg hat))
                        go_roundg kj12
                        case measure => have := HK1.out; have := HJ12.out; omega
                        case rel => exact ⟨(y202), (wrap64 (x6_1 + 1)), (by first | rfl | (simp; done) | (simp [*]; done)), H', ⟨by have := HK1.out; have := HJ12.out; omega⟩, ⟨by (with_reducible repeat (first | apply Kd.R_alloc | apply Kd.R_drewN | apply Kd.R_drew)); exact HO204.out⟩, ⟨by (with_reducible repeat (first | apply Kd.R_alloc | apply Kd.R_drewN | apply Kd.R_drew)); exact HO_5.out⟩, ⟨by repeat (first | (with_reducible first | exact HB.out | apply below_alloc | apply pw_below_drewN | apply below_drew1) | exact HB.out)⟩⟩
                      · rw [if_neg c29] at H
                        exact absurd H (by simp)
        · rw [if_neg c8] at H
          exact absurd H (by simp)
      · rw [if_neg c7] at H
        have c7b0 : decide (x6_1 < (t182.length : Int)) = false := decide_eq_false c7
        clear c7
        simp only [Option.some.injEq, Prod.mk.injEq] at H
        obtain ⟨rfl, rfl⟩ := H
        obtain ⟨Ao31, co31, eo31⟩ := Kd.R_slice HO_5.out
        subst eo31
        go_wp2
        go_ret2
        exact ⟨_, by first | rfl | (simp [errW_none, errW_some] <;> rfl) | (simp [*, errW_none, errW_some] <;> rfl), by (with_reducible repeat (first | apply Kd.R_alloc | apply Kd.R_drewN | apply Kd.R_drew)); exact HO_4.out, by repeat (first | (with_reducible first | exact HB.out | apply below_alloc | apply pw_below_drewN | apply below_drew1) | exact HB.out)⟩

-- NOT PRINTED: function 19 (impl_terms)

-- NOT PRINTED: function 20 (impl_fieldSet)

/-! ### errors_New: function 29 -/
set_option maxHeartbeats 1000000 in
theorem errors_New.calls (s : ByteArray) (w : World) :
    Calls Tryz.prog 29 #[.string s] w fun e w' => (∃ x, e = .returned (.iface 83 x)) ∧ Below w.heap.size w w' := by
  have hu1 := Tryz.underlying85
  go_enter Tryz.func29, Tryz.ntmps29
  go_wp2_with fail
  go_ret
  exact ⟨⟨_, rfl⟩, by repeat (first | (with_reducible exact Below.refl _ _) | apply below_alloc | apply pw_below_drewN | apply below_drew1)⟩
/-! ### fields_splitTerms: function 32 -/
theorem fields_splitTerms.info : (Tryz.prog.info? 9).map (fun i => (i.zero, i.size, i.bytes)) = some (some (.string ⟨#[]⟩), 1, 16) := by kernel_rfl
def spl (s : ByteArray) : Nat → List ByteArray → Nat → Bool → Nat → Option (List ByteArray)
  | 0, _, _, _, _ => none
  | k + 1, ts, st, sl, pos =>
    if pos < s.size then
      if sl = true then spl s k ts st false (pos + (Utf8.decode s pos).2)
      else if (Utf8.decode s pos).1 = 92 then spl s k ts st true (pos + (Utf8.decode s pos).2)
      else if (Utf8.decode s pos).1 = 44 then (if st ≤ pos ∧ ts.length < 8796093022207 then spl s k (ts ++ [s.extract st pos]) (pos + 1) false (pos + (Utf8.decode s pos).2) else none)
      else spl s k ts st false (pos + (Utf8.decode s pos).2)
    else if st ≤ s.size ∧ ts.length < 8796093022207 then some (ts ++ [s.extract st s.size]) else none
theorem spl_mono (s : ByteArray) : ∀ k ts st sl pos, LeO (spl s k ts st sl pos) (spl s (k + 1) ts st sl pos) := by
  intro k
  induction k with
  | zero => intros; exact LeO.none _
  | succ k ih =>
    intro ts st sl pos
    show LeO (spl s (k + 1) ts st sl pos) (spl s (k + 1 + 1) ts st sl pos)
    unfold spl
    exact LeO.ite (LeO.ite (ih _ _ _ _) (LeO.ite (ih _ _ _ _) (LeO.ite (LeO.ite (ih _ _ _ _) (LeO.none _)) (ih _ _ _ _)))) (LeO.refl _)
def fields_splitTerms.f (k : Nat) (a0 : ByteArray) : Option (List ByteArray) := if a0.size = 0 then some [] else if a0.size ≤ 9223372036854775806 then spl a0 k [] 0 false 0 else none
theorem fields_splitTerms.mono : ∀ a0 k, LeO (fields_splitTerms.f k a0) (fields_splitTerms.f (k + 1) a0) := by
  intro a0 k
  unfold fields_splitTerms.f
  exact LeO.ite (LeO.refl _) (LeO.ite (spl_mono _ _ _ _ _ _) (LeO.refl _))
set_option maxHeartbeats 4000000 in
theorem fields_splitTerms.calls (k : Nat) (a0 : ByteArray) (r : List ByteArray) (w : World) (h : fields_splitTerms.f k a0 = some r) :
    Calls Tryz.prog 32 #[.string a0] w fun e w' => ∃ v0_ : Value, e = .returned (v0_) ∧ Kd.R Kd.string 9 w' w.heap.size (fun _ => True) v0_ r ∧ Below w.heap.size w w' := by
  unfold fields_splitTerms.f at h
  by_cases h0 : a0.size = 0
  · rw [if_pos h0] at h
    obtain rfl := Option.some.inj h
    have e0 : ((a0.size : Int) == 0) = true := beq_iff_eq.2 (by omega)
    clear h h0
    go_enter Tryz.func32, Tryz.ntmps32
    go_wp2_with fail
    go_ret
    exact ⟨_, rfl, Kd.R_nil _ _ _ _ _, Below.refl _ _⟩
  · rw [if_neg h0] at h
    have e0 : ((a0.size : Int) == 0) = false := beq_eq_false_iff_ne.2 (by omega)
    by_cases h1 : a0.size ≤ 9223372036854775806
    · rw [if_pos h1] at h
      have HS := Aside0.mk h1
      have H' := Aside0.mk h
      clear h h0 h1
      have hmk : ∀ w0 : World, (Instr.makeSlice 63 (.int .i64 0) (.int .i64 1)).run Tryz.prog w0 = .ok (.slice (some ⟨w0.heap.size, 0, none⟩) 0 1) (w0.alloc (.cells #[.string ⟨#[]⟩] 9)) := by
        intro w0
        obtain ⟨i0, hi, hzz⟩ := Option.map_eq_some_iff.1 fields_splitTerms.info
        simp only [Prod.mk.injEq] at hzz
        obtain ⟨hz0, hz1, hz2⟩ := hzz
        have := run_make (P := Tryz.prog) w0 63 9 i0 (.string ⟨#[]⟩) Tryz.underlying63 hi hz0 .i64 .i64 0 1 (by omega) (by omega) (by rw [hz2]; omega) (by omega)
        rw [this, hz1]; have ar : Array.range 1 = #[0] := (by decide); simp [madeCells, Value.cells, ar]
      have hmk' := hmk w
      clear hmk
      go_enter Tryz.func32, Tryz.ntmps32
      go_wp2_with fail
      have HR : Aside0 (Kd.R Kd.string 9 (w.alloc (.cells #[.string ⟨#[]⟩] 9)) w.heap.size (fun q => q ≠ w.heap.size + 1) (.slice (some ⟨w.heap.size, 0, none⟩) 0 1) []) := ⟨by
        refine ⟨fun q hq => by simp [Value.ownBlock] at hq; omega, [], ⟨rfl, Or.inr ⟨w.heap.size, 1, #[.string ⟨#[]⟩], rfl, Nat.le_refl _, blk_new w _, by simp, by decide, rfl, rfl⟩⟩, Reps.none _ _⟩⟩
      go_loopg [3, 4, 5] k (fun kq v3 v4 v5 w' => ∃ (xs : List ByteArray) (st : Nat) (sl : Bool) (pos : Nat), v4 = .int .i64 (st : Int) ∧ v5 = .bool sl ∧ Aside0 (spl a0 kq xs st sl pos = some r) ∧ Aside0 (kq ≤ k) ∧ Aside0 (Kd.R Kd.string 9 w' w.heap.size (fun q => q ≠ w.heap.size + 1) v3 xs) ∧ Aside0 (Below w.heap.size w w') ∧ Aside0 (w'.heap[w.heap.size + 1]? = some (.stringIter a0 pos)))
      case atStart => exact ⟨[], 0, false, 0, rfl, rfl, H', ⟨Nat.le_refl _⟩, ⟨Kd.R_alloc HR.out _⟩, ⟨below_alloc (below_alloc (Below.refl _ _) _) _⟩, ⟨by have h := World.iter_heap (w.alloc (.cells #[.string ⟨#[]⟩] 9)) a0 0; have e : (w.alloc (.cells #[.string ⟨#[]⟩] 9)).heap.size = w.heap.size + 1 := (by simp); rw [e] at h; exact h⟩⟩
      case round =>
        clear H' HR hmk'
        obtain ⟨xs, st, sl, pos, rfl, rfl, HA, HK1, HR, HB, HI⟩ := hrel
        cases gk with
        | zero => exact absurd HA.out (by simp [spl])
        | succ k1 =>
          have H := HA.out
          clear HA
          simp only [spl] at H
          have IL : Aside0 (w.heap.size + 1 < wr.heap.size) := ⟨blk_lt HI.out⟩
          by_cases c1 : pos < a0.size
          · rw [if_pos c1] at H
            have hnx := fun ty => Lib.run_next_any_at (P := Tryz.prog) wr (w.heap.size + 1) a0 pos ty HI.out c1
            have RI : Aside0 (Kd.R Kd.string 9 (wr.iterAt (w.heap.size + 1) a0 (pos + (Utf8.decode a0 pos).2)) w.heap.size (fun q => q ≠ w.heap.size + 1) u3 xs) := ⟨Kd.R_step HR.out (fun q hq _ => Lib.iterAt_other wr _ q _ _ hq)⟩
            have BI : Aside0 (Below w.heap.size w (wr.iterAt (w.heap.size + 1) a0 (pos + (Utf8.decode a0 pos).2))) := ⟨Lib.below_iterAt HB.out (Nat.le_succ _) _ _⟩
            have II : Aside0 ((wr.iterAt (w.heap.size + 1) a0 (pos + (Utf8.decode a0 pos).2)).heap[w.heap.size + 1]? = some (.stringIter a0 (pos + (Utf8.decode a0 pos).2))) := ⟨Lib.iterAt_heap _ _ _ _ _ HI.out⟩
            have ZL : Aside0 (w.heap.size + 1 < (wr.iterAt (w.heap.size + 1) a0 (pos + (Utf8.decode a0 pos).2)).heap.size) := ⟨blk_lt II.out⟩
            clear HR HB HI
            cases sl with
            | true =>
              rw [if_pos rfl] at H
              have H' := Aside0.mk H
              clear H
              go_wp2_with fail
              go_roundg k1
              case measure => have := HK1.out; omega
              case rel => exact ⟨xs, st, false, _, rfl, rfl, H', ⟨by have := HK1.out; omega⟩, ⟨RI.out⟩, ⟨BI.out⟩, ⟨II.out⟩⟩
            | false =>
              rw [if_neg (by simp)] at H
              by_cases c2 : (Utf8.decode a0 pos).1 = 92
              · rw [if_pos c2] at H
                have H' := Aside0.mk H
                clear H
                have e2 : (((Utf8.decode a0 pos).1 : Int) == 92) = true := beq_iff_eq.2 (by omega)
                clear c2
                go_wp2_with fail
                go_roundg k1
                case measure => have := HK1.out; omega
                case rel => exact ⟨xs, st, true, _, rfl, rfl, H', ⟨by have := HK1.out; omega⟩, ⟨RI.out⟩, ⟨BI.out⟩, ⟨II.out⟩⟩
              · rw [if_neg c2] at H
                have e2 : (((Utf8.decode a0 pos).1 : Int) == 92) = false := beq_eq_false_iff_ne.2 (by omega)
                clear c2
                by_cases c3 : (Utf8.decode a0 pos).1 = 44
                · rw [if_pos c3] at H
                  have e3 : (((Utf8.decode a0 pos).1 : Int) == 44) = true := beq_iff_eq.2 (by omega)
                  clear c3
                  by_cases c4 : st ≤ pos ∧ xs.length < 8796093022207
                  · rw [if_pos c4] at H
                    have H' := Aside0.mk H
                    clear H
                    have LM : Aside0 (xs.length < 8796093022207) := ⟨c4.2⟩
                    have p1 : (0 ≤ (st : Int)) = True := eq_true (by omega)
                    have p2 : ((st : Int) ≤ (pos : Int)) = True := eq_true (by omega)
                    have p3 : ((pos : Int) ≤ (a0.size : Int)) = True := eq_true (by omega)
                    have p4 : st ≤ pos := c4.1
                    have p5 : pos ≤ a0.size := by omega
                    have hw : wrap64 ((pos : Int) + 1) = ((pos + 1 : Nat) : Int) := by have := HS.out; simp only [wrap64]; omega
                    have hw' := Aside0.mk hw
                    clear c4 hw
                    obtain ⟨Ao, co, eo⟩ := Kd.R_slice RI.out
                    subst eo
                    go_wp2_with (first | ((with_reducible refine gate_builtin (b := .append) (xs := #[.tmp 26, .tmp 31]) rfl ?_); at_builtin; refine Kd.R_append Kd.string (w0 := w) w.heap.size rfl (.tmp 26) (.tmp 31) 63 9 (.string ⟨#[]⟩) 16 rfl Tryz.underlying63 fields_splitTerms.info rfl (by decide) (by omega) (.slice Ao xs.length co) xs (a0.extract st pos) [.string (a0.extract st pos)] (fun q => q ≠ w.heap.size + 1) (fun _ => False) rfl rfl ?aP (fun _ hk => hk.elim) ?aF ?aO ?aB ?aS ?aL ?_; (case aP => exact rfl); (case aB => exact BI.out); (case aF => intro q hq; have z1 := ZL.out; omega); (case aO => exact RI.out); (case aS => exact below_size BI.out); (case aL => have := LM.out; omega); intro v9 w9 ho hb hg hat))
                    have RO := Aside0.mk ho
                    have BO := Aside0.mk hb
                    have IO : Aside0 (w9.heap[w.heap.size + 1]? = some (.stringIter a0 (pos + (Utf8.decode a0 pos).2))) := ⟨blk_grown II.out hg (Kd.R_away RI.out (fun q hq => hq)).symm.symm⟩
                    clear ho hb hg hat RI BI II
                    go_wp2_with fail
                    rw [hw'.out]
                    go_roundg k1
                    case measure => have := HK1.out; omega
                    case rel => exact ⟨_, pos + 1, false, _, rfl, rfl, H', ⟨by have := HK1.out; omega⟩, RO, BO, IO⟩
                  · rw [if_neg c4] at H
                    simp at H
                · rw [if_neg c3] at H
                  have H' := Aside0.mk H
                  clear H
                  have e3 : (((Utf8.decode a0 pos).1 : Int) == 44) = false := beq_eq_false_iff_ne.2 (by omega)
                  clear c3
                  go_wp2_with fail
                  go_roundg k1
                  case measure => have := HK1.out; omega
                  case rel => exact ⟨xs, st, false, _, rfl, rfl, H', ⟨by have := HK1.out; omega⟩, ⟨RI.out⟩, ⟨BI.out⟩, ⟨II.out⟩⟩
          · rw [if_neg c1] at H
            have hnx := fun ty => Lib.run_next_end_at (P := Tryz.prog) wr (w.heap.size + 1) a0 pos ty HI.out c1
            by_cases c4 : st ≤ a0.size ∧ xs.length < 8796093022207
            · rw [if_pos c4] at H
              obtain rfl := Option.some.inj H
              clear H
              have LM : Aside0 (xs.length < 8796093022207) := ⟨c4.2⟩
              have p1 : (0 ≤ (st : Int)) = True := eq_true (by omega)
              have p2 : ((st : Int) ≤ (a0.size : Int)) = True := eq_true (by omega)
              have p4 : st ≤ a0.size := c4.1
              clear c4
              obtain ⟨Ao, co, eo⟩ := Kd.R_slice HR.out
              subst eo
              go_wp2_with (first | ((with_reducible refine gate_builtin (b := .append) (xs := #[.tmp 35, .tmp 39]) rfl ?_); at_builtin; refine Kd.R_append Kd.string (w0 := w) w.heap.size rfl (.tmp 35) (.tmp 39) 63 9 (.string ⟨#[]⟩) 16 rfl Tryz.underlying63 fields_splitTerms.info rfl (by decide) (by omega) (.slice Ao xs.length co) xs (a0.extract st a0.size) [.string (a0.extract st a0.size)] (fun q => q ≠ w.heap.size + 1) (fun _ => False) rfl rfl ?aP (fun _ hk => hk.elim) ?aF ?aO ?aB ?aS ?aL ?_; (case aP => exact rfl); (case aB => exact HB.out); (case aF => intro q hq; have z1 := IL.out; omega); (case aO => exact HR.out); (case aS => exact below_size HB.out); (case aL => have := LM.out; omega); intro v9 w9 ho hb hg hat))
              have RO := Aside0.mk ho
              have BO := Aside0.mk hb
              clear ho hb hg hat HR HB HI
              go_wp2_with fail
              go_ret
              exact ⟨_, rfl, Kd.R_mono RO.out (fun _ _ => trivial), BO.out⟩
            · rw [if_neg c4] at H
              simp at H
    · rw [if_neg h1] at h
      simp at h
-- NOT PRINTED: function 51 (bits_Len32)

-- NOT PRINTED: function 52 (bits_Len64)

-- NOT PRINTED: function 43 (bits_Len)

-- NOT PRINTED: function 53 (sort_insertionSort)

-- NOT PRINTED: function 65 (sort_siftDown)

-- NOT PRINTED: function 54 (sort_heapSort)

-- NOT PRINTED: function 66 (sort_nextPowerOfTwo)

-- NOT PRINTED: function 67 (sort_xorshift_Next)

-- NOT PRINTED: function 55 (sort_breakPatterns)

-- NOT PRINTED: function 71 (sort_order2)

-- NOT PRINTED: function 69 (sort_median)

-- NOT PRINTED: function 68 (sort_medianAdjacent)

-- NOT PRINTED: function 56 (sort_choosePivot)

-- NOT PRINTED: function 57 (sort_reverseRange)

-- NOT PRINTED: function 58 (sort_partialInsertionSort)

-- NOT PRINTED: function 59 (sort_partitionEqual)

-- NOT PRINTED: function 60 (sort_partition)

-- NOT PRINTED: function 44 (sort_pdqsort)

-- NOT PRINTED: function 37 (sort_Sort)

-- NOT PRINTED: function 33 (sort_StringSlice_Sort)

end Go.Proofs.YthejejeginnbdaaGreatDoor.PFnFieldTurn
