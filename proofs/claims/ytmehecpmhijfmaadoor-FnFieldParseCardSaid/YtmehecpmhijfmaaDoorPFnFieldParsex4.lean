/- Functions of the program as plain Lean functions, and that the machine's calls do what these say: written for this claim by wip/myprint.py over the kit's print.py. -/
import Derived.Test.YtmehecpmhijfmaaDoorPFnFieldParsex0
namespace Go.Proofs.YtmehecpmhijfmaaDoor.PFnFieldParse
open Go.RowKit Go.Proofs.YtmehecpmhijfmaaDoorW.PrintWords Go.Proofs.YtmehecpmhijfmaaDoorW.PrintLast Go.Proofs.YtmehecpmhijfmaaDoorW.PrintMore
attribute [local go_sem] max2_int min2_int max_two min_two max_three min_three max_four min_four   -- for this text's walks alone
set_option linter.unusedVariables false
set_option linter.unusedSimpArgs false

/-! ### spec_FieldCut: function 13 -/
mutual
def spec_FieldCut.l0 : Nat → ByteArray → Int → Option (ByteArray × ByteArray × ByteArray × Bool)
  | 0, _, _ => none
  | k + 1, x0, x6 => if x6 < (x0.size : Int) then (if (wrap64 (x6 + 1)) < (x0.size : Int) then (if 0 ≤ x6 then (if x6 ≤ (wrap64 (x6 + 2)) then (if (wrap64 (x6 + 2)) ≤ (x0.size : Int) then (if (x0.extract (x6 : Int).toNat ((wrap64 (x6 + 2)) : Int).toNat).toList = ([33, 61] : List UInt8) then (spec_FieldCut.j1 k x0 x6 true) else (spec_FieldCut.j1 k x0 x6 ((x0.extract (x6 : Int).toNat ((wrap64 (x6 + 2)) : Int).toNat).toList == ([61, 61] : List UInt8)))) else (none)) else (none)) else (none)) else (spec_FieldCut.j1 k x0 x6 false)) else (some ((⟨#[]⟩ : ByteArray), (⟨#[]⟩ : ByteArray), (⟨#[]⟩ : ByteArray), false))
def spec_FieldCut.j1 : Nat → ByteArray → Int → Bool → Option (ByteArray × ByteArray × ByteArray × Bool)
  | 0, _, _, _ => none
  | k + 1, x0, x6, x33 => if x33 = true then (if 0 ≤ x6 then (if x6 ≤ (x0.size : Int) then (if x6 ≤ (wrap64 (x6 + 2)) then (if (wrap64 (x6 + 2)) ≤ (x0.size : Int) then (if 0 ≤ (wrap64 (x6 + 2)) then (some (x0.extract 0 (x6 : Int).toNat, x0.extract (x6 : Int).toNat ((wrap64 (x6 + 2)) : Int).toNat, x0.extract ((wrap64 (x6 + 2)) : Int).toNat x0.size, true)) else (none)) else (none)) else (none)) else (none)) else (none)) else (if 0 ≤ x6 then (if x6 < (x0.size : Int) then (if (bt x0 x6) = 61 then (if x6 ≤ (x0.size : Int) then (if 0 ≤ (wrap64 (x6 + 1)) then (if (wrap64 (x6 + 1)) ≤ (x0.size : Int) then (some (x0.extract 0 (x6 : Int).toNat, (⟨#[61]⟩ : ByteArray), x0.extract ((wrap64 (x6 + 1)) : Int).toNat x0.size, true)) else (none)) else (none)) else (none)) else (spec_FieldCut.l0 k x0 (wrap64 (x6 + 1)))) else (none)) else (none))
end
def spec_FieldCut.f (k : Nat) (a0 : ByteArray) : Option (ByteArray × ByteArray × ByteArray × Bool) := spec_FieldCut.l0 k a0 0
theorem spec_FieldCut.mono_l : ∀ k, (∀ y0 y1, LeO (spec_FieldCut.l0 k y0 y1) (spec_FieldCut.l0 (k + 1) y0 y1)) ∧ (∀ y0 y1 y2, LeO (spec_FieldCut.j1 k y0 y1 y2) (spec_FieldCut.j1 (k + 1) y0 y1 y2))
  | 0 => ⟨fun _ _ r h => by simp [spec_FieldCut.l0] at h, fun _ _ _ r h => by simp [spec_FieldCut.j1] at h⟩
  | k + 1 => by
    obtain ⟨ih0, ih1⟩ := spec_FieldCut.mono_l k
    refine ⟨?_, ?_⟩
    · intro y0 y1
      unfold spec_FieldCut.l0
      repeat' first
      | (with_reducible exact ih0 _ _)
      | (with_reducible exact ih1 _ _ _)
      | (with_reducible exact LeO.refl _)
      | (with_reducible exact LeO.none _)
      | (with_reducible refine LeO.ite ?_ ?_)
      | (with_reducible refine LeO.bind ?_ (fun _ => ?_))
      | exact ih0 _ _
      | exact ih1 _ _ _
      | exact LeO.none _
      | refine LeO.ite ?_ ?_
      | refine LeO.bind ?_ (fun _ => ?_)
    · intro y0 y1 y2
      unfold spec_FieldCut.j1
      repeat' first
      | (with_reducible exact ih0 _ _)
      | (with_reducible exact ih1 _ _ _)
      | (with_reducible exact LeO.refl _)
      | (with_reducible exact LeO.none _)
      | (with_reducible refine LeO.ite ?_ ?_)
      | (with_reducible refine LeO.bind ?_ (fun _ => ?_))
      | exact ih0 _ _
      | exact ih1 _ _ _
      | exact LeO.none _
      | refine LeO.ite ?_ ?_
      | refine LeO.bind ?_ (fun _ => ?_)
theorem spec_FieldCut.mono : ∀ a0 k, LeO (spec_FieldCut.f k a0) (spec_FieldCut.f (k + 1) a0) := by
  intro a0 k
  obtain ⟨ih0, ih1⟩ := spec_FieldCut.mono_l k
  unfold spec_FieldCut.f
  repeat' first
      | (with_reducible exact ih0 _ _)
      | (with_reducible exact ih1 _ _ _)
      | (with_reducible exact LeO.refl _)
      | (with_reducible exact LeO.none _)
      | (with_reducible refine LeO.ite ?_ ?_)
      | (with_reducible refine LeO.bind ?_ (fun _ => ?_))
      | exact ih0 _ _
      | exact ih1 _ _ _
      | exact LeO.none _
      | refine LeO.ite ?_ ?_
      | refine LeO.bind ?_ (fun _ => ?_)
set_option maxHeartbeats 8000000 in
set_option maxRecDepth 100000 in
theorem spec_FieldCut.calls (k : Nat) (a0 : ByteArray) (r1 : ByteArray) (r2 : ByteArray) (r3 : ByteArray) (r4 : Bool) (w : World) (h : spec_FieldCut.f k a0 = some (r1, r2, r3, r4)) :
    Calls Tryd.prog 13 #[.string a0] w fun e w' => e = .returned (.tuple #[.string r1, .string r2, .string r3, .bool r4]) ∧ Drawn0 w w' := by
  have H : (spec_FieldCut.l0 k a0 0) = some (r1, r2, r3, r4) := h
  clear h
  have H' := Aside0.mk H
  clear H
  go_enter Tryd.func13, Tryd.ntmps13
  go_wp2
  repeat (go_quiet (fail); try go_wp2)
  go_loopg [6] k (fun kq v6 w' => ∃ (x6_1 : Int), v6 = .int .i64 x6_1 ∧ Aside0 (spec_FieldCut.l0 kq a0 x6_1 = some (r1, r2, r3, r4)) ∧ Aside0 (kq ≤ k) ∧ Drawn0 w w')
  case atStart => exact ⟨(0), (by first | rfl | (simp; done) | (simp [*]; done)), H', ⟨Nat.le_refl _⟩, by repeat (first | exact Drawn0.refl _ | apply Drawn0.step)⟩
  case round =>
    clear H'
    try clear c1
    obtain ⟨x6_1, rfl, HA, HK1, ⟨m1, rfl⟩⟩ := hrel
    cases gk with
    | zero => exact absurd HA.out (by simp [spec_FieldCut.l0])
    | succ k1 =>
      have H := HA.out
      clear HA
      simp only [spec_FieldCut.l0] at H
      by_cases c2 : x6_1 < (a0.size : Int)
      · rw [if_pos c2] at H
        have c2b0 : decide (x6_1 < (a0.size : Int)) = true := decide_eq_true c2
        clear c2
        have HC3 := Aside0.mk H
        clear H
        go_upto_region 4 with (fail)
        repeat (go_quiet (fail); go_upto_region 4 with (fail))
        go_cut [33] (fun v33 wc => ∃ (kq : Nat) (x33_2 : Bool), v33 = .bool x33_2 ∧ Aside0 (spec_FieldCut.j1 kq a0 x6_1 x33_2 = some (r1, r2, r3, r4)) ∧ Aside0 (kq ≤ k1) ∧ Drawn0 w wc)
        case first =>
          have H := HC3.out
          clear HC3
          by_cases c4 : (wrap64 (x6_1 + 1)) < (a0.size : Int)
          · rw [if_pos c4] at H
            have c4b0 : decide ((wrap64 (x6_1 + 1)) < (a0.size : Int)) = true := decide_eq_true c4
            clear c4
            (first | rw [c4b0] | (simp only [i64_w, i32_w]; rw [c4b0]) | skip)
            by_cases c5 : 0 ≤ x6_1
            · rw [if_pos c5] at H
              have c5b0 := eq_true c5
              have c5b1 : decide (0 ≤ x6_1) = true := decide_eq_true c5
              clear c5
              by_cases c6 : x6_1 ≤ (wrap64 (x6_1 + 2))
              · rw [if_pos c6] at H
                have c6b0 := eq_true c6
                have c6b1 : decide (x6_1 ≤ (wrap64 (x6_1 + 2))) = true := decide_eq_true c6
                by_cases c7 : (wrap64 (x6_1 + 2)) ≤ (a0.size : Int)
                · rw [if_pos c7] at H
                  have c7b0 := eq_true c7
                  have c7b1 : decide ((wrap64 (x6_1 + 2)) ≤ (a0.size : Int)) = true := decide_eq_true c7
                  by_cases c8 : (a0.extract (x6_1 : Int).toNat ((wrap64 (x6_1 + 2)) : Int).toNat).toList = ([33, 61] : List UInt8)
                  · rw [if_pos c8] at H
                    have c8b0 : ((a0.extract (x6_1 : Int).toNat ((wrap64 (x6_1 + 2)) : Int).toNat).toList == ([33, 61] : List UInt8)) = true := beq_iff_eq.mpr c8
                    have c8b1 : ((a0.extract (x6_1 : Int).toNat ((wrap64 (x6_1 + 2)) : Int).toNat).toList != ([33, 61] : List UInt8)) = false := bne_eq_false_iff_eq.mpr c8
                    clear c8
                    have H' := Aside0.mk H
                    clear H
                    go_wp2
                    repeat (go_quiet (fail); try go_wp2)
                    go_meet
                    case rel => exact ⟨_, (true), (by first | rfl | (simp; done) | (simp [*]; done)), H', ⟨by have := HK1.out; first | omega | exact Nat.le_refl _⟩, by repeat (first | exact Drawn0.refl _ | apply Drawn0.step)⟩
                  · rw [if_neg c8] at H
                    have c8b0 : ((a0.extract (x6_1 : Int).toNat ((wrap64 (x6_1 + 2)) : Int).toNat).toList == ([33, 61] : List UInt8)) = false := beq_eq_false_iff_ne.mpr c8
                    have c8b1 : ((a0.extract (x6_1 : Int).toNat ((wrap64 (x6_1 + 2)) : Int).toNat).toList != ([33, 61] : List UInt8)) = true := bne_iff_ne.mpr c8
                    have c9b0 := eq_true (of_decide_eq_true (by first | (with_reducible assumption) | assumption) : 0 ≤ x6_1)
                    have c10b0 := eq_true (of_decide_eq_true (by first | (with_reducible assumption) | assumption) : x6_1 ≤ (wrap64 (x6_1 + 2)))
                    have c11b0 := eq_true (of_decide_eq_true (by first | (with_reducible assumption) | assumption) : (wrap64 (x6_1 + 2)) ≤ (a0.size : Int))
                    have H' := Aside0.mk H
                    clear H
                    go_wp2
                    repeat (go_quiet (fail); try go_wp2)
                    go_meet
                    case rel => exact ⟨_, (((a0.extract (x6_1 : Int).toNat ((wrap64 (x6_1 + 2)) : Int).toNat).toList == ([61, 61] : List UInt8))), (by first | rfl | (simp; done) | (simp [*]; done)), H', ⟨by have := HK1.out; first | omega | exact Nat.le_refl _⟩, by repeat (first | exact Drawn0.refl _ | apply Drawn0.step)⟩
                · rw [if_neg c7] at H
                  exact absurd H (by simp)
              · rw [if_neg c6] at H
                exact absurd H (by simp)
            · rw [if_neg c5] at H
              exact absurd H (by simp)
          · rw [if_neg c4] at H
            have c4b0 : decide ((wrap64 (x6_1 + 1)) < (a0.size : Int)) = false := decide_eq_false c4
            clear c4
            (first | rw [c4b0] | (simp only [i64_w, i32_w]; rw [c4b0]) | skip)
            have H' := Aside0.mk H
            clear H
            go_wp2
            repeat (go_quiet (fail); try go_wp2)
            go_meet
            case rel => exact ⟨_, (false), (by first | rfl | (simp; done) | (simp [*]; done)), H', ⟨by have := HK1.out; first | omega | exact Nat.le_refl _⟩, by repeat (first | exact Drawn0.refl _ | apply Drawn0.step)⟩
        case rest =>
          clear HC3
          try clear c1
          try clear c2
          try clear c2b0
          try clear p2
          try clear c4
          try clear c4b0
          try clear c5
          try clear c5b0
          try clear c5b1
          try clear c6
          try clear c6b0
          try clear c6b1
          try clear p6
          try clear c7
          try clear c7b0
          try clear c7b1
          try clear c8
          try clear c8b0
          try clear c8b1
          try clear c9
          try clear c9b0
          try clear c10
          try clear c10b0
          try clear c11
          try clear c11b0
          obtain ⟨kq, x33_2, rfl, HA, HJ2, ⟨mc2, rfl⟩⟩ := hcut
          cases kq with
          | zero => exact absurd HA.out (by simp [spec_FieldCut.j1])
          | succ kj2 =>
            have H := HA.out
            clear HA
            simp only [spec_FieldCut.j1] at H
            by_cases c12 : x33_2 = true
            · subst c12
              have H1 : (if 0 ≤ x6_1 then (if x6_1 ≤ (a0.size : Int) then (if x6_1 ≤ (wrap64 (x6_1 + 2)) then (if (wrap64 (x6_1 + 2)) ≤ (a0.size : Int) then (if 0 ≤ (wrap64 (x6_1 + 2)) then (some (a0.extract 0 (x6_1 : Int).toNat, a0.extract (x6_1 : Int).toNat ((wrap64 (x6_1 + 2)) : Int).toNat, a0.extract ((wrap64 (x6_1 + 2)) : Int).toNat a0.size, true)) else (none)) else (none)) else (none)) else (none)) else (none)) = some (r1, r2, r3, r4) := by rw [if_pos rfl] at H; exact H
              clear H
              have H := H1
              clear H1
              by_cases c13 : 0 ≤ x6_1
              · rw [if_pos c13] at H
                have c13b0 := eq_true c13
                have c13b1 : decide (0 ≤ x6_1) = true := decide_eq_true c13
                clear c13
                by_cases c14 : x6_1 ≤ (a0.size : Int)
                · rw [if_pos c14] at H
                  have c14b0 := eq_true c14
                  have c14b1 : decide (x6_1 ≤ (a0.size : Int)) = true := decide_eq_true c14
                  clear c14
                  have c15b0 := eq_true (of_decide_eq_true (by first | (with_reducible assumption) | assumption) : 0 ≤ x6_1)
                  by_cases c16 : x6_1 ≤ (wrap64 (x6_1 + 2))
                  · rw [if_pos c16] at H
                    have c16b0 := eq_true c16
                    have c16b1 : decide (x6_1 ≤ (wrap64 (x6_1 + 2))) = true := decide_eq_true c16
                    by_cases c17 : (wrap64 (x6_1 + 2)) ≤ (a0.size : Int)
                    · rw [if_pos c17] at H
                      have c17b0 := eq_true c17
                      have c17b1 : decide ((wrap64 (x6_1 + 2)) ≤ (a0.size : Int)) = true := decide_eq_true c17
                      obtain ⟨ji18, hji18⟩ : ∃ j_ : Int, (wrap64 (x6_1 + 2)) = j_ := ⟨_, rfl⟩
                      replace H : (if 0 ≤ (ji18) then (some (a0.extract 0 (x6_1 : Int).toNat, a0.extract (x6_1 : Int).toNat ((ji18) : Int).toNat, a0.extract ((ji18) : Int).toNat a0.size, true)) else (none)) = some (r1, r2, r3, r4) := by first | (rw [hji18] at H; exact H) | (simp only [hji18] at H ⊢; exact H)
                      (try rw [hji18] at c16b0)
                      (try rw [hji18] at c16b1)
                      (try rw [hji18] at c16)
                      (try rw [hji18] at c17b0)
                      (try rw [hji18] at c17b1)
                      (try rw [hji18] at c17)
                      have hji18w : (IntKind.i64.wrap (x6_1 + 2)) = ji18 := (i64_w _).trans hji18
                      by_cases c19 : 0 ≤ (ji18)
                      · rw [if_pos c19] at H
                        have c19b0 := eq_true c19
                        have c19b1 : decide (0 ≤ (ji18)) = true := decide_eq_true c19
                        clear c19
                        have c20b0 := eq_true (of_decide_eq_true (by first | (with_reducible assumption) | assumption) : (ji18) ≤ (a0.size : Int))
                        simp only [Option.some.injEq, Prod.mk.injEq] at H
                        obtain ⟨rfl, rfl, rfl, rfl⟩ := H
                        go_wp2
                        repeat (go_quiet (fail); try go_wp2)
                        refine bodyPost_ret (results_list (rs := [.tmp 2, .tmp 3, .tmp 4, .tmp 5]) rfl (by simp) (.tmp (.tmp (.tmp (.tmp .nil))))) rfl ?_
                        exact ⟨by first | rfl | (simp; done) | (simp only [← hji18] <;> (first | rfl | simp)) | (simp [*]; done), by repeat (first | exact Drawn0.refl _ | apply Drawn0.step)⟩
                      · rw [if_neg c19] at H
                        exact absurd H (by simp)
                    · rw [if_neg c17] at H
                      exact absurd H (by simp)
                  · rw [if_neg c16] at H
                    exact absurd H (by simp)
                · rw [if_neg c14] at H
                  exact absurd H (by simp)
              · rw [if_neg c13] at H
                exact absurd H (by simp)
            · replace c12 := Bool.eq_false_iff.mpr c12
              subst c12
              have H1 : (if 0 ≤ x6_1 then (if x6_1 < (a0.size : Int) then (if (bt a0 x6_1) = 61 then (if x6_1 ≤ (a0.size : Int) then (if 0 ≤ (wrap64 (x6_1 + 1)) then (if (wrap64 (x6_1 + 1)) ≤ (a0.size : Int) then (some (a0.extract 0 (x6_1 : Int).toNat, (⟨#[61]⟩ : ByteArray), a0.extract ((wrap64 (x6_1 + 1)) : Int).toNat a0.size, true)) else (none)) else (none)) else (none)) else (spec_FieldCut.l0 kj2 a0 (wrap64 (x6_1 + 1)))) else (none)) else (none)) = some (r1, r2, r3, r4) := by rw [if_neg (show ¬ (false = true) by decide)] at H; exact H
              clear H
              have H := H1
              clear H1
              by_cases c21 : 0 ≤ x6_1
              · rw [if_pos c21] at H
                have c21b0 : decide (0 ≤ x6_1) = true := decide_eq_true c21
                clear c21
                by_cases c22 : x6_1 < (a0.size : Int)
                · rw [if_pos c22] at H
                  have c22b0 : decide (x6_1 < (a0.size : Int)) = true := decide_eq_true c22
                  clear c22
                  by_cases c24 : (bt a0 x6_1) = 61
                  · rw [if_pos c24] at H
                    have c24b0 : ((bt a0 x6_1) == 61) = true := beq_iff_eq.mpr c24
                    have c24b1 : ((bt a0 x6_1) != 61) = false := bne_eq_false_iff_eq.mpr c24
                    clear c24
                    have c25b0 := eq_true (of_decide_eq_true (by first | (with_reducible assumption) | assumption) : 0 ≤ x6_1)
                    by_cases c26 : x6_1 ≤ (a0.size : Int)
                    · rw [if_pos c26] at H
                      have c26b0 := eq_true c26
                      have c26b1 : decide (x6_1 ≤ (a0.size : Int)) = true := decide_eq_true c26
                      clear c26
                      obtain ⟨ji27, hji27⟩ : ∃ j_ : Int, (wrap64 (x6_1 + 1)) = j_ := ⟨_, rfl⟩
                      replace H : (if 0 ≤ (ji27) then (if (ji27) ≤ (a0.size : Int) then (some (a0.extract 0 (x6_1 : Int).toNat, (⟨#[61]⟩ : ByteArray), a0.extract ((ji27) : Int).toNat a0.size, true)) else (none)) else (none)) = some (r1, r2, r3, r4) := by first | (rw [hji27] at H; exact H) | (simp only [hji27] at H ⊢; exact H)
                      have hji27w : (IntKind.i64.wrap (x6_1 + 1)) = ji27 := (i64_w _).trans hji27
                      by_cases c28 : 0 ≤ (ji27)
                      · rw [if_pos c28] at H
                        have c28b0 := eq_true c28
                        have c28b1 : decide (0 ≤ (ji27)) = true := decide_eq_true c28
                        clear c28
                        by_cases c29 : (ji27) ≤ (a0.size : Int)
                        · rw [if_pos c29] at H
                          have c29b0 := eq_true c29
                          have c29b1 : decide ((ji27) ≤ (a0.size : Int)) = true := decide_eq_true c29
                          clear c29
                          simp only [Option.some.injEq, Prod.mk.injEq] at H
                          obtain ⟨rfl, rfl, rfl, rfl⟩ := H
                          have p23 : 0 ≤ (x6_1 : Int) := of_decide_eq_true (by first | (with_reducible assumption) | assumption)
                          have q23 : x6_1 < (a0.size : Int) := of_decide_eq_true (by first | (with_reducible assumption) | assumption)
                          have hx23 := bt_at a0 x6_1
                          replace p23 := eq_true p23
                          replace q23 := eq_true q23
                          go_wp2
                          repeat (go_quiet (fail); try go_wp2)
                          refine bodyPost_ret (results_list (rs := [.tmp 2, .tmp 3, .tmp 4, .tmp 5]) rfl (by simp) (.tmp (.tmp (.tmp (.tmp .nil))))) rfl ?_
                          exact ⟨by first | rfl | (simp; done) | (simp only [← hji27] <;> (first | rfl | simp)) | (simp [*]; done), by repeat (first | exact Drawn0.refl _ | apply Drawn0.step)⟩
                        · rw [if_neg c29] at H
                          exact absurd H (by simp)
                      · rw [if_neg c28] at H
                        exact absurd H (by simp)
                    · rw [if_neg c26] at H
                      exact absurd H (by simp)
                  · rw [if_neg c24] at H
                    have c24b0 : ((bt a0 x6_1) == 61) = false := beq_eq_false_iff_ne.mpr c24
                    have c24b1 : ((bt a0 x6_1) != 61) = true := bne_iff_ne.mpr c24
                    have H' := Aside0.mk H
                    clear H
                    have p23 : 0 ≤ (x6_1 : Int) := of_decide_eq_true (by first | (with_reducible assumption) | assumption)
                    have q23 : x6_1 < (a0.size : Int) := of_decide_eq_true (by first | (with_reducible assumption) | assumption)
                    have hx23 := bt_at a0 x6_1
                    replace p23 := eq_true p23
                    replace q23 := eq_true q23
                    go_wp2
                    repeat (go_quiet (fail); try go_wp2)
                    go_roundg kj2
                    case measure => have := HK1.out; have := HJ2.out; omega
                    case rel => exact ⟨(wrap64 (x6_1 + 1)), (by first | rfl | (simp; done) | (simp [*]; done)), H', ⟨by have := HK1.out; have := HJ2.out; omega⟩, by repeat (first | exact Drawn0.refl _ | apply Drawn0.step)⟩
                · rw [if_neg c22] at H
                  exact absurd H (by simp)
              · rw [if_neg c21] at H
                exact absurd H (by simp)
      · rw [if_neg c2] at H
        have c2b0 : decide (x6_1 < (a0.size : Int)) = false := decide_eq_false c2
        clear c2
        simp only [Option.some.injEq, Prod.mk.injEq] at H
        obtain ⟨rfl, rfl, rfl, rfl⟩ := H
        go_wp2
        repeat (go_quiet (fail); try go_wp2)
        refine bodyPost_ret (results_list (rs := [.tmp 2, .tmp 3, .tmp 4, .tmp 5]) rfl (by simp) (.tmp (.tmp (.tmp (.tmp .nil))))) rfl ?_
        exact ⟨by first | rfl | (simp; done) | (simp [*]; done), by repeat (first | exact Drawn0.refl _ | apply Drawn0.step)⟩

/-! ### spec_fieldSign: function 18 -/
def spec_fieldSign.f (a0 : Int) : Option (Bool) := if a0 = 92 then (some true) else (if a0 = 44 then (some true) else (some (a0 == 61)))
set_option maxHeartbeats 8000000 in
set_option maxRecDepth 100000 in
theorem spec_fieldSign.calls (a0 : Int) (r : Bool) (w : World) (h : spec_fieldSign.f a0 = some r) :
    Calls Tryd.prog 18 #[.int .u8 a0] w fun e w' => e = .returned (.bool r) ∧ Drawn0 w w' := by
  have H : (if a0 = 92 then (some true) else (if a0 = 44 then (some true) else (some (a0 == 61)))) = some r := h
  clear h
  by_cases c2 : a0 = 92
  · rw [if_pos c2] at H
    have c2b0 : (a0 == 92) = true := beq_iff_eq.mpr c2
    have c2b1 : (a0 != 92) = false := bne_eq_false_iff_eq.mpr c2
    clear c2
    obtain rfl := Option.some.inj H
    go_enter Tryd.func18, Tryd.ntmps18
    go_wp2
    go_ret
    exact ⟨by first | rfl | (simp; done) | (simp [*]; done), by repeat (first | exact Drawn0.refl _ | apply Drawn0.step)⟩
  · rw [if_neg c2] at H
    have c2b0 : (a0 == 92) = false := beq_eq_false_iff_ne.mpr c2
    have c2b1 : (a0 != 92) = true := bne_iff_ne.mpr c2
    by_cases c3 : a0 = 44
    · rw [if_pos c3] at H
      have c3b0 : (a0 == 44) = true := beq_iff_eq.mpr c3
      have c3b1 : (a0 != 44) = false := bne_eq_false_iff_eq.mpr c3
      clear c3
      obtain rfl := Option.some.inj H
      go_enter Tryd.func18, Tryd.ntmps18
      go_wp2
      go_ret
      exact ⟨by first | rfl | (simp; done) | (simp [*]; done), by repeat (first | exact Drawn0.refl _ | apply Drawn0.step)⟩
    · rw [if_neg c3] at H
      have c3b0 : (a0 == 44) = false := beq_eq_false_iff_ne.mpr c3
      have c3b1 : (a0 != 44) = true := bne_iff_ne.mpr c3
      obtain rfl := Option.some.inj H
      go_enter Tryd.func18, Tryd.ntmps18
      go_wp2
      go_ret
      exact ⟨by first | rfl | (simp; done) | (simp [*]; done), by repeat (first | exact Drawn0.refl _ | apply Drawn0.step)⟩

/-! ### spec_Unescape: function 14 -/
def spec_Unescape.l0 : Nat → ByteArray → ByteArray → Int → Option (ByteArray × Bool)
  | 0, _, _, _ => none
  | k + 1, x0, x4, x5 => if x5 < (x0.size : Int) then (if 0 ≤ x5 then ((spec_fieldSign.f (bt x0 x5)).bind fun t159 => (if t159 = true then (if (bt x0 x5) = 92 then (if (wrap64 (x5 + 1)) = (x0.size : Int) then (some ((⟨#[]⟩ : ByteArray), false)) else (if 0 ≤ (wrap64 (x5 + 1)) then (if (wrap64 (x5 + 1)) < (x0.size : Int) then ((spec_fieldSign.f (bt x0 (wrap64 (x5 + 1)))).bind fun t160 => (if t160 = true then ((some (([bt x0 (wrap64 (x5 + 1))] : List Int) : List Int)).bind fun y161 => (if x4.size + (strOfNums y161).size ≤ 9223372036854775807 then (spec_Unescape.l0 k x0 (x4 ++ (strOfNums y161)) (wrap64 ((wrap64 (x5 + 1)) + 1))) else (none))) else (some ((⟨#[]⟩ : ByteArray), false)))) else (none)) else (none))) else (some ((⟨#[]⟩ : ByteArray), false))) else ((some (([bt x0 x5] : List Int) : List Int)).bind fun y164 => (if x4.size + (strOfNums y164).size ≤ 9223372036854775807 then (spec_Unescape.l0 k x0 (x4 ++ (strOfNums y164)) (wrap64 (x5 + 1))) else (none))))) else (none)) else (some (x4, true))
def spec_Unescape.f (k : Nat) (a0 : ByteArray) : Option (ByteArray × Bool) := spec_Unescape.l0 k a0 (⟨#[]⟩ : ByteArray) 0
theorem spec_Unescape.mono_l : ∀ k, (∀ y0 y1 y2, LeO (spec_Unescape.l0 k y0 y1 y2) (spec_Unescape.l0 (k + 1) y0 y1 y2))
  | 0 => fun _ _ _ r h => by simp [spec_Unescape.l0] at h
  | k + 1 => by
    have ih0 := spec_Unescape.mono_l k
    · intro y0 y1 y2
      unfold spec_Unescape.l0
      repeat' first
      | (with_reducible exact ih0 _ _ _)
      | (with_reducible exact LeO.refl _)
      | (with_reducible exact LeO.none _)
      | (with_reducible refine LeO.ite ?_ ?_)
      | (with_reducible refine LeO.bind ?_ (fun _ => ?_))
      | exact ih0 _ _ _
      | exact LeO.none _
      | refine LeO.ite ?_ ?_
      | refine LeO.bind ?_ (fun _ => ?_)
theorem spec_Unescape.mono : ∀ a0 k, LeO (spec_Unescape.f k a0) (spec_Unescape.f (k + 1) a0) := by
  intro a0 k
  have ih0 := spec_Unescape.mono_l k
  unfold spec_Unescape.f
  repeat' first
      | (with_reducible exact ih0 _ _ _)
      | (with_reducible exact LeO.refl _)
      | (with_reducible exact LeO.none _)
      | (with_reducible refine LeO.ite ?_ ?_)
      | (with_reducible refine LeO.bind ?_ (fun _ => ?_))
      | exact ih0 _ _ _
      | exact LeO.none _
      | refine LeO.ite ?_ ?_
      | refine LeO.bind ?_ (fun _ => ?_)
set_option maxHeartbeats 8000000 in
set_option maxRecDepth 100000 in
theorem spec_Unescape.calls (k : Nat) (a0 : ByteArray) (r1 : ByteArray) (r2 : Bool) (w : World) (h : spec_Unescape.f k a0 = some (r1, r2)) :
    Calls Tryd.prog 14 #[.string a0] w fun e w' => e = .returned (.tuple #[.string r1, .bool r2]) ∧ Below w.heap.size w w' := by
  have HB := Aside0.mk (Below.refl w.heap.size w)
  have H : (spec_Unescape.l0 k a0 (⟨#[]⟩ : ByteArray) 0) = some (r1, r2) := h
  clear h
  have H' := Aside0.mk H
  clear H
  go_enter Tryd.func14, Tryd.ntmps14
  go_wp2
  go_loopg [4, 5] k (fun kq v4 v5 w' => ∃ (x4_1 : ByteArray) (x5_1 : Int), v4 = .string x4_1 ∧ v5 = .int .i64 x5_1 ∧ Aside0 (spec_Unescape.l0 kq a0 x4_1 x5_1 = some (r1, r2)) ∧ Aside0 (kq ≤ k) ∧ Aside0 (Below w.heap.size w w'))
  case atStart => exact ⟨((⟨#[]⟩ : ByteArray)), (0), (by first | rfl | (simp; done) | (simp [*]; done)), (by first | rfl | (simp; done) | (simp [*]; done)), H', ⟨Nat.le_refl _⟩, ⟨by repeat (first | (with_reducible first | exact HB.out | apply below_alloc | apply pw_below_drewN | apply below_drew1) | exact HB.out)⟩⟩
  case round =>
    clear H'
    try clear c1
    obtain ⟨x4_1, x5_1, rfl, rfl, HA, HK1, HB⟩ := hrel
    cases gk with
    | zero => exact absurd HA.out (by simp [spec_Unescape.l0])
    | succ k1 =>
      have H := HA.out
      clear HA
      simp only [spec_Unescape.l0] at H
      by_cases c2 : x5_1 < (a0.size : Int)
      · rw [if_pos c2] at H
        have c2b0 : decide (x5_1 < (a0.size : Int)) = true := decide_eq_true c2
        clear c2
        by_cases c3 : 0 ≤ x5_1
        · rw [if_pos c3] at H
          have c3b0 : decide (0 ≤ x5_1) = true := decide_eq_true c3
          clear c3
          replace H := Option.bind_eq_some_iff.mp H
          obtain ⟨t159, A50, H⟩ := H
          replace H : (if t159 = true then (if (bt a0 x5_1) = 92 then (if (wrap64 (x5_1 + 1)) = (a0.size : Int) then (some ((⟨#[]⟩ : ByteArray), false)) else (if 0 ≤ (wrap64 (x5_1 + 1)) then (if (wrap64 (x5_1 + 1)) < (a0.size : Int) then ((spec_fieldSign.f (bt a0 (wrap64 (x5_1 + 1)))).bind fun t160 => (if t160 = true then ((some (([bt a0 (wrap64 (x5_1 + 1))] : List Int) : List Int)).bind fun y161 => (if x4_1.size + (strOfNums y161).size ≤ 9223372036854775807 then (spec_Unescape.l0 k1 a0 (x4_1 ++ (strOfNums y161)) (wrap64 ((wrap64 (x5_1 + 1)) + 1))) else (none))) else (some ((⟨#[]⟩ : ByteArray), false)))) else (none)) else (none))) else (some ((⟨#[]⟩ : ByteArray), false))) else ((some (([bt a0 x5_1] : List Int) : List Int)).bind fun y164 => (if x4_1.size + (strOfNums y164).size ≤ 9223372036854775807 then (spec_Unescape.l0 k1 a0 (x4_1 ++ (strOfNums y164)) (wrap64 (x5_1 + 1))) else (none)))) = some (r1, r2) := H
          have A5 := Aside0.mk A50
          clear A50
          by_cases c6 : t159 = true
          · subst c6
            have H1 : (if (bt a0 x5_1) = 92 then (if (wrap64 (x5_1 + 1)) = (a0.size : Int) then (some ((⟨#[]⟩ : ByteArray), false)) else (if 0 ≤ (wrap64 (x5_1 + 1)) then (if (wrap64 (x5_1 + 1)) < (a0.size : Int) then ((spec_fieldSign.f (bt a0 (wrap64 (x5_1 + 1)))).bind fun t160 => (if t160 = true then ((some (([bt a0 (wrap64 (x5_1 + 1))] : List Int) : List Int)).bind fun y161 => (if x4_1.size + (strOfNums y161).size ≤ 9223372036854775807 then (spec_Unescape.l0 k1 a0 (x4_1 ++ (strOfNums y161)) (wrap64 ((wrap64 (x5_1 + 1)) + 1))) else (none))) else (some ((⟨#[]⟩ : ByteArray), false)))) else (none)) else (none))) else (some ((⟨#[]⟩ : ByteArray), false))) = some (r1, r2) := by rw [if_pos rfl] at H; exact H
            clear H
            have H := H1
            clear H1
            by_cases c8 : (bt a0 x5_1) = 92
            · rw [if_pos c8] at H
              have c8b0 : ((bt a0 x5_1) == 92) = true := beq_iff_eq.mpr c8
              have c8b1 : ((bt a0 x5_1) != 92) = false := bne_eq_false_iff_eq.mpr c8
              clear c8
              by_cases c9 : (wrap64 (x5_1 + 1)) = (a0.size : Int)
              · rw [if_pos c9] at H
                have c9b0 : ((wrap64 (x5_1 + 1)) == (a0.size : Int)) = true := beq_iff_eq.mpr c9
                have c9b1 : ((wrap64 (x5_1 + 1)) != (a0.size : Int)) = false := bne_eq_false_iff_eq.mpr c9
                clear c9
                simp only [Option.some.injEq, Prod.mk.injEq] at H
                obtain ⟨rfl, rfl⟩ := H
                have p4 : 0 ≤ (x5_1 : Int) := of_decide_eq_true (by first | (with_reducible assumption) | assumption)
                have q4 : x5_1 < (a0.size : Int) := of_decide_eq_true (by first | (with_reducible assumption) | assumption)
                have hx4 := bt_at a0 x5_1
                replace p4 := eq_true p4
                replace q4 := eq_true q4
                go_wp2_with (first | ((with_reducible refine gate_callee (f := 18) rfl ?_); refine goesL_ (some 15) rfl rfl Tryd.func18 (by kernel_rfl) rfl #[.int .u8 (bt a0 x5_1)] rfl (by (try simp only [List.map_toArray, List.map_cons, List.map_nil]); first | done | rfl | (simp only [List.length_drop, List.length_take]; rfl)) ?_; (with_reducible refine (spec_fieldSign.calls (bt a0 x5_1) true _ A5.out).mono ?_); rintro e w' ⟨rfl, ⟨nd, rfl⟩⟩; refine ⟨_, rfl, ?_⟩; have p7 : 0 ≤ (x5_1 : Int) := of_decide_eq_true (by first | (with_reducible assumption) | assumption); have q7 : x5_1 < (a0.size : Int) := of_decide_eq_true (by first | (with_reducible assumption) | assumption); have hx7 := bt_at a0 x5_1; replace p7 := eq_true p7; replace q7 := eq_true q7))
                go_ret2
                exact ⟨by first | rfl | (simp [errW_none, errW_some] <;> rfl) | (simp [*, errW_none, errW_some] <;> rfl) | (exfalso; contradiction), by repeat (first | (with_reducible first | exact HB.out | apply below_alloc | apply pw_below_drewN | apply below_drew1) | exact HB.out)⟩
              · rw [if_neg c9] at H
                have c9b0 : ((wrap64 (x5_1 + 1)) == (a0.size : Int)) = false := beq_eq_false_iff_ne.mpr c9
                have c9b1 : ((wrap64 (x5_1 + 1)) != (a0.size : Int)) = true := bne_iff_ne.mpr c9
                obtain ⟨ji10, hji10⟩ : ∃ j_ : Int, (wrap64 (x5_1 + 1)) = j_ := ⟨_, rfl⟩
                replace H : (if 0 ≤ (ji10) then (if (ji10) < (a0.size : Int) then ((spec_fieldSign.f (bt a0 (ji10))).bind fun t160 => (if t160 = true then ((some (([bt a0 (ji10)] : List Int) : List Int)).bind fun y161 => (if x4_1.size + (strOfNums y161).size ≤ 9223372036854775807 then (spec_Unescape.l0 k1 a0 (x4_1 ++ (strOfNums y161)) (wrap64 ((ji10) + 1))) else (none))) else (some ((⟨#[]⟩ : ByteArray), false)))) else (none)) else (none)) = some (r1, r2) := by first | (rw [hji10] at H; exact H) | (simp only [hji10] at H ⊢; exact H)
                (try rw [hji10] at c9b0)
                (try rw [hji10] at c9b1)
                (try rw [hji10] at A5)
                have hji10w : (IntKind.i64.wrap (x5_1 + 1)) = ji10 := (i64_w _).trans hji10
                by_cases c11 : 0 ≤ (ji10)
                · rw [if_pos c11] at H
                  have c11b0 : decide (0 ≤ (ji10)) = true := decide_eq_true c11
                  clear c11
                  by_cases c12 : (ji10) < (a0.size : Int)
                  · rw [if_pos c12] at H
                    have c12b0 : decide ((ji10) < (a0.size : Int)) = true := decide_eq_true c12
                    clear c12
                    replace H := Option.bind_eq_some_iff.mp H
                    obtain ⟨t160, A140, H⟩ := H
                    replace H : (if t160 = true then ((some (([bt a0 (ji10)] : List Int) : List Int)).bind fun y161 => (if x4_1.size + (strOfNums y161).size ≤ 9223372036854775807 then (spec_Unescape.l0 k1 a0 (x4_1 ++ (strOfNums y161)) (wrap64 ((ji10) + 1))) else (none))) else (some ((⟨#[]⟩ : ByteArray), false))) = some (r1, r2) := H
                    have A14 := Aside0.mk A140
                    clear A140
                    by_cases c15 : t160 = true
                    · subst c15
                      have H1 : ((some (([bt a0 (ji10)] : List Int) : List Int)).bind fun y161 => (if x4_1.size + (strOfNums y161).size ≤ 9223372036854775807 then (spec_Unescape.l0 k1 a0 (x4_1 ++ (strOfNums y161)) (wrap64 ((ji10) + 1))) else (none))) = some (r1, r2) := by rw [if_pos rfl] at H; exact H
                      clear H
                      have H := H1
                      clear H1
                      obtain ⟨y161, hy161⟩ : ∃ y_ : List Int, y_ = (([bt a0 (ji10)] : List Int)) := ⟨_, rfl⟩
                      replace H : (if x4_1.size + (strOfNums y161).size ≤ 9223372036854775807 then (spec_Unescape.l0 k1 a0 (x4_1 ++ (strOfNums y161)) (wrap64 ((ji10) + 1))) else (none)) = some (r1, r2) := by first | (rw [hy161]; with_reducible exact H) | (have H2_ := (Option.bind_some _ _).symm.trans H; rw [hy161]; with_reducible exact H2_) | (have H2_ := (Option.bind_some _ _).symm.trans H; with_reducible exact H2_) | with_reducible exact H | (rw [hy161]; exact H) | exact H
                      have Ny161 := Aside0.mk hy161
                      clear hy161
                      by_cases c17 : x4_1.size + (strOfNums y161).size ≤ 9223372036854775807
                      · rw [if_pos c17] at H
                        have c17b0 := eq_true c17
                        have c17b1 : decide (x4_1.size + (strOfNums y161).size ≤ 9223372036854775807) = true := decide_eq_true c17
                        try have c17b2 : (9223372036854775807 < x4_1.size + (strOfNums y161).size) = False := eq_false (Nat.not_lt.2 c17)
                        have H' := Aside0.mk H
                        clear H
                        have p4 : 0 ≤ (x5_1 : Int) := of_decide_eq_true (by first | (with_reducible assumption) | assumption)
                        have q4 : x5_1 < (a0.size : Int) := of_decide_eq_true (by first | (with_reducible assumption) | assumption)
                        have hx4 := bt_at a0 x5_1
                        replace p4 := eq_true p4
                        replace q4 := eq_true q4
                        go_wp2_with (first | ((with_reducible refine gate_callee (f := 18) rfl ?_); refine goesL_ (some 15) rfl rfl Tryd.func18 (by kernel_rfl) rfl #[.int .u8 (bt a0 x5_1)] rfl (by (try simp only [List.map_toArray, List.map_cons, List.map_nil]); first | done | rfl | (simp only [List.length_drop, List.length_take]; rfl)) ?_; (with_reducible refine (spec_fieldSign.calls (bt a0 x5_1) true _ A5.out).mono ?_); rintro e w' ⟨rfl, ⟨nd, rfl⟩⟩; refine ⟨_, rfl, ?_⟩; have p7 : 0 ≤ (x5_1 : Int) := of_decide_eq_true (by first | (with_reducible assumption) | assumption); have q7 : x5_1 < (a0.size : Int) := of_decide_eq_true (by first | (with_reducible assumption) | assumption); have hx7 := bt_at a0 x5_1; replace p7 := eq_true p7; replace q7 := eq_true q7; have p13 : 0 ≤ ((ji10) : Int) := of_decide_eq_true (by first | (with_reducible assumption) | assumption); have q13 : (ji10) < (a0.size : Int) := of_decide_eq_true (by first | (with_reducible assumption) | assumption); have hx13 := bt_at a0 (ji10); replace p13 := eq_true p13; replace q13 := eq_true q13) | (go_at_call 18; (with_reducible refine (spec_fieldSign.calls (bt a0 (ji10)) true _ A14.out).mono ?_); rintro e w' ⟨rfl, ⟨nd, rfl⟩⟩; have p16 : 0 ≤ ((ji10) : Int) := of_decide_eq_true (by first | (with_reducible assumption) | assumption); have q16 : (ji10) < (a0.size : Int) := of_decide_eq_true (by first | (with_reducible assumption) | assumption); have hx16 := bt_at a0 (ji10); replace p16 := eq_true p16; replace q16 := eq_true q16) | ((with_reducible refine gate_dst (N := 41) rfl ?_); (try (refine gate_guard (by rfl) ?_; dsimp only)); refine Kd.R_lit (Kd.int .u8) _ 5 ?hg (N := 41) ?hd (xs := ([bt a0 (ji10)] : List Int)) (inner := [.int .u8 (bt a0 (ji10))]) (ok := fun _ => True) (okp := fun _ => True) ?hr ?hp (fun _ hk => hk) trivial (Below.refl _ _) (Nat.le_refl _) (by simp) ?_; (case hd => rfl); (case hg => rfl); (case hr => first | (go_simp; done) | (go_simp; rfl)); (case hp => exact (Reps.one (show Kd.M (Kd.int .u8) _ _ _ (bt a0 (ji10)) [.int .u8 (bt a0 (ji10))] from rfl) (Reps.none _ _))); intro v162 w18 ho19 hb hg_ hnew_; clear hg_ hnew_; (first | rw [← Ny161.out] at ho19 | (simp only [Int.reduceToNat] at ho19; rw [← Ny161.out] at ho19)); have n0_ := Aside0.mk (Kd.R_lower ho19 (below_size (by repeat (first | (with_reducible first | exact HB.out | apply below_alloc | apply pw_below_drewN | apply below_drew1) | exact HB.out)))); have n1_ := Aside0.mk (below_step (by repeat (first | (with_reducible first | exact HB.out | apply below_alloc | apply pw_below_drewN | apply below_drew1) | exact HB.out)) hb); clear HB; have HO163 := n0_; have HB := n1_; clear n0_ n1_; clear hb ho19; have hcv20 := own_string (P := Tryd.prog) Tryd.underlying58 Tryd.underlying5 Tryd.underlying9 (Kd.own_of_R HO163.out); have hcv20d := (fun nd_ => own_string (P := Tryd.prog) Tryd.underlying58 Tryd.underlying5 Tryd.underlying9 (Kd.own_of_R (Kd.R_drewN HO163.out nd_)))))
                        go_roundg k1
                        case measure => have := HK1.out; omega
                        case rel => exact ⟨(x4_1 ++ (strOfNums y161)), (wrap64 ((ji10) + 1)), (by first | rfl | (simp; done) | (simp [*]; done)), (by first | rfl | (simp; done) | (simp only [← hji10] <;> (first | rfl | simp)) | (simp [*]; done)), H', ⟨by have := HK1.out; omega⟩, ⟨by repeat (first | (with_reducible first | exact HB.out | apply below_alloc | apply pw_below_drewN | apply below_drew1) | exact HB.out)⟩⟩
                      · rw [if_neg c17] at H
                        exact absurd H (by simp)
                    · replace c15 := Bool.eq_false_iff.mpr c15
                      subst c15
                      have H1 : (some ((⟨#[]⟩ : ByteArray), false)) = some (r1, r2) := by rw [if_neg (show ¬ (false = true) by decide)] at H; exact H
                      clear H
                      have H := H1
                      clear H1
                      simp only [Option.some.injEq, Prod.mk.injEq] at H
                      obtain ⟨rfl, rfl⟩ := H
                      have p4 : 0 ≤ (x5_1 : Int) := of_decide_eq_true (by first | (with_reducible assumption) | assumption)
                      have q4 : x5_1 < (a0.size : Int) := of_decide_eq_true (by first | (with_reducible assumption) | assumption)
                      have hx4 := bt_at a0 x5_1
                      replace p4 := eq_true p4
                      replace q4 := eq_true q4
                      go_wp2_with (first | ((with_reducible refine gate_callee (f := 18) rfl ?_); refine goesL_ (some 15) rfl rfl Tryd.func18 (by kernel_rfl) rfl #[.int .u8 (bt a0 x5_1)] rfl (by (try simp only [List.map_toArray, List.map_cons, List.map_nil]); first | done | rfl | (simp only [List.length_drop, List.length_take]; rfl)) ?_; (with_reducible refine (spec_fieldSign.calls (bt a0 x5_1) true _ A5.out).mono ?_); rintro e w' ⟨rfl, ⟨nd, rfl⟩⟩; refine ⟨_, rfl, ?_⟩; have p7 : 0 ≤ (x5_1 : Int) := of_decide_eq_true (by first | (with_reducible assumption) | assumption); have q7 : x5_1 < (a0.size : Int) := of_decide_eq_true (by first | (with_reducible assumption) | assumption); have hx7 := bt_at a0 x5_1; replace p7 := eq_true p7; replace q7 := eq_true q7; have p13 : 0 ≤ ((ji10) : Int) := of_decide_eq_true (by first | (with_reducible assumption) | assumption); have q13 : (ji10) < (a0.size : Int) := of_decide_eq_true (by first | (with_reducible assumption) | assumption); have hx13 := bt_at a0 (ji10); replace p13 := eq_true p13; replace q13 := eq_true q13) | (go_at_call 18; (with_reducible refine (spec_fieldSign.calls (bt a0 (ji10)) false _ A14.out).mono ?_); rintro e w' ⟨rfl, ⟨nd, rfl⟩⟩))
                      go_ret2
                      exact ⟨by first | rfl | (simp [errW_none, errW_some] <;> rfl) | (simp only [← hji10]; first | rfl | (simp [errW_none, errW_some] <;> rfl)) | (simp [*, errW_none, errW_some] <;> rfl), by repeat (first | (with_reducible first | exact HB.out | apply below_alloc | apply pw_below_drewN | apply below_drew1) | exact HB.out)⟩
                  · rw [if_neg c12] at H
                    exact absurd H (by simp)
                · rw [if_neg c11] at H
                  exact absurd H (by simp)
            · rw [if_neg c8] at H
              have c8b0 : ((bt a0 x5_1) == 92) = false := beq_eq_false_iff_ne.mpr c8
              have c8b1 : ((bt a0 x5_1) != 92) = true := bne_iff_ne.mpr c8
              simp only [Option.some.injEq, Prod.mk.injEq] at H
              obtain ⟨rfl, rfl⟩ := H
              have p4 : 0 ≤ (x5_1 : Int) := of_decide_eq_true (by first | (with_reducible assumption) | assumption)
              have q4 : x5_1 < (a0.size : Int) := of_decide_eq_true (by first | (with_reducible assumption) | assumption)
              have hx4 := bt_at a0 x5_1
              replace p4 := eq_true p4
              replace q4 := eq_true q4
              go_wp2_with (first | ((with_reducible refine gate_callee (f := 18) rfl ?_); refine goesL_ (some 15) rfl rfl Tryd.func18 (by kernel_rfl) rfl #[.int .u8 (bt a0 x5_1)] rfl (by (try simp only [List.map_toArray, List.map_cons, List.map_nil]); first | done | rfl | (simp only [List.length_drop, List.length_take]; rfl)) ?_; (with_reducible refine (spec_fieldSign.calls (bt a0 x5_1) true _ A5.out).mono ?_); rintro e w' ⟨rfl, ⟨nd, rfl⟩⟩; refine ⟨_, rfl, ?_⟩; have p7 : 0 ≤ (x5_1 : Int) := of_decide_eq_true (by first | (with_reducible assumption) | assumption); have q7 : x5_1 < (a0.size : Int) := of_decide_eq_true (by first | (with_reducible assumption) | assumption); have hx7 := bt_at a0 x5_1; replace p7 := eq_true p7; replace q7 := eq_true q7))
              go_ret2
              exact ⟨by first | rfl | (simp [errW_none, errW_some] <;> rfl) | (simp [*, errW_none, errW_some] <;> rfl) | (exfalso; contradiction), by repeat (first | (with_reducible first | exact HB.out | apply below_alloc | apply pw_below_drewN | apply below_drew1) | exact HB.out)⟩
          · replace c6 := Bool.eq_false_iff.mpr c6
            subst c6
            have H1 : ((some (([bt a0 x5_1] : List Int) : List Int)).bind fun y164 => (if x4_1.size + (strOfNums y164).size ≤ 9223372036854775807 then (spec_Unescape.l0 k1 a0 (x4_1 ++ (strOfNums y164)) (wrap64 (x5_1 + 1))) else (none))) = some (r1, r2) := by rw [if_neg (show ¬ (false = true) by decide)] at H; exact H
            clear H
            have H := H1
            clear H1
            obtain ⟨y164, hy164⟩ : ∃ y_ : List Int, y_ = (([bt a0 x5_1] : List Int)) := ⟨_, rfl⟩
            replace H : (if x4_1.size + (strOfNums y164).size ≤ 9223372036854775807 then (spec_Unescape.l0 k1 a0 (x4_1 ++ (strOfNums y164)) (wrap64 (x5_1 + 1))) else (none)) = some (r1, r2) := by first | (rw [hy164]; with_reducible exact H) | (have H2_ := (Option.bind_some _ _).symm.trans H; rw [hy164]; with_reducible exact H2_) | (have H2_ := (Option.bind_some _ _).symm.trans H; with_reducible exact H2_) | with_reducible exact H | (rw [hy164]; exact H) | exact H
            have Ny164 := Aside0.mk hy164
            clear hy164
            by_cases c22 : x4_1.size + (strOfNums y164).size ≤ 9223372036854775807
            · rw [if_pos c22] at H
              have c22b0 := eq_true c22
              have c22b1 : decide (x4_1.size + (strOfNums y164).size ≤ 9223372036854775807) = true := decide_eq_true c22
              try have c22b2 : (9223372036854775807 < x4_1.size + (strOfNums y164).size) = False := eq_false (Nat.not_lt.2 c22)
              have H' := Aside0.mk H
              clear H
              have p4 : 0 ≤ (x5_1 : Int) := of_decide_eq_true (by first | (with_reducible assumption) | assumption)
              have q4 : x5_1 < (a0.size : Int) := of_decide_eq_true (by first | (with_reducible assumption) | assumption)
              have hx4 := bt_at a0 x5_1
              replace p4 := eq_true p4
              replace q4 := eq_true q4
              go_wp2_with (first | ((with_reducible refine gate_callee (f := 18) rfl ?_); refine goesL_ (some 15) rfl rfl Tryd.func18 (by kernel_rfl) rfl #[.int .u8 (bt a0 x5_1)] rfl (by (try simp only [List.map_toArray, List.map_cons, List.map_nil]); first | done | rfl | (simp only [List.length_drop, List.length_take]; rfl)) ?_; (with_reducible refine (spec_fieldSign.calls (bt a0 x5_1) false _ A5.out).mono ?_); rintro e w' ⟨rfl, ⟨nd, rfl⟩⟩; refine ⟨_, rfl, ?_⟩; have p21 : 0 ≤ (x5_1 : Int) := of_decide_eq_true (by first | (with_reducible assumption) | assumption); have q21 : x5_1 < (a0.size : Int) := of_decide_eq_true (by first | (with_reducible assumption) | assumption); have hx21 := bt_at a0 x5_1; replace p21 := eq_true p21; replace q21 := eq_true q21) | ((with_reducible refine gate_dst (N := 41) rfl ?_); (try (refine gate_guard (by rfl) ?_; dsimp only)); refine Kd.R_lit (Kd.int .u8) _ 5 ?hg (N := 41) ?hd (xs := ([bt a0 x5_1] : List Int)) (inner := [.int .u8 (bt a0 x5_1)]) (ok := fun _ => True) (okp := fun _ => True) ?hr ?hp (fun _ hk => hk) trivial (Below.refl _ _) (Nat.le_refl _) (by simp) ?_; (case hd => rfl); (case hg => rfl); (case hr => first | (go_simp; done) | (go_simp; rfl)); (case hp => exact (Reps.one (show Kd.M (Kd.int .u8) _ _ _ (bt a0 x5_1) [.int .u8 (bt a0 x5_1)] from rfl) (Reps.none _ _))); intro v165 w23 ho24 hb hg_ hnew_; clear hg_ hnew_; (first | rw [← Ny164.out] at ho24 | (simp only [Int.reduceToNat] at ho24; rw [← Ny164.out] at ho24)); have n0_ := Aside0.mk (Kd.R_lower ho24 (below_size (by repeat (first | (with_reducible first | exact HB.out | apply below_alloc | apply pw_below_drewN | apply below_drew1) | exact HB.out)))); have n1_ := Aside0.mk (below_step (by repeat (first | (with_reducible first | exact HB.out | apply below_alloc | apply pw_below_drewN | apply below_drew1) | exact HB.out)) hb); clear HB; have HO166 := n0_; have HB := n1_; clear n0_ n1_; clear hb ho24; have hcv25 := own_string (P := Tryd.prog) Tryd.underlying58 Tryd.underlying5 Tryd.underlying9 (Kd.own_of_R HO166.out); have hcv25d := (fun nd_ => own_string (P := Tryd.prog) Tryd.underlying58 Tryd.underlying5 Tryd.underlying9 (Kd.own_of_R (Kd.R_drewN HO166.out nd_)))))
              go_roundg k1
              case measure => have := HK1.out; omega
              case rel => exact ⟨(x4_1 ++ (strOfNums y164)), (wrap64 (x5_1 + 1)), (by first | rfl | (simp; done) | (simp [*]; done)), (by first | rfl | (simp; done) | (simp [*]; done)), H', ⟨by have := HK1.out; omega⟩, ⟨by repeat (first | (with_reducible first | exact HB.out | apply below_alloc | apply pw_below_drewN | apply below_drew1) | exact HB.out)⟩⟩
            · rw [if_neg c22] at H
              exact absurd H (by simp)
        · rw [if_neg c3] at H
          exact absurd H (by simp)
      · rw [if_neg c2] at H
        have c2b0 : decide (x5_1 < (a0.size : Int)) = false := decide_eq_false c2
        clear c2
        simp only [Option.some.injEq, Prod.mk.injEq] at H
        obtain ⟨rfl, rfl⟩ := H
        go_wp2
        go_ret2
        exact ⟨by first | rfl | (simp [errW_none, errW_some] <;> rfl) | (simp [*, errW_none, errW_some] <;> rfl) | (exfalso; contradiction), by repeat (first | (with_reducible first | exact HB.out | apply below_alloc | apply pw_below_drewN | apply below_drew1) | exact HB.out)⟩

end Go.Proofs.YtmehecpmhijfmaaDoor.PFnFieldParse
