/- Functions of the program as plain Lean functions, and that the machine's calls do what these say: written for this claim by wip/myprint.py over the kit's print.py. -/
import Derived.Test.YtnopoobidhaccaaDoorPFnPathTextx0
import Derived.Test.YtnopoobidhaccaaDoorPFnPathTextx1
namespace Go.Proofs.YtnopoobidhaccaaDoor.PFnPathText
open Go.RowKit Go.Proofs.YtnopoobidhaccaaDoorW.PrintWords Go.Proofs.YtnopoobidhaccaaDoorW.PrintLast Go.Proofs.YtnopoobidhaccaaDoorW.PrintMore
attribute [local go_sem] max2_int min2_int max_two min_two max_three min_three max_four min_four   -- for this text's walks alone
set_option linter.unusedVariables false
set_option linter.unusedSimpArgs false

/-! ### spec_PathText: function 8 -/
mutual
def spec_PathText.l0 : Nat → ByteArray → List ByteArray → List (S27) → ByteArray → Int → Option (ByteArray × ByteArray)
  | 0, _, _, _, _, _ => none
  | k + 1, x0, x1, x2, x8, x9 => if x9 < (x1.length : Int) then (if 0 ≤ x9 then (if 1 + (rdOf ByteArray.empty x1 x9).size ≤ 9223372036854775807 then (if x8.size + ((⟨#[46]⟩ : ByteArray) ++ (rdOf ByteArray.empty x1 x9)).size ≤ 9223372036854775807 then (spec_PathText.l0 k x0 x1 x2 (x8 ++ ((⟨#[46]⟩ : ByteArray) ++ (rdOf ByteArray.empty x1 x9))) (wrap64 (x9 + 1))) else (none)) else (none)) else (none)) else (spec_PathText.l1 k x0 x2 x8 0)
def spec_PathText.l1 : Nat → ByteArray → List (S27) → ByteArray → Int → Option (ByteArray × ByteArray)
  | 0, _, _, _, _ => none
  | k + 1, x0, x2, x8, x10 => if x10 < (x2.length : Int) then (if 0 ≤ x10 then (if ((rd_T27 x2 x10).f0) = 0 then (if 1 + ((rd_T27 x2 x10).f1).size ≤ 9223372036854775807 then (if x8.size + ((⟨#[46]⟩ : ByteArray) ++ ((rd_T27 x2 x10).f1)).size ≤ 9223372036854775807 then (spec_PathText.l1 k x0 x2 (x8 ++ ((⟨#[46]⟩ : ByteArray) ++ ((rd_T27 x2 x10).f1))) (wrap64 (x10 + 1))) else (none)) else (none)) else (if ((rd_T27 x2 x10).f0) = 1 then ((spec_number.f k ((rd_T27 x2 x10).f2)).bind fun t125 => (if 1 + t125.size ≤ 9223372036854775807 then (if ((⟨#[91]⟩ : ByteArray) ++ t125).size + 1 ≤ 9223372036854775807 then (if x8.size + (((⟨#[91]⟩ : ByteArray) ++ t125) ++ (⟨#[93]⟩ : ByteArray)).size ≤ 9223372036854775807 then (spec_PathText.l1 k x0 x2 (x8 ++ (((⟨#[91]⟩ : ByteArray) ++ t125) ++ (⟨#[93]⟩ : ByteArray))) (wrap64 (x10 + 1))) else (none)) else (none)) else (none))) else (if ((rd_T27 x2 x10).f0) = 2 then (if 1 + ((rd_T27 x2 x10).f1).size ≤ 9223372036854775807 then (if ((⟨#[91]⟩ : ByteArray) ++ ((rd_T27 x2 x10).f1)).size + 1 ≤ 9223372036854775807 then (if x8.size + (((⟨#[91]⟩ : ByteArray) ++ ((rd_T27 x2 x10).f1)) ++ (⟨#[93]⟩ : ByteArray)).size ≤ 9223372036854775807 then (spec_PathText.l1 k x0 x2 (x8 ++ (((⟨#[91]⟩ : ByteArray) ++ ((rd_T27 x2 x10).f1)) ++ (⟨#[93]⟩ : ByteArray))) (wrap64 (x10 + 1))) else (none)) else (none)) else (none)) else (spec_PathText.l1 k x0 x2 x8 (wrap64 (x10 + 1)))))) else (none)) else (some (x8, x0))
end
def spec_PathText.f (k : Nat) (a0 : ByteArray) (l1 : List ByteArray) (l2 : List (S27)) : Option (ByteArray × ByteArray) := spec_PathText.l0 k a0 l1 l2 a0 0
theorem spec_PathText.mono_l : ∀ k, (∀ y0 y1 y2 y3 y4, LeO (spec_PathText.l0 k y0 y1 y2 y3 y4) (spec_PathText.l0 (k + 1) y0 y1 y2 y3 y4)) ∧ (∀ y0 y1 y2 y3, LeO (spec_PathText.l1 k y0 y1 y2 y3) (spec_PathText.l1 (k + 1) y0 y1 y2 y3))
  | 0 => ⟨fun _ _ _ _ _ r h => by simp [spec_PathText.l0] at h, fun _ _ _ _ r h => by simp [spec_PathText.l1] at h⟩
  | k + 1 => by
    obtain ⟨ih0, ih1⟩ := spec_PathText.mono_l k
    refine ⟨?_, ?_⟩
    · intro y0 y1 y2 y3 y4
      unfold spec_PathText.l0
      repeat' first
      | (with_reducible exact ih0 _ _ _ _ _)
      | (with_reducible exact ih1 _ _ _ _)
      | (with_reducible exact spec_number.mono _ _)
      | (with_reducible exact LeO.refl _)
      | (with_reducible exact LeO.none _)
      | (with_reducible refine LeO.ite ?_ ?_)
      | (with_reducible refine LeO.bind ?_ (fun _ => ?_))
      | exact ih0 _ _ _ _ _
      | exact ih1 _ _ _ _
      | exact spec_number.mono _ _
      | exact LeO.none _
      | refine LeO.ite ?_ ?_
      | refine LeO.bind ?_ (fun _ => ?_)
    · intro y0 y1 y2 y3
      unfold spec_PathText.l1
      repeat' first
      | (with_reducible exact ih0 _ _ _ _ _)
      | (with_reducible exact ih1 _ _ _ _)
      | (with_reducible exact spec_number.mono _ _)
      | (with_reducible exact LeO.refl _)
      | (with_reducible exact LeO.none _)
      | (with_reducible refine LeO.ite ?_ ?_)
      | (with_reducible refine LeO.bind ?_ (fun _ => ?_))
      | exact ih0 _ _ _ _ _
      | exact ih1 _ _ _ _
      | exact spec_number.mono _ _
      | exact LeO.none _
      | refine LeO.ite ?_ ?_
      | refine LeO.bind ?_ (fun _ => ?_)
theorem spec_PathText.mono : ∀ a0 a1 a2 k, LeO (spec_PathText.f k a0 a1 a2) (spec_PathText.f (k + 1) a0 a1 a2) := by
  intro a0 a1 a2 k
  obtain ⟨ih0, ih1⟩ := spec_PathText.mono_l k
  unfold spec_PathText.f
  repeat' first
      | (with_reducible exact ih0 _ _ _ _ _)
      | (with_reducible exact ih1 _ _ _ _)
      | (with_reducible exact spec_number.mono _ _)
      | (with_reducible exact LeO.refl _)
      | (with_reducible exact LeO.none _)
      | (with_reducible refine LeO.ite ?_ ?_)
      | (with_reducible refine LeO.bind ?_ (fun _ => ?_))
      | exact ih0 _ _ _ _ _
      | exact ih1 _ _ _ _
      | exact spec_number.mono _ _
      | exact LeO.none _
      | refine LeO.ite ?_ ?_
      | refine LeO.bind ?_ (fun _ => ?_)
set_option maxHeartbeats 8000000 in
set_option maxRecDepth 100000 in
theorem spec_PathText.calls (k : Nat) (a0 : ByteArray) (A1 : Option Addr) (c1 : Nat) (l1 : List ByteArray) (A2 : Option Addr) (c2 : Nat) (l2 : List (S27)) (r1 : ByteArray) (r2 : ByteArray) (w : World) (hr1 : Kd.C Kd.string w A1 l1.length l1) (hc1 : l1.length ≤ c1) (hr2 : Kd.C k27 w A2 l2.length l2) (hc2 : l2.length ≤ c2) (h : spec_PathText.f k a0 l1 l2 = some (r1, r2)) :
    Calls Tryd.prog 8 #[.string a0, .slice A1 l1.length c1, .slice A2 l2.length c2] w fun e w' => e = .returned (.tuple #[.string r1, .string r2]) ∧ Below w.heap.size w w' := by
  have HR1 := Aside0.mk hr1
  have HC1 := Aside0.mk hc1
  clear hr1 hc1
  have HR2 := Aside0.mk hr2
  have HC2 := Aside0.mk hc2
  clear hr2 hc2
  have HB := Aside0.mk (Below.refl w.heap.size w)
  have H : (spec_PathText.l0 k a0 l1 l2 a0 0) = some (r1, r2) := h
  clear h
  have H' := Aside0.mk H
  clear H
  go_enter Tryd.func8, Tryd.ntmps8
  go_wp2
  go_loopg [8, 9] k (fun kq v8 v9 w' => ∃ (x8_1 : ByteArray) (x9_1 : Int), v8 = .string x8_1 ∧ v9 = .int .i64 x9_1 ∧ Aside0 (spec_PathText.l0 kq a0 l1 l2 x8_1 x9_1 = some (r1, r2)) ∧ Aside0 (kq ≤ k) ∧ Aside0 (Below w.heap.size w w'))
  case atStart => exact ⟨(a0), (0), (by first | rfl | (simp; done) | (simp [*]; done)), (by first | rfl | (simp; done) | (simp [*]; done)), H', ⟨Nat.le_refl _⟩, ⟨by repeat (first | (with_reducible first | exact HB.out | apply below_alloc | apply pw_below_drewN | apply below_drew1) | exact HB.out)⟩⟩
  case round =>
    clear H'
    try clear c1
    try clear c2
    try clear p2
    obtain ⟨x8_1, x9_1, rfl, rfl, HA, HK1, HB⟩ := hrel
    cases gk with
    | zero => exact absurd HA.out (by simp [spec_PathText.l0])
    | succ k1 =>
      have H := HA.out
      clear HA
      simp only [spec_PathText.l0] at H
      by_cases c4 : x9_1 < (l1.length : Int)
      · rw [if_pos c4] at H
        have c4b0 : decide (x9_1 < (l1.length : Int)) = true := decide_eq_true c4
        clear c4
        by_cases c5 : 0 ≤ x9_1
        · rw [if_pos c5] at H
          have c5b0 : decide (0 ≤ x9_1) = true := decide_eq_true c5
          clear c5
          by_cases c6 : 1 + (rdOf ByteArray.empty l1 x9_1).size ≤ 9223372036854775807
          · rw [if_pos c6] at H
            have c6b0 := eq_true c6
            have c6b1 : decide (1 + (rdOf ByteArray.empty l1 x9_1).size ≤ 9223372036854775807) = true := decide_eq_true c6
            try have c6b2 : (9223372036854775807 < 1 + (rdOf ByteArray.empty l1 x9_1).size) = False := eq_false (Nat.not_lt.2 c6)
            by_cases c7 : x8_1.size + ((⟨#[46]⟩ : ByteArray) ++ (rdOf ByteArray.empty l1 x9_1)).size ≤ 9223372036854775807
            · rw [if_pos c7] at H
              have c7b0 := eq_true c7
              have c7b1 : decide (x8_1.size + ((⟨#[46]⟩ : ByteArray) ++ (rdOf ByteArray.empty l1 x9_1)).size ≤ 9223372036854775807) = true := decide_eq_true c7
              try have c7b2 : (9223372036854775807 < x8_1.size + ((⟨#[46]⟩ : ByteArray) ++ (rdOf ByteArray.empty l1 x9_1)).size) = False := eq_false (Nat.not_lt.2 c7)
              have H' := Aside0.mk H
              clear H
              have p121 : 0 ≤ (x9_1 : Int) := of_decide_eq_true (by first | (with_reducible assumption) | assumption)
              have q121 : x9_1 < (l1.length : Int) := of_decide_eq_true (by first | (with_reducible assumption) | assumption)
              obtain ⟨ad121, e121, hx121_0⟩ := Kd.at_string HR1.out x9_1 p121 q121
              cases e121
              replace hx121_0 := (HB.out.cell (World.block_lt_of_cell? w _ hx121_0)).trans hx121_0
              replace p121 := eq_true p121
              replace q121 := eq_true q121
              go_wp2
              go_roundg k1
              case measure => have := HK1.out; omega
              case rel => exact ⟨(x8_1 ++ ((⟨#[46]⟩ : ByteArray) ++ (rdOf ByteArray.empty l1 x9_1))), (wrap64 (x9_1 + 1)), (by first | rfl | (simp; done) | (simp [*]; done)), (by first | rfl | (simp; done) | (simp [*]; done)), H', ⟨by have := HK1.out; omega⟩, ⟨by repeat (first | (with_reducible first | exact HB.out | apply below_alloc | apply pw_below_drewN | apply below_drew1) | exact HB.out)⟩⟩
            · rw [if_neg c7] at H
              exact absurd H (by simp)
          · rw [if_neg c6] at H
            exact absurd H (by simp)
        · rw [if_neg c5] at H
          exact absurd H (by simp)
      · rw [if_neg c4] at H
        have c4b0 : decide (x9_1 < (l1.length : Int)) = false := decide_eq_false c4
        clear c4
        have H' := Aside0.mk H
        clear H
        go_wp2
        go_loopg [8, 10] k1 (fun kq v8 v10 w' => ∃ (x8_2 : ByteArray) (x10_2 : Int), v8 = .string x8_2 ∧ v10 = .int .i64 x10_2 ∧ Aside0 (spec_PathText.l1 kq a0 l2 x8_2 x10_2 = some (r1, r2)) ∧ Aside0 (kq ≤ k1) ∧ Aside0 (Below w.heap.size w w'))
        case atStart => exact ⟨(x8_1), (0), (by first | rfl | (simp; done) | (simp [*]; done)), (by first | rfl | (simp; done) | (simp [*]; done)), H', ⟨Nat.le_refl _⟩, ⟨by repeat (first | (with_reducible first | exact HB.out | apply below_alloc | apply pw_below_drewN | apply below_drew1) | exact HB.out)⟩⟩
        case round =>
          clear H'
          try clear c1
          try clear p1
          try clear q1
          try clear hx1
          try clear c2
          try clear p2
          try clear c4
          try clear c4b0
          try clear c5
          try clear c5b0
          try clear c6
          try clear c6b0
          try clear c6b1
          try clear c6b2
          try clear p6
          try clear c7
          try clear c7b0
          try clear c7b1
          try clear c7b2
          try clear hx121_0
          try clear p121
          try clear p2
          try clear q121
          obtain ⟨x8_2, x10_2, rfl, rfl, HA, HK2, HB⟩ := hrel
          cases gk with
          | zero => exact absurd HA.out (by simp [spec_PathText.l1])
          | succ k2 =>
            have H := HA.out
            clear HA
            simp only [spec_PathText.l1] at H
            by_cases c8 : x10_2 < (l2.length : Int)
            · rw [if_pos c8] at H
              have c8b0 : decide (x10_2 < (l2.length : Int)) = true := decide_eq_true c8
              clear c8
              by_cases c9 : 0 ≤ x10_2
              · rw [if_pos c9] at H
                have c9b0 : decide (0 ≤ x10_2) = true := decide_eq_true c9
                clear c9
                by_cases c10 : ((rd_T27 l2 x10_2).f0) = 0
                · rw [if_pos c10] at H
                  have c10b0 : (((rd_T27 l2 x10_2).f0) == 0) = true := beq_iff_eq.mpr c10
                  have c10b1 : (((rd_T27 l2 x10_2).f0) != 0) = false := bne_eq_false_iff_eq.mpr c10
                  clear c10
                  by_cases c11 : 1 + ((rd_T27 l2 x10_2).f1).size ≤ 9223372036854775807
                  · rw [if_pos c11] at H
                    have c11b0 := eq_true c11
                    have c11b1 : decide (1 + ((rd_T27 l2 x10_2).f1).size ≤ 9223372036854775807) = true := decide_eq_true c11
                    try have c11b2 : (9223372036854775807 < 1 + ((rd_T27 l2 x10_2).f1).size) = False := eq_false (Nat.not_lt.2 c11)
                    by_cases c12 : x8_2.size + ((⟨#[46]⟩ : ByteArray) ++ ((rd_T27 l2 x10_2).f1)).size ≤ 9223372036854775807
                    · rw [if_pos c12] at H
                      have c12b0 := eq_true c12
                      have c12b1 : decide (x8_2.size + ((⟨#[46]⟩ : ByteArray) ++ ((rd_T27 l2 x10_2).f1)).size ≤ 9223372036854775807) = true := decide_eq_true c12
                      try have c12b2 : (9223372036854775807 < x8_2.size + ((⟨#[46]⟩ : ByteArray) ++ ((rd_T27 l2 x10_2).f1)).size) = False := eq_false (Nat.not_lt.2 c12)
                      have H' := Aside0.mk H
                      clear H
                      have p122 : 0 ≤ (x10_2 : Int) := of_decide_eq_true (by first | (with_reducible assumption) | assumption)
                      have q122 : x10_2 < (l2.length : Int) := of_decide_eq_true (by first | (with_reducible assumption) | assumption)
                      obtain ⟨ad122, e122, hx122_0, hx122_1, hx122_2⟩ := at_T27 HR2.out x10_2 p122 q122
                      cases e122
                      replace hx122_0 := (HB.out.cell (World.block_lt_of_cell? w _ hx122_0)).trans hx122_0
                      replace hx122_1 := (HB.out.cell (World.block_lt_of_cell? w _ hx122_1)).trans hx122_1
                      replace hx122_2 := (HB.out.cell (World.block_lt_of_cell? w _ hx122_2)).trans hx122_2
                      replace p122 := eq_true p122
                      replace q122 := eq_true q122
                      have p123 : 0 ≤ (x10_2 : Int) := of_decide_eq_true (by first | (with_reducible assumption) | assumption)
                      have q123 : x10_2 < (l2.length : Int) := of_decide_eq_true (by first | (with_reducible assumption) | assumption)
                      obtain ⟨ad123, e123, hx123_0, hx123_1, hx123_2⟩ := at_T27 HR2.out x10_2 p123 q123
                      obtain rfl : ad122 = ad123 := (by injection e123)
                      replace hx123_0 := (HB.out.cell (World.block_lt_of_cell? w _ hx123_0)).trans hx123_0
                      replace hx123_1 := (HB.out.cell (World.block_lt_of_cell? w _ hx123_1)).trans hx123_1
                      replace hx123_2 := (HB.out.cell (World.block_lt_of_cell? w _ hx123_2)).trans hx123_2
                      replace p123 := eq_true p123
                      replace q123 := eq_true q123
                      go_wp2
                      go_roundg k2
                      case measure => have := HK1.out; have := HK2.out; omega
                      case rel => exact ⟨(x8_2 ++ ((⟨#[46]⟩ : ByteArray) ++ ((rd_T27 l2 x10_2).f1))), (wrap64 (x10_2 + 1)), (by first | rfl | (simp; done) | (simp [*]; done)), (by first | rfl | (simp; done) | (simp [*]; done)), H', ⟨by have := HK1.out; have := HK2.out; omega⟩, ⟨by repeat (first | (with_reducible first | exact HB.out | apply below_alloc | apply pw_below_drewN | apply below_drew1) | exact HB.out)⟩⟩
                    · rw [if_neg c12] at H
                      exact absurd H (by simp)
                  · rw [if_neg c11] at H
                    exact absurd H (by simp)
                · rw [if_neg c10] at H
                  have c10b0 : (((rd_T27 l2 x10_2).f0) == 0) = false := beq_eq_false_iff_ne.mpr c10
                  have c10b1 : (((rd_T27 l2 x10_2).f0) != 0) = true := bne_iff_ne.mpr c10
                  by_cases c13 : ((rd_T27 l2 x10_2).f0) = 1
                  · rw [if_pos c13] at H
                    have c13b0 : (((rd_T27 l2 x10_2).f0) == 1) = true := beq_iff_eq.mpr c13
                    have c13b1 : (((rd_T27 l2 x10_2).f0) != 1) = false := bne_eq_false_iff_eq.mpr c13
                    clear c13
                    replace H := Option.bind_eq_some_iff.mp H
                    obtain ⟨t125, A140, H⟩ := H
                    replace H : (if 1 + t125.size ≤ 9223372036854775807 then (if ((⟨#[91]⟩ : ByteArray) ++ t125).size + 1 ≤ 9223372036854775807 then (if x8_2.size + (((⟨#[91]⟩ : ByteArray) ++ t125) ++ (⟨#[93]⟩ : ByteArray)).size ≤ 9223372036854775807 then (spec_PathText.l1 k2 a0 l2 (x8_2 ++ (((⟨#[91]⟩ : ByteArray) ++ t125) ++ (⟨#[93]⟩ : ByteArray))) (wrap64 (x10_2 + 1))) else (none)) else (none)) else (none)) = some (r1, r2) := H
                    have A14 := Aside0.mk A140
                    clear A140
                    by_cases c15 : 1 + t125.size ≤ 9223372036854775807
                    · rw [if_pos c15] at H
                      have c15b0 := eq_true c15
                      have c15b1 : decide (1 + t125.size ≤ 9223372036854775807) = true := decide_eq_true c15
                      try have c15b2 : (9223372036854775807 < 1 + t125.size) = False := eq_false (Nat.not_lt.2 c15)
                      by_cases c16 : ((⟨#[91]⟩ : ByteArray) ++ t125).size + 1 ≤ 9223372036854775807
                      · rw [if_pos c16] at H
                        have c16b0 := eq_true c16
                        have c16b1 : decide (((⟨#[91]⟩ : ByteArray) ++ t125).size + 1 ≤ 9223372036854775807) = true := decide_eq_true c16
                        try have c16b2 : (9223372036854775807 < ((⟨#[91]⟩ : ByteArray) ++ t125).size + 1) = False := eq_false (Nat.not_lt.2 c16)
                        try have c16b7 : (9223372036854775807 < 1 + t125.size + 1) = False := eq_false (Nat.not_lt.2 (by have h_ := c16; simp only [ByteArray.size_append] at h_; exact h_))
                        by_cases c17 : x8_2.size + (((⟨#[91]⟩ : ByteArray) ++ t125) ++ (⟨#[93]⟩ : ByteArray)).size ≤ 9223372036854775807
                        · rw [if_pos c17] at H
                          have c17b0 := eq_true c17
                          have c17b1 : decide (x8_2.size + (((⟨#[91]⟩ : ByteArray) ++ t125) ++ (⟨#[93]⟩ : ByteArray)).size ≤ 9223372036854775807) = true := decide_eq_true c17
                          try have c17b2 : (9223372036854775807 < x8_2.size + (((⟨#[91]⟩ : ByteArray) ++ t125) ++ (⟨#[93]⟩ : ByteArray)).size) = False := eq_false (Nat.not_lt.2 c17)
                          have H' := Aside0.mk H
                          clear H
                          have p122 : 0 ≤ (x10_2 : Int) := of_decide_eq_true (by first | (with_reducible assumption) | assumption)
                          have q122 : x10_2 < (l2.length : Int) := of_decide_eq_true (by first | (with_reducible assumption) | assumption)
                          obtain ⟨ad122, e122, hx122_0, hx122_1, hx122_2⟩ := at_T27 HR2.out x10_2 p122 q122
                          cases e122
                          replace hx122_0 := (HB.out.cell (World.block_lt_of_cell? w _ hx122_0)).trans hx122_0
                          replace hx122_1 := (HB.out.cell (World.block_lt_of_cell? w _ hx122_1)).trans hx122_1
                          replace hx122_2 := (HB.out.cell (World.block_lt_of_cell? w _ hx122_2)).trans hx122_2
                          replace p122 := eq_true p122
                          replace q122 := eq_true q122
                          have p124 : 0 ≤ (x10_2 : Int) := of_decide_eq_true (by first | (with_reducible assumption) | assumption)
                          have q124 : x10_2 < (l2.length : Int) := of_decide_eq_true (by first | (with_reducible assumption) | assumption)
                          obtain ⟨ad124, e124, hx124_0, hx124_1, hx124_2⟩ := at_T27 HR2.out x10_2 p124 q124
                          obtain rfl : ad122 = ad124 := (by injection e124)
                          replace hx124_0 := (HB.out.cell (World.block_lt_of_cell? w _ hx124_0)).trans hx124_0
                          replace hx124_1 := (HB.out.cell (World.block_lt_of_cell? w _ hx124_1)).trans hx124_1
                          replace hx124_2 := (HB.out.cell (World.block_lt_of_cell? w _ hx124_2)).trans hx124_2
                          replace p124 := eq_true p124
                          replace q124 := eq_true q124
                          go_wp2_with (first | ((with_reducible refine gate_callee (f := 20) rfl ?_); refine goesL_ (some 54) rfl rfl Tryd.func20 (by kernel_rfl) rfl #[.int .i64 ((rd_T27 l2 x10_2).f2)] rfl (by (try simp only [List.map_toArray, List.map_cons, List.map_nil]); first | done | rfl | (simp only [List.length_drop, List.length_take]; rfl)) ?_; (with_reducible refine (spec_number.calls k2 ((rd_T27 l2 x10_2).f2) t125 _ A14.out).mono ?_); rintro e w18 ⟨rfl, hb⟩; refine ⟨_, rfl, ?_⟩; have n0_ := Aside0.mk (below_step (by repeat (first | (with_reducible first | exact HB.out | apply below_alloc | apply pw_below_drewN | apply below_drew1) | exact HB.out)) hb); clear HB; have HB := n0_; clear n0_; (try clear hb); (try clear hb2); (try clear hk); (try clear hi)))
                          go_roundg k2
                          case measure => have := HK1.out; have := HK2.out; omega
                          case rel => exact ⟨(x8_2 ++ (((⟨#[91]⟩ : ByteArray) ++ t125) ++ (⟨#[93]⟩ : ByteArray))), (wrap64 (x10_2 + 1)), (by first | rfl | (simp; done) | (simp [*]; done)), (by first | rfl | (simp; done) | (simp [*]; done)), H', ⟨by have := HK1.out; have := HK2.out; omega⟩, ⟨by repeat (first | (with_reducible first | exact HB.out | apply below_alloc | apply pw_below_drewN | apply below_drew1) | exact HB.out)⟩⟩
                        · rw [if_neg c17] at H
                          exact absurd H (by simp)
                      · rw [if_neg c16] at H
                        exact absurd H (by simp)
                    · rw [if_neg c15] at H
                      exact absurd H (by simp)
                  · rw [if_neg c13] at H
                    have c13b0 : (((rd_T27 l2 x10_2).f0) == 1) = false := beq_eq_false_iff_ne.mpr c13
                    have c13b1 : (((rd_T27 l2 x10_2).f0) != 1) = true := bne_iff_ne.mpr c13
                    by_cases c19 : ((rd_T27 l2 x10_2).f0) = 2
                    · rw [if_pos c19] at H
                      have c19b0 : (((rd_T27 l2 x10_2).f0) == 2) = true := beq_iff_eq.mpr c19
                      have c19b1 : (((rd_T27 l2 x10_2).f0) != 2) = false := bne_eq_false_iff_eq.mpr c19
                      clear c19
                      by_cases c20 : 1 + ((rd_T27 l2 x10_2).f1).size ≤ 9223372036854775807
                      · rw [if_pos c20] at H
                        have c20b0 := eq_true c20
                        have c20b1 : decide (1 + ((rd_T27 l2 x10_2).f1).size ≤ 9223372036854775807) = true := decide_eq_true c20
                        try have c20b2 : (9223372036854775807 < 1 + ((rd_T27 l2 x10_2).f1).size) = False := eq_false (Nat.not_lt.2 c20)
                        by_cases c21 : ((⟨#[91]⟩ : ByteArray) ++ ((rd_T27 l2 x10_2).f1)).size + 1 ≤ 9223372036854775807
                        · rw [if_pos c21] at H
                          have c21b0 := eq_true c21
                          have c21b1 : decide (((⟨#[91]⟩ : ByteArray) ++ ((rd_T27 l2 x10_2).f1)).size + 1 ≤ 9223372036854775807) = true := decide_eq_true c21
                          try have c21b2 : (9223372036854775807 < ((⟨#[91]⟩ : ByteArray) ++ ((rd_T27 l2 x10_2).f1)).size + 1) = False := eq_false (Nat.not_lt.2 c21)
                          try have c21b8 : (9223372036854775807 < 1 + ((rd_T27 l2 x10_2).f1).size + 1) = False := by have h := c21b2; rw [ByteArray.size_append] at h; exact h
                          by_cases c22 : x8_2.size + (((⟨#[91]⟩ : ByteArray) ++ ((rd_T27 l2 x10_2).f1)) ++ (⟨#[93]⟩ : ByteArray)).size ≤ 9223372036854775807
                          · rw [if_pos c22] at H
                            have c22b0 := eq_true c22
                            have c22b1 : decide (x8_2.size + (((⟨#[91]⟩ : ByteArray) ++ ((rd_T27 l2 x10_2).f1)) ++ (⟨#[93]⟩ : ByteArray)).size ≤ 9223372036854775807) = true := decide_eq_true c22
                            try have c22b2 : (9223372036854775807 < x8_2.size + (((⟨#[91]⟩ : ByteArray) ++ ((rd_T27 l2 x10_2).f1)) ++ (⟨#[93]⟩ : ByteArray)).size) = False := eq_false (Nat.not_lt.2 c22)
                            try have c22b8 : (9223372036854775807 < x8_2.size + (1 + ((rd_T27 l2 x10_2).f1).size + 1)) = False := by have h := c22b2; rw [ByteArray.size_append, ByteArray.size_append] at h; exact h
                            have H' := Aside0.mk H
                            clear H
                            have p122 : 0 ≤ (x10_2 : Int) := of_decide_eq_true (by first | (with_reducible assumption) | assumption)
                            have q122 : x10_2 < (l2.length : Int) := of_decide_eq_true (by first | (with_reducible assumption) | assumption)
                            obtain ⟨ad122, e122, hx122_0, hx122_1, hx122_2⟩ := at_T27 HR2.out x10_2 p122 q122
                            cases e122
                            replace hx122_0 := (HB.out.cell (World.block_lt_of_cell? w _ hx122_0)).trans hx122_0
                            replace hx122_1 := (HB.out.cell (World.block_lt_of_cell? w _ hx122_1)).trans hx122_1
                            replace hx122_2 := (HB.out.cell (World.block_lt_of_cell? w _ hx122_2)).trans hx122_2
                            replace p122 := eq_true p122
                            replace q122 := eq_true q122
                            have p126 : 0 ≤ (x10_2 : Int) := of_decide_eq_true (by first | (with_reducible assumption) | assumption)
                            have q126 : x10_2 < (l2.length : Int) := of_decide_eq_true (by first | (with_reducible assumption) | assumption)
                            obtain ⟨ad126, e126, hx126_0, hx126_1, hx126_2⟩ := at_T27 HR2.out x10_2 p126 q126
                            obtain rfl : ad122 = ad126 := (by injection e126)
                            replace hx126_0 := (HB.out.cell (World.block_lt_of_cell? w _ hx126_0)).trans hx126_0
                            replace hx126_1 := (HB.out.cell (World.block_lt_of_cell? w _ hx126_1)).trans hx126_1
                            replace hx126_2 := (HB.out.cell (World.block_lt_of_cell? w _ hx126_2)).trans hx126_2
                            replace p126 := eq_true p126
                            replace q126 := eq_true q126
                            go_wp2
                            go_roundg k2
                            case measure => have := HK1.out; have := HK2.out; omega
                            case rel => exact ⟨(x8_2 ++ (((⟨#[91]⟩ : ByteArray) ++ ((rd_T27 l2 x10_2).f1)) ++ (⟨#[93]⟩ : ByteArray))), (wrap64 (x10_2 + 1)), (by first | rfl | (simp; done) | (simp [*]; done)), (by first | rfl | (simp; done) | (simp [*]; done)), H', ⟨by have := HK1.out; have := HK2.out; omega⟩, ⟨by repeat (first | (with_reducible first | exact HB.out | apply below_alloc | apply pw_below_drewN | apply below_drew1) | exact HB.out)⟩⟩
                          · rw [if_neg c22] at H
                            exact absurd H (by simp)
                        · rw [if_neg c21] at H
                          exact absurd H (by simp)
                      · rw [if_neg c20] at H
                        exact absurd H (by simp)
                    · rw [if_neg c19] at H
                      have c19b0 : (((rd_T27 l2 x10_2).f0) == 2) = false := beq_eq_false_iff_ne.mpr c19
                      have c19b1 : (((rd_T27 l2 x10_2).f0) != 2) = true := bne_iff_ne.mpr c19
                      have H' := Aside0.mk H
                      clear H
                      have p122 : 0 ≤ (x10_2 : Int) := of_decide_eq_true (by first | (with_reducible assumption) | assumption)
                      have q122 : x10_2 < (l2.length : Int) := of_decide_eq_true (by first | (with_reducible assumption) | assumption)
                      obtain ⟨ad122, e122, hx122_0, hx122_1, hx122_2⟩ := at_T27 HR2.out x10_2 p122 q122
                      cases e122
                      replace hx122_0 := (HB.out.cell (World.block_lt_of_cell? w _ hx122_0)).trans hx122_0
                      replace hx122_1 := (HB.out.cell (World.block_lt_of_cell? w _ hx122_1)).trans hx122_1
                      replace hx122_2 := (HB.out.cell (World.block_lt_of_cell? w _ hx122_2)).trans hx122_2
                      replace p122 := eq_true p122
                      replace q122 := eq_true q122
                      go_wp2
                      go_roundg k2
                      case measure => have := HK1.out; have := HK2.out; omega
                      case rel => exact ⟨(x8_2), (wrap64 (x10_2 + 1)), (by first | rfl | (simp; done) | (simp [*]; done)), (by first | rfl | (simp; done) | (simp [*]; done)), H', ⟨by have := HK1.out; have := HK2.out; omega⟩, ⟨by repeat (first | (with_reducible first | exact HB.out | apply below_alloc | apply pw_below_drewN | apply below_drew1) | exact HB.out)⟩⟩
              · rw [if_neg c9] at H
                exact absurd H (by simp)
            · rw [if_neg c8] at H
              have c8b0 : decide (x10_2 < (l2.length : Int)) = false := decide_eq_false c8
              clear c8
              simp only [Option.some.injEq, Prod.mk.injEq] at H
              obtain ⟨rfl, rfl⟩ := H
              go_wp2
              go_ret2
              exact ⟨by first | rfl | (simp [errW_none, errW_some] <;> rfl) | (simp [*, errW_none, errW_some] <;> rfl) | (exfalso; contradiction), by repeat (first | (with_reducible first | exact HB.out | apply below_alloc | apply pw_below_drewN | apply below_drew1) | exact HB.out)⟩

-- NOT PRINTED: function 3 (laws_FnPathText)

end Go.Proofs.YtnopoobidhaccaaDoor.PFnPathText
