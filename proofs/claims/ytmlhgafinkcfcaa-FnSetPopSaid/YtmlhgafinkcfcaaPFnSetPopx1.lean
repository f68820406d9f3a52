/- Functions of the program as plain Lean functions, and that the machine's calls do what these say: written for this claim by wip/myprint.py over the kit's print.py. -/
import Derived.Test.YtmlhgafinkcfcaaPFnSetPopx0
namespace Go.Proofs.Ytmlhgafinkcfcaa.PFnSetPop
open Go.RowKit Go.Proofs.YtmlhgafinkcfcaaW.PrintWords Go.Proofs.YtmlhgafinkcfcaaW.PrintLast Go.Proofs.YtmlhgafinkcfcaaW.PrintMore
attribute [local go_sem] max2_int min2_int max_two min_two max_three min_three max_four min_four   -- for this text's walks alone
set_option linter.unusedVariables false
set_option linter.unusedSimpArgs false

-- NOT PRINTED: function 37 (sets_Set_int_Insert)

-- NOT PRINTED: function 31 (sets_New_int)

-- NOT PRINTED: function 32 (sets_Set_int_Clone)

-- NOT PRINTED: function 33 (sets_Set_int_Union)

-- NOT PRINTED: function 43 (sets_Set_int_Has)

-- NOT PRINTED: function 56 (sets_Set_int_Len)

-- NOT PRINTED: function 34 (sets_Set_int_Intersection)

-- NOT PRINTED: function 35 (sets_Set_int_Difference)

-- NOT PRINTED: function 36 (sets_Set_int_SymmetricDifference)

-- NOT PRINTED: function 38 (sets_Set_int_Delete)

-- NOT PRINTED: function 39 (sets_Set_int_HasAll)

-- NOT PRINTED: function 40 (sets_Set_int_HasAny)

-- NOT PRINTED: function 41 (sets_Set_int_IsSuperset)

-- NOT PRINTED: function 42 (sets_Set_int_Equal)

-- NOT PRINTED: function 44 (sets_KeySet_int_bool)

-- NOT PRINTED: function 45 (sets_Set_int_Clear)

-- NOT PRINTED: function 46 (sets_Set_int_PopAny)

-- NOT PRINTED: function 57 (sets_Set_int_UnsortedList)

-- NOT PRINTED: function 95 (cmp_isNaN_int)

-- NOT PRINTED: function 76 (cmp_Less_int)

-- NOT PRINTED: function 70 (slices_insertionSortOrdered_int)

-- NOT PRINTED: function 90 (slices_siftDownOrdered_int)

-- NOT PRINTED: function 71 (slices_heapSortOrdered_int)

-- NOT PRINTED: function 79 (bits_Len32)

-- NOT PRINTED: function 80 (bits_Len64)

-- NOT PRINTED: function 66 (bits_Len)

-- NOT PRINTED: function 91 (slices_nextPowerOfTwo)

-- NOT PRINTED: function 92 (slices_xorshift_Next)

-- NOT PRINTED: function 72 (slices_breakPatternsOrdered_int)

-- NOT PRINTED: function 100 (slices_order2Ordered_int)

-- NOT PRINTED: function 94 (slices_medianOrdered_int)

-- NOT PRINTED: function 93 (slices_medianAdjacentOrdered_int)

-- NOT PRINTED: function 73 (slices_choosePivotOrdered_int)

-- NOT PRINTED: function 74 (slices_reverseRangeOrdered_int)

-- NOT PRINTED: function 75 (slices_partialInsertionSortOrdered_int)

-- NOT PRINTED: function 77 (slices_partitionEqualOrdered_int)

-- NOT PRINTED: function 78 (slices_partitionOrdered_int)

-- NOT PRINTED: function 65 (slices_pdqsortOrdered_int)

-- NOT PRINTED: function 58 (slices_Sort_int_int)

-- NOT PRINTED: function 47 (sets_List_int)

-- NOT PRINTED: function 21 (impl_setOps_int)

/-! ### impl_IntSetOps: function 8 -/
def impl_IntSetOps.f (k : Nat) (a0 : Int) (l1 : List Int) (l2 : List Int) (l3 : List Int) : Option (List Int × List Int × List Int × Bool) := Go.Proofs.Ytmlhgafinkcfcaa.SetW.setG a0 l1 l2 l3
theorem impl_IntSetOps.mono : ∀ a0 a1 a2 a3 k, LeO (impl_IntSetOps.f k a0 a1 a2 a3) (impl_IntSetOps.f (k + 1) a0 a1 a2 a3) := fun _ _ _ _ _ => LeO.refl _
theorem impl_IntSetOps.calls (k : Nat) (a0 : Int) (A1 : Option Addr) (c1 : Nat) (l1 : List Int) (A2 : Option Addr) (c2 : Nat) (l2 : List Int) (A3 : Option Addr) (c3 : Nat) (l3 : List Int) (r1 : List Int) (r2 : List Int) (r3 : List Int) (r4 : Bool) (w : World) (hr1 : Kd.C (Kd.int .i64) w A1 l1.length l1) (hc1 : l1.length ≤ c1) (hr2 : Kd.C (Kd.int .i64) w A2 l2.length l2) (hc2 : l2.length ≤ c2) (hr3 : Kd.C (Kd.int .i64) w A3 l3.length l3) (hc3 : l3.length ≤ c3) (h : impl_IntSetOps.f k a0 l1 l2 l3 = some (r1, r2, r3, r4)) :
    Calls Try.prog 8 #[.int .i64 a0, .slice A1 l1.length c1, .slice A2 l2.length c2, .slice A3 l3.length c3] w fun e w' => ∃ v0_ v1_ v2_ : Value, e = .returned (.tuple #[v0_, v1_, v2_, .bool r4]) ∧ Kd.R (Kd.int .i64) 3 w' w.heap.size (fun k_ => some k_ ≠ (v1_ : Value).ownBlock ∧ some k_ ≠ (v2_ : Value).ownBlock) v0_ r1 ∧ Kd.R (Kd.int .i64) 3 w' w.heap.size (fun k_ => some k_ ≠ (v0_ : Value).ownBlock ∧ some k_ ≠ (v2_ : Value).ownBlock) v1_ r2 ∧ Kd.R (Kd.int .i64) 3 w' w.heap.size (fun k_ => some k_ ≠ (v0_ : Value).ownBlock ∧ some k_ ≠ (v1_ : Value).ownBlock) v2_ r3 ∧ Below w.heap.size w w' :=
  Go.Proofs.Ytmlhgafinkcfcaa.SetW.setG_calls a0 A1 c1 l1 A2 c2 l2 A3 c3 l3 r1 r2 r3 r4 w hr1 hr2 hr3 h
/-! ### spec_KeysSame_int: function 10 -/
def spec_KeysSame_int.l0 : Nat → List Int → List Int → Int → Option (Bool)
  | 0, _, _, _ => none
  | k + 1, x0, x1, x5 => if x5 < (x0.length : Int) then (if 0 ≤ x5 then (if x5 < (x1.length : Int) then (if (rd x0 x5) = (rd x1 x5) then (spec_KeysSame_int.l0 k x0 x1 (wrap64 (x5 + 1))) else (some false)) else (none)) else (none)) else (some true)
def spec_KeysSame_int.f (k : Nat) (l0 : List Int) (l1 : List Int) : Option (Bool) := if (l0.length : Int) = (l1.length : Int) then (spec_KeysSame_int.l0 k l0 l1 0) else (some false)
theorem spec_KeysSame_int.mono_l : ∀ k, (∀ y0 y1 y2, LeO (spec_KeysSame_int.l0 k y0 y1 y2) (spec_KeysSame_int.l0 (k + 1) y0 y1 y2))
  | 0 => fun _ _ _ r h => by simp [spec_KeysSame_int.l0] at h
  | k + 1 => by
    have ih0 := spec_KeysSame_int.mono_l k
    · intro y0 y1 y2
      unfold spec_KeysSame_int.l0
      repeat' first
      | (with_reducible exact ih0 _ _ _)
      | (with_reducible exact LeO.refl _)
      | (with_reducible exact LeO.none _)
      | (with_reducible refine LeO.ite ?_ ?_)
      | (with_reducible refine LeO.bind ?_ (fun _ => ?_))
      | exact ih0 _ _ _
      | exact LeO.none _
      | refine LeO.ite ?_ ?_
      | refine LeO.bind ?_ (fun _ => ?_)
theorem spec_KeysSame_int.mono : ∀ a0 a1 k, LeO (spec_KeysSame_int.f k a0 a1) (spec_KeysSame_int.f (k + 1) a0 a1) := by
  intro a0 a1 k
  have ih0 := spec_KeysSame_int.mono_l k
  unfold spec_KeysSame_int.f
  repeat' first
      | (with_reducible exact ih0 _ _ _)
      | (with_reducible exact LeO.refl _)
      | (with_reducible exact LeO.none _)
      | (with_reducible refine LeO.ite ?_ ?_)
      | (with_reducible refine LeO.bind ?_ (fun _ => ?_))
      | exact ih0 _ _ _
      | exact LeO.none _
      | refine LeO.ite ?_ ?_
      | refine LeO.bind ?_ (fun _ => ?_)
set_option maxHeartbeats 8000000 in
set_option maxRecDepth 100000 in
theorem spec_KeysSame_int.calls (k : Nat) (A0 : Option Addr) (c0 : Nat) (l0 : List Int) (A1 : Option Addr) (c1 : Nat) (l1 : List Int) (r : Bool) (w : World) (hr0 : Kd.C (Kd.int .i64) w A0 l0.length l0) (hc0 : l0.length ≤ c0) (hr1 : Kd.C (Kd.int .i64) w A1 l1.length l1) (hc1 : l1.length ≤ c1) (h : spec_KeysSame_int.f k l0 l1 = some r) :
    Calls Try.prog 10 #[.slice A0 l0.length c0, .slice A1 l1.length c1] w fun e w' => e = .returned (.bool r) ∧ Drawn0 w w' := by
  have HR0 := Aside0.mk hr0
  have HC0 := Aside0.mk hc0
  clear hr0 hc0
  have HR1 := Aside0.mk hr1
  have HC1 := Aside0.mk hc1
  clear hr1 hc1
  have H : (if (l0.length : Int) = (l1.length : Int) then (spec_KeysSame_int.l0 k l0 l1 0) else (some false)) = some r := h
  clear h
  by_cases c3 : (l0.length : Int) = (l1.length : Int)
  · rw [if_pos c3] at H
    have c3b0 : ((l0.length : Int) == (l1.length : Int)) = true := beq_iff_eq.mpr c3
    have c3b1 : ((l0.length : Int) != (l1.length : Int)) = false := bne_eq_false_iff_eq.mpr c3
    have c3b2 : (l0.length == l1.length) = true := by first | simpa using c3 | (simp at c3 ⊢; omega)
    clear c3
    have H' := Aside0.mk H
    clear H
    go_enter Try.func10, Try.ntmps10
    go_wp2
    repeat (go_quiet (fail); try go_wp2)
    go_loopg [5] k (fun kq v5 w' => ∃ (x5_1 : Int), v5 = .int .i64 x5_1 ∧ Aside0 (spec_KeysSame_int.l0 kq l0 l1 x5_1 = some r) ∧ Aside0 (kq ≤ k) ∧ Drawn0 w w')
    case atStart => exact ⟨(0), (by first | rfl | (simp; done) | (simp [*]; done)), H', ⟨Nat.le_refl _⟩, by repeat (first | exact Drawn0.refl _ | apply Drawn0.step)⟩
    case round =>
      clear H'
      try clear c1
      try clear p2
      try clear c3
      try clear c3b0
      try clear c3b1
      try clear c3b2
      obtain ⟨x5_1, rfl, HA, HK1, ⟨m1, rfl⟩⟩ := hrel
      cases gk with
      | zero => exact absurd HA.out (by simp [spec_KeysSame_int.l0])
      | succ k1 =>
        have H := HA.out
        clear HA
        simp only [spec_KeysSame_int.l0] at H
        by_cases c4 : x5_1 < (l0.length : Int)
        · rw [if_pos c4] at H
          have c4b0 : decide (x5_1 < (l0.length : Int)) = true := decide_eq_true c4
          clear c4
          by_cases c5 : 0 ≤ x5_1
          · rw [if_pos c5] at H
            have c5b0 : decide (0 ≤ x5_1) = true := decide_eq_true c5
            clear c5
            by_cases c6 : x5_1 < (l1.length : Int)
            · rw [if_pos c6] at H
              have c6b0 : decide (x5_1 < (l1.length : Int)) = true := decide_eq_true c6
              clear c6
              by_cases c7 : (rd l0 x5_1) = (rd l1 x5_1)
              · rw [if_pos c7] at H
                have c7b0 : ((rd l0 x5_1) == (rd l1 x5_1)) = true := beq_iff_eq.mpr c7
                have c7b1 : ((rd l0 x5_1) != (rd l1 x5_1)) = false := bne_eq_false_iff_eq.mpr c7
                clear c7
                have H' := Aside0.mk H
                clear H
                have p101 : 0 ≤ (x5_1 : Int) := of_decide_eq_true (by first | (with_reducible assumption) | assumption)
                have q101 : x5_1 < (l0.length : Int) := of_decide_eq_true (by first | (with_reducible assumption) | assumption)
                obtain ⟨ad101, e101, hx101_0⟩ := Kd.at_int HR0.out x5_1 p101 q101
                cases e101
                replace p101 := eq_true p101
                replace q101 := eq_true q101
                have p102 : 0 ≤ (x5_1 : Int) := of_decide_eq_true (by first | (with_reducible assumption) | assumption)
                have q102 : x5_1 < (l1.length : Int) := of_decide_eq_true (by first | (with_reducible assumption) | assumption)
                obtain ⟨ad102, e102, hx102_0⟩ := Kd.at_int HR1.out x5_1 p102 q102
                cases e102
                replace p102 := eq_true p102
                replace q102 := eq_true q102
                go_wp2
                repeat (go_quiet (fail); try go_wp2)
                go_roundg k1
                case measure => have := HK1.out; omega
                case rel => exact ⟨(wrap64 (x5_1 + 1)), (by first | rfl | (simp; done) | (simp [*]; done)), H', ⟨by have := HK1.out; omega⟩, by repeat (first | exact Drawn0.refl _ | apply Drawn0.step)⟩
              · rw [if_neg c7] at H
                have c7b0 : ((rd l0 x5_1) == (rd l1 x5_1)) = false := beq_eq_false_iff_ne.mpr c7
                have c7b1 : ((rd l0 x5_1) != (rd l1 x5_1)) = true := bne_iff_ne.mpr c7
                obtain rfl := Option.some.inj H
                have p101 : 0 ≤ (x5_1 : Int) := of_decide_eq_true (by first | (with_reducible assumption) | assumption)
                have q101 : x5_1 < (l0.length : Int) := of_decide_eq_true (by first | (with_reducible assumption) | assumption)
                obtain ⟨ad101, e101, hx101_0⟩ := Kd.at_int HR0.out x5_1 p101 q101
                cases e101
                replace p101 := eq_true p101
                replace q101 := eq_true q101
                have p102 : 0 ≤ (x5_1 : Int) := of_decide_eq_true (by first | (with_reducible assumption) | assumption)
                have q102 : x5_1 < (l1.length : Int) := of_decide_eq_true (by first | (with_reducible assumption) | assumption)
                obtain ⟨ad102, e102, hx102_0⟩ := Kd.at_int HR1.out x5_1 p102 q102
                cases e102
                replace p102 := eq_true p102
                replace q102 := eq_true q102
                go_wp2
                repeat (go_quiet (fail); try go_wp2)
                go_ret
                exact ⟨by first | rfl | (simp; done) | (simp [*]; done), by repeat (first | exact Drawn0.refl _ | apply Drawn0.step)⟩
            · rw [if_neg c6] at H
              exact absurd H (by simp)
          · rw [if_neg c5] at H
            exact absurd H (by simp)
        · rw [if_neg c4] at H
          have c4b0 : decide (x5_1 < (l0.length : Int)) = false := decide_eq_false c4
          clear c4
          obtain rfl := Option.some.inj H
          go_wp2
          repeat (go_quiet (fail); try go_wp2)
          go_ret
          exact ⟨by first | rfl | (simp; done) | (simp [*]; done), by repeat (first | exact Drawn0.refl _ | apply Drawn0.step)⟩
  · rw [if_neg c3] at H
    have c3b0 : ((l0.length : Int) == (l1.length : Int)) = false := beq_eq_false_iff_ne.mpr c3
    have c3b1 : ((l0.length : Int) != (l1.length : Int)) = true := bne_iff_ne.mpr c3
    have c3b2 : (l0.length == l1.length) = false := by first | simpa using c3 | (simp at c3 ⊢; omega)
    obtain rfl := Option.some.inj H
    go_enter Try.func10, Try.ntmps10
    go_wp2
    repeat (go_quiet (fail); try go_wp2)
    go_ret
    exact ⟨by first | rfl | (simp; done) | (simp [*]; done), by repeat (first | exact Drawn0.refl _ | apply Drawn0.step)⟩

/-! ### spec_keyIn_int: function 22 -/
def spec_keyIn_int.l0 : Nat → List Int → Int → Int → Option (Bool)
  | 0, _, _, _ => none
  | k + 1, x0, x1, x5 => if x5 < (x0.length : Int) then (if 0 ≤ x5 then (if (rd x0 x5) = x1 then (some true) else (spec_keyIn_int.l0 k x0 x1 (wrap64 (x5 + 1)))) else (none)) else (some false)
def spec_keyIn_int.f (k : Nat) (l0 : List Int) (a1 : Int) : Option (Bool) := spec_keyIn_int.l0 k l0 a1 0
theorem spec_keyIn_int.mono_l : ∀ k, (∀ y0 y1 y2, LeO (spec_keyIn_int.l0 k y0 y1 y2) (spec_keyIn_int.l0 (k + 1) y0 y1 y2))
  | 0 => fun _ _ _ r h => by simp [spec_keyIn_int.l0] at h
  | k + 1 => by
    have ih0 := spec_keyIn_int.mono_l k
    · intro y0 y1 y2
      unfold spec_keyIn_int.l0
      repeat' first
      | (with_reducible exact ih0 _ _ _)
      | (with_reducible exact LeO.refl _)
      | (with_reducible exact LeO.none _)
      | (with_reducible refine LeO.ite ?_ ?_)
      | (with_reducible refine LeO.bind ?_ (fun _ => ?_))
      | exact ih0 _ _ _
      | exact LeO.none _
      | refine LeO.ite ?_ ?_
      | refine LeO.bind ?_ (fun _ => ?_)
theorem spec_keyIn_int.mono : ∀ a0 a1 k, LeO (spec_keyIn_int.f k a0 a1) (spec_keyIn_int.f (k + 1) a0 a1) := by
  intro a0 a1 k
  have ih0 := spec_keyIn_int.mono_l k
  unfold spec_keyIn_int.f
  repeat' first
      | (with_reducible exact ih0 _ _ _)
      | (with_reducible exact LeO.refl _)
      | (with_reducible exact LeO.none _)
      | (with_reducible refine LeO.ite ?_ ?_)
      | (with_reducible refine LeO.bind ?_ (fun _ => ?_))
      | exact ih0 _ _ _
      | exact LeO.none _
      | refine LeO.ite ?_ ?_
      | refine LeO.bind ?_ (fun _ => ?_)
set_option maxHeartbeats 8000000 in
set_option maxRecDepth 100000 in
theorem spec_keyIn_int.calls (k : Nat) (A0 : Option Addr) (c0 : Nat) (l0 : List Int) (a1 : Int) (r : Bool) (w : World) (hr0 : Kd.C (Kd.int .i64) w A0 l0.length l0) (hc0 : l0.length ≤ c0) (h : spec_keyIn_int.f k l0 a1 = some r) :
    Calls Try.prog 22 #[.slice A0 l0.length c0, .int .i64 a1] w fun e w' => e = .returned (.bool r) ∧ Drawn0 w w' := by
  have HR0 := Aside0.mk hr0
  have HC0 := Aside0.mk hc0
  clear hr0 hc0
  have H : (spec_keyIn_int.l0 k l0 a1 0) = some r := h
  clear h
  have H' := Aside0.mk H
  clear H
  go_enter Try.func22, Try.ntmps22
  go_wp2
  go_loopg [5] k (fun kq v5 w' => ∃ (x5_1 : Int), v5 = .int .i64 x5_1 ∧ Aside0 (spec_keyIn_int.l0 kq l0 a1 x5_1 = some r) ∧ Aside0 (kq ≤ k) ∧ Drawn0 w w')
  case atStart => exact ⟨(0), (by first | rfl | (simp; done) | (simp [*]; done)), H', ⟨Nat.le_refl _⟩, by repeat (first | exact Drawn0.refl _ | apply Drawn0.step)⟩
  case round =>
    clear H'
    try clear c2
    try clear p2
    obtain ⟨x5_1, rfl, HA, HK1, ⟨m1, rfl⟩⟩ := hrel
    cases gk with
    | zero => exact absurd HA.out (by simp [spec_keyIn_int.l0])
    | succ k1 =>
      have H := HA.out
      clear HA
      simp only [spec_keyIn_int.l0] at H
      by_cases c3 : x5_1 < (l0.length : Int)
      · rw [if_pos c3] at H
        have c3b0 : decide (x5_1 < (l0.length : Int)) = true := decide_eq_true c3
        clear c3
        by_cases c4 : 0 ≤ x5_1
        · rw [if_pos c4] at H
          have c4b0 : decide (0 ≤ x5_1) = true := decide_eq_true c4
          clear c4
          by_cases c5 : (rd l0 x5_1) = a1
          · rw [if_pos c5] at H
            have c5b0 : ((rd l0 x5_1) == a1) = true := beq_iff_eq.mpr c5
            have c5b1 : ((rd l0 x5_1) != a1) = false := bne_eq_false_iff_eq.mpr c5
            clear c5
            obtain rfl := Option.some.inj H
            have p103 : 0 ≤ (x5_1 : Int) := of_decide_eq_true (by first | (with_reducible assumption) | assumption)
            have q103 : x5_1 < (l0.length : Int) := of_decide_eq_true (by first | (with_reducible assumption) | assumption)
            obtain ⟨ad103, e103, hx103_0⟩ := Kd.at_int HR0.out x5_1 p103 q103
            cases e103
            replace p103 := eq_true p103
            replace q103 := eq_true q103
            go_wp2
            go_ret
            exact ⟨by first | rfl | (simp; done) | (simp [*]; done), by repeat (first | exact Drawn0.refl _ | apply Drawn0.step)⟩
          · rw [if_neg c5] at H
            have c5b0 : ((rd l0 x5_1) == a1) = false := beq_eq_false_iff_ne.mpr c5
            have c5b1 : ((rd l0 x5_1) != a1) = true := bne_iff_ne.mpr c5
            have H' := Aside0.mk H
            clear H
            have p103 : 0 ≤ (x5_1 : Int) := of_decide_eq_true (by first | (with_reducible assumption) | assumption)
            have q103 : x5_1 < (l0.length : Int) := of_decide_eq_true (by first | (with_reducible assumption) | assumption)
            obtain ⟨ad103, e103, hx103_0⟩ := Kd.at_int HR0.out x5_1 p103 q103
            cases e103
            replace p103 := eq_true p103
            replace q103 := eq_true q103
            go_wp2
            go_roundg k1
            case measure => have := HK1.out; omega
            case rel => exact ⟨(wrap64 (x5_1 + 1)), (by first | rfl | (simp; done) | (simp [*]; done)), H', ⟨by have := HK1.out; omega⟩, by repeat (first | exact Drawn0.refl _ | apply Drawn0.step)⟩
        · rw [if_neg c4] at H
          exact absurd H (by simp)
      · rw [if_neg c3] at H
        have c3b0 : decide (x5_1 < (l0.length : Int)) = false := decide_eq_false c3
        clear c3
        obtain rfl := Option.some.inj H
        go_wp2
        go_ret
        exact ⟨by first | rfl | (simp; done) | (simp [*]; done), by repeat (first | exact Drawn0.refl _ | apply Drawn0.step)⟩

/-! ### spec_Keys_int: function 11 -/
mutual
def spec_Keys_int.l0 : Nat → List Int → List Int → Int → Option (List Int)
  | 0, _, _, _ => none
  | k + 1, x0, x3, x4 => if x4 < (x0.length : Int) then (if 0 ≤ x4 then ((spec_keyIn_int.f k x3 (rd x0 x4)).bind fun t105 => (if t105 = true then (spec_Keys_int.l0 k x0 x3 (wrap64 (x4 + 1))) else (spec_Keys_int.l1 k x0 x3 x4 0))) else (none)) else (some x3)
def spec_Keys_int.l1 : Nat → List Int → List Int → Int → Int → Option (List Int)
  | 0, _, _, _, _ => none
  | k + 1, x0, x3, x4, x5 => if x5 < (x3.length : Int) then (if 0 ≤ x5 then (if 0 ≤ x4 then (if x4 < (x0.length : Int) then (if (rd x3 x5) < (rd x0 x4) then (spec_Keys_int.l1 k x0 x3 x4 (wrap64 (x5 + 1))) else ((some (([] : List Int) : List Int)).bind fun y108 => (if x5 ≤ (x3.length : Int) then ((some (x3.take (x5 : Int).toNat : List Int)).bind fun y111 => (if y108.length + y111.length < 17592186044416 then ((some (y108 ++ y111 : List Int)).bind fun y115 => (if y115.length < 17592186044416 then ((some (y115 ++ [rd x0 x4] : List Int)).bind fun y119 => ((some (x3.drop (x5 : Int).toNat : List Int)).bind fun y122 => (if y119.length + y122.length < 17592186044416 then (spec_Keys_int.l0 k x0 (y119 ++ y122) (wrap64 (x4 + 1))) else (none)))) else (none))) else (none))) else (none)))) else (none)) else (none)) else (none)) else ((some (([] : List Int) : List Int)).bind fun y129 => (if 0 ≤ x5 then (if x5 ≤ (x3.length : Int) then ((some (x3.take (x5 : Int).toNat : List Int)).bind fun y132 => (if y129.length + y132.length < 17592186044416 then ((some (y129 ++ y132 : List Int)).bind fun y136 => (if 0 ≤ x4 then (if x4 < (x0.length : Int) then (if y136.length < 17592186044416 then ((some (y136 ++ [rd x0 x4] : List Int)).bind fun y140 => ((some (x3.drop (x5 : Int).toNat : List Int)).bind fun y143 => (if y140.length + y143.length < 17592186044416 then (spec_Keys_int.l0 k x0 (y140 ++ y143) (wrap64 (x4 + 1))) else (none)))) else (none)) else (none)) else (none))) else (none))) else (none)) else (none)))
end
def spec_Keys_int.f (k : Nat) (l0 : List Int) : Option (List Int) := spec_Keys_int.l0 k l0 ([] : List Int) 0
theorem spec_Keys_int.mono_l : ∀ k, (∀ y0 y1 y2, LeO (spec_Keys_int.l0 k y0 y1 y2) (spec_Keys_int.l0 (k + 1) y0 y1 y2)) ∧ (∀ y0 y1 y2 y3, LeO (spec_Keys_int.l1 k y0 y1 y2 y3) (spec_Keys_int.l1 (k + 1) y0 y1 y2 y3))
  | 0 => ⟨fun _ _ _ r h => by simp [spec_Keys_int.l0] at h, fun _ _ _ _ r h => by simp [spec_Keys_int.l1] at h⟩
  | k + 1 => by
    obtain ⟨ih0, ih1⟩ := spec_Keys_int.mono_l k
    refine ⟨?_, ?_⟩
    · intro y0 y1 y2
      unfold spec_Keys_int.l0
      repeat' first
      | (with_reducible exact ih0 _ _ _)
      | (with_reducible exact ih1 _ _ _ _)
      | (with_reducible exact spec_keyIn_int.mono _ _ _)
      | (with_reducible exact LeO.refl _)
      | (with_reducible exact LeO.none _)
      | (with_reducible refine LeO.ite ?_ ?_)
      | (with_reducible refine LeO.bind ?_ (fun _ => ?_))
      | exact ih0 _ _ _
      | exact ih1 _ _ _ _
      | exact spec_keyIn_int.mono _ _ _
      | exact LeO.none _
      | refine LeO.ite ?_ ?_
      | refine LeO.bind ?_ (fun _ => ?_)
    · intro y0 y1 y2 y3
      unfold spec_Keys_int.l1
      repeat' first
      | (with_reducible exact ih0 _ _ _)
      | (with_reducible exact ih1 _ _ _ _)
      | (with_reducible exact spec_keyIn_int.mono _ _ _)
      | (with_reducible exact LeO.refl _)
      | (with_reducible exact LeO.none _)
      | (with_reducible refine LeO.ite ?_ ?_)
      | (with_reducible refine LeO.bind ?_ (fun _ => ?_))
      | exact ih0 _ _ _
      | exact ih1 _ _ _ _
      | exact spec_keyIn_int.mono _ _ _
      | exact LeO.none _
      | refine LeO.ite ?_ ?_
      | refine LeO.bind ?_ (fun _ => ?_)
theorem spec_Keys_int.mono : ∀ a0 k, LeO (spec_Keys_int.f k a0) (spec_Keys_int.f (k + 1) a0) := by
  intro a0 k
  obtain ⟨ih0, ih1⟩ := spec_Keys_int.mono_l k
  unfold spec_Keys_int.f
  repeat' first
      | (with_reducible exact ih0 _ _ _)
      | (with_reducible exact ih1 _ _ _ _)
      | (with_reducible exact spec_keyIn_int.mono _ _ _)
      | (with_reducible exact LeO.refl _)
      | (with_reducible exact LeO.none _)
      | (with_reducible refine LeO.ite ?_ ?_)
      | (with_reducible refine LeO.bind ?_ (fun _ => ?_))
      | exact ih0 _ _ _
      | exact ih1 _ _ _ _
      | exact spec_keyIn_int.mono _ _ _
      | exact LeO.none _
      | refine LeO.ite ?_ ?_
      | refine LeO.bind ?_ (fun _ => ?_)
set_option maxHeartbeats 8000000 in
set_option maxRecDepth 100000 in
theorem spec_Keys_int.calls (k : Nat) (A0 : Option Addr) (c0 : Nat) (l0 : List Int) (r : List Int) (w : World) (hr0 : Kd.C (Kd.int .i64) w A0 l0.length l0) (hc0 : l0.length ≤ c0) (h : spec_Keys_int.f k l0 = some r) :
    Calls Try.prog 11 #[.slice A0 l0.length c0] w fun e w' => ∃ v0_ : Value, e = .returned (v0_) ∧ Kd.R (Kd.int .i64) 3 w' w.heap.size (fun _ => True) v0_ r ∧ Below w.heap.size w w' := by
  have HR0 := Aside0.mk hr0
  have HC0 := Aside0.mk hc0
  clear hr0 hc0
  have HB := Aside0.mk (Below.refl w.heap.size w)
  have H : (spec_Keys_int.l0 k l0 ([] : List Int) 0) = some r := h
  clear h
  have H' := Aside0.mk H
  clear H
  go_enter Try.func11, Try.ntmps11
  go_wp2
  repeat (go_quiet (fail); try go_wp2)
  go_loopg [3, 4] k (fun kq v3 v4 w' => ∃ (x3_1 : List Int) (x4_1 : Int), v4 = .int .i64 x4_1 ∧ Aside0 (spec_Keys_int.l0 kq l0 x3_1 x4_1 = some r) ∧ Aside0 (kq ≤ k) ∧ Aside0 (Kd.R (Kd.int .i64) 3 w' w.heap.size (fun _ => True) v3 x3_1) ∧ Aside0 (Below w.heap.size w w'))
  case atStart => exact ⟨(([] : List Int)), (0), (by first | rfl | (simp; done) | (simp [*]; done)), H', ⟨Nat.le_refl _⟩, ⟨by first | exact Kd.R_nil _ _ _ _ _ | exact Kd.N_nil _ _ _ _ _ | exact Kd.V_nil _ _ _ _ _ | exact Kd.Q_nil _ _ _ _ _ | exact Kd.S_nil _ _ _ _ _⟩, ⟨by repeat (first | (with_reducible first | exact HB.out | apply below_alloc | apply pw_below_drewN | apply below_drew1) | exact HB.out)⟩⟩
  case round =>
    clear H'
    try clear c1
    obtain ⟨x3_1, x4_1, rfl, HA, HK1, HO_3, HB⟩ := hrel
    cases gk with
    | zero => exact absurd HA.out (by simp [spec_Keys_int.l0])
    | succ k1 =>
      have H := HA.out
      clear HA
      simp only [spec_Keys_int.l0] at H
      by_cases c2 : x4_1 < (l0.length : Int)
      · rw [if_pos c2] at H
        have c2b0 : decide (x4_1 < (l0.length : Int)) = true := decide_eq_true c2
        clear c2
        by_cases c3 : 0 ≤ x4_1
        · rw [if_pos c3] at H
          have c3b0 : decide (0 ≤ x4_1) = true := decide_eq_true c3
          clear c3
          replace H := Option.bind_eq_some_iff.mp H
          obtain ⟨t105, A40, H⟩ := H
          replace H : (if t105 = true then (spec_Keys_int.l0 k1 l0 x3_1 (wrap64 (x4_1 + 1))) else (spec_Keys_int.l1 k1 l0 x3_1 x4_1 0)) = some r := H
          have A4 := Aside0.mk A40
          clear A40
          by_cases c5 : t105 = true
          · subst c5
            have H1 : (spec_Keys_int.l0 k1 l0 x3_1 (wrap64 (x4_1 + 1))) = some r := by rw [if_pos rfl] at H; exact H
            clear H
            have H := H1
            clear H1
            have H' := Aside0.mk H
            clear H
            have p104 : 0 ≤ (x4_1 : Int) := of_decide_eq_true (by first | (with_reducible assumption) | assumption)
            have q104 : x4_1 < (l0.length : Int) := of_decide_eq_true (by first | (with_reducible assumption) | assumption)
            obtain ⟨ad104, e104, hx104_0⟩ := Kd.at_int HR0.out x4_1 p104 q104
            cases e104
            replace hx104_0 := (HB.out.cell (World.block_lt_of_cell? w _ hx104_0)).trans hx104_0
            replace p104 := eq_true p104
            replace q104 := eq_true q104
            obtain ⟨Ao6, co6, eo6⟩ := Kd.R_slice HO_3.out
            subst eo6
            go_wp2_with (first | (go_at_call 22; (with_reducible refine (spec_keyIn_int.calls k1 _ _ x3_1 (rd l0 x4_1) true _ ?side1 ?side2 A4.out).mono ?_); (case side1 => repeat (first | exact (Kd.R_reads' HO_3.out).2.2 | (with_reducible refine Kd.C_alloc ?_ _) | (with_reducible refine Kd.C_drewN ?_ _) | (with_reducible refine Kd.C_drew ?_))); (case side2 => exact (Kd.R_reads' HO_3.out).2.1); rintro e w' ⟨rfl, ⟨nd, rfl⟩⟩; (try first | exact ⟨rfl, _, World.drewN_drewN _ _ _⟩ | exact ⟨rfl, _, Eq.trans (World.drewN_drewN _ _ _) (congrArg (World.drewN _) (Nat.add_assoc _ _ _))⟩)))
            repeat (go_quiet (first | (go_at_call 22; (with_reducible refine (spec_keyIn_int.calls k1 _ _ x3_1 (rd l0 x4_1) true _ ?side1 ?side2 A4.out).mono ?_); (case side1 => repeat (first | exact (Kd.R_reads' HO_3.out).2.2 | (with_reducible refine Kd.C_alloc ?_ _) | (with_reducible refine Kd.C_drewN ?_ _) | (with_reducible refine Kd.C_drew ?_))); (case side2 => exact (Kd.R_reads' HO_3.out).2.1); rintro e w' ⟨rfl, ⟨nd, rfl⟩⟩; (try first | exact ⟨rfl, _, World.drewN_drewN _ _ _⟩ | exact ⟨rfl, _, Eq.trans (World.drewN_drewN _ _ _) (congrArg (World.drewN _) (Nat.add_assoc _ _ _))⟩))); try go_wp2_with (first | (go_at_call 22; (with_reducible refine (spec_keyIn_int.calls k1 _ _ x3_1 (rd l0 x4_1) true _ ?side1 ?side2 A4.out).mono ?_); (case side1 => repeat (first | exact (Kd.R_reads' HO_3.out).2.2 | (with_reducible refine Kd.C_alloc ?_ _) | (with_reducible refine Kd.C_drewN ?_ _) | (with_reducible refine Kd.C_drew ?_))); (case side2 => exact (Kd.R_reads' HO_3.out).2.1); rintro e w' ⟨rfl, ⟨nd, rfl⟩⟩; (try first | exact ⟨rfl, _, World.drewN_drewN _ _ _⟩ | exact ⟨rfl, _, Eq.trans (World.drewN_drewN _ _ _) (congrArg (World.drewN _) (Nat.add_assoc _ _ _))⟩))))
            go_roundg k1
            case measure => have := HK1.out; omega
            case rel => exact ⟨(x3_1), (wrap64 (x4_1 + 1)), (by first | rfl | (simp; done) | (simp [*]; done)), H', ⟨by have := HK1.out; omega⟩, ⟨by (with_reducible repeat (first | apply Kd.R_alloc | apply Kd.R_drewN | apply Kd.R_drew)); exact HO_3.out⟩, ⟨by repeat (first | (with_reducible first | exact HB.out | apply below_alloc | apply pw_below_drewN | apply below_drew1) | exact HB.out)⟩⟩
          · replace c5 := Bool.eq_false_iff.mpr c5
            subst c5
            have H1 : (spec_Keys_int.l1 k1 l0 x3_1 x4_1 0) = some r := by rw [if_neg (show ¬ (false = true) by decide)] at H; exact H
            clear H
            have H := H1
            clear H1
            have H' := Aside0.mk H
            clear H
            have p104 : 0 ≤ (x4_1 : Int) := of_decide_eq_true (by first | (with_reducible assumption) | assumption)
            have q104 : x4_1 < (l0.length : Int) := of_decide_eq_true (by first | (with_reducible assumption) | assumption)
            obtain ⟨ad104, e104, hx104_0⟩ := Kd.at_int HR0.out x4_1 p104 q104
            cases e104
            replace hx104_0 := (HB.out.cell (World.block_lt_of_cell? w _ hx104_0)).trans hx104_0
            replace p104 := eq_true p104
            replace q104 := eq_true q104
            obtain ⟨Ao7, co7, eo7⟩ := Kd.R_slice HO_3.out
            subst eo7
            go_wp2_with (first | (go_at_call 22; (with_reducible refine (spec_keyIn_int.calls k1 _ _ x3_1 (rd l0 x4_1) false _ ?side1 ?side2 A4.out).mono ?_); (case side1 => repeat (first | exact (Kd.R_reads' HO_3.out).2.2 | (with_reducible refine Kd.C_alloc ?_ _) | (with_reducible refine Kd.C_drewN ?_ _) | (with_reducible refine Kd.C_drew ?_))); (case side2 => exact (Kd.R_reads' HO_3.out).2.1); rintro e w' ⟨rfl, ⟨nd, rfl⟩⟩; (try first | exact ⟨rfl, _, World.drewN_drewN _ _ _⟩ | exact ⟨rfl, _, Eq.trans (World.drewN_drewN _ _ _) (congrArg (World.drewN _) (Nat.add_assoc _ _ _))⟩)))
            repeat (go_quiet (first | (go_at_call 22; (with_reducible refine (spec_keyIn_int.calls k1 _ _ x3_1 (rd l0 x4_1) false _ ?side1 ?side2 A4.out).mono ?_); (case side1 => repeat (first | exact (Kd.R_reads' HO_3.out).2.2 | (with_reducible refine Kd.C_alloc ?_ _) | (with_reducible refine Kd.C_drewN ?_ _) | (with_reducible refine Kd.C_drew ?_))); (case side2 => exact (Kd.R_reads' HO_3.out).2.1); rintro e w' ⟨rfl, ⟨nd, rfl⟩⟩; (try first | exact ⟨rfl, _, World.drewN_drewN _ _ _⟩ | exact ⟨rfl, _, Eq.trans (World.drewN_drewN _ _ _) (congrArg (World.drewN _) (Nat.add_assoc _ _ _))⟩))); try go_wp2_with (first | (go_at_call 22; (with_reducible refine (spec_keyIn_int.calls k1 _ _ x3_1 (rd l0 x4_1) false _ ?side1 ?side2 A4.out).mono ?_); (case side1 => repeat (first | exact (Kd.R_reads' HO_3.out).2.2 | (with_reducible refine Kd.C_alloc ?_ _) | (with_reducible refine Kd.C_drewN ?_ _) | (with_reducible refine Kd.C_drew ?_))); (case side2 => exact (Kd.R_reads' HO_3.out).2.1); rintro e w' ⟨rfl, ⟨nd, rfl⟩⟩; (try first | exact ⟨rfl, _, World.drewN_drewN _ _ _⟩ | exact ⟨rfl, _, Eq.trans (World.drewN_drewN _ _ _) (congrArg (World.drewN _) (Nat.add_assoc _ _ _))⟩))))
            go_loopg [5] k1 (fun kq v5 w' => ∃ (x5_2 : Int), v5 = .int .i64 x5_2 ∧ Aside0 (spec_Keys_int.l1 kq l0 x3_1 x4_1 x5_2 = some r) ∧ Aside0 (kq ≤ k1) ∧ Aside0 (Kd.R (Kd.int .i64) 3 w' w.heap.size (fun _ => True) (.slice Ao7 x3_1.length co7) x3_1) ∧ Aside0 (Below w.heap.size w w'))
            case atStart => exact ⟨(0), (by first | rfl | (simp; done) | (simp [*]; done)), H', ⟨Nat.le_refl _⟩, ⟨by (with_reducible repeat (first | apply Kd.R_alloc | apply Kd.R_drewN | apply Kd.R_drew)); exact HO_3.out⟩, ⟨by repeat (first | (with_reducible first | exact HB.out | apply below_alloc | apply pw_below_drewN | apply below_drew1) | exact HB.out)⟩⟩
            case round =>
              clear H'
              try clear c1
              try clear p1
              try clear q1
              try clear hx1
              try clear c2
              try clear c2b0
              try clear p2
              try clear c3
              try clear c3b0
              try clear c5
              try clear p6
              try clear hx104_0
              try clear p104
              try clear q104
              obtain ⟨x5_2, rfl, HA, HK2, HO_3, HB⟩ := hrel
              cases gk with
              | zero => exact absurd HA.out (by simp [spec_Keys_int.l1])
              | succ k2 =>
                have H := HA.out
                clear HA
                simp only [spec_Keys_int.l1] at H
                by_cases c8 : x5_2 < (x3_1.length : Int)
                · rw [if_pos c8] at H
                  have c8b0 : decide (x5_2 < (x3_1.length : Int)) = true := decide_eq_true c8
                  clear c8
                  by_cases c9 : 0 ≤ x5_2
                  · rw [if_pos c9] at H
                    have c9b0 : decide (0 ≤ x5_2) = true := decide_eq_true c9
                    clear c9
                    by_cases c10 : 0 ≤ x4_1
                    · rw [if_pos c10] at H
                      have c10b0 : decide (0 ≤ x4_1) = true := decide_eq_true c10
                      clear c10
                      by_cases c11 : x4_1 < (l0.length : Int)
                      · rw [if_pos c11] at H
                        have c11b0 : decide (x4_1 < (l0.length : Int)) = true := decide_eq_true c11
                        clear c11
                        by_cases c12 : (rd x3_1 x5_2) < (rd l0 x4_1)
                        · rw [if_pos c12] at H
                          have c12b0 : decide ((rd x3_1 x5_2) < (rd l0 x4_1)) = true := decide_eq_true c12
                          clear c12
                          have H' := Aside0.mk H
                          clear H
                          have p106 : 0 ≤ (x5_2 : Int) := of_decide_eq_true (by first | (with_reducible assumption) | assumption)
                          have q106 : x5_2 < (x3_1.length : Int) := of_decide_eq_true (by first | (with_reducible assumption) | assumption)
                          obtain ⟨ad106, e106, hx106_0⟩ := Kd.at_int (Kd.R_reads' HO_3.out).2.2 x5_2 p106 q106
                          cases e106
                          replace p106 := eq_true p106
                          replace q106 := eq_true q106
                          have p107 : 0 ≤ (x4_1 : Int) := of_decide_eq_true (by first | (with_reducible assumption) | assumption)
                          have q107 : x4_1 < (l0.length : Int) := of_decide_eq_true (by first | (with_reducible assumption) | assumption)
                          obtain ⟨ad107, e107, hx107_0⟩ := Kd.at_int HR0.out x4_1 p107 q107
                          obtain rfl : ad104 = ad107 := (by injection e107)
                          replace hx107_0 := (HB.out.cell (World.block_lt_of_cell? w _ hx107_0)).trans hx107_0
                          replace p107 := eq_true p107
                          replace q107 := eq_true q107
                          go_wp2
                          repeat (go_quiet (fail); try go_wp2)
                          go_roundg k2
                          case measure => have := HK1.out; have := HK2.out; omega
                          case rel => exact ⟨(wrap64 (x5_2 + 1)), (by first | rfl | (simp; done) | (simp [*]; done)), H', ⟨by have := HK1.out; have := HK2.out; omega⟩, ⟨by (with_reducible repeat (first | apply Kd.R_alloc | apply Kd.R_drewN | apply Kd.R_drew)); exact HO_3.out⟩, ⟨by repeat (first | (with_reducible first | exact HB.out | apply below_alloc | apply pw_below_drewN | apply below_drew1) | exact HB.out)⟩⟩
                        · rw [if_neg c12] at H
                          have c12b0 : decide ((rd x3_1 x5_2) < (rd l0 x4_1)) = false := decide_eq_false c12
                          clear c12
                          obtain ⟨y108, hy108⟩ : ∃ y_ : List Int, y_ = (([] : List Int)) := ⟨_, rfl⟩
                          replace H : (if x5_2 ≤ (x3_1.length : Int) then ((some (x3_1.take (x5_2 : Int).toNat : List Int)).bind fun y111 => (if y108.length + y111.length < 17592186044416 then ((some (y108 ++ y111 : List Int)).bind fun y115 => (if y115.length < 17592186044416 then ((some (y115 ++ [rd l0 x4_1] : List Int)).bind fun y119 => ((some (x3_1.drop (x5_2 : Int).toNat : List Int)).bind fun y122 => (if y119.length + y122.length < 17592186044416 then (spec_Keys_int.l0 k2 l0 (y119 ++ y122) (wrap64 (x4_1 + 1))) else (none)))) else (none))) else (none))) else (none)) = some r := by first | (rw [hy108]; with_reducible exact H) | (have H2_ := (Option.bind_some _ _).symm.trans H; rw [hy108]; with_reducible exact H2_) | (have H2_ := (Option.bind_some _ _).symm.trans H; with_reducible exact H2_) | with_reducible exact H | (rw [hy108]; exact H) | exact H
                          have Ny108 := Aside0.mk hy108
                          clear hy108
                          have c13b0 := eq_true (of_decide_eq_true (by first | (with_reducible assumption) | assumption) : 0 ≤ x5_2)
                          by_cases c14 : x5_2 ≤ (x3_1.length : Int)
                          · rw [if_pos c14] at H
                            have c14b0 := eq_true c14
                            have c14b1 : decide (x5_2 ≤ (x3_1.length : Int)) = true := decide_eq_true c14
                            clear c14
                            obtain ⟨y111, hy111⟩ : ∃ y_ : List Int, y_ = (x3_1.take (x5_2 : Int).toNat) := ⟨_, rfl⟩
                            replace H : (if y108.length + y111.length < 17592186044416 then ((some (y108 ++ y111 : List Int)).bind fun y115 => (if y115.length < 17592186044416 then ((some (y115 ++ [rd l0 x4_1] : List Int)).bind fun y119 => ((some (x3_1.drop (x5_2 : Int).toNat : List Int)).bind fun y122 => (if y119.length + y122.length < 17592186044416 then (spec_Keys_int.l0 k2 l0 (y119 ++ y122) (wrap64 (x4_1 + 1))) else (none)))) else (none))) else (none)) = some r := by first | (rw [hy111]; with_reducible exact H) | (have H2_ := (Option.bind_some _ _).symm.trans H; rw [hy111]; with_reducible exact H2_) | (have H2_ := (Option.bind_some _ _).symm.trans H; with_reducible exact H2_) | with_reducible exact H | (rw [hy111]; exact H) | exact H
                            have Ny111 := Aside0.mk hy111
                            clear hy111
                            by_cases c15 : y108.length + y111.length < 17592186044416
                            · rw [if_pos c15] at H
                              have LMc15 := Aside0.mk c15
                              clear c15
                              obtain ⟨y115, hy115⟩ : ∃ y_ : List Int, y_ = (y108 ++ y111) := ⟨_, rfl⟩
                              replace H : (if y115.length < 17592186044416 then ((some (y115 ++ [rd l0 x4_1] : List Int)).bind fun y119 => ((some (x3_1.drop (x5_2 : Int).toNat : List Int)).bind fun y122 => (if y119.length + y122.length < 17592186044416 then (spec_Keys_int.l0 k2 l0 (y119 ++ y122) (wrap64 (x4_1 + 1))) else (none)))) else (none)) = some r := by first | (rw [hy115]; with_reducible exact H) | (have H2_ := (Option.bind_some _ _).symm.trans H; rw [hy115]; with_reducible exact H2_) | (have H2_ := (Option.bind_some _ _).symm.trans H; with_reducible exact H2_) | with_reducible exact H | (rw [hy115]; exact H) | exact H
                              have Ny115 := Aside0.mk hy115
                              clear hy115
                              by_cases c16 : y115.length < 17592186044416
                              · rw [if_pos c16] at H
                                have LMc16 := Aside0.mk c16
                                clear c16
                                obtain ⟨y119, hy119⟩ : ∃ y_ : List Int, y_ = (y115 ++ [rd l0 x4_1]) := ⟨_, rfl⟩
                                replace H : ((some (x3_1.drop (x5_2 : Int).toNat : List Int)).bind fun y122 => (if y119.length + y122.length < 17592186044416 then (spec_Keys_int.l0 k2 l0 (y119 ++ y122) (wrap64 (x4_1 + 1))) else (none))) = some r := by first | (rw [hy119]; with_reducible exact H) | (have H2_ := (Option.bind_some _ _).symm.trans H; rw [hy119]; with_reducible exact H2_) | (have H2_ := (Option.bind_some _ _).symm.trans H; with_reducible exact H2_) | with_reducible exact H | (rw [hy119]; exact H) | exact H
                                have Ny119 := Aside0.mk hy119
                                clear hy119
                                have c17b0 := eq_true (of_decide_eq_true (by first | (with_reducible assumption) | assumption) : 0 ≤ x5_2)
                                have c18b0 := eq_true (of_decide_eq_true (by first | (with_reducible assumption) | assumption) : x5_2 ≤ (x3_1.length : Int))
                                obtain ⟨y122, hy122⟩ : ∃ y_ : List Int, y_ = (x3_1.drop (x5_2 : Int).toNat) := ⟨_, rfl⟩
                                replace H : (if y119.length + y122.length < 17592186044416 then (spec_Keys_int.l0 k2 l0 (y119 ++ y122) (wrap64 (x4_1 + 1))) else (none)) = some r := by first | (rw [hy122]; with_reducible exact H) | (have H2_ := (Option.bind_some _ _).symm.trans H; rw [hy122]; with_reducible exact H2_) | (have H2_ := (Option.bind_some _ _).symm.trans H; with_reducible exact H2_) | with_reducible exact H | (rw [hy122]; exact H) | exact H
                                have Ny122 := Aside0.mk hy122
                                clear hy122
                                by_cases c19 : y119.length + y122.length < 17592186044416
                                · rw [if_pos c19] at H
                                  have LMc19 := Aside0.mk c19
                                  clear c19
                                  obtain ⟨y126, hy126⟩ : ∃ y_ : List Int, y_ = (y119 ++ y122) := ⟨_, rfl⟩
                                  replace H : (spec_Keys_int.l0 k2 l0 y126 (wrap64 (x4_1 + 1))) = some r := by first | (rw [hy126]; with_reducible exact H) | (have H2_ := (Option.bind_some _ _).symm.trans H; rw [hy126]; with_reducible exact H2_) | (have H2_ := (Option.bind_some _ _).symm.trans H; with_reducible exact H2_) | with_reducible exact H | (rw [hy126]; exact H) | exact H
                                  have Ny126 := Aside0.mk hy126
                                  clear hy126
                                  have H' := Aside0.mk H
                                  clear H
                                  have p106 : 0 ≤ (x5_2 : Int) := of_decide_eq_true (by first | (with_reducible assumption) | assumption)
                                  have q106 : x5_2 < (x3_1.length : Int) := of_decide_eq_true (by first | (with_reducible assumption) | assumption)
                                  obtain ⟨ad106, e106, hx106_0⟩ := Kd.at_int (Kd.R_reads' HO_3.out).2.2 x5_2 p106 q106
                                  cases e106
                                  replace p106 := eq_true p106
                                  replace q106 := eq_true q106
                                  have p107 : 0 ≤ (x4_1 : Int) := of_decide_eq_true (by first | (with_reducible assumption) | assumption)
                                  have q107 : x4_1 < (l0.length : Int) := of_decide_eq_true (by first | (with_reducible assumption) | assumption)
                                  obtain ⟨ad107, e107, hx107_0⟩ := Kd.at_int HR0.out x4_1 p107 q107
                                  obtain rfl : ad104 = ad107 := (by injection e107)
                                  replace hx107_0 := (HB.out.cell (World.block_lt_of_cell? w _ hx107_0)).trans hx107_0
                                  replace p107 := eq_true p107
                                  replace q107 := eq_true q107
                                  go_wp2_with (first | ((with_reducible refine gate_dst (N := 36) rfl ?_); refine Kd.R_lit (Kd.int .i64) _ 3 ?hg (N := 36) ?hd (xs := ([] : List Int)) (inner := []) (ok := fun _ => True) (okp := fun _ => True) ?hr ?hp (fun _ hk => hk) trivial (Below.refl _ _) (Nat.le_refl _) (by simp) ?_; (case hd => rfl); (case hg => rfl); (case hr => first | (go_simp; done) | (go_simp; rfl)); (case hp => exact (Reps.none _ _)); intro v109 w20 ho21 hb hg_ hnew_; clear hg_ hnew_; (first | rw [← Ny108.out] at ho21 | (simp only [Int.reduceToNat] at ho21; rw [← Ny108.out] at ho21)); have n0_ := Aside0.mk (Kd.R_elder' (by (with_reducible repeat (first | apply Kd.R_alloc | apply Kd.R_drewN | apply Kd.R_drew)); exact HO_3.out) (Kd.R_base ho21) hb); have n1_ := Aside0.mk (Kd.R_lower (Kd.R_new' ho21 (Kd.R_lt (by (with_reducible repeat (first | apply Kd.R_alloc | apply Kd.R_drewN | apply Kd.R_drew)); exact HO_3.out))) (below_size (by repeat (first | (with_reducible first | exact HB.out | apply below_alloc | apply pw_below_drewN | apply below_drew1) | exact HB.out)))); have n2_ := Aside0.mk (below_step (by repeat (first | (with_reducible first | exact HB.out | apply below_alloc | apply pw_below_drewN | apply below_drew1) | exact HB.out)) hb); clear HO_3; clear HB; have HO_3 := n0_; have HO110 := n1_; have HB := n2_; clear n0_ n1_ n2_; clear hb ho21; have q22 : (x5_2 : Int) ≤ ((x3_1.length : Int) : Int) := of_decide_eq_true (by first | (with_reducible assumption) | assumption); obtain ⟨i022, hi022, _, hsz22, _⟩ := info_parts info3; have hroom22 : x3_1.length ≤ co7 := (Kd.R_reads' HO_3.out).2.1; have hC22 : Kd.C (Kd.int .i64) _ (some ad106) x3_1.length x3_1 := (Kd.R_reads' HO_3.out).2.2; have hcut22 := cut_to (P := Try.prog) 22 3 .i64 Try.underlying22 hi022 (some ad106) x3_1.length co7 x5_2 (of_decide_eq_true (by first | (with_reducible assumption) | assumption)) q22 hroom22; have hr22 := Kd.C_take (m := (x5_2 : Int).toNat) hC22 (by omega); have hy22 : y111.length = (x5_2 : Int).toNat := (by rw [Ny111.out, List.length_take]; omega); rw [← Ny111.out] at hr22; rw [← hy22] at hcut22; have HR114 := Aside0.mk hr22; have HC114 := Aside0.mk (show y111.length ≤ co7 from by omega); clear hr22 hC22 hroom22 hi022 hsz22; have KY22 := Aside0.mk hy22; clear hy22; have KL22 := Aside0.mk (show (x5_2 : Int).toNat ≤ x3_1.length from by omega); replace q22 := eq_true q22) | ((with_reducible refine gate_builtin (b := .append) (xs := #[.tmp 36, .tmp 39]) rfl ?_); at_builtin; refine Kd.R_append_rows (Kd.int .i64) (w0 := w) w.heap.size rfl (.tmp 36) (.tmp 39) 22 3 (.int .i64 0) 8 rfl Try.underlying22 info3 rfl (by decide) (by omega) v109 y108 y111 _ _ _ (fun k_ => some k_ ≠ (.slice (some ad106) x3_1.length co7 : Value).ownBlock) (fun _ => False) rfl rfl ?aO ?aR (fun _ _ h => h) (fun _ h => h.elim) ?aF ?aB ?aS ?aL ?_; (case aR => repeat (first | exact (by repeat (first | (with_reducible exact HR114.out) | (with_reducible refine Kd.C_alloc ?_ _) | (with_reducible refine Kd.C_drewN ?_ _) | (with_reducible refine Kd.C_drew ?_) | exact HR114.out)) | (with_reducible refine Kd.C_alloc ?_ _) | (with_reducible refine Kd.C_drewN ?_ _) | (with_reducible refine Kd.C_drew ?_))); (case aB => exact (by repeat (first | (with_reducible first | exact HB.out | apply below_alloc | apply pw_below_drewN | apply below_drew1) | exact HB.out))); (case aF => exact (fun k_ hk => Kd.fresh' (Kd.R_lt (by (with_reducible repeat (first | apply Kd.R_alloc | apply Kd.R_drewN | apply Kd.R_drew)); exact HO_3.out)) k_ hk)); (case aO => exact (by (with_reducible repeat (first | apply Kd.R_alloc | apply Kd.R_drewN | apply Kd.R_drew)); exact Kd.R_mono HO110.out (fun _ hk => hk.2))); (case aS => exact (below_size (by repeat (first | (with_reducible first | exact HB.out | apply below_alloc | apply pw_below_drewN | apply below_drew1) | exact HB.out)))); (case aL => have := LMc15.out; omega); intro v116 w23 ho hb hg hat; rw [← Ny115.out] at ho; have n0_ := Aside0.mk (Kd.R_after (ok := (fun _ => True)) (by (with_reducible repeat (first | apply Kd.R_alloc | apply Kd.R_drewN | apply Kd.R_drew)); exact HO_3.out) hg hat); have n1_ := Aside0.mk (hb); have n2_ := Aside0.mk ((show Kd.C (Kd.int .i64) w23 (some ad106) y111.length y111 from by rw [Ny111.out]; exact Kd.C_take (m := (x5_2 : Int).toNat) ((Kd.R_reads' (Kd.R_after (ok := (fun _ => True)) (by (with_reducible repeat (first | apply Kd.R_alloc | apply Kd.R_drewN | apply Kd.R_drew)); exact HO_3.out) hg hat)).2.2) KL22.out)); have n3_ := Aside0.mk (ho); clear HO_3; clear HB; clear HR114; clear HO110; have HO_3 := n0_; have HB := n1_; have HR114 := n2_; have HO117 := n3_; clear n0_ n1_ n2_ n3_; clear ho hb hg hat; have p118 : 0 ≤ (x4_1 : Int) := of_decide_eq_true (by first | (with_reducible assumption) | assumption); have q118 : x4_1 < (l0.length : Int) := of_decide_eq_true (by first | (with_reducible assumption) | assumption); obtain ⟨ad118, e118, hx118_0⟩ := Kd.at_int HR0.out x4_1 p118 q118; obtain rfl : ad104 = ad118 := (by injection e118); replace hx118_0 := (HB.out.cell (World.block_lt_of_cell? w _ hx118_0)).trans hx118_0; replace p118 := eq_true p118; replace q118 := eq_true q118) | ((with_reducible refine gate_builtin (b := .append) (xs := #[.tmp 41, .tmp 46]) rfl ?_); at_builtin; refine Kd.R_append (Kd.int .i64) (w0 := w) w.heap.size rfl (.tmp 41) (.tmp 46) 22 3 (.int .i64 0) 8 rfl Try.underlying22 info3 rfl (by decide) (by omega) v116 y115 (rd l0 x4_1) [.int .i64 (rd l0 x4_1)] (fun k_ => some k_ ≠ (.slice (some ad106) x3_1.length co7 : Value).ownBlock) (fun _ => False) rfl rfl ?aP (fun _ hk => hk.elim) ?aF ?aO ?aB ?aS ?aL ?_; (case aP => exact rfl); (case aB => exact (by repeat (first | (with_reducible first | exact HB.out | apply below_alloc | apply pw_below_drewN | apply below_drew1) | exact HB.out))); (case aF => exact (fun k_ hk => Kd.fresh' (Kd.R_lt (by (with_reducible repeat (first | apply Kd.R_alloc | apply Kd.R_drewN | apply Kd.R_drew)); exact HO_3.out)) k_ hk)); (case aO => exact (by (with_reducible repeat (first | apply Kd.R_alloc | apply Kd.R_drewN | apply Kd.R_drew)); exact HO117.out)); (case aS => exact (below_size (by repeat (first | (with_reducible first | exact HB.out | apply below_alloc | apply pw_below_drewN | apply below_drew1) | exact HB.out)))); (case aL => have := LMc16.out; omega); intro v120 w24 ho hb hg hat; rw [← Ny119.out] at ho; have n0_ := Aside0.mk (Kd.R_after (ok := (fun _ => True)) (by (with_reducible repeat (first | apply Kd.R_alloc | apply Kd.R_drewN | apply Kd.R_drew)); exact HO_3.out) hg hat); have n1_ := Aside0.mk (hb); have n2_ := Aside0.mk ((show Kd.C (Kd.int .i64) w24 (some ad106) y111.length y111 from by rw [Ny111.out]; exact Kd.C_take (m := (x5_2 : Int).toNat) ((Kd.R_reads' (Kd.R_after (ok := (fun _ => True)) (by (with_reducible repeat (first | apply Kd.R_alloc | apply Kd.R_drewN | apply Kd.R_drew)); exact HO_3.out) hg hat)).2.2) KL22.out)); have n3_ := Aside0.mk (ho); clear HO_3; clear HB; clear HR114; clear HO117; have HO_3 := n0_; have HB := n1_; have HR114 := n2_; have HO121 := n3_; clear n0_ n1_ n2_ n3_; clear ho hb hg hat; have q25 : (x5_2 : Int) ≤ ((x3_1.length : Int) : Int) := of_decide_eq_true (by first | (with_reducible assumption) | assumption); obtain ⟨i025, hi025, _, hsz25, _⟩ := info_parts info3; have hroom25 : x3_1.length ≤ co7 := (Kd.R_reads' HO_3.out).2.1; have hC25 : Kd.C (Kd.int .i64) _ (some ad106) x3_1.length x3_1 := (Kd.R_reads' HO_3.out).2.2; have q025 : (0 : Int) ≤ (x5_2 : Int) := of_decide_eq_true (by first | (with_reducible assumption) | assumption); have hcut25 := cut_from (P := Try.prog) 22 3 .i64 Try.underlying22 hi025 1 hsz25 (some ad106) x3_1.length co7 x5_2 q025 q25; have hr25 := Kd.C_drop (m := (x5_2 : Int).toNat) (c := co7) hC25 (by omega) hroom25; obtain ⟨A25, hA25⟩ : ∃ A1, A1 = (if co7 = (x5_2 : Int).toNat then (some ad106) else ((some ad106) : Option Addr).map (·.add ((x5_2 : Int).toNat * 1))) := ⟨_, rfl⟩; obtain ⟨c25, hc25⟩ : ∃ c1, c1 = co7 - (x5_2 : Int).toNat := ⟨_, rfl⟩; have hy25 : y122.length = x3_1.length - (x5_2 : Int).toNat := (by rw [Ny122.out, List.length_drop] <;> omega); rw [show (x3_1).drop (x5_2 : Int).toNat = y122 from Ny122.out.symm] at hr25; replace hr25 : Kd.C (Kd.int .i64) _ A25 y122.length y122 := (by rw [hA25]; exact hr25); rw [← hy25, ← hA25, ← hc25] at hcut25; have HR125 := Aside0.mk hr25; have HC125 := Aside0.mk (show y122.length ≤ c25 from by rw [hy25, hc25]; exact Nat.sub_le_sub_right hroom25 _); clear hr25 hC25 hroom25 hi025 hsz25 hc25; have KY25 := Aside0.mk hy25; have KA25 := Aside0.mk hA25; clear hy25 hA25; have KL25 := Aside0.mk (show (x5_2 : Int).toNat ≤ x3_1.length from by omega); replace q25 := eq_true q25) | ((with_reducible refine gate_builtin (b := .append) (xs := #[.tmp 48, .tmp 51]) rfl ?_); at_builtin; refine Kd.R_append_rows (Kd.int .i64) (w0 := w) w.heap.size rfl (.tmp 48) (.tmp 51) 22 3 (.int .i64 0) 8 rfl Try.underlying22 info3 rfl (by decide) (by omega) v120 y119 y122 _ _ _ (fun k_ => some k_ ≠ (.slice (some ad106) x3_1.length co7 : Value).ownBlock) (fun _ => False) rfl rfl ?aO ?aR (fun _ _ h => h) (fun _ h => h.elim) ?aF ?aB ?aS ?aL ?_; (case aR => repeat (first | exact (by repeat (first | (with_reducible exact HR125.out) | (with_reducible refine Kd.C_alloc ?_ _) | (with_reducible refine Kd.C_drewN ?_ _) | (with_reducible refine Kd.C_drew ?_) | exact HR125.out)) | (with_reducible refine Kd.C_alloc ?_ _) | (with_reducible refine Kd.C_drewN ?_ _) | (with_reducible refine Kd.C_drew ?_))); (case aB => exact (by repeat (first | (with_reducible first | exact HB.out | apply below_alloc | apply pw_below_drewN | apply below_drew1) | exact HB.out))); (case aF => exact (fun k_ hk => Kd.fresh' (Kd.R_lt (by (with_reducible repeat (first | apply Kd.R_alloc | apply Kd.R_drewN | apply Kd.R_drew)); exact HO_3.out)) k_ hk)); (case aO => exact (by (with_reducible repeat (first | apply Kd.R_alloc | apply Kd.R_drewN | apply Kd.R_drew)); exact HO121.out)); (case aS => exact (below_size (by repeat (first | (with_reducible first | exact HB.out | apply below_alloc | apply pw_below_drewN | apply below_drew1) | exact HB.out)))); (case aL => have := LMc19.out; omega); intro v127 w26 ho hb hg hat; rw [← Ny126.out] at ho; have n0_ := Aside0.mk (Kd.R_after (ok := (fun _ => True)) (by (with_reducible repeat (first | apply Kd.R_alloc | apply Kd.R_drewN | apply Kd.R_drew)); exact HO_3.out) hg hat); have n1_ := Aside0.mk (hb); have n2_ := Aside0.mk ((show Kd.C (Kd.int .i64) w26 (some ad106) y111.length y111 from by rw [Ny111.out]; exact Kd.C_take (m := (x5_2 : Int).toNat) ((Kd.R_reads' (Kd.R_after (ok := (fun _ => True)) (by (with_reducible repeat (first | apply Kd.R_alloc | apply Kd.R_drewN | apply Kd.R_drew)); exact HO_3.out) hg hat)).2.2) KL22.out)); have n3_ := Aside0.mk ((show Kd.C (Kd.int .i64) w26 A25 y122.length y122 from by rw [Ny122.out, KA25.out]; exact Kd.C_drop (m := (x5_2 : Int).toNat) (c := co7) ((Kd.R_reads' (Kd.R_after (ok := (fun _ => True)) (by (with_reducible repeat (first | apply Kd.R_alloc | apply Kd.R_drewN | apply Kd.R_drew)); exact HO_3.out) hg hat)).2.2) KL25.out ((Kd.R_reads' (Kd.R_after (ok := (fun _ => True)) (by (with_reducible repeat (first | apply Kd.R_alloc | apply Kd.R_drewN | apply Kd.R_drew)); exact HO_3.out) hg hat)).2.1))); have n4_ := Aside0.mk (ho); clear HO_3; clear HB; clear HR114; clear HR125; clear HO121; have HO_3 := n0_; have HB := n1_; have HR114 := n2_; have HR125 := n3_; have HO128 := n4_; clear n0_ n1_ n2_ n3_ n4_; clear ho hb hg hat))
                                  repeat (go_quiet (first | ((with_reducible refine gate_dst (N := 36) rfl ?_); refine Kd.R_lit (Kd.int .i64) _ 3 ?hg (N := 36) ?hd (xs := ([] : List Int)) (inner := []) (ok := fun _ => True) (okp := fun _ => True) ?hr ?hp (fun _ hk => hk) trivial (Below.refl _ _) (Nat.le_refl _) (by simp) ?_; (case hd => rfl); (case hg => rfl); (case hr => first | (go_simp; done) | (go_simp; rfl)); (case hp => exact (Reps.none _ _)); intro v109 w20 ho21 hb hg_ hnew_; clear hg_ hnew_; (first | rw [← Ny108.out] at ho21 | (simp only [Int.reduceToNat] at ho21; rw [← Ny108.out] at ho21)); have n0_ := Aside0.mk (Kd.R_elder' (by (with_reducible repeat (first | apply Kd.R_alloc | apply Kd.R_drewN | apply Kd.R_drew)); exact HO_3.out) (Kd.R_base ho21) hb); have n1_ := Aside0.mk (Kd.R_lower (Kd.R_new' ho21 (Kd.R_lt (by (with_reducible repeat (first | apply Kd.R_alloc | apply Kd.R_drewN | apply Kd.R_drew)); exact HO_3.out))) (below_size (by repeat (first | (with_reducible first | exact HB.out | apply below_alloc | apply pw_below_drewN | apply below_drew1) | exact HB.out)))); have n2_ := Aside0.mk (below_step (by repeat (first | (with_reducible first | exact HB.out | apply below_alloc | apply pw_below_drewN | apply below_drew1) | exact HB.out)) hb); clear HO_3; clear HB; have HO_3 := n0_; have HO110 := n1_; have HB := n2_; clear n0_ n1_ n2_; clear hb ho21; have q22 : (x5_2 : Int) ≤ ((x3_1.length : Int) : Int) := of_decide_eq_true (by first | (with_reducible assumption) | assumption); obtain ⟨i022, hi022, _, hsz22, _⟩ := info_parts info3; have hroom22 : x3_1.length ≤ co7 := (Kd.R_reads' HO_3.out).2.1; have hC22 : Kd.C (Kd.int .i64) _ (some ad106) x3_1.length x3_1 := (Kd.R_reads' HO_3.out).2.2; have hcut22 := cut_to (P := Try.prog) 22 3 .i64 Try.underlying22 hi022 (some ad106) x3_1.length co7 x5_2 (of_decide_eq_true (by first | (with_reducible assumption) | assumption)) q22 hroom22; have hr22 := Kd.C_take (m := (x5_2 : Int).toNat) hC22 (by omega); have hy22 : y111.length = (x5_2 : Int).toNat := (by rw [Ny111.out, List.length_take]; omega); rw [← Ny111.out] at hr22; rw [← hy22] at hcut22; have HR114 := Aside0.mk hr22; have HC114 := Aside0.mk (show y111.length ≤ co7 from by omega); clear hr22 hC22 hroom22 hi022 hsz22; have KY22 := Aside0.mk hy22; clear hy22; have KL22 := Aside0.mk (show (x5_2 : Int).toNat ≤ x3_1.length from by omega); replace q22 := eq_true q22) | ((with_reducible refine gate_builtin (b := .append) (xs := #[.tmp 36, .tmp 39]) rfl ?_); at_builtin; refine Kd.R_append_rows (Kd.int .i64) (w0 := w) w.heap.size rfl (.tmp 36) (.tmp 39) 22 3 (.int .i64 0) 8 rfl Try.underlying22 info3 rfl (by decide) (by omega) v109 y108 y111 _ _ _ (fun k_ => some k_ ≠ (.slice (some ad106) x3_1.length co7 : Value).ownBlock) (fun _ => False) rfl rfl ?aO ?aR (fun _ _ h => h) (fun _ h => h.elim) ?aF ?aB ?aS ?aL ?_; (case aR => repeat (first | exact (by repeat (first | (with_reducible exact HR114.out) | (with_reducible refine Kd.C_alloc ?_ _) | (with_reducible refine Kd.C_drewN ?_ _) | (with_reducible refine Kd.C_drew ?_) | exact HR114.out)) | (with_reducible refine Kd.C_alloc ?_ _) | (with_reducible refine Kd.C_drewN ?_ _) | (with_reducible refine Kd.C_drew ?_))); (case aB => exact (by repeat (first | (with_reducible first | exact HB.out | apply below_alloc | apply pw_below_drewN | apply below_drew1) | exact HB.out))); (case aF => exact (fun k_ hk => Kd.fresh' (Kd.R_lt (by (with_reducible repeat (first | apply Kd.R_alloc | apply Kd.R_drewN | apply Kd.R_drew)); exact HO_3.out)) k_ hk)); (case aO => exact (by (with_reducible repeat (first | apply Kd.R_alloc | apply Kd.R_drewN | apply Kd.R_drew)); exact Kd.R_mono HO110.out (fun _ hk => hk.2))); (case aS => exact (below_size (by repeat (first | (with_reducible first | exact HB.out | apply below_alloc | apply pw_below_drewN | apply below_drew1) | exact HB.out)))); (case aL => have := LMc15.out; omega); intro v116 w23 ho hb hg hat; rw [← Ny115.out] at ho; have n0_ := Aside0.mk (Kd.R_after (ok := (fun _ => True)) (by (with_reducible repeat (first | apply Kd.R_alloc | apply Kd.R_drewN | apply Kd.R_drew)); exact HO_3.out) hg hat); have n1_ := Aside0.mk (hb); have n2_ := Aside0.mk ((show Kd.C (Kd.int .i64) w23 (some ad106) y111.length y111 from by rw [Ny111.out]; exact Kd.C_take (m := (x5_2 : Int).toNat) ((Kd.R_reads' (Kd.R_after (ok := (fun _ => True)) (by (with_reducible repeat (first | apply Kd.R_alloc | apply Kd.R_drewN | apply Kd.R_drew)); exact HO_3.out) hg hat)).2.2) KL22.out)); have n3_ := Aside0.mk (ho); clear HO_3; clear HB; clear HR114; clear HO110; have HO_3 := n0_; have HB := n1_; have HR114 := n2_; have HO117 := n3_; clear n0_ n1_ n2_ n3_; clear ho hb hg hat; have p118 : 0 ≤ (x4_1 : Int) := of_decide_eq_true (by first | (with_reducible assumption) | assumption); have q118 : x4_1 < (l0.length : Int) := of_decide_eq_true (by first | (with_reducible assumption) | assumption); obtain ⟨ad118, e118, hx118_0⟩ := Kd.at_int HR0.out x4_1 p118 q118; obtain rfl : ad104 = ad118 := (by injection e118); replace hx118_0 := (HB.out.cell (World.block_lt_of_cell? w _ hx118_0)).trans hx118_0; replace p118 := eq_true p118; replace q118 := eq_true q118) | ((with_reducible refine gate_builtin (b := .append) (xs := #[.tmp 41, .tmp 46]) rfl ?_); at_builtin; refine Kd.R_append (Kd.int .i64) (w0 := w) w.heap.size rfl (.tmp 41) (.tmp 46) 22 3 (.int .i64 0) 8 rfl Try.underlying22 info3 rfl (by decide) (by omega) v116 y115 (rd l0 x4_1) [.int .i64 (rd l0 x4_1)] (fun k_ => some k_ ≠ (.slice (some ad106) x3_1.length co7 : Value).ownBlock) (fun _ => False) rfl rfl ?aP (fun _ hk => hk.elim) ?aF ?aO ?aB ?aS ?aL ?_; (case aP => exact rfl); (case aB => exact (by repeat (first | (with_reducible first | exact HB.out | apply below_alloc | apply pw_below_drewN | apply below_drew1) | exact HB.out))); (case aF => exact (fun k_ hk => Kd.fresh' (Kd.R_lt (by (with_reducible repeat (first | apply Kd.R_alloc | apply Kd.R_drewN | apply Kd.R_drew)); exact HO_3.out)) k_ hk)); (case aO => exact (by (with_reducible repeat (first | apply Kd.R_alloc | apply Kd.R_drewN | apply Kd.R_drew)); exact HO117.out)); (case aS => exact (below_size (by repeat (first | (with_reducible first | exact HB.out | apply below_alloc | apply pw_below_drewN | apply below_drew1) | exact HB.out)))); (case aL => have := LMc16.out; omega); intro v120 w24 ho hb hg hat; rw [← Ny119.out] at ho; have n0_ := Aside0.mk (Kd.R_after (ok := (fun _ => True)) (by (with_reducible repeat (first | apply Kd.R_alloc | apply Kd.R_drewN | apply Kd.R_drew)); exact HO_3.out) hg hat); have n1_ := Aside0.mk (hb); have n2_ := Aside0.mk ((show Kd.C (Kd.int .i64) w24 (some ad106) y111.length y111 from by rw [Ny111.out]; exact Kd.C_take (m := (x5_2 : Int).toNat) ((Kd.R_reads' (Kd.R_after (ok := (fun _ => True)) (by (with_reducible repeat (first | apply Kd.R_alloc | apply Kd.R_drewN | apply Kd.R_drew)); exact HO_3.out) hg hat)).2.2) KL22.out)); have n3_ := Aside0.mk (ho); clear HO_3; clear HB; clear HR114; clear HO117; have HO_3 := n0_; have HB := n1_; have HR114 := n2_; have HO121 := n3_; clear n0_ n1_ n2_ n3_; clear ho hb hg hat; have q25 : (x5_2 : Int) ≤ ((x3_1.length : Int) : Int) := of_decide_eq_true (by first | (with_reducible assumption) | assumption); obtain ⟨i025, hi025, _, hsz25, _⟩ := info_parts info3; have hroom25 : x3_1.length ≤ co7 := (Kd.R_reads' HO_3.out).2.1; have hC25 : Kd.C (Kd.int .i64) _ (some ad106) x3_1.length x3_1 := (Kd.R_reads' HO_3.out).2.2; have q025 : (0 : Int) ≤ (x5_2 : Int) := of_decide_eq_true (by first | (with_reducible assumption) | assumption); have hcut25 := cut_from (P := Try.prog) 22 3 .i64 Try.underlying22 hi025 1 hsz25 (some ad106) x3_1.length co7 x5_2 q025 q25; have hr25 := Kd.C_drop (m := (x5_2 : Int).toNat) (c := co7) hC25 (by omega) hroom25; obtain ⟨A25, hA25⟩ : ∃ A1, A1 = (if co7 = (x5_2 : Int).toNat then (some ad106) else ((some ad106) : Option Addr).map (·.add ((x5_2 : Int).toNat * 1))) := ⟨_, rfl⟩; obtain ⟨c25, hc25⟩ : ∃ c1, c1 = co7 - (x5_2 : Int).toNat := ⟨_, rfl⟩; have hy25 : y122.length = x3_1.length - (x5_2 : Int).toNat := (by rw [Ny122.out, List.length_drop] <;> omega); rw [show (x3_1).drop (x5_2 : Int).toNat = y122 from Ny122.out.symm] at hr25; replace hr25 : Kd.C (Kd.int .i64) _ A25 y122.length y122 := (by rw [hA25]; exact hr25); rw [← hy25, ← hA25, ← hc25] at hcut25; have HR125 := Aside0.mk hr25; have HC125 := Aside0.mk (show y122.length ≤ c25 from by rw [hy25, hc25]; exact Nat.sub_le_sub_right hroom25 _); clear hr25 hC25 hroom25 hi025 hsz25 hc25; have KY25 := Aside0.mk hy25; have KA25 := Aside0.mk hA25; clear hy25 hA25; have KL25 := Aside0.mk (show (x5_2 : Int).toNat ≤ x3_1.length from by omega); replace q25 := eq_true q25) | ((with_reducible refine gate_builtin (b := .append) (xs := #[.tmp 48, .tmp 51]) rfl ?_); at_builtin; refine Kd.R_append_rows (Kd.int .i64) (w0 := w) w.heap.size rfl (.tmp 48) (.tmp 51) 22 3 (.int .i64 0) 8 rfl Try.underlying22 info3 rfl (by decide) (by omega) v120 y119 y122 _ _ _ (fun k_ => some k_ ≠ (.slice (some ad106) x3_1.length co7 : Value).ownBlock) (fun _ => False) rfl rfl ?aO ?aR (fun _ _ h => h) (fun _ h => h.elim) ?aF ?aB ?aS ?aL ?_; (case aR => repeat (first | exact (by repeat (first | (with_reducible exact HR125.out) | (with_reducible refine Kd.C_alloc ?_ _) | (with_reducible refine Kd.C_drewN ?_ _) | (with_reducible refine Kd.C_drew ?_) | exact HR125.out)) | (with_reducible refine Kd.C_alloc ?_ _) | (with_reducible refine Kd.C_drewN ?_ _) | (with_reducible refine Kd.C_drew ?_))); (case aB => exact (by repeat (first | (with_reducible first | exact HB.out | apply below_alloc | apply pw_below_drewN | apply below_drew1) | exact HB.out))); (case aF => exact (fun k_ hk => Kd.fresh' (Kd.R_lt (by (with_reducible repeat (first | apply Kd.R_alloc | apply Kd.R_drewN | apply Kd.R_drew)); exact HO_3.out)) k_ hk)); (case aO => exact (by (with_reducible repeat (first | apply Kd.R_alloc | apply Kd.R_drewN | apply Kd.R_drew)); exact HO121.out)); (case aS => exact (below_size (by repeat (first | (with_reducible first | exact HB.out | apply below_alloc | apply pw_below_drewN | apply below_drew1) | exact HB.out)))); (case aL => have := LMc19.out; omega); intro v127 w26 ho hb hg hat; rw [← Ny126.out] at ho; have n0_ := Aside0.mk (Kd.R_after (ok := (fun _ => True)) (by (with_reducible repeat (first | apply Kd.R_alloc | apply Kd.R_drewN | apply Kd.R_drew)); exact HO_3.out) hg hat); have n1_ := Aside0.mk (hb); have n2_ := Aside0.mk ((show Kd.C (Kd.int .i64) w26 (some ad106) y111.length y111 from by rw [Ny111.out]; exact Kd.C_take (m := (x5_2 : Int).toNat) ((Kd.R_reads' (Kd.R_after (ok := (fun _ => True)) (by (with_reducible repeat (first | apply Kd.R_alloc | apply Kd.R_drewN | apply Kd.R_drew)); exact HO_3.out) hg hat)).2.2) KL22.out)); have n3_ := Aside0.mk ((show Kd.C (Kd.int .i64) w26 A25 y122.length y122 from by rw [Ny122.out, KA25.out]; exact Kd.C_drop (m := (x5_2 : Int).toNat) (c := co7) ((Kd.R_reads' (Kd.R_after (ok := (fun _ => True)) (by (with_reducible repeat (first | apply Kd.R_alloc | apply Kd.R_drewN | apply Kd.R_drew)); exact HO_3.out) hg hat)).2.2) KL25.out ((Kd.R_reads' (Kd.R_after (ok := (fun _ => True)) (by (with_reducible repeat (first | apply Kd.R_alloc | apply Kd.R_drewN | apply Kd.R_drew)); exact HO_3.out) hg hat)).2.1))); have n4_ := Aside0.mk (ho); clear HO_3; clear HB; clear HR114; clear HR125; clear HO121; have HO_3 := n0_; have HB := n1_; have HR114 := n2_; have HR125 := n3_; have HO128 := n4_; clear n0_ n1_ n2_ n3_ n4_; clear ho hb hg hat)); try go_wp2_with (first | ((with_reducible refine gate_dst (N := 36) rfl ?_); refine Kd.R_lit (Kd.int .i64) _ 3 ?hg (N := 36) ?hd (xs := ([] : List Int)) (inner := []) (ok := fun _ => True) (okp := fun _ => True) ?hr ?hp (fun _ hk => hk) trivial (Below.refl _ _) (Nat.le_refl _) (by simp) ?_; (case hd => rfl); (case hg => rfl); (case hr => first | (go_simp; done) | (go_simp; rfl)); (case hp => exact (Reps.none _ _)); intro v109 w20 ho21 hb hg_ hnew_; clear hg_ hnew_; (first | rw [← Ny108.out] at ho21 | (simp only [Int.reduceToNat] at ho21; rw [← Ny108.out] at ho21)); have n0_ := Aside0.mk (Kd.R_elder' (by (with_reducible repeat (first | apply Kd.R_alloc | apply Kd.R_drewN | apply Kd.R_drew)); exact HO_3.out) (Kd.R_base ho21) hb); have n1_ := Aside0.mk (Kd.R_lower (Kd.R_new' ho21 (Kd.R_lt (by (with_reducible repeat (first | apply Kd.R_alloc | apply Kd.R_drewN | apply Kd.R_drew)); exact HO_3.out))) (below_size (by repeat (first | (with_reducible first | exact HB.out | apply below_alloc | apply pw_below_drewN | apply below_drew1) | exact HB.out)))); have n2_ := Aside0.mk (below_step (by repeat (first | (with_reducible first | exact HB.out | apply below_alloc | apply pw_below_drewN | apply below_drew1) | exact HB.out)) hb); clear HO_3; clear HB; have HO_3 := n0_; have HO110 := n1_; have HB := n2_; clear n0_ n1_ n2_; clear hb ho21; have q22 : (x5_2 : Int) ≤ ((x3_1.length : Int) : Int) := of_decide_eq_true (by first | (with_reducible assumption) | assumption); obtain ⟨i022, hi022, _, hsz22, _⟩ := info_parts info3; have hroom22 : x3_1.length ≤ co7 := (Kd.R_reads' HO_3.out).2.1; have hC22 : Kd.C (Kd.int .i64) _ (some ad106) x3_1.length x3_1 := (Kd.R_reads' HO_3.out).2.2; have hcut22 := cut_to (P := Try.prog) 22 3 .i64 Try.underlying22 hi022 (some ad106) x3_1.length co7 x5_2 (of_decide_eq_true (by first | (with_reducible assumption) | assumption)) q22 hroom22; have hr22 := Kd.C_take (m := (x5_2 : Int).toNat) hC22 (by omega); have hy22 : y111.length = (x5_2 : Int).toNat := (by rw [Ny111.out, List.length_take]; omega); rw [← Ny111.out] at hr22; rw [← hy22] at hcut22; have HR114 := Aside0.mk hr22; have HC114 := Aside0.mk (show y111.length ≤ co7 from by omega); clear hr22 hC22 hroom22 hi022 hsz22; have KY22 := Aside0.mk hy22; clear hy22; have KL22 := Aside0.mk (show (x5_2 : Int).toNat ≤ x3_1.length from by omega); replace q22 := eq_true q22) | ((with_reducible refine gate_builtin (b := .append) (xs := #[.tmp 36, .tmp 39]) rfl ?_); at_builtin; refine Kd.R_append_rows (Kd.int .i64) (w0 := w) w.heap.size rfl (.tmp 36) (.tmp 39) 22 3 (.int .i64 0) 8 rfl Try.underlying22 info3 rfl (by decide) (by omega) v109 y108 y111 _ _ _ (fun k_ => some k_ ≠ (.slice (some ad106) x3_1.length co7 : Value).ownBlock) (fun _ => False) rfl rfl ?aO ?aR (fun _ _ h => h) (fun _ h => h.elim) ?aF ?aB ?aS ?aL ?_; (case aR => repeat (first | exact (by repeat (first | (with_reducible exact HR114.out) | (with_reducible refine Kd.C_alloc ?_ _) | (with_reducible refine Kd.C_drewN ?_ _) | (with_reducible refine Kd.C_drew ?_) | exact HR114.out)) | (with_reducible refine Kd.C_alloc ?_ _) | (with_reducible refine Kd.C_drewN ?_ _) | (with_reducible refine Kd.C_drew ?_))); (case aB => exact (by repeat (first | (with_reducible first | exact HB.out | apply below_alloc | apply pw_below_drewN | apply below_drew1) | exact HB.out))); (case aF => exact (fun k_ hk => Kd.fresh' (Kd.R_lt (by (with_reducible repeat (first | apply Kd.R_alloc | apply Kd.R_drewN | apply Kd.R_drew)); exact HO_3.out)) k_ hk)); (case aO => exact (by (with_reducible repeat (first | apply Kd.R_alloc | apply Kd.R_drewN | apply Kd.R_drew)); exact Kd.R_mono HO110.out (fun _ hk => hk.2))); (case aS => exact (below_size (by repeat (first | (with_reducible first | exact HB.out | apply below_alloc | apply pw_below_drewN | apply below_drew1) | exact HB.out)))); (case aL => have := LMc15.out; omega); intro v116 w23 ho hb hg hat; rw [← Ny115.out] at ho; have n0_ := Aside0.mk (Kd.R_after (ok := (fun _ => True)) (by (with_reducible repeat (first | apply Kd.R_alloc | apply Kd.R_drewN | apply Kd.R_drew)); exact HO_3.out) hg hat); have n1_ := Aside0.mk (hb); have n2_ := Aside0.mk ((show Kd.C (Kd.int .i64) w23 (some ad106) y111.length y111 from by rw [Ny111.out]; exact Kd.C_take (m := (x5_2 : Int).toNat) ((Kd.R_reads' (Kd.R_after (ok := (fun _ => True)) (by (with_reducible repeat (first | apply Kd.R_alloc | apply Kd.R_drewN | apply Kd.R_drew)); exact HO_3.out) hg hat)).2.2) KL22.out)); have n3_ := Aside0.mk (ho); clear HO_3; clear HB; clear HR114; clear HO110; have HO_3 := n0_; have HB := n1_; have HR114 := n2_; have HO117 := n3_; clear n0_ n1_ n2_ n3_; clear ho hb hg hat; have p118 : 0 ≤ (x4_1 : Int) := of_decide_eq_true (by first | (with_reducible assumption) | assumption); have q118 : x4_1 < (l0.length : Int) := of_decide_eq_true (by first | (with_reducible assumption) | assumption); obtain ⟨ad118, e118, hx118_0⟩ := Kd.at_int HR0.out x4_1 p118 q118; obtain rfl : ad104 = ad118 := (by injection e118); replace hx118_0 := (HB.out.cell (World.block_lt_of_cell? w _ hx118_0)).trans hx118_0; replace p118 := eq_true p118; replace q118 := eq_true q118) | ((with_reducible refine gate_builtin (b := .append) (xs := #[.tmp 41, .tmp 46]) rfl ?_); at_builtin; refine Kd.R_append (Kd.int .i64) (w0 := w) w.heap.size rfl (.tmp 41) (.tmp 46) 22 3 (.int .i64 0) 8 rfl Try.underlying22 info3 rfl (by decide) (by omega) v116 y115 (rd l0 x4_1) [.int .i64 (rd l0 x4_1)] (fun k_ => some k_ ≠ (.slice (some ad106) x3_1.length co7 : Value).ownBlock) (fun _ => False) rfl rfl ?aP (fun _ hk => hk.elim) ?aF ?aO ?aB ?aS ?aL ?_; (case aP => exact rfl); (case aB => exact (by repeat (first | (with_reducible first | exact HB.out | apply below_alloc | apply pw_below_drewN | apply below_drew1) | exact HB.out))); (case aF => exact (fun k_ hk => Kd.fresh' (Kd.R_lt (by (with_reducible repeat (first | apply Kd.R_alloc | apply Kd.R_drewN | apply Kd.R_drew)); exact HO_3.out)) k_ hk)); (case aO => exact (by (with_reducible repeat (first | apply Kd.R_alloc | apply Kd.R_drewN | apply Kd.R_drew)); exact HO117.out)); (case aS => exact (below_size (by repeat (first | (with_reducible first | exact HB.out | apply below_alloc | apply pw_below_drewN | apply below_drew1) | exact HB.out)))); (case aL => have := LMc16.out; omega); intro v120 w24 ho hb hg hat; rw [← Ny119.out] at ho; have n0_ := Aside0.mk (Kd.R_after (ok := (fun _ => True)) (by (with_reducible repeat (first | apply Kd.R_alloc | apply Kd.R_drewN | apply Kd.R_drew)); exact HO_3.out) hg hat); have n1_ := Aside0.mk (hb); have n2_ := Aside0.mk ((show Kd.C (Kd.int .i64) w24 (some ad106) y111.length y111 from by rw [Ny111.out]; exact Kd.C_take (m := (x5_2 : Int).toNat) ((Kd.R_reads' (Kd.R_after (ok := (fun _ => True)) (by (with_reducible repeat (first | apply Kd.R_alloc | apply Kd.R_drewN | apply Kd.R_drew)); exact HO_3.out) hg hat)).2.2) KL22.out)); have n3_ := Aside0.mk (ho); clear HO_3; clear HB; clear HR114; clear HO117; have HO_3 := n0_; have HB := n1_; have HR114 := n2_; have HO121 := n3_; clear n0_ n1_ n2_ n3_; clear ho hb hg hat; have q25 : (x5_2 : Int) ≤ ((x3_1.length : Int) : Int) := of_decide_eq_true (by first | (with_reducible assumption) | assumption); obtain ⟨i025, hi025, _, hsz25, _⟩ := info_parts info3; have hroom25 : x3_1.length ≤ co7 := (Kd.R_reads' HO_3.out).2.1; have hC25 : Kd.C (Kd.int .i64) _ (some ad106) x3_1.length x3_1 := (Kd.R_reads' HO_3.out).2.2; have q025 : (0 : Int) ≤ (x5_2 : Int) := of_decide_eq_true (by first | (with_reducible assumption) | assumption); have hcut25 := cut_from (P := Try.prog) 22 3 .i64 Try.underlying22 hi025 1 hsz25 (some ad106) x3_1.length co7 x5_2 q025 q25; have hr25 := Kd.C_drop (m := (x5_2 : Int).toNat) (c := co7) hC25 (by omega) hroom25; obtain ⟨A25, hA25⟩ : ∃ A1, A1 = (if co7 = (x5_2 : Int).toNat then (some ad106) else ((some ad106) : Option Addr).map (·.add ((x5_2 : Int).toNat * 1))) := ⟨_, rfl⟩; obtain ⟨c25, hc25⟩ : ∃ c1, c1 = co7 - (x5_2 : Int).toNat := ⟨_, rfl⟩; have hy25 : y122.length = x3_1.length - (x5_2 : Int).toNat := (by rw [Ny122.out, List.length_drop] <;> omega); rw [show (x3_1).drop (x5_2 : Int).toNat = y122 from Ny122.out.symm] at hr25; replace hr25 : Kd.C (Kd.int .i64) _ A25 y122.length y122 := (by rw [hA25]; exact hr25); rw [← hy25, ← hA25, ← hc25] at hcut25; have HR125 := Aside0.mk hr25; have HC125 := Aside0.mk (show y122.length ≤ c25 from by rw [hy25, hc25]; exact Nat.sub_le_sub_right hroom25 _); clear hr25 hC25 hroom25 hi025 hsz25 hc25; have KY25 := Aside0.mk hy25; have KA25 := Aside0.mk hA25; clear hy25 hA25; have KL25 := Aside0.mk (show (x5_2 : Int).toNat ≤ x3_1.length from by omega); replace q25 := eq_true q25) | ((with_reducible refine gate_builtin (b := .append) (xs := #[.tmp 48, .tmp 51]) rfl ?_); at_builtin; refine Kd.R_append_rows (Kd.int .i64) (w0 := w) w.heap.size rfl (.tmp 48) (.tmp 51) 22 3 (.int .i64 0) 8 rfl Try.underlying22 info3 rfl (by decide) (by omega) v120 y119 y122 _ _ _ (fun k_ => some k_ ≠ (.slice (some ad106) x3_1.length co7 : Value).ownBlock) (fun _ => False) rfl rfl ?aO ?aR (fun _ _ h => h) (fun _ h => h.elim) ?aF ?aB ?aS ?aL ?_; (case aR => repeat (first | exact (by repeat (first | (with_reducible exact HR125.out) | (with_reducible refine Kd.C_alloc ?_ _) | (with_reducible refine Kd.C_drewN ?_ _) | (with_reducible refine Kd.C_drew ?_) | exact HR125.out)) | (with_reducible refine Kd.C_alloc ?_ _) | (with_reducible refine Kd.C_drewN ?_ _) | (with_reducible refine Kd.C_drew ?_))); (case aB => exact (by repeat (first | (with_reducible first | exact HB.out | apply below_alloc | apply pw_below_drewN | apply below_drew1) | exact HB.out))); (case aF => exact (fun k_ hk => Kd.fresh' (Kd.R_lt (by (with_reducible repeat (first | apply Kd.R_alloc | apply Kd.R_drewN | apply Kd.R_drew)); exact HO_3.out)) k_ hk)); (case aO => exact (by (with_reducible repeat (first | apply Kd.R_alloc | apply Kd.R_drewN | apply Kd.R_drew)); exact HO121.out)); (case aS => exact (below_size (by repeat (first | (with_reducible first | exact HB.out | apply below_alloc | apply pw_below_drewN | apply below_drew1) | exact HB.out)))); (case aL => have := LMc19.out; omega); intro v127 w26 ho hb hg hat; rw [← Ny126.out] at ho; have n0_ := Aside0.mk (Kd.R_after (ok := (fun _ => True)) (by (with_reducible repeat (first | apply Kd.R_alloc | apply Kd.R_drewN | apply Kd.R_drew)); exact HO_3.out) hg hat); have n1_ := Aside0.mk (hb); have n2_ := Aside0.mk ((show Kd.C (Kd.int .i64) w26 (some ad106) y111.length y111 from by rw [Ny111.out]; exact Kd.C_take (m := (x5_2 : Int).toNat) ((Kd.R_reads' (Kd.R_after (ok := (fun _ => True)) (by (with_reducible repeat (first | apply Kd.R_alloc | apply Kd.R_drewN | apply Kd.R_drew)); exact HO_3.out) hg hat)).2.2) KL22.out)); have n3_ := Aside0.mk ((show Kd.C (Kd.int .i64) w26 A25 y122.length y122 from by rw [Ny122.out, KA25.out]; exact Kd.C_drop (m := (x5_2 : Int).toNat) (c := co7) ((Kd.R_reads' (Kd.R_after (ok := (fun _ => True)) (by (with_reducible repeat (first | apply Kd.R_alloc | apply Kd.R_drewN | apply Kd.R_drew)); exact HO_3.out) hg hat)).2.2) KL25.out ((Kd.R_reads' (Kd.R_after (ok := (fun _ => True)) (by (with_reducible repeat (first | apply Kd.R_alloc | apply Kd.R_drewN | apply Kd.R_drew)); exact HO_3.out) hg hat)).2.1))); have n4_ := Aside0.mk (ho); clear HO_3; clear HB; clear HR114; clear HR125; clear HO121; have HO_3 := n0_; have HB := n1_; have HR114 := n2_; have HR125 := n3_; have HO128 := n4_; clear n0_ n1_ n2_ n3_ n4_; clear ho hb hg hat)))
                                  go_roundg k2
                                  case measure => have := HK1.out; have := HK2.out; omega
                                  case rel => exact ⟨(y126), (wrap64 (x4_1 + 1)), (by first | rfl | (simp; done) | (simp [*]; done)), H', ⟨by have := HK1.out; have := HK2.out; omega⟩, ⟨by (with_reducible repeat (first | apply Kd.R_alloc | apply Kd.R_drewN | apply Kd.R_drew)); exact Kd.R_mono HO128.out (fun _ hk => trivial)⟩, ⟨by repeat (first | (with_reducible first | exact HB.out | apply below_alloc | apply pw_below_drewN | apply below_drew1) | exact HB.out)⟩⟩
                                · rw [if_neg c19] at H
                                  exact absurd H (by simp)
                              · rw [if_neg c16] at H
                                exact absurd H (by simp)
                            · rw [if_neg c15] at H
                              exact absurd H (by simp)
                          · rw [if_neg c14] at H
                            exact absurd H (by simp)
                      · rw [if_neg c11] at H
                        exact absurd H (by simp)
                    · rw [if_neg c10] at H
                      exact absurd H (by simp)
                  · rw [if_neg c9] at H
                    exact absurd H (by simp)
                · rw [if_neg c8] at H
                  have c8b0 : decide (x5_2 < (x3_1.length : Int)) = false := decide_eq_false c8
                  clear c8
                  obtain ⟨y129, hy129⟩ : ∃ y_ : List Int, y_ = (([] : List Int)) := ⟨_, rfl⟩
                  replace H : (if 0 ≤ x5_2 then (if x5_2 ≤ (x3_1.length : Int) then ((some (x3_1.take (x5_2 : Int).toNat : List Int)).bind fun y132 => (if y129.length + y132.length < 17592186044416 then ((some (y129 ++ y132 : List Int)).bind fun y136 => (if 0 ≤ x4_1 then (if x4_1 < (l0.length : Int) then (if y136.length < 17592186044416 then ((some (y136 ++ [rd l0 x4_1] : List Int)).bind fun y140 => ((some (x3_1.drop (x5_2 : Int).toNat : List Int)).bind fun y143 => (if y140.length + y143.length < 17592186044416 then (spec_Keys_int.l0 k2 l0 (y140 ++ y143) (wrap64 (x4_1 + 1))) else (none)))) else (none)) else (none)) else (none))) else (none))) else (none)) else (none)) = some r := by first | (rw [hy129]; with_reducible exact H) | (have H2_ := (Option.bind_some _ _).symm.trans H; rw [hy129]; with_reducible exact H2_) | (have H2_ := (Option.bind_some _ _).symm.trans H; with_reducible exact H2_) | with_reducible exact H | (rw [hy129]; exact H) | exact H
                  have Ny129 := Aside0.mk hy129
                  clear hy129
                  by_cases c27 : 0 ≤ x5_2
                  · rw [if_pos c27] at H
                    have c27b0 := eq_true c27
                    have c27b1 : decide (0 ≤ x5_2) = true := decide_eq_true c27
                    clear c27
                    by_cases c28 : x5_2 ≤ (x3_1.length : Int)
                    · rw [if_pos c28] at H
                      have c28b0 := eq_true c28
                      have c28b1 : decide (x5_2 ≤ (x3_1.length : Int)) = true := decide_eq_true c28
                      clear c28
                      obtain ⟨y132, hy132⟩ : ∃ y_ : List Int, y_ = (x3_1.take (x5_2 : Int).toNat) := ⟨_, rfl⟩
                      replace H : (if y129.length + y132.length < 17592186044416 then ((some (y129 ++ y132 : List Int)).bind fun y136 => (if 0 ≤ x4_1 then (if x4_1 < (l0.length : Int) then (if y136.length < 17592186044416 then ((some (y136 ++ [rd l0 x4_1] : List Int)).bind fun y140 => ((some (x3_1.drop (x5_2 : Int).toNat : List Int)).bind fun y143 => (if y140.length + y143.length < 17592186044416 then (spec_Keys_int.l0 k2 l0 (y140 ++ y143) (wrap64 (x4_1 + 1))) else (none)))) else (none)) else (none)) else (none))) else (none)) = some r := by first | (rw [hy132]; with_reducible exact H) | (have H2_ := (Option.bind_some _ _).symm.trans H; rw [hy132]; with_reducible exact H2_) | (have H2_ := (Option.bind_some _ _).symm.trans H; with_reducible exact H2_) | with_reducible exact H | (rw [hy132]; exact H) | exact H
                      have Ny132 := Aside0.mk hy132
                      clear hy132
                      by_cases c29 : y129.length + y132.length < 17592186044416
                      · rw [if_pos c29] at H
                        have LMc29 := Aside0.mk c29
                        clear c29
                        obtain ⟨y136, hy136⟩ : ∃ y_ : List Int, y_ = (y129 ++ y132) := ⟨_, rfl⟩
                        replace H : (if 0 ≤ x4_1 then (if x4_1 < (l0.length : Int) then (if y136.length < 17592186044416 then ((some (y136 ++ [rd l0 x4_1] : List Int)).bind fun y140 => ((some (x3_1.drop (x5_2 : Int).toNat : List Int)).bind fun y143 => (if y140.length + y143.length < 17592186044416 then (spec_Keys_int.l0 k2 l0 (y140 ++ y143) (wrap64 (x4_1 + 1))) else (none)))) else (none)) else (none)) else (none)) = some r := by first | (rw [hy136]; with_reducible exact H) | (have H2_ := (Option.bind_some _ _).symm.trans H; rw [hy136]; with_reducible exact H2_) | (have H2_ := (Option.bind_some _ _).symm.trans H; with_reducible exact H2_) | with_reducible exact H | (rw [hy136]; exact H) | exact H
                        have Ny136 := Aside0.mk hy136
                        clear hy136
                        by_cases c30 : 0 ≤ x4_1
                        · rw [if_pos c30] at H
                          have c30b0 : decide (0 ≤ x4_1) = true := decide_eq_true c30
                          clear c30
                          by_cases c31 : x4_1 < (l0.length : Int)
                          · rw [if_pos c31] at H
                            have c31b0 : decide (x4_1 < (l0.length : Int)) = true := decide_eq_true c31
                            clear c31
                            by_cases c32 : y136.length < 17592186044416
                            · rw [if_pos c32] at H
                              have LMc32 := Aside0.mk c32
                              clear c32
                              obtain ⟨y140, hy140⟩ : ∃ y_ : List Int, y_ = (y136 ++ [rd l0 x4_1]) := ⟨_, rfl⟩
                              replace H : ((some (x3_1.drop (x5_2 : Int).toNat : List Int)).bind fun y143 => (if y140.length + y143.length < 17592186044416 then (spec_Keys_int.l0 k2 l0 (y140 ++ y143) (wrap64 (x4_1 + 1))) else (none))) = some r := by first | (rw [hy140]; with_reducible exact H) | (have H2_ := (Option.bind_some _ _).symm.trans H; rw [hy140]; with_reducible exact H2_) | (have H2_ := (Option.bind_some _ _).symm.trans H; with_reducible exact H2_) | with_reducible exact H | (rw [hy140]; exact H) | exact H
                              have Ny140 := Aside0.mk hy140
                              clear hy140
                              have c33b0 := eq_true (of_decide_eq_true (by first | (with_reducible assumption) | assumption) : 0 ≤ x5_2)
                              have c34b0 := eq_true (of_decide_eq_true (by first | (with_reducible assumption) | assumption) : x5_2 ≤ (x3_1.length : Int))
                              obtain ⟨y143, hy143⟩ : ∃ y_ : List Int, y_ = (x3_1.drop (x5_2 : Int).toNat) := ⟨_, rfl⟩
                              replace H : (if y140.length + y143.length < 17592186044416 then (spec_Keys_int.l0 k2 l0 (y140 ++ y143) (wrap64 (x4_1 + 1))) else (none)) = some r := by first | (rw [hy143]; with_reducible exact H) | (have H2_ := (Option.bind_some _ _).symm.trans H; rw [hy143]; with_reducible exact H2_) | (have H2_ := (Option.bind_some _ _).symm.trans H; with_reducible exact H2_) | with_reducible exact H | (rw [hy143]; exact H) | exact H
                              have Ny143 := Aside0.mk hy143
                              clear hy143
                              by_cases c35 : y140.length + y143.length < 17592186044416
                              · rw [if_pos c35] at H
                                have LMc35 := Aside0.mk c35
                                clear c35
                                obtain ⟨y147, hy147⟩ : ∃ y_ : List Int, y_ = (y140 ++ y143) := ⟨_, rfl⟩
                                replace H : (spec_Keys_int.l0 k2 l0 y147 (wrap64 (x4_1 + 1))) = some r := by first | (rw [hy147]; with_reducible exact H) | (have H2_ := (Option.bind_some _ _).symm.trans H; rw [hy147]; with_reducible exact H2_) | (have H2_ := (Option.bind_some _ _).symm.trans H; with_reducible exact H2_) | with_reducible exact H | (rw [hy147]; exact H) | exact H
                                have Ny147 := Aside0.mk hy147
                                clear hy147
                                have H' := Aside0.mk H
                                clear H
                                go_wp2_with (first | ((with_reducible refine gate_dst (N := 36) rfl ?_); refine Kd.R_lit (Kd.int .i64) _ 3 ?hg (N := 36) ?hd (xs := ([] : List Int)) (inner := []) (ok := fun _ => True) (okp := fun _ => True) ?hr ?hp (fun _ hk => hk) trivial (Below.refl _ _) (Nat.le_refl _) (by simp) ?_; (case hd => rfl); (case hg => rfl); (case hr => first | (go_simp; done) | (go_simp; rfl)); (case hp => exact (Reps.none _ _)); intro v130 w36 ho37 hb hg_ hnew_; clear hg_ hnew_; (first | rw [← Ny129.out] at ho37 | (simp only [Int.reduceToNat] at ho37; rw [← Ny129.out] at ho37)); have n0_ := Aside0.mk (Kd.R_elder' (by (with_reducible repeat (first | apply Kd.R_alloc | apply Kd.R_drewN | apply Kd.R_drew)); exact HO_3.out) (Kd.R_base ho37) hb); have n1_ := Aside0.mk (Kd.R_lower (Kd.R_new' ho37 (Kd.R_lt (by (with_reducible repeat (first | apply Kd.R_alloc | apply Kd.R_drewN | apply Kd.R_drew)); exact HO_3.out))) (below_size (by repeat (first | (with_reducible first | exact HB.out | apply below_alloc | apply pw_below_drewN | apply below_drew1) | exact HB.out)))); have n2_ := Aside0.mk (below_step (by repeat (first | (with_reducible first | exact HB.out | apply below_alloc | apply pw_below_drewN | apply below_drew1) | exact HB.out)) hb); clear HO_3; clear HB; have HO_3 := n0_; have HO131 := n1_; have HB := n2_; clear n0_ n1_ n2_; clear hb ho37; have q38 : (x5_2 : Int) ≤ ((x3_1.length : Int) : Int) := of_decide_eq_true (by first | (with_reducible assumption) | assumption); obtain ⟨i038, hi038, _, hsz38, _⟩ := info_parts info3; have hroom38 : x3_1.length ≤ co7 := (Kd.R_reads' HO_3.out).2.1; have hC38 : Kd.C (Kd.int .i64) _ Ao7 x3_1.length x3_1 := (Kd.R_reads' HO_3.out).2.2; have hcut38 := cut_to (P := Try.prog) 22 3 .i64 Try.underlying22 hi038 Ao7 x3_1.length co7 x5_2 (of_decide_eq_true (by first | (with_reducible assumption) | assumption)) q38 hroom38; have hr38 := Kd.C_take (m := (x5_2 : Int).toNat) hC38 (by omega); have hy38 : y132.length = (x5_2 : Int).toNat := (by rw [Ny132.out, List.length_take]; omega); rw [← Ny132.out] at hr38; rw [← hy38] at hcut38; have HR135 := Aside0.mk hr38; have HC135 := Aside0.mk (show y132.length ≤ co7 from by omega); clear hr38 hC38 hroom38 hi038 hsz38; have KY38 := Aside0.mk hy38; clear hy38; have KL38 := Aside0.mk (show (x5_2 : Int).toNat ≤ x3_1.length from by omega); replace q38 := eq_true q38) | ((with_reducible refine gate_builtin (b := .append) (xs := #[.tmp 36, .tmp 39]) rfl ?_); at_builtin; refine Kd.R_append_rows (Kd.int .i64) (w0 := w) w.heap.size rfl (.tmp 36) (.tmp 39) 22 3 (.int .i64 0) 8 rfl Try.underlying22 info3 rfl (by decide) (by omega) v130 y129 y132 _ _ _ (fun k_ => some k_ ≠ (.slice Ao7 x3_1.length co7 : Value).ownBlock) (fun _ => False) rfl rfl ?aO ?aR (fun _ _ h => h) (fun _ h => h.elim) ?aF ?aB ?aS ?aL ?_; (case aR => repeat (first | exact (by repeat (first | (with_reducible exact HR135.out) | (with_reducible refine Kd.C_alloc ?_ _) | (with_reducible refine Kd.C_drewN ?_ _) | (with_reducible refine Kd.C_drew ?_) | exact HR135.out)) | (with_reducible refine Kd.C_alloc ?_ _) | (with_reducible refine Kd.C_drewN ?_ _) | (with_reducible refine Kd.C_drew ?_))); (case aB => exact (by repeat (first | (with_reducible first | exact HB.out | apply below_alloc | apply pw_below_drewN | apply below_drew1) | exact HB.out))); (case aF => exact (fun k_ hk => Kd.fresh' (Kd.R_lt (by (with_reducible repeat (first | apply Kd.R_alloc | apply Kd.R_drewN | apply Kd.R_drew)); exact HO_3.out)) k_ hk)); (case aO => exact (by (with_reducible repeat (first | apply Kd.R_alloc | apply Kd.R_drewN | apply Kd.R_drew)); exact Kd.R_mono HO131.out (fun _ hk => hk.2))); (case aS => exact (below_size (by repeat (first | (with_reducible first | exact HB.out | apply below_alloc | apply pw_below_drewN | apply below_drew1) | exact HB.out)))); (case aL => have := LMc29.out; omega); intro v137 w39 ho hb hg hat; rw [← Ny136.out] at ho; have n0_ := Aside0.mk (Kd.R_after (ok := (fun _ => True)) (by (with_reducible repeat (first | apply Kd.R_alloc | apply Kd.R_drewN | apply Kd.R_drew)); exact HO_3.out) hg hat); have n1_ := Aside0.mk (hb); have n2_ := Aside0.mk ((show Kd.C (Kd.int .i64) w39 Ao7 y132.length y132 from by rw [Ny132.out]; exact Kd.C_take (m := (x5_2 : Int).toNat) ((Kd.R_reads' (Kd.R_after (ok := (fun _ => True)) (by (with_reducible repeat (first | apply Kd.R_alloc | apply Kd.R_drewN | apply Kd.R_drew)); exact HO_3.out) hg hat)).2.2) KL38.out)); have n3_ := Aside0.mk (ho); clear HO_3; clear HB; clear HR135; clear HO131; have HO_3 := n0_; have HB := n1_; have HR135 := n2_; have HO138 := n3_; clear n0_ n1_ n2_ n3_; clear ho hb hg hat; have p139 : 0 ≤ (x4_1 : Int) := of_decide_eq_true (by first | (with_reducible assumption) | assumption); have q139 : x4_1 < (l0.length : Int) := of_decide_eq_true (by first | (with_reducible assumption) | assumption); obtain ⟨ad139, e139, hx139_0⟩ := Kd.at_int HR0.out x4_1 p139 q139; obtain rfl : ad104 = ad139 := (by injection e139); replace hx139_0 := (HB.out.cell (World.block_lt_of_cell? w _ hx139_0)).trans hx139_0; replace p139 := eq_true p139; replace q139 := eq_true q139) | ((with_reducible refine gate_builtin (b := .append) (xs := #[.tmp 41, .tmp 46]) rfl ?_); at_builtin; refine Kd.R_append (Kd.int .i64) (w0 := w) w.heap.size rfl (.tmp 41) (.tmp 46) 22 3 (.int .i64 0) 8 rfl Try.underlying22 info3 rfl (by decide) (by omega) v137 y136 (rd l0 x4_1) [.int .i64 (rd l0 x4_1)] (fun k_ => some k_ ≠ (.slice Ao7 x3_1.length co7 : Value).ownBlock) (fun _ => False) rfl rfl ?aP (fun _ hk => hk.elim) ?aF ?aO ?aB ?aS ?aL ?_; (case aP => exact rfl); (case aB => exact (by repeat (first | (with_reducible first | exact HB.out | apply below_alloc | apply pw_below_drewN | apply below_drew1) | exact HB.out))); (case aF => exact (fun k_ hk => Kd.fresh' (Kd.R_lt (by (with_reducible repeat (first | apply Kd.R_alloc | apply Kd.R_drewN | apply Kd.R_drew)); exact HO_3.out)) k_ hk)); (case aO => exact (by (with_reducible repeat (first | apply Kd.R_alloc | apply Kd.R_drewN | apply Kd.R_drew)); exact HO138.out)); (case aS => exact (below_size (by repeat (first | (with_reducible first | exact HB.out | apply below_alloc | apply pw_below_drewN | apply below_drew1) | exact HB.out)))); (case aL => have := LMc32.out; omega); intro v141 w40 ho hb hg hat; rw [← Ny140.out] at ho; have n0_ := Aside0.mk (Kd.R_after (ok := (fun _ => True)) (by (with_reducible repeat (first | apply Kd.R_alloc | apply Kd.R_drewN | apply Kd.R_drew)); exact HO_3.out) hg hat); have n1_ := Aside0.mk (hb); have n2_ := Aside0.mk ((show Kd.C (Kd.int .i64) w40 Ao7 y132.length y132 from by rw [Ny132.out]; exact Kd.C_take (m := (x5_2 : Int).toNat) ((Kd.R_reads' (Kd.R_after (ok := (fun _ => True)) (by (with_reducible repeat (first | apply Kd.R_alloc | apply Kd.R_drewN | apply Kd.R_drew)); exact HO_3.out) hg hat)).2.2) KL38.out)); have n3_ := Aside0.mk (ho); clear HO_3; clear HB; clear HR135; clear HO138; have HO_3 := n0_; have HB := n1_; have HR135 := n2_; have HO142 := n3_; clear n0_ n1_ n2_ n3_; clear ho hb hg hat; have q41 : (x5_2 : Int) ≤ ((x3_1.length : Int) : Int) := of_decide_eq_true (by first | (with_reducible assumption) | assumption); obtain ⟨i041, hi041, _, hsz41, _⟩ := info_parts info3; have hroom41 : x3_1.length ≤ co7 := (Kd.R_reads' HO_3.out).2.1; have hC41 : Kd.C (Kd.int .i64) _ Ao7 x3_1.length x3_1 := (Kd.R_reads' HO_3.out).2.2; have q041 : (0 : Int) ≤ (x5_2 : Int) := of_decide_eq_true (by first | (with_reducible assumption) | assumption); have hcut41 := cut_from (P := Try.prog) 22 3 .i64 Try.underlying22 hi041 1 hsz41 Ao7 x3_1.length co7 x5_2 q041 q41; have hr41 := Kd.C_drop (m := (x5_2 : Int).toNat) (c := co7) hC41 (by omega) hroom41; obtain ⟨A41, hA41⟩ : ∃ A1, A1 = (if co7 = (x5_2 : Int).toNat then Ao7 else (Ao7 : Option Addr).map (·.add ((x5_2 : Int).toNat * 1))) := ⟨_, rfl⟩; obtain ⟨c41, hc41⟩ : ∃ c1, c1 = co7 - (x5_2 : Int).toNat := ⟨_, rfl⟩; have hy41 : y143.length = x3_1.length - (x5_2 : Int).toNat := (by rw [Ny143.out, List.length_drop] <;> omega); rw [show (x3_1).drop (x5_2 : Int).toNat = y143 from Ny143.out.symm] at hr41; replace hr41 : Kd.C (Kd.int .i64) _ A41 y143.length y143 := (by rw [hA41]; exact hr41); rw [← hy41, ← hA41, ← hc41] at hcut41; have HR146 := Aside0.mk hr41; have HC146 := Aside0.mk (show y143.length ≤ c41 from by rw [hy41, hc41]; exact Nat.sub_le_sub_right hroom41 _); clear hr41 hC41 hroom41 hi041 hsz41 hc41; have KY41 := Aside0.mk hy41; have KA41 := Aside0.mk hA41; clear hy41 hA41; have KL41 := Aside0.mk (show (x5_2 : Int).toNat ≤ x3_1.length from by omega); replace q41 := eq_true q41) | ((with_reducible refine gate_builtin (b := .append) (xs := #[.tmp 48, .tmp 51]) rfl ?_); at_builtin; refine Kd.R_append_rows (Kd.int .i64) (w0 := w) w.heap.size rfl (.tmp 48) (.tmp 51) 22 3 (.int .i64 0) 8 rfl Try.underlying22 info3 rfl (by decide) (by omega) v141 y140 y143 _ _ _ (fun k_ => some k_ ≠ (.slice Ao7 x3_1.length co7 : Value).ownBlock) (fun _ => False) rfl rfl ?aO ?aR (fun _ _ h => h) (fun _ h => h.elim) ?aF ?aB ?aS ?aL ?_; (case aR => repeat (first | exact (by repeat (first | (with_reducible exact HR146.out) | (with_reducible refine Kd.C_alloc ?_ _) | (with_reducible refine Kd.C_drewN ?_ _) | (with_reducible refine Kd.C_drew ?_) | exact HR146.out)) | (with_reducible refine Kd.C_alloc ?_ _) | (with_reducible refine Kd.C_drewN ?_ _) | (with_reducible refine Kd.C_drew ?_))); (case aB => exact (by repeat (first | (with_reducible first | exact HB.out | apply below_alloc | apply pw_below_drewN | apply below_drew1) | exact HB.out))); (case aF => exact (fun k_ hk => Kd.fresh' (Kd.R_lt (by (with_reducible repeat (first | apply Kd.R_alloc | apply Kd.R_drewN | apply Kd.R_drew)); exact HO_3.out)) k_ hk)); (case aO => exact (by (with_reducible repeat (first | apply Kd.R_alloc | apply Kd.R_drewN | apply Kd.R_drew)); exact HO142.out)); (case aS => exact (below_size (by repeat (first | (with_reducible first | exact HB.out | apply below_alloc | apply pw_below_drewN | apply below_drew1) | exact HB.out)))); (case aL => have := LMc35.out; omega); intro v148 w42 ho hb hg hat; rw [← Ny147.out] at ho; have n0_ := Aside0.mk (Kd.R_after (ok := (fun _ => True)) (by (with_reducible repeat (first | apply Kd.R_alloc | apply Kd.R_drewN | apply Kd.R_drew)); exact HO_3.out) hg hat); have n1_ := Aside0.mk (hb); have n2_ := Aside0.mk ((show Kd.C (Kd.int .i64) w42 Ao7 y132.length y132 from by rw [Ny132.out]; exact Kd.C_take (m := (x5_2 : Int).toNat) ((Kd.R_reads' (Kd.R_after (ok := (fun _ => True)) (by (with_reducible repeat (first | apply Kd.R_alloc | apply Kd.R_drewN | apply Kd.R_drew)); exact HO_3.out) hg hat)).2.2) KL38.out)); have n3_ := Aside0.mk ((show Kd.C (Kd.int .i64) w42 A41 y143.length y143 from by rw [Ny143.out, KA41.out]; exact Kd.C_drop (m := (x5_2 : Int).toNat) (c := co7) ((Kd.R_reads' (Kd.R_after (ok := (fun _ => True)) (by (with_reducible repeat (first | apply Kd.R_alloc | apply Kd.R_drewN | apply Kd.R_drew)); exact HO_3.out) hg hat)).2.2) KL41.out ((Kd.R_reads' (Kd.R_after (ok := (fun _ => True)) (by (with_reducible repeat (first | apply Kd.R_alloc | apply Kd.R_drewN | apply Kd.R_drew)); exact HO_3.out) hg hat)).2.1))); have n4_ := Aside0.mk (ho); clear HO_3; clear HB; clear HR135; clear HR146; clear HO142; have HO_3 := n0_; have HB := n1_; have HR135 := n2_; have HR146 := n3_; have HO149 := n4_; clear n0_ n1_ n2_ n3_ n4_; clear ho hb hg hat))
                                repeat (go_quiet (first | ((with_reducible refine gate_dst (N := 36) rfl ?_); refine Kd.R_lit (Kd.int .i64) _ 3 ?hg (N := 36) ?hd (xs := ([] : List Int)) (inner := []) (ok := fun _ => True) (okp := fun _ => True) ?hr ?hp (fun _ hk => hk) trivial (Below.refl _ _) (Nat.le_refl _) (by simp) ?_; (case hd => rfl); (case hg => rfl); (case hr => first | (go_simp; done) | (go_simp; rfl)); (case hp => exact (Reps.none _ _)); intro v130 w36 ho37 hb hg_ hnew_; clear hg_ hnew_; (first | rw [← Ny129.out] at ho37 | (simp only [Int.reduceToNat] at ho37; rw [← Ny129.out] at ho37)); have n0_ := Aside0.mk (Kd.R_elder' (by (with_reducible repeat (first | apply Kd.R_alloc | apply Kd.R_drewN | apply Kd.R_drew)); exact HO_3.out) (Kd.R_base ho37) hb); have n1_ := Aside0.mk (Kd.R_lower (Kd.R_new' ho37 (Kd.R_lt (by (with_reducible repeat (first | apply Kd.R_alloc | apply Kd.R_drewN | apply Kd.R_drew)); exact HO_3.out))) (below_size (by repeat (first | (with_reducible first | exact HB.out | apply below_alloc | apply pw_below_drewN | apply below_drew1) | exact HB.out)))); have n2_ := Aside0.mk (below_step (by repeat (first | (with_reducible first | exact HB.out | apply below_alloc | apply pw_below_drewN | apply below_drew1) | exact HB.out)) hb); clear HO_3; clear HB; have HO_3 := n0_; have HO131 := n1_; have HB := n2_; clear n0_ n1_ n2_; clear hb ho37; have q38 : (x5_2 : Int) ≤ ((x3_1.length : Int) : Int) := of_decide_eq_true (by first | (with_reducible assumption) | assumption); obtain ⟨i038, hi038, _, hsz38, _⟩ := info_parts info3; have hroom38 : x3_1.length ≤ co7 := (Kd.R_reads' HO_3.out).2.1; have hC38 : Kd.C (Kd.int .i64) _ Ao7 x3_1.length x3_1 := (Kd.R_reads' HO_3.out).2.2; have hcut38 := cut_to (P := Try.prog) 22 3 .i64 Try.underlying22 hi038 Ao7 x3_1.length co7 x5_2 (of_decide_eq_true (by first | (with_reducible assumption) | assumption)) q38 hroom38; have hr38 := Kd.C_take (m := (x5_2 : Int).toNat) hC38 (by omega); have hy38 : y132.length = (x5_2 : Int).toNat := (by rw [Ny132.out, List.length_take]; omega); rw [← Ny132.out] at hr38; rw [← hy38] at hcut38; have HR135 := Aside0.mk hr38; have HC135 := Aside0.mk (show y132.length ≤ co7 from by omega); clear hr38 hC38 hroom38 hi038 hsz38; have KY38 := Aside0.mk hy38; clear hy38; have KL38 := Aside0.mk (show (x5_2 : Int).toNat ≤ x3_1.length from by omega); replace q38 := eq_true q38) | ((with_reducible refine gate_builtin (b := .append) (xs := #[.tmp 36, .tmp 39]) rfl ?_); at_builtin; refine Kd.R_append_rows (Kd.int .i64) (w0 := w) w.heap.size rfl (.tmp 36) (.tmp 39) 22 3 (.int .i64 0) 8 rfl Try.underlying22 info3 rfl (by decide) (by omega) v130 y129 y132 _ _ _ (fun k_ => some k_ ≠ (.slice Ao7 x3_1.length co7 : Value).ownBlock) (fun _ => False) rfl rfl ?aO ?aR (fun _ _ h => h) (fun _ h => h.elim) ?aF ?aB ?aS ?aL ?_; (case aR => repeat (first | exact (by repeat (first | (with_reducible exact HR135.out) | (with_reducible refine Kd.C_alloc ?_ _) | (with_reducible refine Kd.C_drewN ?_ _) | (with_reducible refine Kd.C_drew ?_) | exact HR135.out)) | (with_reducible refine Kd.C_alloc ?_ _) | (with_reducible refine Kd.C_drewN ?_ _) | (with_reducible refine Kd.C_drew ?_))); (case aB => exact (by repeat (first | (with_reducible first | exact HB.out | apply below_alloc | apply pw_below_drewN | apply below_drew1) | exact HB.out))); (case aF => exact (fun k_ hk => Kd.fresh' (Kd.R_lt (by (with_reducible repeat (first | apply Kd.R_alloc | apply Kd.R_drewN | apply Kd.R_drew)); exact HO_3.out)) k_ hk)); (case aO => exact (by (with_reducible repeat (first | apply Kd.R_alloc | apply Kd.R_drewN | apply Kd.R_drew)); exact Kd.R_mono HO131.out (fun _ hk => hk.2))); (case aS => exact (below_size (by repeat (first | (with_reducible first | exact HB.out | apply below_alloc | apply pw_below_drewN | apply below_drew1) | exact HB.out)))); (case aL => have := LMc29.out; omega); intro v137 w39 ho hb hg hat; rw [← Ny136.out] at ho; have n0_ := Aside0.mk (Kd.R_after (ok := (fun _ => True)) (by (with_reducible repeat (first | apply Kd.R_alloc | apply Kd.R_drewN | apply Kd.R_drew)); exact HO_3.out) hg hat); have n1_ := Aside0.mk (hb); have n2_ := Aside0.mk ((show Kd.C (Kd.int .i64) w39 Ao7 y132.length y132 from by rw [Ny132.out]; exact Kd.C_take (m := (x5_2 : Int).toNat) ((Kd.R_reads' (Kd.R_after (ok := (fun _ => True)) (by (with_reducible repeat (first | apply Kd.R_alloc | apply Kd.R_drewN | apply Kd.R_drew)); exact HO_3.out) hg hat)).2.2) KL38.out)); have n3_ := Aside0.mk (ho); clear HO_3; clear HB; clear HR135; clear HO131; have HO_3 := n0_; have HB := n1_; have HR135 := n2_; have HO138 := n3_; clear n0_ n1_ n2_ n3_; clear ho hb hg hat; have p139 : 0 ≤ (x4_1 : Int) := of_decide_eq_true (by first | (with_reducible assumption) | assumption); have q139 : x4_1 < (l0.length : Int) := of_decide_eq_true (by first | (with_reducible assumption) | assumption); obtain ⟨ad139, e139, hx139_0⟩ := Kd.at_int HR0.out x4_1 p139 q139; obtain rfl : ad104 = ad139 := (by injection e139); replace hx139_0 := (HB.out.cell (World.block_lt_of_cell? w _ hx139_0)).trans hx139_0; replace p139 := eq_true p139; replace q139 := eq_true q139) | ((with_reducible refine gate_builtin (b := .append) (xs := #[.tmp 41, .tmp 46]) rfl ?_); at_builtin; refine Kd.R_append (Kd.int .i64) (w0 := w) w.heap.size rfl (.tmp 41) (.tmp 46) 22 3 (.int .i64 0) 8 rfl Try.underlying22 info3 rfl (by decide) (by omega) v137 y136 (rd l0 x4_1) [.int .i64 (rd l0 x4_1)] (fun k_ => some k_ ≠ (.slice Ao7 x3_1.length co7 : Value).ownBlock) (fun _ => False) rfl rfl ?aP (fun _ hk => hk.elim) ?aF ?aO ?aB ?aS ?aL ?_; (case aP => exact rfl); (case aB => exact (by repeat (first | (with_reducible first | exact HB.out | apply below_alloc | apply pw_below_drewN | apply below_drew1) | exact HB.out))); (case aF => exact (fun k_ hk => Kd.fresh' (Kd.R_lt (by (with_reducible repeat (first | apply Kd.R_alloc | apply Kd.R_drewN | apply Kd.R_drew)); exact HO_3.out)) k_ hk)); (case aO => exact (by (with_reducible repeat (first | apply Kd.R_alloc | apply Kd.R_drewN | apply Kd.R_drew)); exact HO138.out)); (case aS => exact (below_size (by repeat (first | (with_reducible first | exact HB.out | apply below_alloc | apply pw_below_drewN | apply below_drew1) | exact HB.out)))); (case aL => have := LMc32.out; omega); intro v141 w40 ho hb hg hat; rw [← Ny140.out] at ho; have n0_ := Aside0.mk (Kd.R_after (ok := (fun _ => True)) (by (with_reducible repeat (first | apply Kd.R_alloc | apply Kd.R_drewN | apply Kd.R_drew)); exact HO_3.out) hg hat); have n1_ := Aside0.mk (hb); have n2_ := Aside0.mk ((show Kd.C (Kd.int .i64) w40 Ao7 y132.length y132 from by rw [Ny132.out]; exact Kd.C_take (m := (x5_2 : Int).toNat) ((Kd.R_reads' (Kd.R_after (ok := (fun _ => True)) (by (with_reducible repeat (first | apply Kd.R_alloc | apply Kd.R_drewN | apply Kd.R_drew)); exact HO_3.out) hg hat)).2.2) KL38.out)); have n3_ := Aside0.mk (ho); clear HO_3; clear HB; clear HR135; clear HO138; have HO_3 := n0_; have HB := n1_; have HR135 := n2_; have HO142 := n3_; clear n0_ n1_ n2_ n3_; clear ho hb hg hat; have q41 : (x5_2 : Int) ≤ ((x3_1.length : Int) : Int) := of_decide_eq_true (by first | (with_reducible assumption) | assumption); obtain ⟨i041, hi041, _, hsz41, _⟩ := info_parts info3; have hroom41 : x3_1.length ≤ co7 := (Kd.R_reads' HO_3.out).2.1; have hC41 : Kd.C (Kd.int .i64) _ Ao7 x3_1.length x3_1 := (Kd.R_reads' HO_3.out).2.2; have q041 : (0 : Int) ≤ (x5_2 : Int) := of_decide_eq_true (by first | (with_reducible assumption) | assumption); have hcut41 := cut_from (P := Try.prog) 22 3 .i64 Try.underlying22 hi041 1 hsz41 Ao7 x3_1.length co7 x5_2 q041 q41; have hr41 := Kd.C_drop (m := (x5_2 : Int).toNat) (c := co7) hC41 (by omega) hroom41; obtain ⟨A41, hA41⟩ : ∃ A1, A1 = (if co7 = (x5_2 : Int).toNat then Ao7 else (Ao7 : Option Addr).map (·.add ((x5_2 : Int).toNat * 1))) := ⟨_, rfl⟩; obtain ⟨c41, hc41⟩ : ∃ c1, c1 = co7 - (x5_2 : Int).toNat := ⟨_, rfl⟩; have hy41 : y143.length = x3_1.length - (x5_2 : Int).toNat := (by rw [Ny143.out, List.length_drop] <;> omega); rw [show (x3_1).drop (x5_2 : Int).toNat = y143 from Ny143.out.symm] at hr41; replace hr41 : Kd.C (Kd.int .i64) _ A41 y143.length y143 := (by rw [hA41]; exact hr41); rw [← hy41, ← hA41, ← hc41] at hcut41; have HR146 := Aside0.mk hr41; have HC146 := Aside0.mk (show y143.length ≤ c41 from by rw [hy41, hc41]; exact Nat.sub_le_sub_right hroom41 _); clear hr41 hC41 hroom41 hi041 hsz41 hc41; have KY41 := Aside0.mk hy41; have KA41 := Aside0.mk hA41; clear hy41 hA41; have KL41 := Aside0.mk (show (x5_2 : Int).toNat ≤ x3_1.length from by omega); replace q41 := eq_true q41) | ((with_reducible refine gate_builtin (b := .append) (xs := #[.tmp 48, .tmp 51]) rfl ?_); at_builtin; refine Kd.R_append_rows (Kd.int .i64) (w0 := w) w.heap.size rfl (.tmp 48) (.tmp 51) 22 3 (.int .i64 0) 8 rfl Try.underlying22 info3 rfl (by decide) (by omega) v141 y140 y143 _ _ _ (fun k_ => some k_ ≠ (.slice Ao7 x3_1.length co7 : Value).ownBlock) (fun _ => False) rfl rfl ?aO ?aR (fun _ _ h => h) (fun _ h => h.elim) ?aF ?aB ?aS ?aL ?_; (case aR => repeat (first | exact (by repeat (first | (with_reducible exact HR146.out) | (with_reducible refine Kd.C_alloc ?_ _) | (with_reducible refine Kd.C_drewN ?_ _) | (with_reducible refine Kd.C_drew ?_) | exact HR146.out)) | (with_reducible refine Kd.C_alloc ?_ _) | (with_reducible refine Kd.C_drewN ?_ _) | (with_reducible refine Kd.C_drew ?_))); (case aB => exact (by repeat (first | (with_reducible first | exact HB.out | apply below_alloc | apply pw_below_drewN | apply below_drew1) | exact HB.out))); (case aF => exact (fun k_ hk => Kd.fresh' (Kd.R_lt (by (with_reducible repeat (first | apply Kd.R_alloc | apply Kd.R_drewN | apply Kd.R_drew)); exact HO_3.out)) k_ hk)); (case aO => exact (by (with_reducible repeat (first | apply Kd.R_alloc | apply Kd.R_drewN | apply Kd.R_drew)); exact HO142.out)); (case aS => exact (below_size (by repeat (first | (with_reducible first | exact HB.out | apply below_alloc | apply pw_below_drewN | apply below_drew1) | exact HB.out)))); (case aL => have := LMc35.out; omega); intro v148 w42 ho hb hg hat; rw [← Ny147.out] at ho; have n0_ := Aside0.mk (Kd.R_after (ok := (fun _ => True)) (by (with_reducible repeat (first | apply Kd.R_alloc | apply Kd.R_drewN | apply Kd.R_drew)); exact HO_3.out) hg hat); have n1_ := Aside0.mk (hb); have n2_ := Aside0.mk ((show Kd.C (Kd.int .i64) w42 Ao7 y132.length y132 from by rw [Ny132.out]; exact Kd.C_take (m := (x5_2 : Int).toNat) ((Kd.R_reads' (Kd.R_after (ok := (fun _ => True)) (by (with_reducible repeat (first | apply Kd.R_alloc | apply Kd.R_drewN | apply Kd.R_drew)); exact HO_3.out) hg hat)).2.2) KL38.out)); have n3_ := Aside0.mk ((show Kd.C (Kd.int .i64) w42 A41 y143.length y143 from by rw [Ny143.out, KA41.out]; exact Kd.C_drop (m := (x5_2 : Int).toNat) (c := co7) ((Kd.R_reads' (Kd.R_after (ok := (fun _ => True)) (by (with_reducible repeat (first | apply Kd.R_alloc | apply Kd.R_drewN | apply Kd.R_drew)); exact HO_3.out) hg hat)).2.2) KL41.out ((Kd.R_reads' (Kd.R_after (ok := (fun _ => True)) (by (with_reducible repeat (first | apply Kd.R_alloc | apply Kd.R_drewN | apply Kd.R_drew)); exact HO_3.out) hg hat)).2.1))); have n4_ := Aside0.mk (ho); clear HO_3; clear HB; clear HR135; clear HR146; clear HO142; have HO_3 := n0_; have HB := n1_; have HR135 := n2_; have HR146 := n3_; have HO149 := n4_; clear n0_ n1_ n2_ n3_ n4_; clear ho hb hg hat)); try go_wp2_with (first | ((with_reducible refine gate_dst (N := 36) rfl ?_); refine Kd.R_lit (Kd.int .i64) _ 3 ?hg (N := 36) ?hd (xs := ([] : List Int)) (inner := []) (ok := fun _ => True) (okp := fun _ => True) ?hr ?hp (fun _ hk => hk) trivial (Below.refl _ _) (Nat.le_refl _) (by simp) ?_; (case hd => rfl); (case hg => rfl); (case hr => first | (go_simp; done) | (go_simp; rfl)); (case hp => exact (Reps.none _ _)); intro v130 w36 ho37 hb hg_ hnew_; clear hg_ hnew_; (first | rw [← Ny129.out] at ho37 | (simp only [Int.reduceToNat] at ho37; rw [← Ny129.out] at ho37)); have n0_ := Aside0.mk (Kd.R_elder' (by (with_reducible repeat (first | apply Kd.R_alloc | apply Kd.R_drewN | apply Kd.R_drew)); exact HO_3.out) (Kd.R_base ho37) hb); have n1_ := Aside0.mk (Kd.R_lower (Kd.R_new' ho37 (Kd.R_lt (by (with_reducible repeat (first | apply Kd.R_alloc | apply Kd.R_drewN | apply Kd.R_drew)); exact HO_3.out))) (below_size (by repeat (first | (with_reducible first | exact HB.out | apply below_alloc | apply pw_below_drewN | apply below_drew1) | exact HB.out)))); have n2_ := Aside0.mk (below_step (by repeat (first | (with_reducible first | exact HB.out | apply below_alloc | apply pw_below_drewN | apply below_drew1) | exact HB.out)) hb); clear HO_3; clear HB; have HO_3 := n0_; have HO131 := n1_; have HB := n2_; clear n0_ n1_ n2_; clear hb ho37; have q38 : (x5_2 : Int) ≤ ((x3_1.length : Int) : Int) := of_decide_eq_true (by first | (with_reducible assumption) | assumption); obtain ⟨i038, hi038, _, hsz38, _⟩ := info_parts info3; have hroom38 : x3_1.length ≤ co7 := (Kd.R_reads' HO_3.out).2.1; have hC38 : Kd.C (Kd.int .i64) _ Ao7 x3_1.length x3_1 := (Kd.R_reads' HO_3.out).2.2; have hcut38 := cut_to (P := Try.prog) 22 3 .i64 Try.underlying22 hi038 Ao7 x3_1.length co7 x5_2 (of_decide_eq_true (by first | (with_reducible assumption) | assumption)) q38 hroom38; have hr38 := Kd.C_take (m := (x5_2 : Int).toNat) hC38 (by omega); have hy38 : y132.length = (x5_2 : Int).toNat := (by rw [Ny132.out, List.length_take]; omega); rw [← Ny132.out] at hr38; rw [← hy38] at hcut38; have HR135 := Aside0.mk hr38; have HC135 := Aside0.mk (show y132.length ≤ co7 from by omega); clear hr38 hC38 hroom38 hi038 hsz38; have KY38 := Aside0.mk hy38; clear hy38; have KL38 := Aside0.mk (show (x5_2 : Int).toNat ≤ x3_1.length from by omega); replace q38 := eq_true q38) | ((with_reducible refine gate_builtin (b := .append) (xs := #[.tmp 36, .tmp 39]) rfl ?_); at_builtin; refine Kd.R_append_rows (Kd.int .i64) (w0 := w) w.heap.size rfl (.tmp 36) (.tmp 39) 22 3 (.int .i64 0) 8 rfl Try.underlying22 info3 rfl (by decide) (by omega) v130 y129 y132 _ _ _ (fun k_ => some k_ ≠ (.slice Ao7 x3_1.length co7 : Value).ownBlock) (fun _ => False) rfl rfl ?aO ?aR (fun _ _ h => h) (fun _ h => h.elim) ?aF ?aB ?aS ?aL ?_; (case aR => repeat (first | exact (by repeat (first | (with_reducible exact HR135.out) | (with_reducible refine Kd.C_alloc ?_ _) | (with_reducible refine Kd.C_drewN ?_ _) | (with_reducible refine Kd.C_drew ?_) | exact HR135.out)) | (with_reducible refine Kd.C_alloc ?_ _) | (with_reducible refine Kd.C_drewN ?_ _) | (with_reducible refine Kd.C_drew ?_))); (case aB => exact (by repeat (first | (with_reducible first | exact HB.out | apply below_alloc | apply pw_below_drewN | apply below_drew1) | exact HB.out))); (case aF => exact (fun k_ hk => Kd.fresh' (Kd.R_lt (by (with_reducible repeat (first | apply Kd.R_alloc | apply Kd.R_drewN | apply Kd.R_drew)); exact HO_3.out)) k_ hk)); (case aO => exact (by (with_reducible repeat (first | apply Kd.R_alloc | apply Kd.R_drewN | apply Kd.R_drew)); exact Kd.R_mono HO131.out (fun _ hk => hk.2))); (case aS => exact (below_size (by repeat (first | (with_reducible first | exact HB.out | apply below_alloc | apply pw_below_drewN | apply below_drew1) | exact HB.out)))); (case aL => have := LMc29.out; omega); intro v137 w39 ho hb hg hat; rw [← Ny136.out] at ho; have n0_ := Aside0.mk (Kd.R_after (ok := (fun _ => True)) (by (with_reducible repeat (first | apply Kd.R_alloc | apply Kd.R_drewN | apply Kd.R_drew)); exact HO_3.out) hg hat); have n1_ := Aside0.mk (hb); have n2_ := Aside0.mk ((show Kd.C (Kd.int .i64) w39 Ao7 y132.length y132 from by rw [Ny132.out]; exact Kd.C_take (m := (x5_2 : Int).toNat) ((Kd.R_reads' (Kd.R_after (ok := (fun _ => True)) (by (with_reducible repeat (first | apply Kd.R_alloc | apply Kd.R_drewN | apply Kd.R_drew)); exact HO_3.out) hg hat)).2.2) KL38.out)); have n3_ := Aside0.mk (ho); clear HO_3; clear HB; clear HR135; clear HO131; have HO_3 := n0_; have HB := n1_; have HR135 := n2_; have HO138 := n3_; clear n0_ n1_ n2_ n3_; clear ho hb hg hat; have p139 : 0 ≤ (x4_1 : Int) := of_decide_eq_true (by first | (with_reducible assumption) | assumption); have q139 : x4_1 < (l0.length : Int) := of_decide_eq_true (by first | (with_reducible assumption) | assumption); obtain ⟨ad139, e139, hx139_0⟩ := Kd.at_int HR0.out x4_1 p139 q139; obtain rfl : ad104 = ad139 := (by injection e139); replace hx139_0 := (HB.out.cell (World.block_lt_of_cell? w _ hx139_0)).trans hx139_0; replace p139 := eq_true p139; replace q139 := eq_true q139) | ((with_reducible refine gate_builtin (b := .append) (xs := #[.tmp 41, .tmp 46]) rfl ?_); at_builtin; refine Kd.R_append (Kd.int .i64) (w0 := w) w.heap.size rfl (.tmp 41) (.tmp 46) 22 3 (.int .i64 0) 8 rfl Try.underlying22 info3 rfl (by decide) (by omega) v137 y136 (rd l0 x4_1) [.int .i64 (rd l0 x4_1)] (fun k_ => some k_ ≠ (.slice Ao7 x3_1.length co7 : Value).ownBlock) (fun _ => False) rfl rfl ?aP (fun _ hk => hk.elim) ?aF ?aO ?aB ?aS ?aL ?_; (case aP => exact rfl); (case aB => exact (by repeat (first | (with_reducible first | exact HB.out | apply below_alloc | apply pw_below_drewN | apply below_drew1) | exact HB.out))); (case aF => exact (fun k_ hk => Kd.fresh' (Kd.R_lt (by (with_reducible repeat (first | apply Kd.R_alloc | apply Kd.R_drewN | apply Kd.R_drew)); exact HO_3.out)) k_ hk)); (case aO => exact (by (with_reducible repeat (first | apply Kd.R_alloc | apply Kd.R_drewN | apply Kd.R_drew)); exact HO138.out)); (case aS => exact (below_size (by repeat (first | (with_reducible first | exact HB.out | apply below_alloc | apply pw_below_drewN | apply below_drew1) | exact HB.out)))); (case aL => have := LMc32.out; omega); intro v141 w40 ho hb hg hat; rw [← Ny140.out] at ho; have n0_ := Aside0.mk (Kd.R_after (ok := (fun _ => True)) (by (with_reducible repeat (first | apply Kd.R_alloc | apply Kd.R_drewN | apply Kd.R_drew)); exact HO_3.out) hg hat); have n1_ := Aside0.mk (hb); have n2_ := Aside0.mk ((show Kd.C (Kd.int .i64) w40 Ao7 y132.length y132 from by rw [Ny132.out]; exact Kd.C_take (m := (x5_2 : Int).toNat) ((Kd.R_reads' (Kd.R_after (ok := (fun _ => True)) (by (with_reducible repeat (first | apply Kd.R_alloc | apply Kd.R_drewN | apply Kd.R_drew)); exact HO_3.out) hg hat)).2.2) KL38.out)); have n3_ := Aside0.mk (ho); clear HO_3; clear HB; clear HR135; clear HO138; have HO_3 := n0_; have HB := n1_; have HR135 := n2_; have HO142 := n3_; clear n0_ n1_ n2_ n3_; clear ho hb hg hat; have q41 : (x5_2 : Int) ≤ ((x3_1.length : Int) : Int) := of_decide_eq_true (by first | (with_reducible assumption) | assumption); obtain ⟨i041, hi041, _, hsz41, _⟩ := info_parts info3; have hroom41 : x3_1.length ≤ co7 := (Kd.R_reads' HO_3.out).2.1; have hC41 : Kd.C (Kd.int .i64) _ Ao7 x3_1.length x3_1 := (Kd.R_reads' HO_3.out).2.2; have q041 : (0 : Int) ≤ (x5_2 : Int) := of_decide_eq_true (by first | (with_reducible assumption) | assumption); have hcut41 := cut_from (P := Try.prog) 22 3 .i64 Try.underlying22 hi041 1 hsz41 Ao7 x3_1.length co7 x5_2 q041 q41; have hr41 := Kd.C_drop (m := (x5_2 : Int).toNat) (c := co7) hC41 (by omega) hroom41; obtain ⟨A41, hA41⟩ : ∃ A1, A1 = (if co7 = (x5_2 : Int).toNat then Ao7 else (Ao7 : Option Addr).map (·.add ((x5_2 : Int).toNat * 1))) := ⟨_, rfl⟩; obtain ⟨c41, hc41⟩ : ∃ c1, c1 = co7 - (x5_2 : Int).toNat := ⟨_, rfl⟩; have hy41 : y143.length = x3_1.length - (x5_2 : Int).toNat := (by rw [Ny143.out, List.length_drop] <;> omega); rw [show (x3_1).drop (x5_2 : Int).toNat = y143 from Ny143.out.symm] at hr41; replace hr41 : Kd.C (Kd.int .i64) _ A41 y143.length y143 := (by rw [hA41]; exact hr41); rw [← hy41, ← hA41, ← hc41] at hcut41; have HR146 := Aside0.mk hr41; have HC146 := Aside0.mk (show y143.length ≤ c41 from by rw [hy41, hc41]; exact Nat.sub_le_sub_right hroom41 _); clear hr41 hC41 hroom41 hi041 hsz41 hc41; have KY41 := Aside0.mk hy41; have KA41 := Aside0.mk hA41; clear hy41 hA41; have KL41 := Aside0.mk (show (x5_2 : Int).toNat ≤ x3_1.length from by omega); replace q41 := eq_true q41) | ((with_reducible refine gate_builtin (b := .append) (xs := #[.tmp 48, .tmp 51]) rfl ?_); at_builtin; refine Kd.R_append_rows (Kd.int .i64) (w0 := w) w.heap.size rfl (.tmp 48) (.tmp 51) 22 3 (.int .i64 0) 8 rfl Try.underlying22 info3 rfl (by decide) (by omega) v141 y140 y143 _ _ _ (fun k_ => some k_ ≠ (.slice Ao7 x3_1.length co7 : Value).ownBlock) (fun _ => False) rfl rfl ?aO ?aR (fun _ _ h => h) (fun _ h => h.elim) ?aF ?aB ?aS ?aL ?_; (case aR => repeat (first | exact (by repeat (first | (with_reducible exact HR146.out) | (with_reducible refine Kd.C_alloc ?_ _) | (with_reducible refine Kd.C_drewN ?_ _) | (with_reducible refine Kd.C_drew ?_) | exact HR146.out)) | (with_reducible refine Kd.C_alloc ?_ _) | (with_reducible refine Kd.C_drewN ?_ _) | (with_reducible refine Kd.C_drew ?_))); (case aB => exact (by repeat (first | (with_reducible first | exact HB.out | apply below_alloc | apply pw_below_drewN | apply below_drew1) | exact HB.out))); (case aF => exact (fun k_ hk => Kd.fresh' (Kd.R_lt (by (with_reducible repeat (first | apply Kd.R_alloc | apply Kd.R_drewN | apply Kd.R_drew)); exact HO_3.out)) k_ hk)); (case aO => exact (by (with_reducible repeat (first | apply Kd.R_alloc | apply Kd.R_drewN | apply Kd.R_drew)); exact HO142.out)); (case aS => exact (below_size (by repeat (first | (with_reducible first | exact HB.out | apply below_alloc | apply pw_below_drewN | apply below_drew1) | exact HB.out)))); (case aL => have := LMc35.out; omega); intro v148 w42 ho hb hg hat; rw [← Ny147.out] at ho; have n0_ := Aside0.mk (Kd.R_after (ok := (fun _ => True)) (by (with_reducible repeat (first | apply Kd.R_alloc | apply Kd.R_drewN | apply Kd.R_drew)); exact HO_3.out) hg hat); have n1_ := Aside0.mk (hb); have n2_ := Aside0.mk ((show Kd.C (Kd.int .i64) w42 Ao7 y132.length y132 from by rw [Ny132.out]; exact Kd.C_take (m := (x5_2 : Int).toNat) ((Kd.R_reads' (Kd.R_after (ok := (fun _ => True)) (by (with_reducible repeat (first | apply Kd.R_alloc | apply Kd.R_drewN | apply Kd.R_drew)); exact HO_3.out) hg hat)).2.2) KL38.out)); have n3_ := Aside0.mk ((show Kd.C (Kd.int .i64) w42 A41 y143.length y143 from by rw [Ny143.out, KA41.out]; exact Kd.C_drop (m := (x5_2 : Int).toNat) (c := co7) ((Kd.R_reads' (Kd.R_after (ok := (fun _ => True)) (by (with_reducible repeat (first | apply Kd.R_alloc | apply Kd.R_drewN | apply Kd.R_drew)); exact HO_3.out) hg hat)).2.2) KL41.out ((Kd.R_reads' (Kd.R_after (ok := (fun _ => True)) (by (with_reducible repeat (first | apply Kd.R_alloc | apply Kd.R_drewN | apply Kd.R_drew)); exact HO_3.out) hg hat)).2.1))); have n4_ := Aside0.mk (ho); clear HO_3; clear HB; clear HR135; clear HR146; clear HO142; have HO_3 := n0_; have HB := n1_; have HR135 := n2_; have HR146 := n3_; have HO149 := n4_; clear n0_ n1_ n2_ n3_ n4_; clear ho hb hg hat)))
                                go_roundg k2
                                case measure => have := HK1.out; have := HK2.out; omega
                                case rel => exact ⟨(y147), (wrap64 (x4_1 + 1)), (by first | rfl | (simp; done) | (simp [*]; done)), H', ⟨by have := HK1.out; have := HK2.out; omega⟩, ⟨by (with_reducible repeat (first | apply Kd.R_alloc | apply Kd.R_drewN | apply Kd.R_drew)); exact Kd.R_mono HO149.out (fun _ hk => trivial)⟩, ⟨by repeat (first | (with_reducible first | exact HB.out | apply below_alloc | apply pw_below_drewN | apply below_drew1) | exact HB.out)⟩⟩
                              · rw [if_neg c35] at H
                                exact absurd H (by simp)
                            · rw [if_neg c32] at H
                              exact absurd H (by simp)
                          · rw [if_neg c31] at H
                            exact absurd H (by simp)
                        · rw [if_neg c30] at H
                          exact absurd H (by simp)
                      · rw [if_neg c29] at H
                        exact absurd H (by simp)
                    · rw [if_neg c28] at H
                      exact absurd H (by simp)
                  · rw [if_neg c27] at H
                    exact absurd H (by simp)
        · rw [if_neg c3] at H
          exact absurd H (by simp)
      · rw [if_neg c2] at H
        have c2b0 : decide (x4_1 < (l0.length : Int)) = false := decide_eq_false c2
        clear c2
        obtain rfl := Option.some.inj H
        go_wp2
        repeat (go_quiet (fail); try go_wp2)
        go_ret
        exact ⟨_, by first | rfl | (simp [errW_none, errW_some] <;> rfl) | (simp [*, errW_none, errW_some] <;> rfl), by (with_reducible repeat (first | apply Kd.R_alloc | apply Kd.R_drewN | apply Kd.R_drew)); exact HO_3.out, by repeat (first | (with_reducible first | exact HB.out | apply below_alloc | apply pw_below_drewN | apply below_drew1) | exact HB.out)⟩

/-! ### spec_KeysBoth_int: function 14 -/
def spec_KeysBoth_int.l0 : Nat → List Int → List Int → List Int → Int → Option (List Int)
  | 0, _, _, _, _ => none
  | k + 1, x0, x1, x5, x6 => if x6 < (x0.length : Int) then (if 0 ≤ x6 then ((spec_keyIn_int.f k x1 (rd x0 x6)).bind fun t151 => (if t151 = true then (if x5.length < 17592186044416 then (spec_KeysBoth_int.l0 k x0 x1 (x5 ++ [rd x0 x6]) (wrap64 (x6 + 1))) else (none)) else (spec_KeysBoth_int.l0 k x0 x1 x5 (wrap64 (x6 + 1))))) else (none)) else ((spec_Keys_int.f k x5).bind fun t156 => (some t156))
def spec_KeysBoth_int.f (k : Nat) (l0 : List Int) (l1 : List Int) : Option (List Int) := spec_KeysBoth_int.l0 k l0 l1 ([] : List Int) 0
theorem spec_KeysBoth_int.mono_l : ∀ k, (∀ y0 y1 y2 y3, LeO (spec_KeysBoth_int.l0 k y0 y1 y2 y3) (spec_KeysBoth_int.l0 (k + 1) y0 y1 y2 y3))
  | 0 => fun _ _ _ _ r h => by simp [spec_KeysBoth_int.l0] at h
  | k + 1 => by
    have ih0 := spec_KeysBoth_int.mono_l k
    · intro y0 y1 y2 y3
      unfold spec_KeysBoth_int.l0
      repeat' first
      | (with_reducible exact ih0 _ _ _ _)
      | (with_reducible exact spec_Keys_int.mono _ _)
      | (with_reducible exact spec_keyIn_int.mono _ _ _)
      | (with_reducible exact LeO.refl _)
      | (with_reducible exact LeO.none _)
      | (with_reducible refine LeO.ite ?_ ?_)
      | (with_reducible refine LeO.bind ?_ (fun _ => ?_))
      | exact ih0 _ _ _ _
      | exact spec_Keys_int.mono _ _
      | exact spec_keyIn_int.mono _ _ _
      | exact LeO.none _
      | refine LeO.ite ?_ ?_
      | refine LeO.bind ?_ (fun _ => ?_)
theorem spec_KeysBoth_int.mono : ∀ a0 a1 k, LeO (spec_KeysBoth_int.f k a0 a1) (spec_KeysBoth_int.f (k + 1) a0 a1) := by
  intro a0 a1 k
  have ih0 := spec_KeysBoth_int.mono_l k
  unfold spec_KeysBoth_int.f
  repeat' first
      | (with_reducible exact ih0 _ _ _ _)
      | (with_reducible exact spec_Keys_int.mono _ _)
      | (with_reducible exact spec_keyIn_int.mono _ _ _)
      | (with_reducible exact LeO.refl _)
      | (with_reducible exact LeO.none _)
      | (with_reducible refine LeO.ite ?_ ?_)
      | (with_reducible refine LeO.bind ?_ (fun _ => ?_))
      | exact ih0 _ _ _ _
      | exact spec_Keys_int.mono _ _
      | exact spec_keyIn_int.mono _ _ _
      | exact LeO.none _
      | refine LeO.ite ?_ ?_
      | refine LeO.bind ?_ (fun _ => ?_)
set_option maxHeartbeats 8000000 in
set_option maxRecDepth 100000 in
theorem spec_KeysBoth_int.calls (k : Nat) (A0 : Option Addr) (c0 : Nat) (l0 : List Int) (A1 : Option Addr) (c1 : Nat) (l1 : List Int) (r : List Int) (w : World) (hr0 : Kd.C (Kd.int .i64) w A0 l0.length l0) (hc0 : l0.length ≤ c0) (hr1 : Kd.C (Kd.int .i64) w A1 l1.length l1) (hc1 : l1.length ≤ c1) (h : spec_KeysBoth_int.f k l0 l1 = some r) :
    Calls Try.prog 14 #[.slice A0 l0.length c0, .slice A1 l1.length c1] w fun e w' => ∃ v0_ : Value, e = .returned (v0_) ∧ Kd.R (Kd.int .i64) 3 w' w.heap.size (fun _ => True) v0_ r ∧ Below w.heap.size w w' := by
  have HR0 := Aside0.mk hr0
  have HC0 := Aside0.mk hc0
  clear hr0 hc0
  have HR1 := Aside0.mk hr1
  have HC1 := Aside0.mk hc1
  clear hr1 hc1
  have HB := Aside0.mk (Below.refl w.heap.size w)
  have H : (spec_KeysBoth_int.l0 k l0 l1 ([] : List Int) 0) = some r := h
  clear h
  have H' := Aside0.mk H
  clear H
  go_enter Try.func14, Try.ntmps14
  go_wp2
  go_loopg [5, 6] k (fun kq v5 v6 w' => ∃ (x5_1 : List Int) (x6_1 : Int), v6 = .int .i64 x6_1 ∧ Aside0 (spec_KeysBoth_int.l0 kq l0 l1 x5_1 x6_1 = some r) ∧ Aside0 (kq ≤ k) ∧ Aside0 (Kd.R (Kd.int .i64) 3 w' w.heap.size (fun _ => True) v5 x5_1) ∧ Aside0 (Below w.heap.size w w'))
  case atStart => exact ⟨(([] : List Int)), (0), (by first | rfl | (simp; done) | (simp [*]; done)), H', ⟨Nat.le_refl _⟩, ⟨by first | exact Kd.R_nil _ _ _ _ _ | exact Kd.N_nil _ _ _ _ _ | exact Kd.V_nil _ _ _ _ _ | exact Kd.Q_nil _ _ _ _ _ | exact Kd.S_nil _ _ _ _ _⟩, ⟨by repeat (first | (with_reducible first | exact HB.out | apply below_alloc | apply pw_below_drewN | apply below_drew1) | exact HB.out)⟩⟩
  case round =>
    clear H'
    try clear c1
    try clear p2
    obtain ⟨x5_1, x6_1, rfl, HA, HK1, HO_5, HB⟩ := hrel
    cases gk with
    | zero => exact absurd HA.out (by simp [spec_KeysBoth_int.l0])
    | succ k1 =>
      have H := HA.out
      clear HA
      simp only [spec_KeysBoth_int.l0] at H
      by_cases c3 : x6_1 < (l0.length : Int)
      · rw [if_pos c3] at H
        have c3b0 : decide (x6_1 < (l0.length : Int)) = true := decide_eq_true c3
        clear c3
        by_cases c4 : 0 ≤ x6_1
        · rw [if_pos c4] at H
          have c4b0 : decide (0 ≤ x6_1) = true := decide_eq_true c4
          clear c4
          replace H := Option.bind_eq_some_iff.mp H
          obtain ⟨t151, A50, H⟩ := H
          replace H : (if t151 = true then (if x5_1.length < 17592186044416 then (spec_KeysBoth_int.l0 k1 l0 l1 (x5_1 ++ [rd l0 x6_1]) (wrap64 (x6_1 + 1))) else (none)) else (spec_KeysBoth_int.l0 k1 l0 l1 x5_1 (wrap64 (x6_1 + 1)))) = some r := H
          have A5 := Aside0.mk A50
          clear A50
          by_cases c6 : t151 = true
          · subst c6
            have H1 : (if x5_1.length < 17592186044416 then (spec_KeysBoth_int.l0 k1 l0 l1 (x5_1 ++ [rd l0 x6_1]) (wrap64 (x6_1 + 1))) else (none)) = some r := by rw [if_pos rfl] at H; exact H
            clear H
            have H := H1
            clear H1
            by_cases c7 : x5_1.length < 17592186044416
            · rw [if_pos c7] at H
              have LMc7 := Aside0.mk c7
              clear c7
              obtain ⟨y153, hy153⟩ : ∃ y_ : List Int, y_ = (x5_1 ++ [rd l0 x6_1]) := ⟨_, rfl⟩
              replace H : (spec_KeysBoth_int.l0 k1 l0 l1 y153 (wrap64 (x6_1 + 1))) = some r := by first | (rw [hy153]; with_reducible exact H) | (have H2_ := (Option.bind_some _ _).symm.trans H; rw [hy153]; with_reducible exact H2_) | (have H2_ := (Option.bind_some _ _).symm.trans H; with_reducible exact H2_) | with_reducible exact H | (rw [hy153]; exact H) | exact H
              have Ny153 := Aside0.mk hy153
              clear hy153
              have H' := Aside0.mk H
              clear H
              have p150 : 0 ≤ (x6_1 : Int) := of_decide_eq_true (by first | (with_reducible assumption) | assumption)
              have q150 : x6_1 < (l0.length : Int) := of_decide_eq_true (by first | (with_reducible assumption) | assumption)
              obtain ⟨ad150, e150, hx150_0⟩ := Kd.at_int HR0.out x6_1 p150 q150
              cases e150
              replace hx150_0 := (HB.out.cell (World.block_lt_of_cell? w _ hx150_0)).trans hx150_0
              replace p150 := eq_true p150
              replace q150 := eq_true q150
              go_wp2_with (first | ((with_reducible refine gate_callee (f := 22) rfl ?_); refine goesL_ (some 18) rfl rfl Try.func22 (by kernel_rfl) rfl #[.slice A1 l1.length c1, .int .i64 (rd l0 x6_1)] rfl (by (try simp only [List.map_toArray, List.map_cons, List.map_nil]); first | done | rfl | (simp only [List.length_drop, List.length_take]; rfl)) ?_; (with_reducible refine (spec_keyIn_int.calls k1 _ _ l1 (rd l0 x6_1) true _ ?side1 ?side2 A5.out).mono ?_); (case side1 => repeat (first | exact (Kd.C_below HR1.out HB.out) | (with_reducible refine Kd.C_alloc ?_ _) | (with_reducible refine Kd.C_drewN ?_ _) | (with_reducible refine Kd.C_drew ?_))); (case side2 => exact HC1.out); rintro e w' ⟨rfl, ⟨nd, rfl⟩⟩; refine ⟨_, rfl, ?_⟩; have p152 : 0 ≤ (x6_1 : Int) := of_decide_eq_true (by first | (with_reducible assumption) | assumption); have q152 : x6_1 < (l0.length : Int) := of_decide_eq_true (by first | (with_reducible assumption) | assumption); obtain ⟨ad152, e152, hx152_0⟩ := Kd.at_int HR0.out x6_1 p152 q152; obtain rfl : ad150 = ad152 := (by injection e152); replace hx152_0 := (HB.out.cell (World.block_lt_of_cell? w _ hx152_0)).trans hx152_0; replace p152 := eq_true p152; replace q152 := eq_true q152) | ((with_reducible refine gate_builtin (b := .append) (xs := #[.tmp 19, .tmp 24]) rfl ?_); at_builtin; refine Kd.R_append (Kd.int .i64) (w0 := w) w.heap.size rfl (.tmp 19) (.tmp 24) 22 3 (.int .i64 0) 8 rfl Try.underlying22 info3 rfl (by decide) (by omega) u5 x5_1 (rd l0 x6_1) [.int .i64 (rd l0 x6_1)] (fun _ => True) (fun _ => False) rfl rfl ?aP (fun _ hk => hk.elim) ?aF ?aO ?aB ?aS ?aL ?_; (case aP => exact rfl); (case aB => exact (by repeat (first | (with_reducible first | exact HB.out | apply below_alloc | apply pw_below_drewN | apply below_drew1) | exact HB.out))); (case aF => exact (fun _ _ => trivial)); (case aO => exact (by (with_reducible repeat (first | apply Kd.R_alloc | apply Kd.R_drewN | apply Kd.R_drew)); exact HO_5.out)); (case aS => exact (below_size (by repeat (first | (with_reducible first | exact HB.out | apply below_alloc | apply pw_below_drewN | apply below_drew1) | exact HB.out)))); (case aL => have := LMc7.out; omega); intro v154 w8 ho hb hg hat; rw [← Ny153.out] at ho; have n0_ := Aside0.mk (hb); have n1_ := Aside0.mk (ho); clear HB; clear HO_5; have HB := n0_; have HO155 := n1_; clear n0_ n1_; clear ho hb hg hat))
              go_roundg k1
              case measure => have := HK1.out; omega
              case rel => exact ⟨(y153), (wrap64 (x6_1 + 1)), (by first | rfl | (simp; done) | (simp [*]; done)), H', ⟨by have := HK1.out; omega⟩, ⟨by (with_reducible repeat (first | apply Kd.R_alloc | apply Kd.R_drewN | apply Kd.R_drew)); exact HO155.out⟩, ⟨by repeat (first | (with_reducible first | exact HB.out | apply below_alloc | apply pw_below_drewN | apply below_drew1) | exact HB.out)⟩⟩
            · rw [if_neg c7] at H
              exact absurd H (by simp)
          · replace c6 := Bool.eq_false_iff.mpr c6
            subst c6
            have H1 : (spec_KeysBoth_int.l0 k1 l0 l1 x5_1 (wrap64 (x6_1 + 1))) = some r := by rw [if_neg (show ¬ (false = true) by decide)] at H; exact H
            clear H
            have H := H1
            clear H1
            have H' := Aside0.mk H
            clear H
            have p150 : 0 ≤ (x6_1 : Int) := of_decide_eq_true (by first | (with_reducible assumption) | assumption)
            have q150 : x6_1 < (l0.length : Int) := of_decide_eq_true (by first | (with_reducible assumption) | assumption)
            obtain ⟨ad150, e150, hx150_0⟩ := Kd.at_int HR0.out x6_1 p150 q150
            cases e150
            replace hx150_0 := (HB.out.cell (World.block_lt_of_cell? w _ hx150_0)).trans hx150_0
            replace p150 := eq_true p150
            replace q150 := eq_true q150
            go_wp2_with (first | ((with_reducible refine gate_callee (f := 22) rfl ?_); refine goesL_ (some 18) rfl rfl Try.func22 (by kernel_rfl) rfl #[.slice A1 l1.length c1, .int .i64 (rd l0 x6_1)] rfl (by (try simp only [List.map_toArray, List.map_cons, List.map_nil]); first | done | rfl | (simp only [List.length_drop, List.length_take]; rfl)) ?_; (with_reducible refine (spec_keyIn_int.calls k1 _ _ l1 (rd l0 x6_1) false _ ?side1 ?side2 A5.out).mono ?_); (case side1 => repeat (first | exact (Kd.C_below HR1.out HB.out) | (with_reducible refine Kd.C_alloc ?_ _) | (with_reducible refine Kd.C_drewN ?_ _) | (with_reducible refine Kd.C_drew ?_))); (case side2 => exact HC1.out); rintro e w' ⟨rfl, ⟨nd, rfl⟩⟩; refine ⟨_, rfl, ?_⟩))
            go_roundg k1
            case measure => have := HK1.out; omega
            case rel => exact ⟨(x5_1), (wrap64 (x6_1 + 1)), (by first | rfl | (simp; done) | (simp [*]; done)), H', ⟨by have := HK1.out; omega⟩, ⟨by (with_reducible repeat (first | apply Kd.R_alloc | apply Kd.R_drewN | apply Kd.R_drew)); exact HO_5.out⟩, ⟨by repeat (first | (with_reducible first | exact HB.out | apply below_alloc | apply pw_below_drewN | apply below_drew1) | exact HB.out)⟩⟩
        · rw [if_neg c4] at H
          exact absurd H (by simp)
      · rw [if_neg c3] at H
        have c3b0 : decide (x6_1 < (l0.length : Int)) = false := decide_eq_false c3
        clear c3
        replace H := Option.bind_eq_some_iff.mp H
        obtain ⟨t156, A90, H⟩ := H
        replace H : (some t156) = some r := H
        have A9 := Aside0.mk A90
        clear A90
        obtain rfl := Option.some.inj H
        obtain ⟨Ao10, co10, eo10⟩ := Kd.R_slice HO_5.out
        subst eo10
        go_wp2_with (first | ((with_reducible refine gate_callee (f := 11) rfl ?_); refine goesL_ (some 27) rfl rfl Try.func11 (by kernel_rfl) rfl #[.slice Ao10 x5_1.length co10] rfl (by (try simp only [List.map_toArray, List.map_cons, List.map_nil]); first | done | rfl | (simp only [List.length_drop, List.length_take]; rfl)) ?_; (with_reducible refine (spec_Keys_int.calls k1 _ _ x5_1 t156 _ ?side1 ?side2 A9.out).mono ?_); (case side1 => repeat (first | exact (Kd.R_reads' HO_5.out).2.2 | (with_reducible refine Kd.C_alloc ?_ _) | (with_reducible refine Kd.C_drewN ?_ _) | (with_reducible refine Kd.C_drew ?_))); (case side2 => exact (Kd.R_reads' HO_5.out).2.1); rintro e w11 ⟨v157, rfl, ho0, hb⟩; refine ⟨_, rfl, ?_⟩; have n0_ := Aside0.mk (Kd.R_elder' (by (with_reducible repeat (first | apply Kd.R_alloc | apply Kd.R_drewN | apply Kd.R_drew)); exact HO_5.out) (Kd.R_base ho0) hb); have n1_ := Aside0.mk (Kd.R_lower (Kd.R_new' ho0 (Kd.R_lt (by (with_reducible repeat (first | apply Kd.R_alloc | apply Kd.R_drewN | apply Kd.R_drew)); exact HO_5.out))) (below_size (by repeat (first | (with_reducible first | exact HB.out | apply below_alloc | apply pw_below_drewN | apply below_drew1) | exact HB.out)))); have n2_ := Aside0.mk (below_step (by repeat (first | (with_reducible first | exact HB.out | apply below_alloc | apply pw_below_drewN | apply below_drew1) | exact HB.out)) hb); clear HO_5; clear HB; have HO_5 := n0_; have HO158 := n1_; have HB := n2_; clear n0_ n1_ n2_; (try clear hb); (try clear hb2); (try clear hk); (try clear hi); (try clear ho0)))
        go_ret
        exact ⟨_, by first | rfl | (simp [errW_none, errW_some] <;> rfl) | (simp [*, errW_none, errW_some] <;> rfl), by (with_reducible repeat (first | apply Kd.R_alloc | apply Kd.R_drewN | apply Kd.R_drew)); exact Kd.R_mono HO158.out (fun _ hk => trivial), by repeat (first | (with_reducible first | exact HB.out | apply below_alloc | apply pw_below_drewN | apply below_drew1) | exact HB.out)⟩

end Go.Proofs.Ytmlhgafinkcfcaa.PFnSetPop
