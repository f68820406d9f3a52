/- Functions of the program as plain Lean functions, and that the machine's calls do what these say: written for this claim by wip/myprint.py over the kit's print.py. -/
import Derived.Test.YtpaihcikeieliaaPFnKindOfx0
namespace Go.Proofs.Ytpaihcikeieliaa.PFnKindOf
open Go.RowKit Go.Proofs.YtpaihcikeieliaaW.PrintWords Go.Proofs.YtpaihcikeieliaaW.PrintLast Go.Proofs.YtpaihcikeieliaaW.PrintMore
attribute [local go_sem] max2_int min2_int max_two min_two max_three min_three max_four min_four   -- for this text's walks alone
set_option linter.unusedVariables false
set_option linter.unusedSimpArgs false

/-! ### spec_verPlace: function 38 -/
def spec_verPlace.l0 : Nat → ByteArray → Int → Int → Option (Int)
  | 0, _, _, _ => none
  | k + 1, x0, x1, x5 => if x5 < (x0.size : Int) then (if 0 ≤ x5 then (if (bt x0 x5) = x1 then (some x5) else (spec_verPlace.l0 k x0 x1 (wrap64 (x5 + 1)))) else (none)) else (some (-1))
def spec_verPlace.f (k : Nat) (a0 : ByteArray) (a1 : Int) : Option (Int) := spec_verPlace.l0 k a0 a1 0
theorem spec_verPlace.mono_l : ∀ k, (∀ y0 y1 y2, LeO (spec_verPlace.l0 k y0 y1 y2) (spec_verPlace.l0 (k + 1) y0 y1 y2))
  | 0 => fun _ _ _ r h => by simp [spec_verPlace.l0] at h
  | k + 1 => by
    have ih0 := spec_verPlace.mono_l k
    · intro y0 y1 y2
      unfold spec_verPlace.l0
      repeat' first
      | (with_reducible exact ih0 _ _ _)
      | (with_reducible exact LeO.refl _)
      | (with_reducible exact LeO.none _)
      | (with_reducible refine LeO.ite ?_ ?_)
      | (with_reducible refine LeO.bind ?_ (fun _ => ?_))
      | exact ih0 _ _ _
      | exact LeO.none _
      | refine LeO.ite ?_ ?_
      | refine LeO.bind ?_ (fun _ => ?_)
theorem spec_verPlace.mono : ∀ a0 a1 k, LeO (spec_verPlace.f k a0 a1) (spec_verPlace.f (k + 1) a0 a1) := by
  intro a0 a1 k
  have ih0 := spec_verPlace.mono_l k
  unfold spec_verPlace.f
  repeat' first
      | (with_reducible exact ih0 _ _ _)
      | (with_reducible exact LeO.refl _)
      | (with_reducible exact LeO.none _)
      | (with_reducible refine LeO.ite ?_ ?_)
      | (with_reducible refine LeO.bind ?_ (fun _ => ?_))
      | exact ih0 _ _ _
      | exact LeO.none _
      | refine LeO.ite ?_ ?_
      | refine LeO.bind ?_ (fun _ => ?_)
set_option maxHeartbeats 8000000 in
set_option maxRecDepth 100000 in
theorem spec_verPlace.calls (k : Nat) (a0 : ByteArray) (a1 : Int) (r : Int) (w : World) (h : spec_verPlace.f k a0 a1 = some r) :
    Calls Try.prog 38 #[.string a0, .int .u8 a1] w fun e w' => e = .returned (.int .i64 r) ∧ Drawn0 w w' := by
  have H : (spec_verPlace.l0 k a0 a1 0) = some r := h
  clear h
  have H' := Aside0.mk H
  clear H
  go_enter Try.func38, Try.ntmps38
  go_wp2
  go_loopg [5] k (fun kq v5 w' => ∃ (x5_1 : Int), v5 = .int .i64 x5_1 ∧ Aside0 (spec_verPlace.l0 kq a0 a1 x5_1 = some r) ∧ Aside0 (kq ≤ k) ∧ Drawn0 w w')
  case atStart => exact ⟨(0), (by first | rfl | (simp; done) | (simp [*]; done)), H', ⟨Nat.le_refl _⟩, by repeat (first | exact Drawn0.refl _ | apply Drawn0.step)⟩
  case round =>
    clear H'
    try clear p2
    obtain ⟨x5_1, rfl, HA, HK1, ⟨m1, rfl⟩⟩ := hrel
    cases gk with
    | zero => exact absurd HA.out (by simp [spec_verPlace.l0])
    | succ k1 =>
      have H := HA.out
      clear HA
      simp only [spec_verPlace.l0] at H
      by_cases c3 : x5_1 < (a0.size : Int)
      · rw [if_pos c3] at H
        have c3b0 : decide (x5_1 < (a0.size : Int)) = true := decide_eq_true c3
        clear c3
        by_cases c4 : 0 ≤ x5_1
        · rw [if_pos c4] at H
          have c4b0 : decide (0 ≤ x5_1) = true := decide_eq_true c4
          clear c4
          by_cases c6 : (bt a0 x5_1) = a1
          · rw [if_pos c6] at H
            have c6b0 : ((bt a0 x5_1) == a1) = true := beq_iff_eq.mpr c6
            have c6b1 : ((bt a0 x5_1) != a1) = false := bne_eq_false_iff_eq.mpr c6
            clear c6
            obtain rfl := Option.some.inj H
            have p5 : 0 ≤ (x5_1 : Int) := of_decide_eq_true (by first | (with_reducible assumption) | assumption)
            have q5 : x5_1 < (a0.size : Int) := of_decide_eq_true (by first | (with_reducible assumption) | assumption)
            have hx5 := bt_at a0 x5_1
            replace p5 := eq_true p5
            replace q5 := eq_true q5
            go_wp2
            go_ret
            exact ⟨by first | rfl | (simp; done) | (simp [*]; done), by repeat (first | exact Drawn0.refl _ | apply Drawn0.step)⟩
          · rw [if_neg c6] at H
            have c6b0 : ((bt a0 x5_1) == a1) = false := beq_eq_false_iff_ne.mpr c6
            have c6b1 : ((bt a0 x5_1) != a1) = true := bne_iff_ne.mpr c6
            have H' := Aside0.mk H
            clear H
            have p5 : 0 ≤ (x5_1 : Int) := of_decide_eq_true (by first | (with_reducible assumption) | assumption)
            have q5 : x5_1 < (a0.size : Int) := of_decide_eq_true (by first | (with_reducible assumption) | assumption)
            have hx5 := bt_at a0 x5_1
            replace p5 := eq_true p5
            replace q5 := eq_true q5
            go_wp2
            go_roundg k1
            case measure => have := HK1.out; omega
            case rel => exact ⟨(wrap64 (x5_1 + 1)), (by first | rfl | (simp; done) | (simp [*]; done)), H', ⟨by have := HK1.out; omega⟩, by repeat (first | exact Drawn0.refl _ | apply Drawn0.step)⟩
        · rw [if_neg c4] at H
          exact absurd H (by simp)
      · rw [if_neg c3] at H
        have c3b0 : decide (x5_1 < (a0.size : Int)) = false := decide_eq_false c3
        clear c3
        obtain rfl := Option.some.inj H
        go_wp2
        go_ret
        exact ⟨by first | rfl | (simp; done) | (simp [*]; done), by repeat (first | exact Drawn0.refl _ | apply Drawn0.step)⟩

/-! ### spec_verOften: function 45 -/
def spec_verOften.l0 : Nat → ByteArray → Int → Int → Int → Option (Int)
  | 0, _, _, _, _ => none
  | k + 1, x0, x1, x5, x6 => if x6 < (x0.size : Int) then (if 0 ≤ x6 then (if (bt x0 x6) = x1 then (spec_verOften.l0 k x0 x1 (wrap64 (x5 + 1)) (wrap64 (x6 + 1))) else (spec_verOften.l0 k x0 x1 x5 (wrap64 (x6 + 1)))) else (none)) else (some x5)
def spec_verOften.f (k : Nat) (a0 : ByteArray) (a1 : Int) : Option (Int) := spec_verOften.l0 k a0 a1 0 0
theorem spec_verOften.mono_l : ∀ k, (∀ y0 y1 y2 y3, LeO (spec_verOften.l0 k y0 y1 y2 y3) (spec_verOften.l0 (k + 1) y0 y1 y2 y3))
  | 0 => fun _ _ _ _ r h => by simp [spec_verOften.l0] at h
  | k + 1 => by
    have ih0 := spec_verOften.mono_l k
    · intro y0 y1 y2 y3
      unfold spec_verOften.l0
      repeat' first
      | (with_reducible exact ih0 _ _ _ _)
      | (with_reducible exact LeO.refl _)
      | (with_reducible exact LeO.none _)
      | (with_reducible refine LeO.ite ?_ ?_)
      | (with_reducible refine LeO.bind ?_ (fun _ => ?_))
      | exact ih0 _ _ _ _
      | exact LeO.none _
      | refine LeO.ite ?_ ?_
      | refine LeO.bind ?_ (fun _ => ?_)
theorem spec_verOften.mono : ∀ a0 a1 k, LeO (spec_verOften.f k a0 a1) (spec_verOften.f (k + 1) a0 a1) := by
  intro a0 a1 k
  have ih0 := spec_verOften.mono_l k
  unfold spec_verOften.f
  repeat' first
      | (with_reducible exact ih0 _ _ _ _)
      | (with_reducible exact LeO.refl _)
      | (with_reducible exact LeO.none _)
      | (with_reducible refine LeO.ite ?_ ?_)
      | (with_reducible refine LeO.bind ?_ (fun _ => ?_))
      | exact ih0 _ _ _ _
      | exact LeO.none _
      | refine LeO.ite ?_ ?_
      | refine LeO.bind ?_ (fun _ => ?_)
set_option maxHeartbeats 8000000 in
set_option maxRecDepth 100000 in
theorem spec_verOften.calls (k : Nat) (a0 : ByteArray) (a1 : Int) (r : Int) (w : World) (h : spec_verOften.f k a0 a1 = some r) :
    Calls Try.prog 45 #[.string a0, .int .u8 a1] w fun e w' => e = .returned (.int .i64 r) ∧ Drawn0 w w' := by
  have H : (spec_verOften.l0 k a0 a1 0 0) = some r := h
  clear h
  have H' := Aside0.mk H
  clear H
  go_enter Try.func45, Try.ntmps45
  go_wp2
  go_loopg [5, 6] k (fun kq v5 v6 w' => ∃ (x5_1 : Int) (x6_1 : Int), v5 = .int .i64 x5_1 ∧ v6 = .int .i64 x6_1 ∧ Aside0 (spec_verOften.l0 kq a0 a1 x5_1 x6_1 = some r) ∧ Aside0 (kq ≤ k) ∧ Drawn0 w w')
  case atStart => exact ⟨(0), (0), (by first | rfl | (simp; done) | (simp [*]; done)), (by first | rfl | (simp; done) | (simp [*]; done)), H', ⟨Nat.le_refl _⟩, by repeat (first | exact Drawn0.refl _ | apply Drawn0.step)⟩
  case round =>
    clear H'
    try clear p2
    obtain ⟨x5_1, x6_1, rfl, rfl, HA, HK1, ⟨m1, rfl⟩⟩ := hrel
    cases gk with
    | zero => exact absurd HA.out (by simp [spec_verOften.l0])
    | succ k1 =>
      have H := HA.out
      clear HA
      simp only [spec_verOften.l0] at H
      by_cases c3 : x6_1 < (a0.size : Int)
      · rw [if_pos c3] at H
        have c3b0 : decide (x6_1 < (a0.size : Int)) = true := decide_eq_true c3
        clear c3
        by_cases c4 : 0 ≤ x6_1
        · rw [if_pos c4] at H
          have c4b0 : decide (0 ≤ x6_1) = true := decide_eq_true c4
          clear c4
          by_cases c6 : (bt a0 x6_1) = a1
          · rw [if_pos c6] at H
            have c6b0 : ((bt a0 x6_1) == a1) = true := beq_iff_eq.mpr c6
            have c6b1 : ((bt a0 x6_1) != a1) = false := bne_eq_false_iff_eq.mpr c6
            clear c6
            have H' := Aside0.mk H
            clear H
            have p5 : 0 ≤ (x6_1 : Int) := of_decide_eq_true (by first | (with_reducible assumption) | assumption)
            have q5 : x6_1 < (a0.size : Int) := of_decide_eq_true (by first | (with_reducible assumption) | assumption)
            have hx5 := bt_at a0 x6_1
            replace p5 := eq_true p5
            replace q5 := eq_true q5
            go_wp2
            go_roundg k1
            case measure => have := HK1.out; omega
            case rel => exact ⟨(wrap64 (x5_1 + 1)), (wrap64 (x6_1 + 1)), (by first | rfl | (simp; done) | (simp [*]; done)), (by first | rfl | (simp; done) | (simp [*]; done)), H', ⟨by have := HK1.out; omega⟩, by repeat (first | exact Drawn0.refl _ | apply Drawn0.step)⟩
          · rw [if_neg c6] at H
            have c6b0 : ((bt a0 x6_1) == a1) = false := beq_eq_false_iff_ne.mpr c6
            have c6b1 : ((bt a0 x6_1) != a1) = true := bne_iff_ne.mpr c6
            have H' := Aside0.mk H
            clear H
            have p5 : 0 ≤ (x6_1 : Int) := of_decide_eq_true (by first | (with_reducible assumption) | assumption)
            have q5 : x6_1 < (a0.size : Int) := of_decide_eq_true (by first | (with_reducible assumption) | assumption)
            have hx5 := bt_at a0 x6_1
            replace p5 := eq_true p5
            replace q5 := eq_true q5
            go_wp2
            go_roundg k1
            case measure => have := HK1.out; omega
            case rel => exact ⟨(x5_1), (wrap64 (x6_1 + 1)), (by first | rfl | (simp; done) | (simp [*]; done)), (by first | rfl | (simp; done) | (simp [*]; done)), H', ⟨by have := HK1.out; omega⟩, by repeat (first | exact Drawn0.refl _ | apply Drawn0.step)⟩
        · rw [if_neg c4] at H
          exact absurd H (by simp)
      · rw [if_neg c3] at H
        have c3b0 : decide (x6_1 < (a0.size : Int)) = false := decide_eq_false c3
        clear c3
        obtain rfl := Option.some.inj H
        go_wp2
        go_ret
        exact ⟨by first | rfl | (simp; done) | (simp [*]; done), by repeat (first | exact Drawn0.refl _ | apply Drawn0.step)⟩

/-! ### spec_GroupVersion: function 24 -/
def spec_GroupVersion.j0 : Nat → ByteArray → Bool → Option (ByteArray × ByteArray × ByteArray × Bool)
  | 0, _, _ => none
  | k + 1, x0, x10 => if x10 = true then (some ((⟨#[]⟩ : ByteArray), (⟨#[]⟩ : ByteArray), (⟨#[]⟩ : ByteArray), true)) else ((spec_verPlace.f k x0 47).bind fun t102 => ((spec_verOften.f k x0 47).bind fun t103 => (if t103 = 0 then (some ((⟨#[]⟩ : ByteArray), x0, (⟨#[]⟩ : ByteArray), true)) else (if t103 = 1 then (if 0 ≤ t102 then (if t102 ≤ (x0.size : Int) then (if 0 ≤ (wrap64 (t102 + 1)) then (if (wrap64 (t102 + 1)) ≤ (x0.size : Int) then (some (x0.extract 0 (t102 : Int).toNat, x0.extract ((wrap64 (t102 + 1)) : Int).toNat x0.size, (⟨#[]⟩ : ByteArray), true)) else (none)) else (none)) else (none)) else (none)) else (some ((⟨#[]⟩ : ByteArray), (⟨#[]⟩ : ByteArray), (⟨#[]⟩ : ByteArray), false))))))
def spec_GroupVersion.f (k : Nat) (a0 : ByteArray) : Option (ByteArray × ByteArray × ByteArray × Bool) := if a0.toList = ([] : List UInt8) then (spec_GroupVersion.j0 k a0 true) else (spec_GroupVersion.j0 k a0 (a0.toList == ([47] : List UInt8)))
theorem spec_GroupVersion.mono_l : ∀ k, (∀ y0 y1, LeO (spec_GroupVersion.j0 k y0 y1) (spec_GroupVersion.j0 (k + 1) y0 y1))
  | 0 => fun _ _ r h => by simp [spec_GroupVersion.j0] at h
  | k + 1 => by
    have ih0 := spec_GroupVersion.mono_l k
    · intro y0 y1
      unfold spec_GroupVersion.j0
      repeat' first
      | (with_reducible exact ih0 _ _)
      | (with_reducible exact spec_verOften.mono _ _ _)
      | (with_reducible exact spec_verPlace.mono _ _ _)
      | (with_reducible exact LeO.refl _)
      | (with_reducible exact LeO.none _)
      | (with_reducible refine LeO.ite ?_ ?_)
      | (with_reducible refine LeO.bind ?_ (fun _ => ?_))
      | exact ih0 _ _
      | exact spec_verOften.mono _ _ _
      | exact spec_verPlace.mono _ _ _
      | exact LeO.none _
      | refine LeO.ite ?_ ?_
      | refine LeO.bind ?_ (fun _ => ?_)
theorem spec_GroupVersion.mono : ∀ a0 k, LeO (spec_GroupVersion.f k a0) (spec_GroupVersion.f (k + 1) a0) := by
  intro a0 k
  have ih0 := spec_GroupVersion.mono_l k
  unfold spec_GroupVersion.f
  repeat' first
      | (with_reducible exact ih0 _ _)
      | (with_reducible exact spec_verOften.mono _ _ _)
      | (with_reducible exact spec_verPlace.mono _ _ _)
      | (with_reducible exact LeO.refl _)
      | (with_reducible exact LeO.none _)
      | (with_reducible refine LeO.ite ?_ ?_)
      | (with_reducible refine LeO.bind ?_ (fun _ => ?_))
      | exact ih0 _ _
      | exact spec_verOften.mono _ _ _
      | exact spec_verPlace.mono _ _ _
      | exact LeO.none _
      | refine LeO.ite ?_ ?_
      | refine LeO.bind ?_ (fun _ => ?_)
def spec_GroupVersion.T8 : Bool × List (List Nat × List Nat) := (true, [([], []), ([], []), ([0, 1], [0, 1]), ([], []), ([], []), ([4], [4]), ([3, 5], [3, 5]), ([2, 6], [2, 6]), ([7, 0, 1, 2, 3, 4, 5, 6, 7], [7]), ([8, 0, 1, 2, 3, 4, 5, 6, 7, 8], [])])
def spec_GroupVersion.B8 : List Nat := [0, 0, 3, 0, 0, 16, 56, 127, 255, 511]
theorem spec_GroupVersion.tab8 : rtab .any (opsOf Try.f24 8) = spec_GroupVersion.T8 := by kernel_rfl
theorem spec_GroupVersion.bits8 : waitsOk spec_GroupVersion.T8.2 spec_GroupVersion.B8 = true := by kernel_rfl
set_option maxHeartbeats 8000000 in
set_option maxRecDepth 100000 in
theorem spec_GroupVersion.calls (k : Nat) (a0 : ByteArray) (r1 : ByteArray) (r2 : ByteArray) (r3 : ByteArray) (r4 : Bool) (w : World) (h : spec_GroupVersion.f k a0 = some (r1, r2, r3, r4)) :
    Calls Try.prog 24 #[.string a0] w fun e w' => e = .returned (.tuple #[.agg #[.string r1, .string r2, .string r3], .bool r4]) ∧ Below w.heap.size w w' := by
  have hu25 := Try.underlying25
  have HB := Aside0.mk (Below.refl w.heap.size w)
  have H : (if a0.toList = ([] : List UInt8) then (spec_GroupVersion.j0 k a0 true) else (spec_GroupVersion.j0 k a0 (a0.toList == ([47] : List UInt8)))) = some (r1, r2, r3, r4) := h
  clear h
  have HC2 := Aside0.mk H
  clear H
  go_enter Try.func24, Try.ntmps24
  go_upto_region 1 with (first | ((with_reducible refine gate_dst (N := 2) rfl ?_); refine box_event ?hg (N := 2) ?hd (cs := #[.string (⟨#[]⟩ : ByteArray), .string (⟨#[]⟩ : ByteArray), .string (⟨#[]⟩ : ByteArray)]) (t := 25) ?hr ?_; (case hd => rfl); (case hg => rfl); (case hr => first | (go_simp; done) | (go_simp; rfl)); intro gb101 hg w3 hbox hb; have n0_ := Aside0.mk (below_step (by repeat (first | (with_reducible first | exact HB.out | apply below_alloc | apply pw_below_drewN | apply below_drew1) | exact HB.out)) hb); have n1_ := Aside0.mk (hbox); have n2_ := Aside0.mk ((by rw [hg]; exact (below_size (by repeat (first | (with_reducible first | exact HB.out | apply below_alloc | apply pw_below_drewN | apply below_drew1) | exact HB.out))) : w.heap.size ≤ gb101)); have n3_ := Aside0.mk ((by rw [hg]; exact (below_size (by repeat (first | (with_reducible first | exact HB.out | apply below_alloc | apply pw_below_drewN | apply below_drew1) | exact HB.out))) : w.heap.size ≤ gb101)); clear HB; have HB := n0_; have BK101 := n1_; have GW101 := n2_; have GE101 := n3_; clear n0_ n1_ n2_ n3_; clear hb hbox hg))
  (try simp only [Act.put, List.setIfInBounds_toArray, List.set_cons_zero, List.set_cons_succ])
  go_cut [10] (fun v10 wc => ∃ (kq : Nat) (x10_1 : Bool), v10 = .bool x10_1 ∧ Aside0 (spec_GroupVersion.j0 kq a0 x10_1 = some (r1, r2, r3, r4)) ∧ Aside0 (kq ≤ k) ∧ Aside0 (wc.heap[gb101]? = some (.cells #[.string (⟨#[]⟩ : ByteArray), .string (⟨#[]⟩ : ByteArray), .string (⟨#[]⟩ : ByteArray)] 25 (0, 0))) ∧ Aside0 (Below w.heap.size w wc))
  case first =>
    have H := HC2.out
    clear HC2
    by_cases c4 : a0.toList = ([] : List UInt8)
    · rw [if_pos c4] at H
      have c4b0 : (a0.toList == ([] : List UInt8)) = true := beq_iff_eq.mpr c4
      have c4b1 : (a0.toList != ([] : List UInt8)) = false := bne_eq_false_iff_eq.mpr c4
      clear c4
      (first | rw [c4b0] | (simp only [i64_w, i32_w]; rw [c4b0]) | skip)
      have H' := Aside0.mk H
      clear H
      go_wp2
      go_meet
      case rel => exact ⟨_, (true), (by first | rfl | (simp; done) | (simp [*]; done)), H', ⟨by first | omega | exact Nat.le_refl _⟩, ⟨by (with_reducible repeat (first | refine blk_drewN ?_ _ | refine blk_drew ?_ | refine blk_alloc ?_ _)); exact BK101.out⟩, ⟨by repeat (first | (with_reducible first | exact HB.out | apply below_alloc | apply pw_below_drewN | apply below_drew1 | refine below_set ?_ GE101.out) | exact HB.out)⟩⟩
    · rw [if_neg c4] at H
      have c4b0 : (a0.toList == ([] : List UInt8)) = false := beq_eq_false_iff_ne.mpr c4
      have c4b1 : (a0.toList != ([] : List UInt8)) = true := bne_iff_ne.mpr c4
      (first | rw [c4b0] | (simp only [i64_w, i32_w]; rw [c4b0]) | skip)
      have H' := Aside0.mk H
      clear H
      go_wp2
      go_meet
      case rel => exact ⟨_, ((a0.toList == ([47] : List UInt8))), (by first | rfl | (simp; done) | (simp [*]; done)), H', ⟨by first | omega | exact Nat.le_refl _⟩, ⟨by (with_reducible repeat (first | refine blk_drewN ?_ _ | refine blk_drew ?_ | refine blk_alloc ?_ _)); exact BK101.out⟩, ⟨by repeat (first | (with_reducible first | exact HB.out | apply below_alloc | apply pw_below_drewN | apply below_drew1 | refine below_set ?_ GE101.out) | exact HB.out)⟩⟩
  case rest =>
    clear HC2
    try clear c2
    try clear p2
    try clear c4
    try clear c4b0
    try clear c4b1
    obtain ⟨kq, x10_1, rfl, HA, HJ1, BK101, HB⟩ := hcut
    cases kq with
    | zero => exact absurd HA.out (by simp [spec_GroupVersion.j0])
    | succ kj1 =>
      have H := HA.out
      clear HA
      simp only [spec_GroupVersion.j0] at H
      by_cases c5 : x10_1 = true
      · subst c5
        have H1 : (some ((⟨#[]⟩ : ByteArray), (⟨#[]⟩ : ByteArray), (⟨#[]⟩ : ByteArray), true)) = some (r1, r2, r3, r4) := by rw [if_pos rfl] at H; exact H
        clear H
        have H := H1
        clear H1
        simp only [Option.some.injEq, Prod.mk.injEq] at H
        obtain ⟨rfl, rfl, rfl, rfl⟩ := H
        have hcz6_0 : wc.cell? ⟨gb101, 0, none⟩ = some (.string (⟨#[]⟩ : ByteArray)) := (blk_cell BK101.out 0).trans rfl
        have hcz6_1 : wc.cell? ⟨gb101, 1, none⟩ = some (.string (⟨#[]⟩ : ByteArray)) := (blk_cell BK101.out 1).trans rfl
        have hcz6_2 : wc.cell? ⟨gb101, 2, none⟩ = some (.string (⟨#[]⟩ : ByteArray)) := (blk_cell BK101.out 2).trans rfl
        have hfz6_0 := blk_frozen BK101.out 0
        have hfz6_1 := blk_frozen BK101.out 1
        have hfz6_2 := blk_frozen BK101.out 2
        go_wp2
        refine bodyPost_ret (results_ct rfl _ _ gb101 25 #[.string (⟨#[]⟩ : ByteArray), .string (⟨#[]⟩ : ByteArray), .string (⟨#[]⟩ : ByteArray)] (0, 0) _ rfl (by (with_reducible repeat (first | refine blk_drewN ?_ _ | refine blk_drew ?_ | refine blk_alloc ?_ _)); refine blk_put (cs := #[.string (⟨#[]⟩ : ByteArray), .string (⟨#[]⟩ : ByteArray), .string (⟨#[]⟩ : ByteArray)]) ?_ 2 _ rfl; (with_reducible repeat (first | refine blk_drewN ?_ _ | refine blk_drew ?_ | refine blk_alloc ?_ _)); refine blk_put (cs := #[.string (⟨#[]⟩ : ByteArray), .string (⟨#[]⟩ : ByteArray), .string (⟨#[]⟩ : ByteArray)]) ?_ 1 _ rfl; (with_reducible repeat (first | refine blk_drewN ?_ _ | refine blk_drew ?_ | refine blk_alloc ?_ _)); refine blk_put (cs := #[.string (⟨#[]⟩ : ByteArray), .string (⟨#[]⟩ : ByteArray), .string (⟨#[]⟩ : ByteArray)]) ?_ 0 _ rfl; (with_reducible repeat (first | refine blk_drewN ?_ _ | refine blk_drew ?_ | refine blk_alloc ?_ _)); exact BK101.out) Try.underlying25 rfl (by kernel_rfl)) rfl ?_
        exact ⟨by first | rfl | (simp [errW_none, errW_some] <;> rfl) | (simp [*, errW_none, errW_some] <;> rfl), by repeat (first | (with_reducible first | exact HB.out | apply below_alloc | apply pw_below_drewN | apply below_drew1 | refine below_set ?_ GE101.out) | exact HB.out)⟩
      · replace c5 := Bool.eq_false_iff.mpr c5
        subst c5
        have H1 : ((spec_verPlace.f kj1 a0 47).bind fun t102 => ((spec_verOften.f kj1 a0 47).bind fun t103 => (if t103 = 0 then (some ((⟨#[]⟩ : ByteArray), a0, (⟨#[]⟩ : ByteArray), true)) else (if t103 = 1 then (if 0 ≤ t102 then (if t102 ≤ (a0.size : Int) then (if 0 ≤ (wrap64 (t102 + 1)) then (if (wrap64 (t102 + 1)) ≤ (a0.size : Int) then (some (a0.extract 0 (t102 : Int).toNat, a0.extract ((wrap64 (t102 + 1)) : Int).toNat a0.size, (⟨#[]⟩ : ByteArray), true)) else (none)) else (none)) else (none)) else (none)) else (some ((⟨#[]⟩ : ByteArray), (⟨#[]⟩ : ByteArray), (⟨#[]⟩ : ByteArray), false)))))) = some (r1, r2, r3, r4) := by rw [if_neg (show ¬ (false = true) by decide)] at H; exact H
        clear H
        have H := H1
        clear H1
        replace H := Option.bind_eq_some_iff.mp H
        obtain ⟨t102, A70, H⟩ := H
        replace H : ((spec_verOften.f kj1 a0 47).bind fun t103 => (if t103 = 0 then (some ((⟨#[]⟩ : ByteArray), a0, (⟨#[]⟩ : ByteArray), true)) else (if t103 = 1 then (if 0 ≤ t102 then (if t102 ≤ (a0.size : Int) then (if 0 ≤ (wrap64 (t102 + 1)) then (if (wrap64 (t102 + 1)) ≤ (a0.size : Int) then (some (a0.extract 0 (t102 : Int).toNat, a0.extract ((wrap64 (t102 + 1)) : Int).toNat a0.size, (⟨#[]⟩ : ByteArray), true)) else (none)) else (none)) else (none)) else (none)) else (some ((⟨#[]⟩ : ByteArray), (⟨#[]⟩ : ByteArray), (⟨#[]⟩ : ByteArray), false))))) = some (r1, r2, r3, r4) := H
        have A7 := Aside0.mk A70
        clear A70
        replace H := Option.bind_eq_some_iff.mp H
        obtain ⟨t103, A80, H⟩ := H
        replace H : (if t103 = 0 then (some ((⟨#[]⟩ : ByteArray), a0, (⟨#[]⟩ : ByteArray), true)) else (if t103 = 1 then (if 0 ≤ t102 then (if t102 ≤ (a0.size : Int) then (if 0 ≤ (wrap64 (t102 + 1)) then (if (wrap64 (t102 + 1)) ≤ (a0.size : Int) then (some (a0.extract 0 (t102 : Int).toNat, a0.extract ((wrap64 (t102 + 1)) : Int).toNat a0.size, (⟨#[]⟩ : ByteArray), true)) else (none)) else (none)) else (none)) else (none)) else (some ((⟨#[]⟩ : ByteArray), (⟨#[]⟩ : ByteArray), (⟨#[]⟩ : ByteArray), false)))) = some (r1, r2, r3, r4) := H
        have A8 := Aside0.mk A80
        clear A80
        by_cases c9 : t103 = 0
        · rw [if_pos c9] at H
          have c9b0 : (t103 == 0) = true := beq_iff_eq.mpr c9
          have c9b1 : (t103 != 0) = false := bne_eq_false_iff_eq.mpr c9
          clear c9
          simp only [Option.some.injEq, Prod.mk.injEq] at H
          obtain ⟨rfl, rfl, rfl, rfl⟩ := H
          go_wp2_with (first | ((with_reducible refine gate_callee (f := 38) rfl ?_); refine goesL_ (some 13) rfl rfl Try.func38 (by kernel_rfl) rfl #[.string a0, .int .u8 47] rfl (by (try simp only [List.map_toArray, List.map_cons, List.map_nil]); first | done | rfl | (simp only [List.length_drop, List.length_take]; rfl)) ?_; (with_reducible refine (spec_verPlace.calls kj1 a0 47 t102 _ A7.out).mono ?_); rintro e w' ⟨rfl, ⟨nd, rfl⟩⟩; refine ⟨_, rfl, ?_⟩; (try (rw [drewN_self wc]; generalize hq_ : World.drewN wc _ = wc; have n0_ : Aside0 (wc.heap[gb101]? = some (.cells #[.string (⟨#[]⟩ : ByteArray), .string (⟨#[]⟩ : ByteArray), .string (⟨#[]⟩ : ByteArray)] 25 (0, 0))) := ⟨by rw [← hq_]; exact (by (with_reducible repeat (first | refine blk_drewN ?_ _ | refine blk_drew ?_ | refine blk_alloc ?_ _)); exact BK101.out)⟩; have n1_ : Aside0 (Below w.heap.size w wc) := ⟨by rw [← hq_]; exact (by repeat (first | (with_reducible first | exact HB.out | apply below_alloc | apply pw_below_drewN | apply below_drew1 | refine below_set ?_ GE101.out) | exact HB.out))⟩; clear BK101 HB hq_; have BK101 := n0_; have HB := n1_; clear n0_ n1_))) | ((with_reducible refine gate_callee (f := 45) rfl ?_); refine goesL_ (some 15) rfl rfl Try.func45 (by kernel_rfl) rfl #[.string a0, .int .u8 47] rfl (by (try simp only [List.map_toArray, List.map_cons, List.map_nil]); first | done | rfl | (simp only [List.length_drop, List.length_take]; rfl)) ?_; (with_reducible refine (spec_verOften.calls kj1 a0 47 t103 _ A8.out).mono ?_); rintro e w' ⟨rfl, ⟨nd, rfl⟩⟩; refine ⟨_, rfl, ?_⟩; (try (rw [drewN_self wc]; generalize hq_ : World.drewN wc _ = wc; have n0_ : Aside0 (wc.heap[gb101]? = some (.cells #[.string (⟨#[]⟩ : ByteArray), .string (⟨#[]⟩ : ByteArray), .string (⟨#[]⟩ : ByteArray)] 25 (0, 0))) := ⟨by rw [← hq_]; exact (by (with_reducible repeat (first | refine blk_drewN ?_ _ | refine blk_drew ?_ | refine blk_alloc ?_ _)); exact BK101.out)⟩; have n1_ : Aside0 (Below w.heap.size w wc) := ⟨by rw [← hq_]; exact (by repeat (first | (with_reducible first | exact HB.out | apply below_alloc | apply pw_below_drewN | apply below_drew1 | refine below_set ?_ GE101.out) | exact HB.out))⟩; clear BK101 HB hq_; have BK101 := n0_; have HB := n1_; clear n0_ n1_)); have hcz10_0 : wc.cell? ⟨gb101, 0, none⟩ = some (.string (⟨#[]⟩ : ByteArray)) := (blk_cell BK101.out 0).trans rfl; have hcz10_1 : wc.cell? ⟨gb101, 1, none⟩ = some (.string (⟨#[]⟩ : ByteArray)) := (blk_cell BK101.out 1).trans rfl; have hcz10_2 : wc.cell? ⟨gb101, 2, none⟩ = some (.string (⟨#[]⟩ : ByteArray)) := (blk_cell BK101.out 2).trans rfl; have hfz10_0 := blk_frozen BK101.out 0; have hfz10_1 := blk_frozen BK101.out 1; have hfz10_2 := blk_frozen BK101.out 2))
          refine bodyPost_ret (results_ct rfl _ _ gb101 25 #[.string (⟨#[]⟩ : ByteArray), .string a0, .string (⟨#[]⟩ : ByteArray)] (0, 0) _ rfl (by (with_reducible repeat (first | refine blk_drewN ?_ _ | refine blk_drew ?_ | refine blk_alloc ?_ _)); refine blk_put (cs := #[.string (⟨#[]⟩ : ByteArray), .string a0, .string (⟨#[]⟩ : ByteArray)]) ?_ 2 _ rfl; (with_reducible repeat (first | refine blk_drewN ?_ _ | refine blk_drew ?_ | refine blk_alloc ?_ _)); refine blk_put (cs := #[.string (⟨#[]⟩ : ByteArray), .string (⟨#[]⟩ : ByteArray), .string (⟨#[]⟩ : ByteArray)]) ?_ 1 _ rfl; (with_reducible repeat (first | refine blk_drewN ?_ _ | refine blk_drew ?_ | refine blk_alloc ?_ _)); refine blk_put (cs := #[.string (⟨#[]⟩ : ByteArray), .string (⟨#[]⟩ : ByteArray), .string (⟨#[]⟩ : ByteArray)]) ?_ 0 _ rfl; (with_reducible repeat (first | refine blk_drewN ?_ _ | refine blk_drew ?_ | refine blk_alloc ?_ _)); exact BK101.out) Try.underlying25 rfl (by kernel_rfl)) rfl ?_
          exact ⟨by first | rfl | (simp [errW_none, errW_some] <;> rfl) | (simp [*, errW_none, errW_some] <;> rfl), by repeat (first | (with_reducible first | exact HB.out | apply below_alloc | apply pw_below_drewN | apply below_drew1 | refine below_set ?_ GE101.out) | exact HB.out)⟩
        · rw [if_neg c9] at H
          have c9b0 : (t103 == 0) = false := beq_eq_false_iff_ne.mpr c9
          have c9b1 : (t103 != 0) = true := bne_iff_ne.mpr c9
          by_cases c11 : t103 = 1
          · rw [if_pos c11] at H
            have c11b0 : (t103 == 1) = true := beq_iff_eq.mpr c11
            have c11b1 : (t103 != 1) = false := bne_eq_false_iff_eq.mpr c11
            clear c11
            by_cases c12 : 0 ≤ t102
            · rw [if_pos c12] at H
              have c12b0 := eq_true c12
              have c12b1 : decide (0 ≤ t102) = true := decide_eq_true c12
              clear c12
              by_cases c13 : t102 ≤ (a0.size : Int)
              · rw [if_pos c13] at H
                have c13b0 := eq_true c13
                have c13b1 : decide (t102 ≤ (a0.size : Int)) = true := decide_eq_true c13
                clear c13
                obtain ⟨ji14, hji14⟩ : ∃ j_ : Int, (wrap64 (t102 + 1)) = j_ := ⟨_, rfl⟩
                replace H : (if 0 ≤ (ji14) then (if (ji14) ≤ (a0.size : Int) then (some (a0.extract 0 (t102 : Int).toNat, a0.extract ((ji14) : Int).toNat a0.size, (⟨#[]⟩ : ByteArray), true)) else (none)) else (none)) = some (r1, r2, r3, r4) := by first | (rw [hji14] at H; exact H) | (simp only [hji14] at H ⊢; exact H)
                (try rw [hji14] at A7)
                (try rw [hji14] at A8)
                have hji14w : (IntKind.i64.wrap (t102 + 1)) = ji14 := (i64_w _).trans hji14
                by_cases c15 : 0 ≤ (ji14)
                · rw [if_pos c15] at H
                  have c15b0 := eq_true c15
                  have c15b1 : decide (0 ≤ (ji14)) = true := decide_eq_true c15
                  clear c15
                  by_cases c16 : (ji14) ≤ (a0.size : Int)
                  · rw [if_pos c16] at H
                    have c16b0 := eq_true c16
                    have c16b1 : decide ((ji14) ≤ (a0.size : Int)) = true := decide_eq_true c16
                    clear c16
                    simp only [Option.some.injEq, Prod.mk.injEq] at H
                    obtain ⟨rfl, rfl, rfl, rfl⟩ := H
                    try go_wp2_with (first | ((with_reducible refine gate_callee (f := 38) rfl ?_); refine goesL_ (some 13) rfl rfl Try.func38 (by kernel_rfl) rfl #[.string a0, .int .u8 47] rfl (by (try simp only [List.map_toArray, List.map_cons, List.map_nil]); first | done | rfl | (simp only [List.length_drop, List.length_take]; rfl)) ?_; (with_reducible refine (spec_verPlace.calls kj1 a0 47 t102 _ A7.out).mono ?_); rintro e w' ⟨rfl, ⟨nd, rfl⟩⟩; refine ⟨_, rfl, ?_⟩; (try (rw [drewN_self wc]; generalize hq_ : World.drewN wc _ = wc; have n0_ : Aside0 (wc.heap[gb101]? = some (.cells #[.string (⟨#[]⟩ : ByteArray), .string (⟨#[]⟩ : ByteArray), .string (⟨#[]⟩ : ByteArray)] 25 (0, 0))) := ⟨by rw [← hq_]; exact (by (with_reducible repeat (first | refine blk_drewN ?_ _ | refine blk_drew ?_ | refine blk_alloc ?_ _)); exact BK101.out)⟩; have n1_ : Aside0 (Below w.heap.size w wc) := ⟨by rw [← hq_]; exact (by repeat (first | (with_reducible first | exact HB.out | apply below_alloc | apply pw_below_drewN | apply below_drew1 | refine below_set ?_ GE101.out) | exact HB.out))⟩; clear BK101 HB hq_; have BK101 := n0_; have HB := n1_; clear n0_ n1_))) | ((with_reducible refine gate_callee (f := 45) rfl ?_); refine goesL_ (some 15) rfl rfl Try.func45 (by kernel_rfl) rfl #[.string a0, .int .u8 47] rfl (by (try simp only [List.map_toArray, List.map_cons, List.map_nil]); first | done | rfl | (simp only [List.length_drop, List.length_take]; rfl)) ?_; (with_reducible refine (spec_verOften.calls kj1 a0 47 t103 _ A8.out).mono ?_); rintro e w' ⟨rfl, ⟨nd, rfl⟩⟩; refine ⟨_, rfl, ?_⟩; (try (rw [drewN_self wc]; generalize hq_ : World.drewN wc _ = wc; have n0_ : Aside0 (wc.heap[gb101]? = some (.cells #[.string (⟨#[]⟩ : ByteArray), .string (⟨#[]⟩ : ByteArray), .string (⟨#[]⟩ : ByteArray)] 25 (0, 0))) := ⟨by rw [← hq_]; exact (by (with_reducible repeat (first | refine blk_drewN ?_ _ | refine blk_drew ?_ | refine blk_alloc ?_ _)); exact BK101.out)⟩; have n1_ : Aside0 (Below w.heap.size w wc) := ⟨by rw [← hq_]; exact (by repeat (first | (with_reducible first | exact HB.out | apply below_alloc | apply pw_below_drewN | apply below_drew1 | refine below_set ?_ GE101.out) | exact HB.out))⟩; clear BK101 HB hq_; have BK101 := n0_; have HB := n1_; clear n0_ n1_))))
                    have n0_ := Aside0.mk (blk_drew BK101.out)
                    have n1_ := Aside0.mk (below_drew1 HB.out)
                    clear BK101
                    clear HB
                    have BK101 := n0_
                    have HB := n1_
                    clear n0_ n1_
                    refine start_ (n := 10) (S := fun w' => True) (ds := []) #[false, false, false, false, false, false, false, false, false, false] (by kernel_rfl) rfl rfl trivial (fun hHeld => ?_); refine with_tabW spec_GroupVersion.tab8 spec_GroupVersion.bits8 (fun HT_ HW_ => ?_)
                    generalize wc.drew = w17 at BK101 HB hHeld ⊢
                    refine pure_ (i := 0) (N := some 22) (v := ?_) (a' := ?_) #[true, false, false, false, false, false, false, false, false, false] rfl rfl (any_of HT_.out (by kernel_rfl)) (fun _ _ _ h => h) (Or.inl ⟨by rfl, ?_⟩) ?_ ?_
                    rotate_left
                    · intro w'
                      go_simp
                      with_reducible rfl
                    rotate_left
                    · simp only [Act.put, List.setIfInBounds_toArray, List.set_cons_zero, List.set_cons_succ, i64_w, i32_w]
                      rfl
                    refine pure_ (i := 1) (N := some 23) (v := ?_) (a' := ?_) #[true, true, false, false, false, false, false, false, false, false] rfl rfl (any_of HT_.out (by kernel_rfl)) (fun _ _ _ h => h) (Or.inl ⟨by rfl, ?_⟩) ?_ ?_
                    rotate_left
                    · intro w'
                      go_simp
                      with_reducible rfl
                    rotate_left
                    · simp only [Act.put, List.setIfInBounds_toArray, List.set_cons_zero, List.set_cons_succ, i64_w, i32_w]
                      rfl
                    refine pure_ (i := 2) (N := some 24) (v := ?_) (a' := ?_) #[true, true, true, false, false, false, false, false, false, false] rfl rfl (any_of HT_.out (by kernel_rfl)) (fun _ _ _ h => h) (Or.inl ⟨by rfl, ?_⟩) ?_ ?_
                    rotate_left
                    · intro w'
                      go_simp
                      with_reducible rfl
                    rotate_left
                    · simp only [Act.put, List.setIfInBounds_toArray, List.set_cons_zero, List.set_cons_succ, i64_w, i32_w]
                      rfl
                    refine pure_ (i := 3) (N := some 25) (v := ?_) (a' := ?_) #[true, true, true, true, false, false, false, false, false, false] rfl rfl (any_of HT_.out (by kernel_rfl)) (fun _ _ _ h => h) (Or.inl ⟨by rfl, ?_⟩) ?_ ?_
                    rotate_left
                    · intro w'
                      go_simp
                      with_reducible rfl
                    rotate_left
                    · simp only [Act.put, List.setIfInBounds_toArray, List.set_cons_zero, List.set_cons_succ, i64_w, i32_w]
                      rfl
                    refine pure_ (i := 4) (N := some 26) (v := ?_) (a' := ?_) #[true, true, true, true, true, false, false, false, false, false] rfl rfl (any_of HT_.out (by kernel_rfl)) (fun _ _ _ h => h) (Or.inl ⟨by rfl, ?_⟩) ?_ ?_
                    rotate_left
                    · intro w'
                      go_simp
                      with_reducible rfl
                    rotate_left
                    · simp only [Act.put, List.setIfInBounds_toArray, List.set_cons_zero, List.set_cons_succ, i64_w, i32_w]
                      rfl
                    refine pure_ (i := 5) (N := some 27) (v := ?_) (a' := ?_) #[true, true, true, true, true, true, false, false, false, false] rfl rfl (any_of HT_.out (by kernel_rfl)) (fun _ _ _ h => h) (Or.inl ⟨by rfl, ?_⟩) ?_ ?_
                    rotate_left
                    · intro w'
                      go_simp
                      with_reducible rfl
                    rotate_left
                    · simp only [Act.put, List.setIfInBounds_toArray, List.set_cons_zero, List.set_cons_succ, i64_w, i32_w]
                      rfl
                    refine pure_ (i := 6) (N := some 28) (v := ?_) (a' := ?_) #[true, true, true, true, true, true, true, false, false, false] rfl rfl (any_of HT_.out (by kernel_rfl)) (fun _ _ _ h => h) (Or.inl ⟨by rfl, ?_⟩) ?_ ?_
                    rotate_left
                    · intro w'
                      go_simp
                      with_reducible rfl
                    rotate_left
                    · simp only [Act.put, List.setIfInBounds_toArray, List.set_cons_zero, List.set_cons_succ, i64_w, i32_w]
                      rfl
                    refine pure_ (i := 7) (N := some 29) (v := ?_) (a' := ?_) #[true, true, true, true, true, true, true, true, false, false] rfl rfl (any_of HT_.out (by kernel_rfl)) (fun _ _ _ h => h) (Or.inl ⟨by rfl, ?_⟩) ?_ ?_
                    rotate_left
                    · intro w'
                      go_simp
                      with_reducible rfl
                    rotate_left
                    · simp only [Act.put, List.setIfInBounds_toArray, List.set_cons_zero, List.set_cons_succ, i64_w, i32_w]
                      rfl
                    refine one_ (i := 8) (N := none) #[true, true, true, true, true, true, true, true, true, false] rfl rfl (one_of HT_.out (by kernel_rfl)) (by decide) (fun K hK => ?_)
                    have hs18 : w17.cell? ⟨gb101, 0, none⟩ = some (.string (⟨#[]⟩ : ByteArray)) := (blk_cell BK101.out 0).trans rfl
                    have hfs18 := blk_frozen BK101.out 0
                    have hs19 : w17.cell? ⟨gb101, 1, none⟩ = some (.string (⟨#[]⟩ : ByteArray)) := (blk_cell BK101.out 1).trans rfl
                    have hfs19 := blk_frozen BK101.out 1
                    have hs20 : w17.cell? ⟨gb101, 2, none⟩ = some (.string (⟨#[]⟩ : ByteArray)) := (blk_cell BK101.out 2).trans rfl
                    have hfs20 := blk_frozen BK101.out 2
                    refine skip_ (w1 := ?_) (by rfl) rfl ?_ ?_
                    rotate_left
                    · go_simp
                      rfl
                    refine hK.out _ _ trivial (fun hHeld => ?_)
                    clear hK K
                    refine pure_ (i := 9) (N := some 3) (v := ?_) (a' := ?_) #[true, true, true, true, true, true, true, true, true, true] rfl rfl (any_of HT_.out (by kernel_rfl)) (fun _ _ _ h => h) (Or.inl ⟨by rfl, ?_⟩) ?_ ?_
                    rotate_left
                    · intro w'
                      go_simp
                      with_reducible rfl
                    rotate_left
                    · simp only [Act.put, List.setIfInBounds_toArray, List.set_cons_zero, List.set_cons_succ, i64_w, i32_w]
                      rfl
                    refine done_ (done_of HT_.out (by kernel_rfl)) ?_
                    try go_wp2
                    refine bodyPost_ret (results_ct rfl _ _ gb101 25 #[.string (a0.extract 0 (t102 : Int).toNat), .string (a0.extract ((ji14) : Int).toNat a0.size), .string (⟨#[]⟩ : ByteArray)] (0, 0) _ rfl (by (with_reducible repeat (first | refine blk_drewN ?_ _ | refine blk_drew ?_ | refine blk_alloc ?_ _)); refine blk_put (cs := #[.string (a0.extract 0 (t102 : Int).toNat), .string (a0.extract ((ji14) : Int).toNat a0.size), .string (⟨#[]⟩ : ByteArray)]) ?_ 2 _ rfl; (with_reducible repeat (first | refine blk_drewN ?_ _ | refine blk_drew ?_ | refine blk_alloc ?_ _)); refine blk_put (cs := #[.string (a0.extract 0 (t102 : Int).toNat), .string (⟨#[]⟩ : ByteArray), .string (⟨#[]⟩ : ByteArray)]) ?_ 1 _ rfl; (with_reducible repeat (first | refine blk_drewN ?_ _ | refine blk_drew ?_ | refine blk_alloc ?_ _)); refine blk_put (cs := #[.string (⟨#[]⟩ : ByteArray), .string (⟨#[]⟩ : ByteArray), .string (⟨#[]⟩ : ByteArray)]) ?_ 0 _ rfl; (with_reducible repeat (first | refine blk_drewN ?_ _ | refine blk_drew ?_ | refine blk_alloc ?_ _)); exact BK101.out) Try.underlying25 rfl (by kernel_rfl)) rfl ?_
                    exact ⟨by first | rfl | (simp [errW_none, errW_some] <;> rfl) | (simp only [← hji14]; first | rfl | (simp [errW_none, errW_some] <;> rfl)) | (simp [*, errW_none, errW_some] <;> rfl), by repeat (first | (with_reducible first | exact HB.out | apply below_alloc | apply pw_below_drewN | apply below_drew1 | refine below_set ?_ GE101.out) | exact HB.out)⟩
                  · rw [if_neg c16] at H
                    exact absurd H (by simp)
                · rw [if_neg c15] at H
                  exact absurd H (by simp)
              · rw [if_neg c13] at H
                exact absurd H (by simp)
            · rw [if_neg c12] at H
              exact absurd H (by simp)
          · rw [if_neg c11] at H
            have c11b0 : (t103 == 1) = false := beq_eq_false_iff_ne.mpr c11
            have c11b1 : (t103 != 1) = true := bne_iff_ne.mpr c11
            simp only [Option.some.injEq, Prod.mk.injEq] at H
            obtain ⟨rfl, rfl, rfl, rfl⟩ := H
            go_wp2_with (first | ((with_reducible refine gate_callee (f := 38) rfl ?_); refine goesL_ (some 13) rfl rfl Try.func38 (by kernel_rfl) rfl #[.string a0, .int .u8 47] rfl (by (try simp only [List.map_toArray, List.map_cons, List.map_nil]); first | done | rfl | (simp only [List.length_drop, List.length_take]; rfl)) ?_; (with_reducible refine (spec_verPlace.calls kj1 a0 47 t102 _ A7.out).mono ?_); rintro e w' ⟨rfl, ⟨nd, rfl⟩⟩; refine ⟨_, rfl, ?_⟩; (try (rw [drewN_self wc]; generalize hq_ : World.drewN wc _ = wc; have n0_ : Aside0 (wc.heap[gb101]? = some (.cells #[.string (⟨#[]⟩ : ByteArray), .string (⟨#[]⟩ : ByteArray), .string (⟨#[]⟩ : ByteArray)] 25 (0, 0))) := ⟨by rw [← hq_]; exact (by (with_reducible repeat (first | refine blk_drewN ?_ _ | refine blk_drew ?_ | refine blk_alloc ?_ _)); exact BK101.out)⟩; have n1_ : Aside0 (Below w.heap.size w wc) := ⟨by rw [← hq_]; exact (by repeat (first | (with_reducible first | exact HB.out | apply below_alloc | apply pw_below_drewN | apply below_drew1 | refine below_set ?_ GE101.out) | exact HB.out))⟩; clear BK101 HB hq_; have BK101 := n0_; have HB := n1_; clear n0_ n1_))) | ((with_reducible refine gate_callee (f := 45) rfl ?_); refine goesL_ (some 15) rfl rfl Try.func45 (by kernel_rfl) rfl #[.string a0, .int .u8 47] rfl (by (try simp only [List.map_toArray, List.map_cons, List.map_nil]); first | done | rfl | (simp only [List.length_drop, List.length_take]; rfl)) ?_; (with_reducible refine (spec_verOften.calls kj1 a0 47 t103 _ A8.out).mono ?_); rintro e w' ⟨rfl, ⟨nd, rfl⟩⟩; refine ⟨_, rfl, ?_⟩; (try (rw [drewN_self wc]; generalize hq_ : World.drewN wc _ = wc; have n0_ : Aside0 (wc.heap[gb101]? = some (.cells #[.string (⟨#[]⟩ : ByteArray), .string (⟨#[]⟩ : ByteArray), .string (⟨#[]⟩ : ByteArray)] 25 (0, 0))) := ⟨by rw [← hq_]; exact (by (with_reducible repeat (first | refine blk_drewN ?_ _ | refine blk_drew ?_ | refine blk_alloc ?_ _)); exact BK101.out)⟩; have n1_ : Aside0 (Below w.heap.size w wc) := ⟨by rw [← hq_]; exact (by repeat (first | (with_reducible first | exact HB.out | apply below_alloc | apply pw_below_drewN | apply below_drew1 | refine below_set ?_ GE101.out) | exact HB.out))⟩; clear BK101 HB hq_; have BK101 := n0_; have HB := n1_; clear n0_ n1_)); have hcz21_0 : wc.cell? ⟨gb101, 0, none⟩ = some (.string (⟨#[]⟩ : ByteArray)) := (blk_cell BK101.out 0).trans rfl; have hcz21_1 : wc.cell? ⟨gb101, 1, none⟩ = some (.string (⟨#[]⟩ : ByteArray)) := (blk_cell BK101.out 1).trans rfl; have hcz21_2 : wc.cell? ⟨gb101, 2, none⟩ = some (.string (⟨#[]⟩ : ByteArray)) := (blk_cell BK101.out 2).trans rfl; have hfz21_0 := blk_frozen BK101.out 0; have hfz21_1 := blk_frozen BK101.out 1; have hfz21_2 := blk_frozen BK101.out 2))
            refine bodyPost_ret (results_ct rfl _ _ gb101 25 #[.string (⟨#[]⟩ : ByteArray), .string (⟨#[]⟩ : ByteArray), .string (⟨#[]⟩ : ByteArray)] (0, 0) _ rfl (by (with_reducible repeat (first | refine blk_drewN ?_ _ | refine blk_drew ?_ | refine blk_alloc ?_ _)); refine blk_put (cs := #[.string (⟨#[]⟩ : ByteArray), .string (⟨#[]⟩ : ByteArray), .string (⟨#[]⟩ : ByteArray)]) ?_ 2 _ rfl; (with_reducible repeat (first | refine blk_drewN ?_ _ | refine blk_drew ?_ | refine blk_alloc ?_ _)); refine blk_put (cs := #[.string (⟨#[]⟩ : ByteArray), .string (⟨#[]⟩ : ByteArray), .string (⟨#[]⟩ : ByteArray)]) ?_ 1 _ rfl; (with_reducible repeat (first | refine blk_drewN ?_ _ | refine blk_drew ?_ | refine blk_alloc ?_ _)); refine blk_put (cs := #[.string (⟨#[]⟩ : ByteArray), .string (⟨#[]⟩ : ByteArray), .string (⟨#[]⟩ : ByteArray)]) ?_ 0 _ rfl; (with_reducible repeat (first | refine blk_drewN ?_ _ | refine blk_drew ?_ | refine blk_alloc ?_ _)); exact BK101.out) Try.underlying25 rfl (by kernel_rfl)) rfl ?_
            exact ⟨by first | rfl | (simp [errW_none, errW_some] <;> rfl) | (simp [*, errW_none, errW_some] <;> rfl), by repeat (first | (with_reducible first | exact HB.out | apply below_alloc | apply pw_below_drewN | apply below_drew1 | refine below_set ?_ GE101.out) | exact HB.out)⟩

/-! ### schema_zzIndex: function 55 -/
def schema_zzIndex.l0 : Nat → ByteArray → ByteArray → Int → Option (Int)
  | 0, _, _, _ => none
  | k + 1, x0, x1, x5 => if (wrap64 (x5 + (x1.size : Int))) ≤ (x0.size : Int) then (if 0 ≤ x5 then (if x5 ≤ (wrap64 (x5 + (x1.size : Int))) then (if (x0.extract (x5 : Int).toNat ((wrap64 (x5 + (x1.size : Int))) : Int).toNat).toList = x1.toList then (some x5) else (schema_zzIndex.l0 k x0 x1 (wrap64 (x5 + 1)))) else (none)) else (none)) else (some (-1))
def schema_zzIndex.f (k : Nat) (a0 : ByteArray) (a1 : ByteArray) : Option (Int) := schema_zzIndex.l0 k a0 a1 0
theorem schema_zzIndex.mono_l : ∀ k, (∀ y0 y1 y2, LeO (schema_zzIndex.l0 k y0 y1 y2) (schema_zzIndex.l0 (k + 1) y0 y1 y2))
  | 0 => fun _ _ _ r h => by simp [schema_zzIndex.l0] at h
  | k + 1 => by
    have ih0 := schema_zzIndex.mono_l k
    · intro y0 y1 y2
      unfold schema_zzIndex.l0
      repeat' first
      | (with_reducible exact ih0 _ _ _)
      | (with_reducible exact LeO.refl _)
      | (with_reducible exact LeO.none _)
      | (with_reducible refine LeO.ite ?_ ?_)
      | (with_reducible refine LeO.bind ?_ (fun _ => ?_))
      | exact ih0 _ _ _
      | exact LeO.none _
      | refine LeO.ite ?_ ?_
      | refine LeO.bind ?_ (fun _ => ?_)
theorem schema_zzIndex.mono : ∀ a0 a1 k, LeO (schema_zzIndex.f k a0 a1) (schema_zzIndex.f (k + 1) a0 a1) := by
  intro a0 a1 k
  have ih0 := schema_zzIndex.mono_l k
  unfold schema_zzIndex.f
  repeat' first
      | (with_reducible exact ih0 _ _ _)
      | (with_reducible exact LeO.refl _)
      | (with_reducible exact LeO.none _)
      | (with_reducible refine LeO.ite ?_ ?_)
      | (with_reducible refine LeO.bind ?_ (fun _ => ?_))
      | exact ih0 _ _ _
      | exact LeO.none _
      | refine LeO.ite ?_ ?_
      | refine LeO.bind ?_ (fun _ => ?_)
set_option maxHeartbeats 8000000 in
set_option maxRecDepth 100000 in
theorem schema_zzIndex.calls (k : Nat) (a0 : ByteArray) (a1 : ByteArray) (r : Int) (w : World) (h : schema_zzIndex.f k a0 a1 = some r) :
    Calls Try.prog 55 #[.string a0, .string a1] w fun e w' => e = .returned (.int .i64 r) ∧ Drawn0 w w' := by
  have H : (schema_zzIndex.l0 k a0 a1 0) = some r := h
  clear h
  have H' := Aside0.mk H
  clear H
  go_enter Try.func55, Try.ntmps55
  go_wp2
  go_loopg [5] k (fun kq v5 w' => ∃ (x5_1 : Int), v5 = .int .i64 x5_1 ∧ Aside0 (schema_zzIndex.l0 kq a0 a1 x5_1 = some r) ∧ Aside0 (kq ≤ k) ∧ Drawn0 w w')
  case atStart => exact ⟨(0), (by first | rfl | (simp; done) | (simp [*]; done)), H', ⟨Nat.le_refl _⟩, by repeat (first | exact Drawn0.refl _ | apply Drawn0.step)⟩
  case round =>
    clear H'
    try clear p2
    obtain ⟨x5_1, rfl, HA, HK1, ⟨m1, rfl⟩⟩ := hrel
    cases gk with
    | zero => exact absurd HA.out (by simp [schema_zzIndex.l0])
    | succ k1 =>
      have H := HA.out
      clear HA
      simp only [schema_zzIndex.l0] at H
      by_cases c3 : (wrap64 (x5_1 + (a1.size : Int))) ≤ (a0.size : Int)
      · rw [if_pos c3] at H
        have c3b0 : decide ((wrap64 (x5_1 + (a1.size : Int))) ≤ (a0.size : Int)) = true := decide_eq_true c3
        clear c3
        by_cases c4 : 0 ≤ x5_1
        · rw [if_pos c4] at H
          have c4b0 := eq_true c4
          have c4b1 : decide (0 ≤ x5_1) = true := decide_eq_true c4
          clear c4
          by_cases c5 : x5_1 ≤ (wrap64 (x5_1 + (a1.size : Int)))
          · rw [if_pos c5] at H
            have c5b0 := eq_true c5
            have c5b1 : decide (x5_1 ≤ (wrap64 (x5_1 + (a1.size : Int)))) = true := decide_eq_true c5
            have c6b0 := eq_true (of_decide_eq_true (by first | (with_reducible assumption) | assumption) : (wrap64 (x5_1 + (a1.size : Int))) ≤ (a0.size : Int))
            by_cases c7 : (a0.extract (x5_1 : Int).toNat ((wrap64 (x5_1 + (a1.size : Int))) : Int).toNat).toList = a1.toList
            · rw [if_pos c7] at H
              have c7b0 : ((a0.extract (x5_1 : Int).toNat ((wrap64 (x5_1 + (a1.size : Int))) : Int).toNat).toList == a1.toList) = true := beq_iff_eq.mpr c7
              have c7b1 : ((a0.extract (x5_1 : Int).toNat ((wrap64 (x5_1 + (a1.size : Int))) : Int).toNat).toList != a1.toList) = false := bne_eq_false_iff_eq.mpr c7
              clear c7
              obtain rfl := Option.some.inj H
              go_wp2
              go_ret
              exact ⟨by first | rfl | (simp; done) | (simp [*]; done), by repeat (first | exact Drawn0.refl _ | apply Drawn0.step)⟩
            · rw [if_neg c7] at H
              have c7b0 : ((a0.extract (x5_1 : Int).toNat ((wrap64 (x5_1 + (a1.size : Int))) : Int).toNat).toList == a1.toList) = false := beq_eq_false_iff_ne.mpr c7
              have c7b1 : ((a0.extract (x5_1 : Int).toNat ((wrap64 (x5_1 + (a1.size : Int))) : Int).toNat).toList != a1.toList) = true := bne_iff_ne.mpr c7
              have H' := Aside0.mk H
              clear H
              go_wp2
              go_roundg k1
              case measure => have := HK1.out; omega
              case rel => exact ⟨(wrap64 (x5_1 + 1)), (by first | rfl | (simp; done) | (simp [*]; done)), H', ⟨by have := HK1.out; omega⟩, by repeat (first | exact Drawn0.refl _ | apply Drawn0.step)⟩
          · rw [if_neg c5] at H
            exact absurd H (by simp)
        · rw [if_neg c4] at H
          exact absurd H (by simp)
      · rw [if_neg c3] at H
        have c3b0 : decide ((wrap64 (x5_1 + (a1.size : Int))) ≤ (a0.size : Int)) = false := decide_eq_false c3
        clear c3
        obtain rfl := Option.some.inj H
        go_wp2
        go_ret
        exact ⟨by first | rfl | (simp; done) | (simp [*]; done), by repeat (first | exact Drawn0.refl _ | apply Drawn0.step)⟩

/-! ### schema_zzCount: function 58 -/
def schema_zzCount.l1 : Nat → ByteArray → ByteArray → Int → Int → Option (Int)
  | 0, _, _, _, _ => none
  | k + 1, x0, x1, x5, x6 => if (wrap64 (x6 + (x1.size : Int))) ≤ (x0.size : Int) then (if 0 ≤ x6 then (if x6 ≤ (wrap64 (x6 + (x1.size : Int))) then (if (x0.extract (x6 : Int).toNat ((wrap64 (x6 + (x1.size : Int))) : Int).toNat).toList = x1.toList then (schema_zzCount.l1 k x0 x1 (wrap64 (x5 + 1)) (wrap64 (x6 + (x1.size : Int)))) else (schema_zzCount.l1 k x0 x1 x5 (wrap64 (x6 + 1)))) else (none)) else (none)) else (some x5)
def schema_zzCount.f (k : Nat) (a0 : ByteArray) (a1 : ByteArray) : Option (Int) := if (a1.size : Int) = 0 then (none) else (schema_zzCount.l1 k a0 a1 0 0)
theorem schema_zzCount.mono_l : ∀ k, (∀ y0 y1 y2 y3, LeO (schema_zzCount.l1 k y0 y1 y2 y3) (schema_zzCount.l1 (k + 1) y0 y1 y2 y3))
  | 0 => fun _ _ _ _ r h => by simp [schema_zzCount.l1] at h
  | k + 1 => by
    have ih0 := schema_zzCount.mono_l k
    · intro y0 y1 y2 y3
      unfold schema_zzCount.l1
      repeat' first
      | (with_reducible exact ih0 _ _ _ _)
      | (with_reducible exact LeO.refl _)
      | (with_reducible exact LeO.none _)
      | (with_reducible refine LeO.ite ?_ ?_)
      | (with_reducible refine LeO.bind ?_ (fun _ => ?_))
      | exact ih0 _ _ _ _
      | exact LeO.none _
      | refine LeO.ite ?_ ?_
      | refine LeO.bind ?_ (fun _ => ?_)
theorem schema_zzCount.mono : ∀ a0 a1 k, LeO (schema_zzCount.f k a0 a1) (schema_zzCount.f (k + 1) a0 a1) := by
  intro a0 a1 k
  have ih0 := schema_zzCount.mono_l k
  unfold schema_zzCount.f
  repeat' first
      | (with_reducible exact ih0 _ _ _ _)
      | (with_reducible exact LeO.refl _)
      | (with_reducible exact LeO.none _)
      | (with_reducible refine LeO.ite ?_ ?_)
      | (with_reducible refine LeO.bind ?_ (fun _ => ?_))
      | exact ih0 _ _ _ _
      | exact LeO.none _
      | refine LeO.ite ?_ ?_
      | refine LeO.bind ?_ (fun _ => ?_)
set_option maxHeartbeats 8000000 in
set_option maxRecDepth 100000 in
theorem schema_zzCount.calls (k : Nat) (a0 : ByteArray) (a1 : ByteArray) (r : Int) (w : World) (h : schema_zzCount.f k a0 a1 = some r) :
    Calls Try.prog 58 #[.string a0, .string a1] w fun e w' => e = .returned (.int .i64 r) ∧ Drawn0 w w' := by
  have H : (if (a1.size : Int) = 0 then (none) else (schema_zzCount.l1 k a0 a1 0 0)) = some r := h
  clear h
  by_cases c3 : (a1.size : Int) = 0
  · rw [if_pos c3] at H
    exact absurd H (by simp)
  · rw [if_neg c3] at H
    have c3b0 : ((a1.size : Int) == 0) = false := beq_eq_false_iff_ne.mpr c3
    have c3b1 : ((a1.size : Int) != 0) = true := bne_iff_ne.mpr c3
    have H' := Aside0.mk H
    clear H
    go_enter Try.func58, Try.ntmps58
    go_wp2
    go_loopg [5, 6] k (fun kq v5 v6 w' => ∃ (x5_1 : Int) (x6_1 : Int), v5 = .int .i64 x5_1 ∧ v6 = .int .i64 x6_1 ∧ Aside0 (schema_zzCount.l1 kq a0 a1 x5_1 x6_1 = some r) ∧ Aside0 (kq ≤ k) ∧ Drawn0 w w')
    case atStart => exact ⟨(0), (0), (by first | rfl | (simp; done) | (simp [*]; done)), (by first | rfl | (simp; done) | (simp [*]; done)), H', ⟨Nat.le_refl _⟩, by repeat (first | exact Drawn0.refl _ | apply Drawn0.step)⟩
    case round =>
      clear H'
      try clear p2
      try clear c3
      try clear c3b0
      try clear c3b1
      obtain ⟨x5_1, x6_1, rfl, rfl, HA, HK1, ⟨m1, rfl⟩⟩ := hrel
      cases gk with
      | zero => exact absurd HA.out (by simp [schema_zzCount.l1])
      | succ k1 =>
        have H := HA.out
        clear HA
        simp only [schema_zzCount.l1] at H
        by_cases c4 : (wrap64 (x6_1 + (a1.size : Int))) ≤ (a0.size : Int)
        · rw [if_pos c4] at H
          have c4b0 : decide ((wrap64 (x6_1 + (a1.size : Int))) ≤ (a0.size : Int)) = true := decide_eq_true c4
          clear c4
          by_cases c5 : 0 ≤ x6_1
          · rw [if_pos c5] at H
            have c5b0 := eq_true c5
            have c5b1 : decide (0 ≤ x6_1) = true := decide_eq_true c5
            clear c5
            by_cases c6 : x6_1 ≤ (wrap64 (x6_1 + (a1.size : Int)))
            · rw [if_pos c6] at H
              have c6b0 := eq_true c6
              have c6b1 : decide (x6_1 ≤ (wrap64 (x6_1 + (a1.size : Int)))) = true := decide_eq_true c6
              have c7b0 := eq_true (of_decide_eq_true (by first | (with_reducible assumption) | assumption) : (wrap64 (x6_1 + (a1.size : Int))) ≤ (a0.size : Int))
              by_cases c8 : (a0.extract (x6_1 : Int).toNat ((wrap64 (x6_1 + (a1.size : Int))) : Int).toNat).toList = a1.toList
              · rw [if_pos c8] at H
                have c8b0 : ((a0.extract (x6_1 : Int).toNat ((wrap64 (x6_1 + (a1.size : Int))) : Int).toNat).toList == a1.toList) = true := beq_iff_eq.mpr c8
                have c8b1 : ((a0.extract (x6_1 : Int).toNat ((wrap64 (x6_1 + (a1.size : Int))) : Int).toNat).toList != a1.toList) = false := bne_eq_false_iff_eq.mpr c8
                clear c8
                have H' := Aside0.mk H
                clear H
                go_wp2
                go_roundg k1
                case measure => have := HK1.out; omega
                case rel => exact ⟨(wrap64 (x5_1 + 1)), (wrap64 (x6_1 + (a1.size : Int))), (by first | rfl | (simp; done) | (simp [*]; done)), (by first | rfl | (simp; done) | (simp [*]; done)), H', ⟨by have := HK1.out; omega⟩, by repeat (first | exact Drawn0.refl _ | apply Drawn0.step)⟩
              · rw [if_neg c8] at H
                have c8b0 : ((a0.extract (x6_1 : Int).toNat ((wrap64 (x6_1 + (a1.size : Int))) : Int).toNat).toList == a1.toList) = false := beq_eq_false_iff_ne.mpr c8
                have c8b1 : ((a0.extract (x6_1 : Int).toNat ((wrap64 (x6_1 + (a1.size : Int))) : Int).toNat).toList != a1.toList) = true := bne_iff_ne.mpr c8
                have H' := Aside0.mk H
                clear H
                go_wp2
                go_roundg k1
                case measure => have := HK1.out; omega
                case rel => exact ⟨(x5_1), (wrap64 (x6_1 + 1)), (by first | rfl | (simp; done) | (simp [*]; done)), (by first | rfl | (simp; done) | (simp [*]; done)), H', ⟨by have := HK1.out; omega⟩, by repeat (first | exact Drawn0.refl _ | apply Drawn0.step)⟩
            · rw [if_neg c6] at H
              exact absurd H (by simp)
          · rw [if_neg c5] at H
            exact absurd H (by simp)
        · rw [if_neg c4] at H
          have c4b0 : decide ((wrap64 (x6_1 + (a1.size : Int))) ≤ (a0.size : Int)) = false := decide_eq_false c4
          clear c4
          obtain rfl := Option.some.inj H
          go_wp2
          go_ret
          exact ⟨by first | rfl | (simp; done) | (simp [*]; done), by repeat (first | exact Drawn0.refl _ | apply Drawn0.step)⟩

/-! ### errors_New: function 59 -/
set_option maxHeartbeats 1000000 in
theorem errors_New.calls (s : ByteArray) (w : World) :
    Calls Try.prog 59 #[.string s] w fun e w' => (∃ x, e = .returned (.iface 91 x)) ∧ Below w.heap.size w w' := by
  have hu1 := Try.underlying93
  go_enter Try.func59, Try.ntmps59
  go_wp2_with fail
  go_ret
  exact ⟨⟨_, rfl⟩, by repeat (first | (with_reducible exact Below.refl _ _) | apply below_alloc | apply pw_below_drewN | apply below_drew1)⟩
/-! ### schema_ParseGroupVersion: function 44 -/
def pgv (k : Nat) (s : ByteArray) : Option (ByteArray × ByteArray × Bool) :=
  if s.toList = [] then some (⟨#[]⟩, ⟨#[]⟩, true) else if s.toList = [47] then some (⟨#[]⟩, ⟨#[]⟩, true) else
  (schema_zzCount.f k s ⟨#[47]⟩).bind fun c => if c = 0 then some (⟨#[]⟩, s, true) else if c = 1 then (schema_zzIndex.f k s ⟨#[47]⟩).bind fun i => (if 0 ≤ i ∧ i + 1 ≤ (s.size : Int) ∧ (s.size : Int) ≤ 9223372036854775807 then some (s.extract 0 i.toNat, s.extract (i + 1).toNat s.size, true) else none) else some (⟨#[]⟩, ⟨#[]⟩, false)
theorem pgv_mono (s : ByteArray) (k : Nat) : LeO (pgv k s) (pgv (k + 1) s) := by
  unfold pgv
  refine LeO.ite (LeO.refl _) (LeO.ite (LeO.refl _) (LeO.bind (schema_zzCount.mono _ _ _) fun _ => LeO.ite (LeO.refl _) (LeO.ite (LeO.bind (schema_zzIndex.mono _ _ _) fun _ => LeO.refl _) (LeO.refl _))))
theorem toList_nil_size (s : ByteArray) (h : ¬ s.toList = []) : ¬ s.size = 0 := by
  intro z
  apply h
  unfold ByteArray.toList
  rw [ByteArray.toList.loop, if_neg (by omega)]; rfl
theorem toList_nil_of (s : ByteArray) (h : s.toList = []) : s.size = 0 := by
  have hd : s.toList.length = s.size := by
    have : ∀ n i (r : List UInt8), i + n = s.size → (ByteArray.toList.loop s i r).length = r.length + n := by
      intro n
      induction n with
      | zero => intro i r hi; rw [ByteArray.toList.loop, if_neg (by omega)]; simp
      | succ n ih => intro i r hi; rw [ByteArray.toList.loop, if_pos (by omega), ih (i + 1) _ (by omega)]; simp; omega
    have := this s.size 0 [] (by omega)
    simpa [ByteArray.toList] using this
  rw [h] at hd
  exact hd.symm
set_option maxHeartbeats 1000000 in
theorem pgv_yes (k : Nat) (s g v : ByteArray) (w : World) (h : pgv k s = some (g, v, true)) :
    Calls Try.prog 44 #[.string s] w fun e w' => e = .returned (.tuple #[.agg #[.string g, .string v], .nilIface]) ∧ Below w.heap.size w w' := by
  have hu1 := Try.underlying52
  unfold pgv at h
  by_cases h0 : s.toList = []
  · rw [if_pos h0] at h
    simp only [Option.some.injEq, Prod.mk.injEq, and_true] at h
    obtain ⟨rfl, rfl⟩ := h
    have e0 : ((s.size : Int) == 0) = true := beq_iff_eq.2 (by have := toList_nil_of s h0; omega)
    clear h0
    go_enter Try.func44, Try.ntmps44
    go_wp2_with fail
    exact bodyPost_ret (v := .tuple #[.agg #[.string ⟨#[]⟩, .string ⟨#[]⟩], .nilIface]) (by simp [results, Try.results44, go_sem]) rfl ⟨rfl, (by repeat (first | (with_reducible exact Below.refl _ _) | apply below_alloc | apply pw_below_drewN | apply below_drew1 | refine below_set ?_ (Nat.le_refl _)))⟩
  · rw [if_neg h0] at h
    have e0 : ((s.size : Int) == 0) = false := beq_eq_false_iff_ne.2 (by have := toList_nil_size s h0; omega)
    clear h0
    by_cases h1 : s.toList = [47]
    · rw [if_pos h1] at h
      simp only [Option.some.injEq, Prod.mk.injEq, and_true] at h
      obtain ⟨rfl, rfl⟩ := h
      have e1 : (s.toList == [47]) = true := beq_iff_eq.2 h1
      clear h1
      go_enter Try.func44, Try.ntmps44
      go_wp2_with fail
      exact bodyPost_ret (v := .tuple #[.agg #[.string ⟨#[]⟩, .string ⟨#[]⟩], .nilIface]) (by simp [results, Try.results44, go_sem]) rfl ⟨rfl, (by repeat (first | (with_reducible exact Below.refl _ _) | apply below_alloc | apply pw_below_drewN | apply below_drew1 | refine below_set ?_ (Nat.le_refl _)))⟩
    · rw [if_neg h1] at h
      have e1 : (s.toList == [47]) = false := beq_eq_false_iff_ne.2 h1
      clear h1
      replace h := Option.bind_eq_some_iff.mp h
      obtain ⟨c, hc, h⟩ := h
      have HC := Aside0.mk hc
      clear hc
      by_cases h2 : c = 0
      · rw [if_pos h2] at h
        simp only [Option.some.injEq, Prod.mk.injEq, and_true] at h
        obtain ⟨rfl, rfl⟩ := h
        subst h2
        go_enter Try.func44, Try.ntmps44
        go_wp2_with fail
        refine (schema_zzCount.calls _ _ _ _ _ HC.out).mono ?_
        rintro e w1 ⟨rfl, ⟨m, rfl⟩⟩
        go_wp2_with fail
        exact bodyPost_ret (v := .tuple #[.agg #[.string ⟨#[]⟩, .string s], .nilIface]) (by simp [results, Try.results44, go_sem]) rfl ⟨rfl, (by repeat (first | (with_reducible exact Below.refl _ _) | apply below_alloc | apply pw_below_drewN | apply below_drew1 | refine below_set ?_ (Nat.le_refl _)))⟩
      · rw [if_neg h2] at h
        have e2 : (c == 0) = false := beq_eq_false_iff_ne.2 h2
        clear h2
        by_cases h3 : c = 1
        · rw [if_pos h3] at h
          subst h3
          replace h := Option.bind_eq_some_iff.mp h
          obtain ⟨i, hi, h⟩ := h
          have HI := Aside0.mk hi
          clear hi
          by_cases h4 : 0 ≤ i ∧ i + 1 ≤ (s.size : Int) ∧ (s.size : Int) ≤ 9223372036854775807
          · rw [if_pos h4] at h
            simp only [Option.some.injEq, Prod.mk.injEq, and_true] at h
            obtain ⟨rfl, rfl⟩ := h
            obtain ⟨n, rfl⟩ := Int.eq_ofNat_of_zero_le h4.1
            have b0 : (s.size : Int) ≤ 9223372036854775807 := h4.2.2
            have hw2 : ((n : Int) + 1).toNat = n + 1 := by omega
            rw [Int.toNat_natCast, hw2]
            have b1 : n + 1 ≤ s.size := by omega
            have b2 : n ≤ s.size := by omega
            clear h4 e2
            go_enter Try.func44, Try.ntmps44
            go_wp2_with fail
            refine (schema_zzCount.calls _ _ _ _ _ HC.out).mono ?_
            rintro e w1 ⟨rfl, ⟨m, rfl⟩⟩
            go_wp2_with fail
            refine (schema_zzIndex.calls _ _ _ _ _ HI.out).mono ?_
            rintro e w1 ⟨rfl, ⟨m2, rfl⟩⟩
            go_wp2_with fail
            have hw1 : IntKind.i64.wrap ((n : Int) + 1) = (n : Int) + 1 := IntWalk.i64_in _ (by omega)
            have hw3 : 0 ≤ (n : Int) + 1 := by omega
            have hw4 : (n : Int) + 1 ≤ (s.size : Int) := by omega
            have hw5 : (n : Int) ≤ (s.size : Int) := by omega
            go_region
            all_goals go_wp2_with fail
            all_goals exact bodyPost_ret (v := .tuple #[.agg #[.string (s.extract 0 n), .string (s.extract (n + 1) s.size)], .nilIface]) (by simp [results, Try.results44, go_sem]) rfl ⟨rfl, (by repeat (first | (with_reducible exact Below.refl _ _) | apply below_alloc | apply pw_below_drewN | apply below_drew1 | refine below_set ?_ (Nat.le_refl _)))⟩
          · rw [if_neg h4] at h; simp at h
        · rw [if_neg h3] at h; simp at h
set_option maxHeartbeats 1000000 in
theorem pgv_no (k : Nat) (s g v : ByteArray) (w : World) (h : pgv k s = some (g, v, false)) : g = ⟨#[]⟩ ∧ v = ⟨#[]⟩ ∧
    Calls Try.prog 44 #[.string s] w fun e w' => (∃ x, e = .returned (.tuple #[.agg #[.string ⟨#[]⟩, .string ⟨#[]⟩], .iface 91 x])) ∧ Below w.heap.size w w' := by
  have hu1 := Try.underlying52
  unfold pgv at h
  by_cases h0 : s.toList = []
  · rw [if_pos h0] at h; simp at h
  · rw [if_neg h0] at h
    have e0 : ((s.size : Int) == 0) = false := beq_eq_false_iff_ne.2 (by have := toList_nil_size s h0; omega)
    clear h0
    by_cases h1 : s.toList = [47]
    · rw [if_pos h1] at h; simp at h
    · rw [if_neg h1] at h
      have e1 : (s.toList == [47]) = false := beq_eq_false_iff_ne.2 h1
      clear h1
      replace h := Option.bind_eq_some_iff.mp h
      obtain ⟨c, hc, h⟩ := h
      have HC := Aside0.mk hc
      clear hc
      by_cases h2 : c = 0
      · rw [if_pos h2] at h; simp at h
      · rw [if_neg h2] at h
        by_cases h3 : c = 1
        · rw [if_pos h3] at h
          exfalso
          replace h := Option.bind_eq_some_iff.mp h
          obtain ⟨i, _, h⟩ := h
          split at h <;> simp at h
        · rw [if_neg h3] at h
          simp only [Option.some.injEq, Prod.mk.injEq, and_true] at h
          obtain ⟨rfl, rfl⟩ := h
          refine ⟨rfl, rfl, ?_⟩
          have e2 : (c == 0) = false := beq_eq_false_iff_ne.2 h2
          have e3 : (c == 1) = false := beq_eq_false_iff_ne.2 h3
          clear h2 h3
          go_enter Try.func44, Try.ntmps44
          go_wp2_with fail
          refine (schema_zzCount.calls _ _ _ _ _ HC.out).mono ?_
          rintro e w1 ⟨rfl, ⟨m, rfl⟩⟩
          go_wp2_with fail
          refine (errors_New.calls _ _).mono ?_
          rintro e w2 ⟨⟨x, rfl⟩, hb⟩
          have B2 : Aside0 (Below w.heap.size w w2) := ⟨below_step (by repeat (first | (with_reducible exact Below.refl _ _) | apply below_alloc | apply pw_below_drewN | apply below_drew1)) hb⟩
          have hR := blk_below (blk_drewN (blk_new w (.cells #[.string ⟨#[]⟩, .string ⟨#[]⟩] 52)) m) hb
          have c0 : w2.cell? ⟨w.heap.size, 0, none⟩ = some (.string ⟨#[]⟩) := blk_cell hR 0
          have c1 : w2.cell? ⟨w.heap.size, 1, none⟩ = some (.string ⟨#[]⟩) := blk_cell hR 1
          have f0 : w2.frozen? ⟨w.heap.size, 0, none⟩ = false := blk_frozen hR 0
          have f1 : w2.frozen? ⟨w.heap.size, 1, none⟩ = false := blk_frozen hR 1
          clear hb hR
          go_wp2_with fail
          exact bodyPost_ret (v := .tuple #[.agg #[.string ⟨#[]⟩, .string ⟨#[]⟩], .iface 91 x]) (by simp [results, Try.results44, go_sem, c0, c1]) rfl ⟨⟨x, rfl⟩, below_set (below_set B2.out (Nat.le_refl _)) (Nat.le_refl _)⟩
end Go.Proofs.Ytpaihcikeieliaa.PFnKindOf
