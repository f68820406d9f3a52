/- Functions of the program as plain Lean functions, and that the machine's calls do what these say: written for this claim by wip/myprint.py over the kit's print.py. -/
import Derived.Test.YtdhooibmibkbeaaPFnAmountMulx0
namespace Go.Proofs.Ytdhooibmibkbeaa.PFnAmountMul
open Go.RowKit Go.Proofs.YtdhooibmibkbeaaW.PrintWords Go.Proofs.YtdhooibmibkbeaaW.PrintLast Go.Proofs.YtdhooibmibkbeaaW.PrintMore
attribute [local go_sem] max2_int min2_int max_two min_two max_three min_three max_four min_four   -- for this text's walks alone
set_option linter.unusedVariables false
set_option linter.unusedSimpArgs false

/-! ### resource_ZzAmount: function 18 -/
def resource_ZzAmount.f (a0 : Int) (a1 : Int) : Option (Int × Int) := some (a0, a1)
set_option maxHeartbeats 8000000 in
set_option maxRecDepth 100000 in
theorem resource_ZzAmount.calls (a0 : Int) (a1 : Int) (r1 : Int) (r2 : Int) (w : World) (h : resource_ZzAmount.f a0 a1 = some (r1, r2)) :
  Calls Try.prog 18 #[.int .i64 a0, .int .i32 a1] w fun e w' => e = .returned (.agg #[.int .i64 r1, .int .i32 r2]) ∧ Below w.heap.size w w' := by
 have hu47 := Try.underlying47
 have HB := aM_ (Below.refl w.heap.size w)
 have H : (some (a0, a1)) = some (r1, r2) := h
 clear h
 simp only [Option.some.injEq, Prod.mk.injEq] at H
 obtain ⟨rfl, rfl⟩ := H
 go_enter Try.func18, Try.ntmps18
 go_wp2_with (first | ((with_reducible refine gate_dst (N := 4) rfl ?_); refine box_event ?hg (N := 4) ?hd (cs := #[.int .i64 0, .int .i32 0]) (t := 47) ?hr ?_; (case hd => rfl); (case hg => rfl); (case hr => first | (go_simp; done) | (go_simp; rfl)); intro gb201 hg w3 hbox hb; have n0_ := aM_ (below_step (by repeat (first | (with_reducible first | exact HB.out | apply bB_ | apply wN_ | apply bE_) | exact HB.out)) hb); have n1_ := aM_ (hbox); have n2_ := aM_ ((by rw [hg]; exact (below_size (by repeat (first | (with_reducible first | exact HB.out | apply bB_ | apply wN_ | apply bE_) | exact HB.out))) : w.heap.size ≤ gb201)); have n3_ := aM_ ((by rw [hg]; exact (below_size (by repeat (first | (with_reducible first | exact HB.out | apply bB_ | apply wN_ | apply bE_) | exact HB.out))) : w.heap.size ≤ gb201)); clear HB; have HB := n0_; have BK201 := n1_; have GW201 := n2_; have GE201 := n3_; clear n0_ n1_ n2_ n3_; clear hb hbox hg; have hcz4_0 : w3.cell? ⟨gb201, 0, none⟩ = some (.int .i64 0) := (bC_ BK201.out 0).trans rfl; have hcz4_1 : w3.cell? ⟨gb201, 1, none⟩ = some (.int .i32 0) := (bC_ BK201.out 1).trans rfl; have hfz4_0 := bF_ BK201.out 0; have hfz4_1 := bF_ BK201.out 1))
 refine bodyPost_ret (results_cell_row rfl _ _ gb201 47 #[.int .i64 a0, .int .i32 a1] (0, 0) _ rfl (by (with_reducible repeat (first | refine bN_ ?_ _ | refine bD_ ?_ | refine bA_ ?_ _)); refine blk_put (cs := #[.int .i64 a0, .int .i32 0]) ?_ 1 _ rfl; (with_reducible repeat (first | refine bN_ ?_ _ | refine bD_ ?_ | refine bA_ ?_ _)); refine blk_put (cs := #[.int .i64 0, .int .i32 0]) ?_ 0 _ rfl; (with_reducible repeat (first | refine bN_ ?_ _ | refine bD_ ?_ | refine bA_ ?_ _)); exact BK201.out) Try.underlying47 rfl (by kernel_rfl)) rfl ?_
 exact ⟨by first | rfl | (simp [errW_none, errW_some] <;> rfl) | (simp [*, errW_none, errW_some] <;> rfl) | (exfalso; contradiction), by repeat (first | (with_reducible first | exact HB.out | apply bB_ | apply wN_ | apply bE_ | refine bS_ ?_ GE201.out) | exact HB.out)⟩

/-! ### resource_int64Add: function 28 -/
mutual
def resource_int64Add.j0 : Nat → Int → Int → Int → Bool → Option (Int × Bool)
 | 0, _, _, _, _ => none
 | k + 1, x0, x1, x6, x10 => if x10 = true then (if x6 < 0 then (some (0, false)) else (some (x6, true))) else (if x0 < 0 then (resource_int64Add.j1 k x0 x1 x6 (decide (x1 < 0))) else (resource_int64Add.j1 k x0 x1 x6 false))
def resource_int64Add.j1 : Nat → Int → Int → Int → Bool → Option (Int × Bool)
 | 0, _, _, _, _ => none
 | k + 1, x0, x1, x6, x19 => if x19 = true then (if x6 > 0 then (some (0, false)) else (if x0 = (-9223372036854775808) then (if x1 = (-9223372036854775808) then (some (0, false)) else (some (x6, true))) else (some (x6, true)))) else (some (x6, true))
end
def resource_int64Add.f (k : Nat) (a0 : Int) (a1 : Int) : Option (Int × Bool) := if a0 > 0 then (resource_int64Add.j0 k a0 a1 (wrap64 (a0 + a1)) (decide (a1 > 0))) else (resource_int64Add.j0 k a0 a1 (wrap64 (a0 + a1)) false)
theorem resource_int64Add.mono_l : ∀ k, (∀ y0 y1 y2 y3, LeO (resource_int64Add.j0 k y0 y1 y2 y3) (resource_int64Add.j0 (k + 1) y0 y1 y2 y3)) ∧ (∀ y0 y1 y2 y3, LeO (resource_int64Add.j1 k y0 y1 y2 y3) (resource_int64Add.j1 (k + 1) y0 y1 y2 y3))
 | 0 => ⟨fun _ _ _ _ r h => by simp [resource_int64Add.j0] at h, fun _ _ _ _ r h => by simp [resource_int64Add.j1] at h⟩
 | k + 1 => by
  obtain ⟨ih0, ih1⟩ := resource_int64Add.mono_l k
  refine ⟨?_, ?_⟩
  ·
   intro y0 y1 y2 y3
   unfold resource_int64Add.j0
   repeat' first
   | (with_reducible exact ih0 _ _ _ _)
   | (with_reducible exact ih1 _ _ _ _)
   | (with_reducible exact LeO.refl _)
   | (with_reducible exact LeO.none _)
   | (with_reducible refine LeO.ite ?_ ?_)
   | (with_reducible refine LeO.bind ?_ (fun _ => ?_))
   | exact ih0 _ _ _ _
   | exact ih1 _ _ _ _
   | exact LeO.none _
   | refine LeO.ite ?_ ?_
   | refine LeO.bind ?_ (fun _ => ?_)
  ·
   intro y0 y1 y2 y3
   unfold resource_int64Add.j1
   repeat' first
   | (with_reducible exact ih0 _ _ _ _)
   | (with_reducible exact ih1 _ _ _ _)
   | (with_reducible exact LeO.refl _)
   | (with_reducible exact LeO.none _)
   | (with_reducible refine LeO.ite ?_ ?_)
   | (with_reducible refine LeO.bind ?_ (fun _ => ?_))
   | exact ih0 _ _ _ _
   | exact ih1 _ _ _ _
   | exact LeO.none _
   | refine LeO.ite ?_ ?_
   | refine LeO.bind ?_ (fun _ => ?_)
theorem resource_int64Add.mono : ∀ a0 a1 k, LeO (resource_int64Add.f k a0 a1) (resource_int64Add.f (k + 1) a0 a1) := by
 intro a0 a1 k
 obtain ⟨ih0, ih1⟩ := resource_int64Add.mono_l k
 unfold resource_int64Add.f
 repeat' first
   | (with_reducible exact ih0 _ _ _ _)
   | (with_reducible exact ih1 _ _ _ _)
   | (with_reducible exact LeO.refl _)
   | (with_reducible exact LeO.none _)
   | (with_reducible refine LeO.ite ?_ ?_)
   | (with_reducible refine LeO.bind ?_ (fun _ => ?_))
   | exact ih0 _ _ _ _
   | exact ih1 _ _ _ _
   | exact LeO.none _
   | refine LeO.ite ?_ ?_
   | refine LeO.bind ?_ (fun _ => ?_)
set_option maxHeartbeats 8000000 in
set_option maxRecDepth 100000 in
theorem resource_int64Add.calls (k : Nat) (a0 : Int) (a1 : Int) (r1 : Int) (r2 : Bool) (w : World) (h : resource_int64Add.f k a0 a1 = some (r1, r2)) :
  Calls Try.prog 28 #[.int .i64 a0, .int .i64 a1] w fun e w' => e = .returned (.tuple #[.int .i64 r1, .bool r2]) ∧ Drawn0 w w' := by
 have H : (if a0 > 0 then (resource_int64Add.j0 k a0 a1 (wrap64 (a0 + a1)) (decide (a1 > 0))) else (resource_int64Add.j0 k a0 a1 (wrap64 (a0 + a1)) false)) = some (r1, r2) := h
 clear h
 have HC3 := aM_ H
 clear H
 go_enter Try.func28, Try.ntmps28
 go_upto_region 2 with (fail)
 go_cut [10] (fun v10 wc => ∃ (kq : Nat) (x10_2 : Bool), v10 = .bool x10_2 ∧ Aside0 (resource_int64Add.j0 kq a0 a1 (wrap64 (a0 + a1)) x10_2 = some (r1, r2)) ∧ Aside0 (kq ≤ k) ∧ Drawn0 w wc)
 case first =>
  have H := HC3.out
  clear HC3
  by_cases c4 : a0 > 0
  ·
   rw [if_pos c4] at H
   have c4b0 : decide (0 < a0) = true := decide_eq_true c4
   clear c4
   (first | rw [c4b0] | (simp only [i64_w, i32_w]; rw [c4b0]) | skip)
   have H' := aM_ H
   clear H
   go_wp2
   go_meet
   case rel => exact ⟨_, (decide (a1 > 0)), (by first | rfl | (simp; done) | (simp [*]; done)), H', ⟨by first | omega | exact Nat.le_refl _⟩, by repeat (first | exact Drawn0.refl _ | apply Drawn0.step)⟩
  ·
   rw [if_neg c4] at H
   have c4b0 : decide (0 < a0) = false := decide_eq_false c4
   clear c4
   (first | rw [c4b0] | (simp only [i64_w, i32_w]; rw [c4b0]) | skip)
   have H' := aM_ H
   clear H
   go_wp2
   go_meet
   case rel => exact ⟨_, (false), (by first | rfl | (simp; done) | (simp [*]; done)), H', ⟨by first | omega | exact Nat.le_refl _⟩, by repeat (first | exact Drawn0.refl _ | apply Drawn0.step)⟩
 case rest =>
  clear HC3
  try clear c2
  try clear p2
  try clear c4
  try clear c4b0
  obtain ⟨kq, x10_2, rfl, HA, HJ2, ⟨mc2, rfl⟩⟩ := hcut
  cases kq with
  | zero => exact absurd HA.out (by simp [resource_int64Add.j0])
  | succ kj2 =>
   have H := HA.out
   clear HA
   simp only [resource_int64Add.j0] at H
   by_cases c5 : x10_2 = true
   ·
    subst c5
    have H1 : (if (wrap64 (a0 + a1)) < 0 then (some (0, false)) else (some ((wrap64 (a0 + a1)), true))) = some (r1, r2) := by rw [if_pos rfl] at H; exact H
    clear H
    have H := H1
    clear H1
    by_cases c6 : (wrap64 (a0 + a1)) < 0
    ·
     rw [if_pos c6] at H
     have c6b0 : decide ((wrap64 (a0 + a1)) < 0) = true := decide_eq_true c6
     clear c6
     simp only [Option.some.injEq, Prod.mk.injEq] at H
     obtain ⟨rfl, rfl⟩ := H
     go_wp2
     go_ret2
     exact ⟨by first | rfl | (simp; done) | (simp [*]; done), by repeat (first | exact Drawn0.refl _ | apply Drawn0.step)⟩
    ·
     rw [if_neg c6] at H
     have c6b0 : decide ((wrap64 (a0 + a1)) < 0) = false := decide_eq_false c6
     clear c6
     simp only [Option.some.injEq, Prod.mk.injEq] at H
     obtain ⟨rfl, rfl⟩ := H
     go_wp2
     go_ret2
     exact ⟨by first | rfl | (simp; done) | (simp [*]; done), by repeat (first | exact Drawn0.refl _ | apply Drawn0.step)⟩
   ·
    replace c5 := Bool.eq_false_iff.mpr c5
    subst c5
    have H1 : (if a0 < 0 then (resource_int64Add.j1 kj2 a0 a1 (wrap64 (a0 + a1)) (decide (a1 < 0))) else (resource_int64Add.j1 kj2 a0 a1 (wrap64 (a0 + a1)) false)) = some (r1, r2) := by rw [if_neg (show ¬ (false = true) by decide)] at H; exact H
    clear H
    have H := H1
    clear H1
    have HC7 := aM_ H
    clear H
    go_upto_region 5 with (fail)
    go_cut [19] (fun v19 wc => ∃ (kq : Nat) (x19_6 : Bool), v19 = .bool x19_6 ∧ Aside0 (resource_int64Add.j1 kq a0 a1 (wrap64 (a0 + a1)) x19_6 = some (r1, r2)) ∧ Aside0 (kq ≤ kj2) ∧ Drawn0 w wc)
    case first =>
     have H := HC7.out
     clear HC7
     by_cases c8 : a0 < 0
     ·
      rw [if_pos c8] at H
      have c8b0 : decide (a0 < 0) = true := decide_eq_true c8
      clear c8
      (first | rw [c8b0] | (simp only [i64_w, i32_w]; rw [c8b0]) | skip)
      have H' := aM_ H
      clear H
      go_wp2
      go_meet
      case rel => exact ⟨_, (decide (a1 < 0)), (by first | rfl | (simp; done) | (simp [*]; done)), H', ⟨by have := HJ2.out; first | omega | exact Nat.le_refl _⟩, by repeat (first | exact Drawn0.refl _ | apply Drawn0.step)⟩
     ·
      rw [if_neg c8] at H
      have c8b0 : decide (a0 < 0) = false := decide_eq_false c8
      clear c8
      (first | rw [c8b0] | (simp only [i64_w, i32_w]; rw [c8b0]) | skip)
      have H' := aM_ H
      clear H
      go_wp2
      go_meet
      case rel => exact ⟨_, (false), (by first | rfl | (simp; done) | (simp [*]; done)), H', ⟨by have := HJ2.out; first | omega | exact Nat.le_refl _⟩, by repeat (first | exact Drawn0.refl _ | apply Drawn0.step)⟩
    case rest =>
     clear HC7
     try clear c2
     try clear p2
     try clear c4
     try clear c4b0
     try clear c5
     try clear c6
     try clear c6b0
     try clear p6
     try clear c8
     try clear c8b0
     try clear p2
     obtain ⟨kq, x19_6, rfl, HA, HJ6, ⟨mc6, rfl⟩⟩ := hcut
     cases kq with
     | zero => exact absurd HA.out (by simp [resource_int64Add.j1])
     | succ kj6 =>
      have H := HA.out
      clear HA
      simp only [resource_int64Add.j1] at H
      by_cases c9 : x19_6 = true
      ·
       subst c9
       have H1 : (if (wrap64 (a0 + a1)) > 0 then (some (0, false)) else (if a0 = (-9223372036854775808) then (if a1 = (-9223372036854775808) then (some (0, false)) else (some ((wrap64 (a0 + a1)), true))) else (some ((wrap64 (a0 + a1)), true)))) = some (r1, r2) := by rw [if_pos rfl] at H; exact H
       clear H
       have H := H1
       clear H1
       by_cases c10 : (wrap64 (a0 + a1)) > 0
       ·
        rw [if_pos c10] at H
        have c10b0 : decide (0 < (wrap64 (a0 + a1))) = true := decide_eq_true c10
        clear c10
        simp only [Option.some.injEq, Prod.mk.injEq] at H
        obtain ⟨rfl, rfl⟩ := H
        go_wp2
        go_ret2
        exact ⟨by first | rfl | (simp; done) | (simp [*]; done), by repeat (first | exact Drawn0.refl _ | apply Drawn0.step)⟩
       ·
        rw [if_neg c10] at H
        have c10b0 : decide (0 < (wrap64 (a0 + a1))) = false := decide_eq_false c10
        clear c10
        by_cases c11 : a0 = (-9223372036854775808)
        ·
         rw [if_pos c11] at H
         have c11b0 : (a0 == (-9223372036854775808)) = true := beq_iff_eq.mpr c11
         have c11b1 : (a0 != (-9223372036854775808)) = false := bne_eq_false_iff_eq.mpr c11
         clear c11
         by_cases c12 : a1 = (-9223372036854775808)
         ·
          rw [if_pos c12] at H
          have c12b0 : (a1 == (-9223372036854775808)) = true := beq_iff_eq.mpr c12
          have c12b1 : (a1 != (-9223372036854775808)) = false := bne_eq_false_iff_eq.mpr c12
          clear c12
          simp only [Option.some.injEq, Prod.mk.injEq] at H
          obtain ⟨rfl, rfl⟩ := H
          go_wp2
          go_ret2
          exact ⟨by first | rfl | (simp; done) | (simp [*]; done), by repeat (first | exact Drawn0.refl _ | apply Drawn0.step)⟩
         ·
          rw [if_neg c12] at H
          have c12b0 : (a1 == (-9223372036854775808)) = false := beq_eq_false_iff_ne.mpr c12
          have c12b1 : (a1 != (-9223372036854775808)) = true := bne_iff_ne.mpr c12
          simp only [Option.some.injEq, Prod.mk.injEq] at H
          obtain ⟨rfl, rfl⟩ := H
          go_wp2
          go_ret2
          exact ⟨by first | rfl | (simp; done) | (simp [*]; done), by repeat (first | exact Drawn0.refl _ | apply Drawn0.step)⟩
        ·
         rw [if_neg c11] at H
         have c11b0 : (a0 == (-9223372036854775808)) = false := beq_eq_false_iff_ne.mpr c11
         have c11b1 : (a0 != (-9223372036854775808)) = true := bne_iff_ne.mpr c11
         simp only [Option.some.injEq, Prod.mk.injEq] at H
         obtain ⟨rfl, rfl⟩ := H
         go_wp2
         go_ret2
         exact ⟨by first | rfl | (simp; done) | (simp [*]; done), by repeat (first | exact Drawn0.refl _ | apply Drawn0.step)⟩
      ·
       replace c9 := Bool.eq_false_iff.mpr c9
       subst c9
       have H1 : (some ((wrap64 (a0 + a1)), true)) = some (r1, r2) := by rw [if_neg (show ¬ (false = true) by decide)] at H; exact H
       clear H
       have H := H1
       clear H1
       simp only [Option.some.injEq, Prod.mk.injEq] at H
       obtain ⟨rfl, rfl⟩ := H
       go_wp2
       go_ret2
       exact ⟨by first | rfl | (simp; done) | (simp [*]; done), by repeat (first | exact Drawn0.refl _ | apply Drawn0.step)⟩

/-! ### resource_int64MultiplyScale10: function 33 -/
def resource_int64MultiplyScale10.j0 : Nat → Int → Bool → Option (Int × Bool)
 | 0, _, _ => none
 | k + 1, x0, x10 => if x10 = true then (some (wrap64 (x0 * 10), true)) else (if x0 = (-9223372036854775808) then (some (0, false)) else (some (wrap64 (x0 * 10), ((wrap64 (Int.tdiv (wrap64 (x0 * 10)) 10)) == x0))))
def resource_int64MultiplyScale10.f (k : Nat) (a0 : Int) : Option (Int × Bool) := if a0 = 0 then (resource_int64MultiplyScale10.j0 k a0 true) else (resource_int64MultiplyScale10.j0 k a0 (a0 == 1))
theorem resource_int64MultiplyScale10.mono_l : ∀ k, (∀ y0 y1, LeO (resource_int64MultiplyScale10.j0 k y0 y1) (resource_int64MultiplyScale10.j0 (k + 1) y0 y1))
 | 0 => fun _ _ r h => by simp [resource_int64MultiplyScale10.j0] at h
 | k + 1 => by
  have ih0 := resource_int64MultiplyScale10.mono_l k
  ·
   intro y0 y1
   unfold resource_int64MultiplyScale10.j0
   repeat' first
   | (with_reducible exact ih0 _ _)
   | (with_reducible exact LeO.refl _)
   | (with_reducible exact LeO.none _)
   | (with_reducible refine LeO.ite ?_ ?_)
   | (with_reducible refine LeO.bind ?_ (fun _ => ?_))
   | exact ih0 _ _
   | exact LeO.none _
   | refine LeO.ite ?_ ?_
   | refine LeO.bind ?_ (fun _ => ?_)
theorem resource_int64MultiplyScale10.mono : ∀ a0 k, LeO (resource_int64MultiplyScale10.f k a0) (resource_int64MultiplyScale10.f (k + 1) a0) := by
 intro a0 k
 have ih0 := resource_int64MultiplyScale10.mono_l k
 unfold resource_int64MultiplyScale10.f
 repeat' first
   | (with_reducible exact ih0 _ _)
   | (with_reducible exact LeO.refl _)
   | (with_reducible exact LeO.none _)
   | (with_reducible refine LeO.ite ?_ ?_)
   | (with_reducible refine LeO.bind ?_ (fun _ => ?_))
   | exact ih0 _ _
   | exact LeO.none _
   | refine LeO.ite ?_ ?_
   | refine LeO.bind ?_ (fun _ => ?_)
set_option maxHeartbeats 8000000 in
set_option maxRecDepth 100000 in
theorem resource_int64MultiplyScale10.calls (k : Nat) (a0 : Int) (r1 : Int) (r2 : Bool) (w : World) (h : resource_int64MultiplyScale10.f k a0 = some (r1, r2)) :
  Calls Try.prog 33 #[.int .i64 a0] w fun e w' => e = .returned (.tuple #[.int .i64 r1, .bool r2]) ∧ Drawn0 w w' := by
 have H : (if a0 = 0 then (resource_int64MultiplyScale10.j0 k a0 true) else (resource_int64MultiplyScale10.j0 k a0 (a0 == 1))) = some (r1, r2) := h
 clear h
 have HC2 := aM_ H
 clear H
 go_enter Try.func33, Try.ntmps33
 go_upto_region 1 with (fail)
 go_cut [10] (fun v10 wc => ∃ (kq : Nat) (x10_1 : Bool), v10 = .bool x10_1 ∧ Aside0 (resource_int64MultiplyScale10.j0 kq a0 x10_1 = some (r1, r2)) ∧ Aside0 (kq ≤ k) ∧ Drawn0 w wc)
 case first =>
  have H := HC2.out
  clear HC2
  by_cases c3 : a0 = 0
  ·
   rw [if_pos c3] at H
   have c3b0 : (a0 == 0) = true := beq_iff_eq.mpr c3
   have c3b1 : (a0 != 0) = false := bne_eq_false_iff_eq.mpr c3
   clear c3
   (first | rw [c3b0] | (simp only [i64_w, i32_w]; rw [c3b0]) | skip)
   have H' := aM_ H
   clear H
   go_wp2
   go_meet
   case rel => exact ⟨_, (true), (by first | rfl | (simp; done) | (simp [*]; done)), H', ⟨by first | omega | exact Nat.le_refl _⟩, by repeat (first | exact Drawn0.refl _ | apply Drawn0.step)⟩
  ·
   rw [if_neg c3] at H
   have c3b0 : (a0 == 0) = false := beq_eq_false_iff_ne.mpr c3
   have c3b1 : (a0 != 0) = true := bne_iff_ne.mpr c3
   (first | rw [c3b0] | (simp only [i64_w, i32_w]; rw [c3b0]) | skip)
   have H' := aM_ H
   clear H
   go_wp2
   go_meet
   case rel => exact ⟨_, ((a0 == 1)), (by first | rfl | (simp; done) | (simp [*]; done)), H', ⟨by first | omega | exact Nat.le_refl _⟩, by repeat (first | exact Drawn0.refl _ | apply Drawn0.step)⟩
 case rest =>
  clear HC2
  try clear p2
  try clear c3
  try clear c3b0
  try clear c3b1
  obtain ⟨kq, x10_1, rfl, HA, HJ1, ⟨mc1, rfl⟩⟩ := hcut
  cases kq with
  | zero => exact absurd HA.out (by simp [resource_int64MultiplyScale10.j0])
  | succ kj1 =>
   have H := HA.out
   clear HA
   simp only [resource_int64MultiplyScale10.j0] at H
   by_cases c4 : x10_1 = true
   ·
    subst c4
    have H1 : (some (wrap64 (a0 * 10), true)) = some (r1, r2) := by rw [if_pos rfl] at H; exact H
    clear H
    have H := H1
    clear H1
    simp only [Option.some.injEq, Prod.mk.injEq] at H
    obtain ⟨rfl, rfl⟩ := H
    go_wp2
    go_ret2
    exact ⟨by first | rfl | (simp; done) | (simp [*]; done), by repeat (first | exact Drawn0.refl _ | apply Drawn0.step)⟩
   ·
    replace c4 := Bool.eq_false_iff.mpr c4
    subst c4
    have H1 : (if a0 = (-9223372036854775808) then (some (0, false)) else (some (wrap64 (a0 * 10), ((wrap64 (Int.tdiv (wrap64 (a0 * 10)) 10)) == a0)))) = some (r1, r2) := by rw [if_neg (show ¬ (false = true) by decide)] at H; exact H
    clear H
    have H := H1
    clear H1
    by_cases c5 : a0 = (-9223372036854775808)
    ·
     rw [if_pos c5] at H
     have c5b0 : (a0 == (-9223372036854775808)) = true := beq_iff_eq.mpr c5
     have c5b1 : (a0 != (-9223372036854775808)) = false := bne_eq_false_iff_eq.mpr c5
     clear c5
     simp only [Option.some.injEq, Prod.mk.injEq] at H
     obtain ⟨rfl, rfl⟩ := H
     go_wp2
     go_ret2
     exact ⟨by first | rfl | (simp; done) | (simp [*]; done), by repeat (first | exact Drawn0.refl _ | apply Drawn0.step)⟩
    ·
     rw [if_neg c5] at H
     have c5b0 : (a0 == (-9223372036854775808)) = false := beq_eq_false_iff_ne.mpr c5
     have c5b1 : (a0 != (-9223372036854775808)) = true := bne_iff_ne.mpr c5
     simp only [Option.some.injEq, Prod.mk.injEq] at H
     obtain ⟨rfl, rfl⟩ := H
     go_wp2
     go_ret2
     exact ⟨by first | rfl | (simp; done) | (simp [*]; done), by repeat (first | exact Drawn0.refl _ | apply Drawn0.step)⟩

/-! ### resource_int64MultiplyScale100: function 34 -/
def resource_int64MultiplyScale100.j0 : Nat → Int → Bool → Option (Int × Bool)
 | 0, _, _ => none
 | k + 1, x0, x10 => if x10 = true then (some (wrap64 (x0 * 100), true)) else (if x0 = (-9223372036854775808) then (some (0, false)) else (some (wrap64 (x0 * 100), ((wrap64 (Int.tdiv (wrap64 (x0 * 100)) 100)) == x0))))
def resource_int64MultiplyScale100.f (k : Nat) (a0 : Int) : Option (Int × Bool) := if a0 = 0 then (resource_int64MultiplyScale100.j0 k a0 true) else (resource_int64MultiplyScale100.j0 k a0 (a0 == 1))
theorem resource_int64MultiplyScale100.mono_l : ∀ k, (∀ y0 y1, LeO (resource_int64MultiplyScale100.j0 k y0 y1) (resource_int64MultiplyScale100.j0 (k + 1) y0 y1))
 | 0 => fun _ _ r h => by simp [resource_int64MultiplyScale100.j0] at h
 | k + 1 => by
  have ih0 := resource_int64MultiplyScale100.mono_l k
  ·
   intro y0 y1
   unfold resource_int64MultiplyScale100.j0
   repeat' first
   | (with_reducible exact ih0 _ _)
   | (with_reducible exact LeO.refl _)
   | (with_reducible exact LeO.none _)
   | (with_reducible refine LeO.ite ?_ ?_)
   | (with_reducible refine LeO.bind ?_ (fun _ => ?_))
   | exact ih0 _ _
   | exact LeO.none _
   | refine LeO.ite ?_ ?_
   | refine LeO.bind ?_ (fun _ => ?_)
theorem resource_int64MultiplyScale100.mono : ∀ a0 k, LeO (resource_int64MultiplyScale100.f k a0) (resource_int64MultiplyScale100.f (k + 1) a0) := by
 intro a0 k
 have ih0 := resource_int64MultiplyScale100.mono_l k
 unfold resource_int64MultiplyScale100.f
 repeat' first
   | (with_reducible exact ih0 _ _)
   | (with_reducible exact LeO.refl _)
   | (with_reducible exact LeO.none _)
   | (with_reducible refine LeO.ite ?_ ?_)
   | (with_reducible refine LeO.bind ?_ (fun _ => ?_))
   | exact ih0 _ _
   | exact LeO.none _
   | refine LeO.ite ?_ ?_
   | refine LeO.bind ?_ (fun _ => ?_)
set_option maxHeartbeats 8000000 in
set_option maxRecDepth 100000 in
theorem resource_int64MultiplyScale100.calls (k : Nat) (a0 : Int) (r1 : Int) (r2 : Bool) (w : World) (h : resource_int64MultiplyScale100.f k a0 = some (r1, r2)) :
  Calls Try.prog 34 #[.int .i64 a0] w fun e w' => e = .returned (.tuple #[.int .i64 r1, .bool r2]) ∧ Drawn0 w w' := by
 have H : (if a0 = 0 then (resource_int64MultiplyScale100.j0 k a0 true) else (resource_int64MultiplyScale100.j0 k a0 (a0 == 1))) = some (r1, r2) := h
 clear h
 have HC2 := aM_ H
 clear H
 go_enter Try.func34, Try.ntmps34
 go_upto_region 1 with (fail)
 go_cut [10] (fun v10 wc => ∃ (kq : Nat) (x10_1 : Bool), v10 = .bool x10_1 ∧ Aside0 (resource_int64MultiplyScale100.j0 kq a0 x10_1 = some (r1, r2)) ∧ Aside0 (kq ≤ k) ∧ Drawn0 w wc)
 case first =>
  have H := HC2.out
  clear HC2
  by_cases c3 : a0 = 0
  ·
   rw [if_pos c3] at H
   have c3b0 : (a0 == 0) = true := beq_iff_eq.mpr c3
   have c3b1 : (a0 != 0) = false := bne_eq_false_iff_eq.mpr c3
   clear c3
   (first | rw [c3b0] | (simp only [i64_w, i32_w]; rw [c3b0]) | skip)
   have H' := aM_ H
   clear H
   go_wp2
   go_meet
   case rel => exact ⟨_, (true), (by first | rfl | (simp; done) | (simp [*]; done)), H', ⟨by first | omega | exact Nat.le_refl _⟩, by repeat (first | exact Drawn0.refl _ | apply Drawn0.step)⟩
  ·
   rw [if_neg c3] at H
   have c3b0 : (a0 == 0) = false := beq_eq_false_iff_ne.mpr c3
   have c3b1 : (a0 != 0) = true := bne_iff_ne.mpr c3
   (first | rw [c3b0] | (simp only [i64_w, i32_w]; rw [c3b0]) | skip)
   have H' := aM_ H
   clear H
   go_wp2
   go_meet
   case rel => exact ⟨_, ((a0 == 1)), (by first | rfl | (simp; done) | (simp [*]; done)), H', ⟨by first | omega | exact Nat.le_refl _⟩, by repeat (first | exact Drawn0.refl _ | apply Drawn0.step)⟩
 case rest =>
  clear HC2
  try clear p2
  try clear c3
  try clear c3b0
  try clear c3b1
  obtain ⟨kq, x10_1, rfl, HA, HJ1, ⟨mc1, rfl⟩⟩ := hcut
  cases kq with
  | zero => exact absurd HA.out (by simp [resource_int64MultiplyScale100.j0])
  | succ kj1 =>
   have H := HA.out
   clear HA
   simp only [resource_int64MultiplyScale100.j0] at H
   by_cases c4 : x10_1 = true
   ·
    subst c4
    have H1 : (some (wrap64 (a0 * 100), true)) = some (r1, r2) := by rw [if_pos rfl] at H; exact H
    clear H
    have H := H1
    clear H1
    simp only [Option.some.injEq, Prod.mk.injEq] at H
    obtain ⟨rfl, rfl⟩ := H
    go_wp2
    go_ret2
    exact ⟨by first | rfl | (simp; done) | (simp [*]; done), by repeat (first | exact Drawn0.refl _ | apply Drawn0.step)⟩
   ·
    replace c4 := Bool.eq_false_iff.mpr c4
    subst c4
    have H1 : (if a0 = (-9223372036854775808) then (some (0, false)) else (some (wrap64 (a0 * 100), ((wrap64 (Int.tdiv (wrap64 (a0 * 100)) 100)) == a0)))) = some (r1, r2) := by rw [if_neg (show ¬ (false = true) by decide)] at H; exact H
    clear H
    have H := H1
    clear H1
    by_cases c5 : a0 = (-9223372036854775808)
    ·
     rw [if_pos c5] at H
     have c5b0 : (a0 == (-9223372036854775808)) = true := beq_iff_eq.mpr c5
     have c5b1 : (a0 != (-9223372036854775808)) = false := bne_eq_false_iff_eq.mpr c5
     clear c5
     simp only [Option.some.injEq, Prod.mk.injEq] at H
     obtain ⟨rfl, rfl⟩ := H
     go_wp2
     go_ret2
     exact ⟨by first | rfl | (simp; done) | (simp [*]; done), by repeat (first | exact Drawn0.refl _ | apply Drawn0.step)⟩
    ·
     rw [if_neg c5] at H
     have c5b0 : (a0 == (-9223372036854775808)) = false := beq_eq_false_iff_ne.mpr c5
     have c5b1 : (a0 != (-9223372036854775808)) = true := bne_iff_ne.mpr c5
     simp only [Option.some.injEq, Prod.mk.injEq] at H
     obtain ⟨rfl, rfl⟩ := H
     go_wp2
     go_ret2
     exact ⟨by first | rfl | (simp; done) | (simp [*]; done), by repeat (first | exact Drawn0.refl _ | apply Drawn0.step)⟩

/-! ### resource_int64MultiplyScale1000: function 35 -/
def resource_int64MultiplyScale1000.j0 : Nat → Int → Bool → Option (Int × Bool)
 | 0, _, _ => none
 | k + 1, x0, x10 => if x10 = true then (some (wrap64 (x0 * 1000), true)) else (if x0 = (-9223372036854775808) then (some (0, false)) else (some (wrap64 (x0 * 1000), ((wrap64 (Int.tdiv (wrap64 (x0 * 1000)) 1000)) == x0))))
def resource_int64MultiplyScale1000.f (k : Nat) (a0 : Int) : Option (Int × Bool) := if a0 = 0 then (resource_int64MultiplyScale1000.j0 k a0 true) else (resource_int64MultiplyScale1000.j0 k a0 (a0 == 1))
theorem resource_int64MultiplyScale1000.mono_l : ∀ k, (∀ y0 y1, LeO (resource_int64MultiplyScale1000.j0 k y0 y1) (resource_int64MultiplyScale1000.j0 (k + 1) y0 y1))
 | 0 => fun _ _ r h => by simp [resource_int64MultiplyScale1000.j0] at h
 | k + 1 => by
  have ih0 := resource_int64MultiplyScale1000.mono_l k
  ·
   intro y0 y1
   unfold resource_int64MultiplyScale1000.j0
   repeat' first
   | (with_reducible exact ih0 _ _)
   | (with_reducible exact LeO.refl _)
   | (with_reducible exact LeO.none _)
   | (with_reducible refine LeO.ite ?_ ?_)
   | (with_reducible refine LeO.bind ?_ (fun _ => ?_))
   | exact ih0 _ _
   | exact LeO.none _
   | refine LeO.ite ?_ ?_
   | refine LeO.bind ?_ (fun _ => ?_)
theorem resource_int64MultiplyScale1000.mono : ∀ a0 k, LeO (resource_int64MultiplyScale1000.f k a0) (resource_int64MultiplyScale1000.f (k + 1) a0) := by
 intro a0 k
 have ih0 := resource_int64MultiplyScale1000.mono_l k
 unfold resource_int64MultiplyScale1000.f
 repeat' first
   | (with_reducible exact ih0 _ _)
   | (with_reducible exact LeO.refl _)
   | (with_reducible exact LeO.none _)
   | (with_reducible refine LeO.ite ?_ ?_)
   | (with_reducible refine LeO.bind ?_ (fun _ => ?_))
   | exact ih0 _ _
   | exact LeO.none _
   | refine LeO.ite ?_ ?_
   | refine LeO.bind ?_ (fun _ => ?_)
set_option maxHeartbeats 8000000 in
set_option maxRecDepth 100000 in
theorem resource_int64MultiplyScale1000.calls (k : Nat) (a0 : Int) (r1 : Int) (r2 : Bool) (w : World) (h : resource_int64MultiplyScale1000.f k a0 = some (r1, r2)) :
  Calls Try.prog 35 #[.int .i64 a0] w fun e w' => e = .returned (.tuple #[.int .i64 r1, .bool r2]) ∧ Drawn0 w w' := by
 have H : (if a0 = 0 then (resource_int64MultiplyScale1000.j0 k a0 true) else (resource_int64MultiplyScale1000.j0 k a0 (a0 == 1))) = some (r1, r2) := h
 clear h
 have HC2 := aM_ H
 clear H
 go_enter Try.func35, Try.ntmps35
 go_upto_region 1 with (fail)
 go_cut [10] (fun v10 wc => ∃ (kq : Nat) (x10_1 : Bool), v10 = .bool x10_1 ∧ Aside0 (resource_int64MultiplyScale1000.j0 kq a0 x10_1 = some (r1, r2)) ∧ Aside0 (kq ≤ k) ∧ Drawn0 w wc)
 case first =>
  have H := HC2.out
  clear HC2
  by_cases c3 : a0 = 0
  ·
   rw [if_pos c3] at H
   have c3b0 : (a0 == 0) = true := beq_iff_eq.mpr c3
   have c3b1 : (a0 != 0) = false := bne_eq_false_iff_eq.mpr c3
   clear c3
   (first | rw [c3b0] | (simp only [i64_w, i32_w]; rw [c3b0]) | skip)
   have H' := aM_ H
   clear H
   go_wp2
   go_meet
   case rel => exact ⟨_, (true), (by first | rfl | (simp; done) | (simp [*]; done)), H', ⟨by first | omega | exact Nat.le_refl _⟩, by repeat (first | exact Drawn0.refl _ | apply Drawn0.step)⟩
  ·
   rw [if_neg c3] at H
   have c3b0 : (a0 == 0) = false := beq_eq_false_iff_ne.mpr c3
   have c3b1 : (a0 != 0) = true := bne_iff_ne.mpr c3
   (first | rw [c3b0] | (simp only [i64_w, i32_w]; rw [c3b0]) | skip)
   have H' := aM_ H
   clear H
   go_wp2
   go_meet
   case rel => exact ⟨_, ((a0 == 1)), (by first | rfl | (simp; done) | (simp [*]; done)), H', ⟨by first | omega | exact Nat.le_refl _⟩, by repeat (first | exact Drawn0.refl _ | apply Drawn0.step)⟩
 case rest =>
  clear HC2
  try clear p2
  try clear c3
  try clear c3b0
  try clear c3b1
  obtain ⟨kq, x10_1, rfl, HA, HJ1, ⟨mc1, rfl⟩⟩ := hcut
  cases kq with
  | zero => exact absurd HA.out (by simp [resource_int64MultiplyScale1000.j0])
  | succ kj1 =>
   have H := HA.out
   clear HA
   simp only [resource_int64MultiplyScale1000.j0] at H
   by_cases c4 : x10_1 = true
   ·
    subst c4
    have H1 : (some (wrap64 (a0 * 1000), true)) = some (r1, r2) := by rw [if_pos rfl] at H; exact H
    clear H
    have H := H1
    clear H1
    simp only [Option.some.injEq, Prod.mk.injEq] at H
    obtain ⟨rfl, rfl⟩ := H
    go_wp2
    go_ret2
    exact ⟨by first | rfl | (simp; done) | (simp [*]; done), by repeat (first | exact Drawn0.refl _ | apply Drawn0.step)⟩
   ·
    replace c4 := Bool.eq_false_iff.mpr c4
    subst c4
    have H1 : (if a0 = (-9223372036854775808) then (some (0, false)) else (some (wrap64 (a0 * 1000), ((wrap64 (Int.tdiv (wrap64 (a0 * 1000)) 1000)) == a0)))) = some (r1, r2) := by rw [if_neg (show ¬ (false = true) by decide)] at H; exact H
    clear H
    have H := H1
    clear H1
    by_cases c5 : a0 = (-9223372036854775808)
    ·
     rw [if_pos c5] at H
     have c5b0 : (a0 == (-9223372036854775808)) = true := beq_iff_eq.mpr c5
     have c5b1 : (a0 != (-9223372036854775808)) = false := bne_eq_false_iff_eq.mpr c5
     clear c5
     simp only [Option.some.injEq, Prod.mk.injEq] at H
     obtain ⟨rfl, rfl⟩ := H
     go_wp2
     go_ret2
     exact ⟨by first | rfl | (simp; done) | (simp [*]; done), by repeat (first | exact Drawn0.refl _ | apply Drawn0.step)⟩
    ·
     rw [if_neg c5] at H
     have c5b0 : (a0 == (-9223372036854775808)) = false := beq_eq_false_iff_ne.mpr c5
     have c5b1 : (a0 != (-9223372036854775808)) = true := bne_iff_ne.mpr c5
     simp only [Option.some.injEq, Prod.mk.injEq] at H
     obtain ⟨rfl, rfl⟩ := H
     go_wp2
     go_ret2
     exact ⟨by first | rfl | (simp; done) | (simp [*]; done), by repeat (first | exact Drawn0.refl _ | apply Drawn0.step)⟩

/-! ### resource_int64MultiplyScale: function 36 -/
def resource_int64MultiplyScale.j0 : Nat → Int → Int → Bool → Option (Int × Bool)
 | 0, _, _, _ => none
 | k + 1, x0, x1, x12 => if x12 = true then (some (wrap64 (x0 * x1), true)) else (if x0 = (-9223372036854775808) then (if x1 = 1 then (if x1 = 0 then (none) else (some (wrap64 (x0 * x1), ((wrap64 (Int.tdiv (wrap64 (x0 * x1)) x1)) == x0)))) else (some (0, false))) else (if x1 = 0 then (none) else (some (wrap64 (x0 * x1), ((wrap64 (Int.tdiv (wrap64 (x0 * x1)) x1)) == x0)))))
def resource_int64MultiplyScale.f (k : Nat) (a0 : Int) (a1 : Int) : Option (Int × Bool) := if a0 = 0 then (resource_int64MultiplyScale.j0 k a0 a1 true) else (resource_int64MultiplyScale.j0 k a0 a1 (a0 == 1))
theorem resource_int64MultiplyScale.mono_l : ∀ k, (∀ y0 y1 y2, LeO (resource_int64MultiplyScale.j0 k y0 y1 y2) (resource_int64MultiplyScale.j0 (k + 1) y0 y1 y2))
 | 0 => fun _ _ _ r h => by simp [resource_int64MultiplyScale.j0] at h
 | k + 1 => by
  have ih0 := resource_int64MultiplyScale.mono_l k
  ·
   intro y0 y1 y2
   unfold resource_int64MultiplyScale.j0
   repeat' first
   | (with_reducible exact ih0 _ _ _)
   | (with_reducible exact LeO.refl _)
   | (with_reducible exact LeO.none _)
   | (with_reducible refine LeO.ite ?_ ?_)
   | (with_reducible refine LeO.bind ?_ (fun _ => ?_))
   | exact ih0 _ _ _
   | exact LeO.none _
   | refine LeO.ite ?_ ?_
   | refine LeO.bind ?_ (fun _ => ?_)
theorem resource_int64MultiplyScale.mono : ∀ a0 a1 k, LeO (resource_int64MultiplyScale.f k a0 a1) (resource_int64MultiplyScale.f (k + 1) a0 a1) := by
 intro a0 a1 k
 have ih0 := resource_int64MultiplyScale.mono_l k
 unfold resource_int64MultiplyScale.f
 repeat' first
   | (with_reducible exact ih0 _ _ _)
   | (with_reducible exact LeO.refl _)
   | (with_reducible exact LeO.none _)
   | (with_reducible refine LeO.ite ?_ ?_)
   | (with_reducible refine LeO.bind ?_ (fun _ => ?_))
   | exact ih0 _ _ _
   | exact LeO.none _
   | refine LeO.ite ?_ ?_
   | refine LeO.bind ?_ (fun _ => ?_)
set_option maxHeartbeats 8000000 in
set_option maxRecDepth 100000 in
theorem resource_int64MultiplyScale.calls (k : Nat) (a0 : Int) (a1 : Int) (r1 : Int) (r2 : Bool) (w : World) (h : resource_int64MultiplyScale.f k a0 a1 = some (r1, r2)) :
  Calls Try.prog 36 #[.int .i64 a0, .int .i64 a1] w fun e w' => e = .returned (.tuple #[.int .i64 r1, .bool r2]) ∧ Drawn0 w w' := by
 have H : (if a0 = 0 then (resource_int64MultiplyScale.j0 k a0 a1 true) else (resource_int64MultiplyScale.j0 k a0 a1 (a0 == 1))) = some (r1, r2) := h
 clear h
 have HC3 := aM_ H
 clear H
 go_enter Try.func36, Try.ntmps36
 go_upto_region 1 with (fail)
 repeat (go_quiet (fail); go_upto_region 1 with (fail))
 go_cut [12] (fun v12 wc => ∃ (kq : Nat) (x12_2 : Bool), v12 = .bool x12_2 ∧ Aside0 (resource_int64MultiplyScale.j0 kq a0 a1 x12_2 = some (r1, r2)) ∧ Aside0 (kq ≤ k) ∧ Drawn0 w wc)
 case first =>
  have H := HC3.out
  clear HC3
  by_cases c4 : a0 = 0
  ·
   rw [if_pos c4] at H
   have c4b0 : (a0 == 0) = true := beq_iff_eq.mpr c4
   have c4b1 : (a0 != 0) = false := bne_eq_false_iff_eq.mpr c4
   clear c4
   (first | rw [c4b0] | (simp only [i64_w, i32_w]; rw [c4b0]) | skip)
   have H' := aM_ H
   clear H
   go_wp2
   repeat (go_quiet (fail); try go_wp2)
   go_meet
   case rel => exact ⟨_, (true), (by first | rfl | (simp; done) | (simp [*]; done)), H', ⟨by first | omega | exact Nat.le_refl _⟩, by repeat (first | exact Drawn0.refl _ | apply Drawn0.step)⟩
  ·
   rw [if_neg c4] at H
   have c4b0 : (a0 == 0) = false := beq_eq_false_iff_ne.mpr c4
   have c4b1 : (a0 != 0) = true := bne_iff_ne.mpr c4
   (first | rw [c4b0] | (simp only [i64_w, i32_w]; rw [c4b0]) | skip)
   have H' := aM_ H
   clear H
   go_wp2
   repeat (go_quiet (fail); try go_wp2)
   go_meet
   case rel => exact ⟨_, ((a0 == 1)), (by first | rfl | (simp; done) | (simp [*]; done)), H', ⟨by first | omega | exact Nat.le_refl _⟩, by repeat (first | exact Drawn0.refl _ | apply Drawn0.step)⟩
 case rest =>
  clear HC3
  try clear p2
  try clear c3
  try clear c4
  try clear c4b0
  try clear c4b1
  obtain ⟨kq, x12_2, rfl, HA, HJ2, ⟨mc2, rfl⟩⟩ := hcut
  cases kq with
  | zero => exact absurd HA.out (by simp [resource_int64MultiplyScale.j0])
  | succ kj2 =>
   have H := HA.out
   clear HA
   simp only [resource_int64MultiplyScale.j0] at H
   by_cases c5 : x12_2 = true
   ·
    subst c5
    have H1 : (some (wrap64 (a0 * a1), true)) = some (r1, r2) := by rw [if_pos rfl] at H; exact H
    clear H
    have H := H1
    clear H1
    simp only [Option.some.injEq, Prod.mk.injEq] at H
    obtain ⟨rfl, rfl⟩ := H
    go_wp2
    repeat (go_quiet (fail); try go_wp2)
    go_ret2
    exact ⟨by first | rfl | (simp; done) | (simp [*]; done), by repeat (first | exact Drawn0.refl _ | apply Drawn0.step)⟩
   ·
    replace c5 := Bool.eq_false_iff.mpr c5
    subst c5
    have H1 : (if a0 = (-9223372036854775808) then (if a1 = 1 then (if a1 = 0 then (none) else (some (wrap64 (a0 * a1), ((wrap64 (Int.tdiv (wrap64 (a0 * a1)) a1)) == a0)))) else (some (0, false))) else (if a1 = 0 then (none) else (some (wrap64 (a0 * a1), ((wrap64 (Int.tdiv (wrap64 (a0 * a1)) a1)) == a0))))) = some (r1, r2) := by rw [if_neg (show ¬ (false = true) by decide)] at H; exact H
    clear H
    have H := H1
    clear H1
    by_cases c6 : a0 = (-9223372036854775808)
    ·
     rw [if_pos c6] at H
     have c6b0 : (a0 == (-9223372036854775808)) = true := beq_iff_eq.mpr c6
     have c6b1 : (a0 != (-9223372036854775808)) = false := bne_eq_false_iff_eq.mpr c6
     clear c6
     by_cases c7 : a1 = 1
     ·
      rw [if_pos c7] at H
      have c7b0 : (a1 == 1) = true := beq_iff_eq.mpr c7
      have c7b1 : (a1 != 1) = false := bne_eq_false_iff_eq.mpr c7
      clear c7
      by_cases c8 : a1 = 0
      ·
       rw [if_pos c8] at H
       exact absurd H (by simp)
      ·
       rw [if_neg c8] at H
       have c8b0 : (a1 == 0) = false := beq_eq_false_iff_ne.mpr c8
       have c8b1 : (a1 != 0) = true := bne_iff_ne.mpr c8
       simp only [Option.some.injEq, Prod.mk.injEq] at H
       obtain ⟨rfl, rfl⟩ := H
       go_wp2
       repeat (go_quiet (fail); try go_wp2)
       go_ret2
       exact ⟨by first | rfl | (simp; done) | (simp [*]; done), by repeat (first | exact Drawn0.refl _ | apply Drawn0.step)⟩
     ·
      rw [if_neg c7] at H
      have c7b0 : (a1 == 1) = false := beq_eq_false_iff_ne.mpr c7
      have c7b1 : (a1 != 1) = true := bne_iff_ne.mpr c7
      simp only [Option.some.injEq, Prod.mk.injEq] at H
      obtain ⟨rfl, rfl⟩ := H
      go_wp2
      repeat (go_quiet (fail); try go_wp2)
      go_ret2
      exact ⟨by first | rfl | (simp; done) | (simp [*]; done), by repeat (first | exact Drawn0.refl _ | apply Drawn0.step)⟩
    ·
     rw [if_neg c6] at H
     have c6b0 : (a0 == (-9223372036854775808)) = false := beq_eq_false_iff_ne.mpr c6
     have c6b1 : (a0 != (-9223372036854775808)) = true := bne_iff_ne.mpr c6
     by_cases c9 : a1 = 0
     ·
      rw [if_pos c9] at H
      exact absurd H (by simp)
     ·
      rw [if_neg c9] at H
      have c9b0 : (a1 == 0) = false := beq_eq_false_iff_ne.mpr c9
      have c9b1 : (a1 != 0) = true := bne_iff_ne.mpr c9
      simp only [Option.some.injEq, Prod.mk.injEq] at H
      obtain ⟨rfl, rfl⟩ := H
      go_wp2
      repeat (go_quiet (fail); try go_wp2)
      go_ret2
      exact ⟨by first | rfl | (simp; done) | (simp [*]; done), by repeat (first | exact Drawn0.refl _ | apply Drawn0.step)⟩

end Go.Proofs.Ytdhooibmibkbeaa.PFnAmountMul
