/- Functions of the program as plain Lean functions, and that the machine's calls do what these say: written for this claim by wip/myprint.py over the kit's print.py. -/
import Derived.Test.YtomoefldmgfaoaaDoorPvHkx0
namespace Go.Proofs.YtomoefldmgfaoaaDoor.PvHk
open Go.RowKit Go.Proofs.YtomoefldmgfaoaaDoorW.PrintWords Go.Proofs.YtomoefldmgfaoaaDoorW.PrintLast Go.Proofs.YtomoefldmgfaoaaDoorW.PrintMore
attribute [local go_sem] max2_int min2_int max_two min_two max_three min_three max_four min_four   -- for this text's walks alone
set_option linter.unusedVariables false
set_option linter.unusedSimpArgs false

-- NOT PRINTED: function 32 (spec_verDigit)

-- NOT PRINTED: function 75 (spec_verDigits)

-- NOT PRINTED: function 76 (spec_VerHead)

-- NOT PRINTED: function 54 (spec_Kube)

-- NOT PRINTED: function 55 (spec_verSign)

-- NOT PRINTED: function 77 (spec_NumOrder)

-- NOT PRINTED: function 56 (spec_verNumber)

-- NOT PRINTED: function 24 (spec_KubeOrder)

-- NOT PRINTED: function 25 (spec_Sign)

/-! ### version_zzDigits_100: function 100 -/
def version_zzDigits_100.l0 : Nat → ByteArray → Int → Option (Int)
 | 0, _, _ => none
 | k + 1, x0, x1 => if x1 < (x0.size : Int) then (if 0 ≤ x1 then (if 48 ≤ (bt x0 x1) then (if (bt x0 x1) ≤ 57 then (version_zzDigits_100.l0 k x0 (wrap64 (x1 + 1))) else (some x1)) else (some x1)) else (none)) else (some x1)
def version_zzDigits_100.f (k : Nat) (a0 : ByteArray) (a1 : Int) : Option (Int) := version_zzDigits_100.l0 k a0 a1
theorem version_zzDigits_100.mono_l : ∀ k, (∀ y0 y1, LeO (version_zzDigits_100.l0 k y0 y1) (version_zzDigits_100.l0 (k + 1) y0 y1))
 | 0 => fun _ _ r h => by simp [version_zzDigits_100.l0] at h
 | k + 1 => by
  have ih0 := version_zzDigits_100.mono_l k
  ·
   intro y0 y1
   unfold version_zzDigits_100.l0
   repeat' first
   | (with_reducible exact ih0 _ _)
   | (with_reducible exact LeO.refl _)
   | (with_reducible exact LeO.none _)
   | (with_reducible refine LeO.ite ?_ ?_)
   | (with_reducible refine LeO.bind ?_ (fun _ => ?_))
   | exact ih0 _ _
   | exact LeO.none _
   | refine LeO.ite ?_ ?_
   | refine LeO.bind ?_ (fun _ => ?_)
theorem version_zzDigits_100.mono : ∀ a0 a1 k, LeO (version_zzDigits_100.f k a0 a1) (version_zzDigits_100.f (k + 1) a0 a1) := by
 intro a0 a1 k
 have ih0 := version_zzDigits_100.mono_l k
 unfold version_zzDigits_100.f
 repeat' first
   | (with_reducible exact ih0 _ _)
   | (with_reducible exact LeO.refl _)
   | (with_reducible exact LeO.none _)
   | (with_reducible refine LeO.ite ?_ ?_)
   | (with_reducible refine LeO.bind ?_ (fun _ => ?_))
   | exact ih0 _ _
   | exact LeO.none _
   | refine LeO.ite ?_ ?_
   | refine LeO.bind ?_ (fun _ => ?_)
set_option maxHeartbeats 8000000 in
set_option maxRecDepth 100000 in
theorem version_zzDigits_100.calls (k : Nat) (a0 : ByteArray) (a1 : Int) (r : Int) (w : World) (h : version_zzDigits_100.f k a0 a1 = some r) :
  Calls Tryd.prog 100 #[.string a0, .int .i64 a1] w fun e w' => e = .returned (.int .i64 r) ∧ Drawn0 w w' := by
 have H : (version_zzDigits_100.l0 k a0 a1) = some r := h
 clear h
 have H' := aM_ H
 clear H
 go_enter Tryd.func100, Tryd.ntmps100
 go_wp2
 go_loopg [1] k (fun kq v1 w' => ∃ (x1_1 : Int), v1 = .int .i64 x1_1 ∧ Aside0 (version_zzDigits_100.l0 kq a0 x1_1 = some r) ∧ Aside0 (kq ≤ k) ∧ Drawn0 w w')
 case atStart => exact ⟨(a1), (by first | rfl | (simp; done) | (simp [*]; done)), H', ⟨Nat.le_refl _⟩, by repeat (first | exact Drawn0.refl _ | apply Drawn0.step)⟩
 case round =>
  clear H'
  try clear c1
  try clear p2
  obtain ⟨x1_1, rfl, HA, HK1, ⟨m1, rfl⟩⟩ := hrel
  cases gk with
  | zero => exact absurd HA.out (by simp [version_zzDigits_100.l0])
  | succ k1 =>
   have H := HA.out
   clear HA
   simp only [version_zzDigits_100.l0] at H
   by_cases c3 : x1_1 < (a0.size : Int)
   ·
    rw [if_pos c3] at H
    have c3b0 : decide (x1_1 < (a0.size : Int)) = true := decide_eq_true c3
    clear c3
    by_cases c4 : 0 ≤ x1_1
    ·
     rw [if_pos c4] at H
     have c4b0 : decide (0 ≤ x1_1) = true := decide_eq_true c4
     clear c4
     by_cases c6 : 48 ≤ (bt a0 x1_1)
     ·
      rw [if_pos c6] at H
      have c6b0 : decide (48 ≤ (bt a0 x1_1)) = true := decide_eq_true c6
      clear c6
      by_cases c8 : (bt a0 x1_1) ≤ 57
      ·
       rw [if_pos c8] at H
       have c8b0 : decide ((bt a0 x1_1) ≤ 57) = true := decide_eq_true c8
       clear c8
       have H' := aM_ H
       clear H
       have p5 : 0 ≤ (x1_1 : Int) := of_decide_eq_true (by first | (with_reducible assumption) | assumption)
       have q5 : x1_1 < (a0.size : Int) := of_decide_eq_true (by first | (with_reducible assumption) | assumption)
       have hx5 := bt_at a0 x1_1
       replace p5 := eq_true p5
       replace q5 := eq_true q5
       have p7 : 0 ≤ (x1_1 : Int) := of_decide_eq_true (by first | (with_reducible assumption) | assumption)
       have q7 : x1_1 < (a0.size : Int) := of_decide_eq_true (by first | (with_reducible assumption) | assumption)
       have hx7 := bt_at a0 x1_1
       replace p7 := eq_true p7
       replace q7 := eq_true q7
       go_wp2
       go_roundg k1
       case measure => have := HK1.out; omega
       case rel => exact ⟨(wrap64 (x1_1 + 1)), (by first | rfl | (simp; done) | (simp [*]; done)), H', ⟨by have := HK1.out; omega⟩, by repeat (first | exact Drawn0.refl _ | apply Drawn0.step)⟩
      ·
       rw [if_neg c8] at H
       have c8b0 : decide ((bt a0 x1_1) ≤ 57) = false := decide_eq_false c8
       clear c8
       obtain rfl := Option.some.inj H
       have p5 : 0 ≤ (x1_1 : Int) := of_decide_eq_true (by first | (with_reducible assumption) | assumption)
       have q5 : x1_1 < (a0.size : Int) := of_decide_eq_true (by first | (with_reducible assumption) | assumption)
       have hx5 := bt_at a0 x1_1
       replace p5 := eq_true p5
       replace q5 := eq_true q5
       have p7 : 0 ≤ (x1_1 : Int) := of_decide_eq_true (by first | (with_reducible assumption) | assumption)
       have q7 : x1_1 < (a0.size : Int) := of_decide_eq_true (by first | (with_reducible assumption) | assumption)
       have hx7 := bt_at a0 x1_1
       replace p7 := eq_true p7
       replace q7 := eq_true q7
       go_wp2
       go_ret
       exact ⟨by first | rfl | (simp; done) | (simp [*]; done), by repeat (first | exact Drawn0.refl _ | apply Drawn0.step)⟩
     ·
      rw [if_neg c6] at H
      have c6b0 : decide (48 ≤ (bt a0 x1_1)) = false := decide_eq_false c6
      clear c6
      obtain rfl := Option.some.inj H
      have p5 : 0 ≤ (x1_1 : Int) := of_decide_eq_true (by first | (with_reducible assumption) | assumption)
      have q5 : x1_1 < (a0.size : Int) := of_decide_eq_true (by first | (with_reducible assumption) | assumption)
      have hx5 := bt_at a0 x1_1
      replace p5 := eq_true p5
      replace q5 := eq_true q5
      go_wp2
      go_ret
      exact ⟨by first | rfl | (simp; done) | (simp [*]; done), by repeat (first | exact Drawn0.refl _ | apply Drawn0.step)⟩
    ·
     rw [if_neg c4] at H
     exact absurd H (by simp)
   ·
    rw [if_neg c3] at H
    have c3b0 : decide (x1_1 < (a0.size : Int)) = false := decide_eq_false c3
    clear c3
    obtain rfl := Option.some.inj H
    go_wp2
    go_ret
    exact ⟨by first | rfl | (simp; done) | (simp [*]; done), by repeat (first | exact Drawn0.refl _ | apply Drawn0.step)⟩

end Go.Proofs.YtomoefldmgfaoaaDoor.PvHk
