/- Functions of the program as plain Lean functions, and that the machine's calls do what these say: written for this claim by wip/myprint.py over the kit's print.py. -/
import Derived.Test.YtomoefldmgfaoaaDoorPFnVersionStepsx0
namespace Go.Proofs.YtomoefldmgfaoaaDoor.PFnVersionSteps
open Go.RowKit Go.Proofs.YtomoefldmgfaoaaDoorW.PrintWords Go.Proofs.YtomoefldmgfaoaaDoorW.PrintLast Go.Proofs.YtomoefldmgfaoaaDoorW.PrintMore
attribute [local go_sem] max2_int min2_int max_two min_two max_three min_three max_four min_four   -- for this text's walks alone
set_option linter.unusedVariables false
set_option linter.unusedSimpArgs false

/-! ### laws_verKind: function 15 -/
def laws_verKind.f (a0 : Int) : Option (Int) := some (Int.tmod (wrap64 ((Int.tmod a0 4) + 4)) 4)
set_option maxHeartbeats 8000000 in
set_option maxRecDepth 100000 in
theorem laws_verKind.calls (a0 : Int) (r : Int) (w : World) (h : laws_verKind.f a0 = some r) :
  Calls Tryd.prog 15 #[.int .i64 a0] w fun e w' => e = .returned (.int .i64 r) ∧ Drawn0 w w' := by
 have H : (some (Int.tmod (wrap64 ((Int.tmod a0 4) + 4)) 4)) = some r := h
 clear h
 obtain rfl := Option.some.inj H
 go_enter Tryd.func15, Tryd.ntmps15
 go_wp2
 go_ret
 exact ⟨by first | rfl | (simp; done) | (simp [*]; done), by repeat (first | exact Drawn0.refl _ | apply Drawn0.step)⟩

/-! ### spec_verDigit: function 32 -/
def spec_verDigit.f (a0 : Int) : Option (Bool) := if a0 ≥ 48 then (some (decide (a0 ≤ 57))) else (some false)
set_option maxHeartbeats 8000000 in
set_option maxRecDepth 100000 in
theorem spec_verDigit.calls (a0 : Int) (r : Bool) (w : World) (h : spec_verDigit.f a0 = some r) :
  Calls Tryd.prog 32 #[.int .u8 a0] w fun e w' => e = .returned (.bool r) ∧ Drawn0 w w' := by
 have H : (if a0 ≥ 48 then (some (decide (a0 ≤ 57))) else (some false)) = some r := h
 clear h
 by_cases c2 : a0 ≥ 48
 ·
  rw [if_pos c2] at H
  have c2b0 : decide (48 ≤ a0) = true := decide_eq_true c2
  clear c2
  obtain rfl := Option.some.inj H
  go_enter Tryd.func32, Tryd.ntmps32
  go_wp2
  go_ret
  exact ⟨by first | rfl | (simp; done) | (simp [*]; done), by repeat (first | exact Drawn0.refl _ | apply Drawn0.step)⟩
 ·
  rw [if_neg c2] at H
  have c2b0 : decide (48 ≤ a0) = false := decide_eq_false c2
  clear c2
  obtain rfl := Option.some.inj H
  go_enter Tryd.func32, Tryd.ntmps32
  go_wp2
  go_ret
  exact ⟨by first | rfl | (simp; done) | (simp [*]; done), by repeat (first | exact Drawn0.refl _ | apply Drawn0.step)⟩

/-! ### spec_VerLong: function 12 -/
def spec_VerLong.l0 : Nat → ByteArray → Int → Int → Option (Bool)
 | 0, _, _, _ => none
 | k + 1, x0, x3, x4 => if x4 < (x0.size : Int) then (if 0 ≤ x4 then ((spec_verDigit.f (bt x0 x4)).bind fun t121 => (if t121 = true then (if (wrap64 (x3 + 1)) ≥ 20 then (some true) else (spec_VerLong.l0 k x0 (wrap64 (x3 + 1)) (wrap64 (x4 + 1)))) else (if 0 ≥ 20 then (some true) else (spec_VerLong.l0 k x0 0 (wrap64 (x4 + 1)))))) else (none)) else (some false)
def spec_VerLong.f (k : Nat) (a0 : ByteArray) : Option (Bool) := spec_VerLong.l0 k a0 0 0
set_option maxHeartbeats 8000000 in
set_option maxRecDepth 100000 in
theorem spec_VerLong.calls (k : Nat) (a0 : ByteArray) (r : Bool) (w : World) (h : spec_VerLong.f k a0 = some r) :
  Calls Tryd.prog 12 #[.string a0] w fun e w' => e = .returned (.bool r) ∧ Drawn0 w w' := by
 have H : (spec_VerLong.l0 k a0 0 0) = some r := h
 clear h
 have H' := aM_ H
 clear H
 go_enter Tryd.func12, Tryd.ntmps12
 go_wp2
 go_loopg [3, 4] k (fun kq v3 v4 w' => ∃ (x3_1 : Int) (x4_1 : Int), v3 = .int .i64 x3_1 ∧ v4 = .int .i64 x4_1 ∧ Aside0 (spec_VerLong.l0 kq a0 x3_1 x4_1 = some r) ∧ Aside0 (kq ≤ k) ∧ Drawn0 w w')
 case atStart => exact ⟨(0), (0), (by first | rfl | (simp; done) | (simp [*]; done)), (by first | rfl | (simp; done) | (simp [*]; done)), H', ⟨Nat.le_refl _⟩, by repeat (first | exact Drawn0.refl _ | apply Drawn0.step)⟩
 case round =>
  clear H'
  try clear c1
  obtain ⟨x3_1, x4_1, rfl, rfl, HA, HK1, ⟨m1, rfl⟩⟩ := hrel
  cases gk with
  | zero => exact absurd HA.out (by simp [spec_VerLong.l0])
  | succ k1 =>
   have H := HA.out
   clear HA
   simp only [spec_VerLong.l0] at H
   by_cases c2 : x4_1 < (a0.size : Int)
   ·
    rw [if_pos c2] at H
    have c2b0 : decide (x4_1 < (a0.size : Int)) = true := decide_eq_true c2
    clear c2
    by_cases c3 : 0 ≤ x4_1
    ·
     rw [if_pos c3] at H
     have c3b0 : decide (0 ≤ x4_1) = true := decide_eq_true c3
     clear c3
     replace H := Option.bind_eq_some_iff.mp H
     obtain ⟨t121, A50, H⟩ := H
     replace H : (if t121 = true then (if (wrap64 (x3_1 + 1)) ≥ 20 then (some true) else (spec_VerLong.l0 k1 a0 (wrap64 (x3_1 + 1)) (wrap64 (x4_1 + 1)))) else (if 0 ≥ 20 then (some true) else (spec_VerLong.l0 k1 a0 0 (wrap64 (x4_1 + 1))))) = some r := H
     have A5 := aM_ A50
     clear A50
     by_cases c6 : t121 = true
     ·
      subst c6
      have H1 : (if (wrap64 (x3_1 + 1)) ≥ 20 then (some true) else (spec_VerLong.l0 k1 a0 (wrap64 (x3_1 + 1)) (wrap64 (x4_1 + 1)))) = some r := by rw [if_pos rfl] at H; exact H
      clear H
      have H := H1
      clear H1
      by_cases c7 : (wrap64 (x3_1 + 1)) ≥ 20
      ·
       rw [if_pos c7] at H
       have c7b0 : decide (20 ≤ (wrap64 (x3_1 + 1))) = true := decide_eq_true c7
       clear c7
       obtain rfl := Option.some.inj H
       have p4 : 0 ≤ (x4_1 : Int) := of_decide_eq_true (by first | (with_reducible assumption) | assumption)
       have q4 : x4_1 < (a0.size : Int) := of_decide_eq_true (by first | (with_reducible assumption) | assumption)
       have hx4 := bt_at a0 x4_1
       replace p4 := eq_true p4
       replace q4 := eq_true q4
       go_wp2_with (first | ((with_reducible refine gate_callee (f := 32) rfl ?_); refine goesL_ (some 16) rfl rfl Tryd.func32 (by kernel_rfl) rfl #[.int .u8 (bt a0 x4_1)] rfl (by (try simp only [List.map_toArray, List.map_cons, List.map_nil]); first | done | rfl | (simp only [List.length_drop, List.length_take]; rfl)) ?_; (with_reducible refine (spec_verDigit.calls (bt a0 x4_1) true _ A5.out).mono ?_); rintro e w' ⟨rfl, ⟨nd, rfl⟩⟩; refine ⟨_, rfl, ?_⟩))
       go_ret
       exact ⟨by first | rfl | (simp; done) | (simp [*]; done), by repeat (first | exact Drawn0.refl _ | apply Drawn0.step)⟩
      ·
       rw [if_neg c7] at H
       have c7b0 : decide (20 ≤ (wrap64 (x3_1 + 1))) = false := decide_eq_false c7
       clear c7
       have H' := aM_ H
       clear H
       have p4 : 0 ≤ (x4_1 : Int) := of_decide_eq_true (by first | (with_reducible assumption) | assumption)
       have q4 : x4_1 < (a0.size : Int) := of_decide_eq_true (by first | (with_reducible assumption) | assumption)
       have hx4 := bt_at a0 x4_1
       replace p4 := eq_true p4
       replace q4 := eq_true q4
       go_wp2_with (first | ((with_reducible refine gate_callee (f := 32) rfl ?_); refine goesL_ (some 16) rfl rfl Tryd.func32 (by kernel_rfl) rfl #[.int .u8 (bt a0 x4_1)] rfl (by (try simp only [List.map_toArray, List.map_cons, List.map_nil]); first | done | rfl | (simp only [List.length_drop, List.length_take]; rfl)) ?_; (with_reducible refine (spec_verDigit.calls (bt a0 x4_1) true _ A5.out).mono ?_); rintro e w' ⟨rfl, ⟨nd, rfl⟩⟩; refine ⟨_, rfl, ?_⟩))
       go_roundg k1
       case measure => have := HK1.out; omega
       case rel => exact ⟨(wrap64 (x3_1 + 1)), (wrap64 (x4_1 + 1)), (by first | rfl | (simp; done) | (simp [*]; done)), (by first | rfl | (simp; done) | (simp [*]; done)), H', ⟨by have := HK1.out; omega⟩, by repeat (first | exact Drawn0.refl _ | apply Drawn0.step)⟩
     ·
      replace c6 := Bool.eq_false_iff.mpr c6
      subst c6
      have H1 : (if 0 ≥ 20 then (some true) else (spec_VerLong.l0 k1 a0 0 (wrap64 (x4_1 + 1)))) = some r := by rw [if_neg (show ¬ (false = true) by decide)] at H; exact H
      clear H
      have H := H1
      clear H1
      by_cases c8 : 0 ≥ 20
      · exact absurd c8 (by decide)
      ·
       rw [if_neg c8] at H
       have c8b0 : decide (20 ≤ 0) = false := decide_eq_false c8
       clear c8
       have H' := aM_ H
       clear H
       have p4 : 0 ≤ (x4_1 : Int) := of_decide_eq_true (by first | (with_reducible assumption) | assumption)
       have q4 : x4_1 < (a0.size : Int) := of_decide_eq_true (by first | (with_reducible assumption) | assumption)
       have hx4 := bt_at a0 x4_1
       replace p4 := eq_true p4
       replace q4 := eq_true q4
       go_wp2_with (first | ((with_reducible refine gate_callee (f := 32) rfl ?_); refine goesL_ (some 16) rfl rfl Tryd.func32 (by kernel_rfl) rfl #[.int .u8 (bt a0 x4_1)] rfl (by (try simp only [List.map_toArray, List.map_cons, List.map_nil]); first | done | rfl | (simp only [List.length_drop, List.length_take]; rfl)) ?_; (with_reducible refine (spec_verDigit.calls (bt a0 x4_1) false _ A5.out).mono ?_); rintro e w' ⟨rfl, ⟨nd, rfl⟩⟩; refine ⟨_, rfl, ?_⟩))
       go_roundg k1
       case measure => have := HK1.out; omega
       case rel => exact ⟨(0), (wrap64 (x4_1 + 1)), (by first | rfl | (simp; done) | (simp [*]; done)), (by first | rfl | (simp; done) | (simp [*]; done)), H', ⟨by have := HK1.out; omega⟩, by repeat (first | exact Drawn0.refl _ | apply Drawn0.step)⟩
    ·
     rw [if_neg c3] at H
     exact absurd H (by simp)
   ·
    rw [if_neg c2] at H
    have c2b0 : decide (x4_1 < (a0.size : Int)) = false := decide_eq_false c2
    clear c2
    obtain rfl := Option.some.inj H
    go_wp2
    go_ret
    exact ⟨by first | rfl | (simp; done) | (simp [*]; done), by repeat (first | exact Drawn0.refl _ | apply Drawn0.step)⟩

/-! ### spec_verFields: function 37 -/
mutual
def spec_verFields.l0 : Nat → ByteArray → List ByteArray → Option (List ByteArray × ByteArray)
 | 0, _, _ => none
 | k + 1, x0, x4 => spec_verFields.l1 k x0 x4 0
def spec_verFields.j2 : Nat → ByteArray → List ByteArray → Int → Option (List ByteArray × ByteArray)
 | 0, _, _, _ => none
 | k + 1, x0, x4, x5 => if x5 = 0 then (some (x4, x0)) else (if 0 ≤ x5 then (if x5 ≤ (x0.size : Int) then (if x4.length < 8796093022208 then ((some (x4 ++ [x0.extract 0 (x5 : Int).toNat] : List ByteArray)).bind fun y123 => (if ((x0.extract (x5 : Int).toNat x0.size).size : Int) < 2 then (some (y123, x0.extract (x5 : Int).toNat x0.size)) else (if 0 < ((x0.extract (x5 : Int).toNat x0.size).size : Int) then (if (bt (x0.extract (x5 : Int).toNat x0.size) 0) = 46 then (if 1 < ((x0.extract (x5 : Int).toNat x0.size).size : Int) then ((spec_verDigit.f (bt (x0.extract (x5 : Int).toNat x0.size) 1)).bind fun t126 => (if t126 = true then (if 1 ≤ ((x0.extract (x5 : Int).toNat x0.size).size : Int) then (spec_verFields.l0 k ((x0.extract (x5 : Int).toNat x0.size).extract 1 (x0.extract (x5 : Int).toNat x0.size).size) y123) else (none)) else (some (y123, x0.extract (x5 : Int).toNat x0.size)))) else (none)) else (some (y123, x0.extract (x5 : Int).toNat x0.size))) else (none)))) else (none)) else (none)) else (none))
def spec_verFields.l1 : Nat → ByteArray → List ByteArray → Int → Option (List ByteArray × ByteArray)
 | 0, _, _, _ => none
 | k + 1, x0, x4, x5 => if x5 < (x0.size : Int) then (if 0 ≤ x5 then ((spec_verDigit.f (bt x0 x5)).bind fun t122 => (if t122 = true then (spec_verFields.l1 k x0 x4 (wrap64 (x5 + 1))) else (spec_verFields.j2 k x0 x4 x5))) else (none)) else (spec_verFields.j2 k x0 x4 x5)
end
def spec_verFields.f (k : Nat) (a0 : ByteArray) : Option (List ByteArray × ByteArray) := spec_verFields.l0 k a0 ([] : List ByteArray)
set_option maxHeartbeats 8000000 in
set_option maxRecDepth 100000 in
theorem spec_verFields.calls (k : Nat) (a0 : ByteArray) (r1 : List ByteArray) (r2 : ByteArray) (w : World) (h : spec_verFields.f k a0 = some (r1, r2)) :
  Calls Tryd.prog 37 #[.string a0] w fun e w' => ∃ v0_ : Value, e = .returned (.tuple #[v0_, .string r2]) ∧ Kd.R Kd.string 9 w' w.heap.size (fun _ => True) v0_ r1 ∧ Below w.heap.size w w' := by
 have HB := aM_ (Below.refl w.heap.size w)
 have H : (spec_verFields.l0 k a0 ([] : List ByteArray)) = some (r1, r2) := h
 clear h
 have H' := aM_ H
 clear H
 go_enter Tryd.func37, Tryd.ntmps37
 go_wp2
 go_loopg [0, 4] k (fun kq v0 v4 w' => ∃ (x0_1 : ByteArray) (x4_1 : List ByteArray), v0 = .string x0_1 ∧ Aside0 (spec_verFields.l0 kq x0_1 x4_1 = some (r1, r2)) ∧ Aside0 (kq ≤ k) ∧ Aside0 (Kd.R Kd.string 9 w' w.heap.size (fun _ => True) v4 x4_1) ∧ Aside0 (Below w.heap.size w w'))
 case atStart => exact ⟨(a0), (([] : List ByteArray)), (by first | rfl | (simp; done) | (simp [*]; done)), H', ⟨Nat.le_refl _⟩, ⟨by first | exact Kd.R_nil _ _ _ _ _ | exact Kd.N_nil _ _ _ _ _ | exact Kd.V_nil _ _ _ _ _ | exact Kd.Q_nil _ _ _ _ _ | exact Kd.S_nil _ _ _ _ _⟩, ⟨by repeat (first | (with_reducible first | exact HB.out | apply bB_ | apply wN_ | apply bE_) | exact HB.out)⟩⟩
 case round =>
  clear H'
  obtain ⟨x0_1, x4_1, rfl, HA, HK1, HO_4, HB⟩ := hrel
  cases gk with
  | zero => exact absurd HA.out (by simp [spec_verFields.l0])
  | succ k1 =>
   have H := HA.out
   clear HA
   simp only [spec_verFields.l0] at H
   have HC2 := aM_ H
   clear H
   go_upto_block 2 with (fail)
   go_cut [5] (fun v5 wc => ∃ (kq : Nat) (x5_1 : Int), v5 = .int .i64 x5_1 ∧ Aside0 (spec_verFields.j2 kq x0_1 x4_1 x5_1 = some (r1, r2)) ∧ Aside0 (kq ≤ k1) ∧ Aside0 (Kd.R Kd.string 9 wc w.heap.size (fun _ => True) u4 x4_1) ∧ Aside0 (Below w.heap.size w wc))
   case first =>
    have H := HC2.out
    clear HC2
    have H' := aM_ H
    clear H
    go_wp2
    go_loopg [5] k1 (fun kq v5 w' => ∃ (x5_2 : Int), v5 = .int .i64 x5_2 ∧ Aside0 (spec_verFields.l1 kq x0_1 x4_1 x5_2 = some (r1, r2)) ∧ Aside0 (kq ≤ k1) ∧ Aside0 (Kd.R Kd.string 9 w' w.heap.size (fun _ => True) u4 x4_1) ∧ Aside0 (Below w.heap.size w w'))
    case atStart => exact ⟨(0), (by first | rfl | (simp; done) | (simp [*]; done)), H', ⟨Nat.le_refl _⟩, ⟨by (with_reducible repeat (first | apply kA_ | apply kN_ | apply kD_)); exact HO_4.out⟩, ⟨by repeat (first | (with_reducible first | exact HB.out | apply bB_ | apply wN_ | apply bE_) | exact HB.out)⟩⟩
    case round =>
     clear H'
     try clear p2
     obtain ⟨x5_2, rfl, HA, HK2, HO_4, HB⟩ := hrel
     cases gk with
     | zero => exact absurd HA.out (by simp [spec_verFields.l1])
     | succ k2 =>
      have H := HA.out
      clear HA
      simp only [spec_verFields.l1] at H
      by_cases c3 : x5_2 < (x0_1.size : Int)
      ·
       rw [if_pos c3] at H
       have c3b0 : decide (x5_2 < (x0_1.size : Int)) = true := decide_eq_true c3
       clear c3
       (first | rw [c3b0] | (simp only [i64_w, i32_w]; rw [c3b0]) | skip)
       by_cases c4 : 0 ≤ x5_2
       ·
        rw [if_pos c4] at H
        have c4b0 : decide (0 ≤ x5_2) = true := decide_eq_true c4
        clear c4
        replace H := Option.bind_eq_some_iff.mp H
        obtain ⟨t122, A60, H⟩ := H
        replace H : (if t122 = true then (spec_verFields.l1 k2 x0_1 x4_1 (wrap64 (x5_2 + 1))) else (spec_verFields.j2 k2 x0_1 x4_1 x5_2)) = some (r1, r2) := H
        have A6 := aM_ A60
        clear A60
        by_cases c7 : t122 = true
        ·
         subst c7
         have H1 : (spec_verFields.l1 k2 x0_1 x4_1 (wrap64 (x5_2 + 1))) = some (r1, r2) := by rw [if_pos rfl] at H; exact H
         clear H
         have H := H1
         clear H1
         have H' := aM_ H
         clear H
         have p5 : 0 ≤ (x5_2 : Int) := of_decide_eq_true (by first | (with_reducible assumption) | assumption)
         have q5 : x5_2 < (x0_1.size : Int) := of_decide_eq_true (by first | (with_reducible assumption) | assumption)
         have hx5 := bt_at x0_1 x5_2
         replace p5 := eq_true p5
         replace q5 := eq_true q5
         go_wp2_with (first | (go_at_call 32; (with_reducible refine (spec_verDigit.calls (bt x0_1 x5_2) true _ A6.out).mono ?_); rintro e w' ⟨rfl, ⟨nd, rfl⟩⟩))
         go_roundg k2
         case measure => have := HK1.out; have := HK2.out; omega
         case rel => exact ⟨(wrap64 (x5_2 + 1)), (by first | rfl | (simp; done) | (simp [*]; done)), H', ⟨by have := HK1.out; have := HK2.out; omega⟩, ⟨by (with_reducible repeat (first | apply kA_ | apply kN_ | apply kD_)); exact HO_4.out⟩, ⟨by repeat (first | (with_reducible first | exact HB.out | apply bB_ | apply wN_ | apply bE_) | exact HB.out)⟩⟩
        ·
         replace c7 := Bool.eq_false_iff.mpr c7
         subst c7
         have H1 : (spec_verFields.j2 k2 x0_1 x4_1 x5_2) = some (r1, r2) := by rw [if_neg (show ¬ (false = true) by decide)] at H; exact H
         clear H
         have H := H1
         clear H1
         have H' := aM_ H
         clear H
         have p5 : 0 ≤ (x5_2 : Int) := of_decide_eq_true (by first | (with_reducible assumption) | assumption)
         have q5 : x5_2 < (x0_1.size : Int) := of_decide_eq_true (by first | (with_reducible assumption) | assumption)
         have hx5 := bt_at x0_1 x5_2
         replace p5 := eq_true p5
         replace q5 := eq_true q5
         go_wp2_with (first | (go_at_call 32; (with_reducible refine (spec_verDigit.calls (bt x0_1 x5_2) false _ A6.out).mono ?_); rintro e w' ⟨rfl, ⟨nd, rfl⟩⟩))
         go_meet
         case rel => exact ⟨_, (x5_2), (by first | rfl | (simp; done) | (simp [*]; done)), H', ⟨by have := HK1.out; have := HK2.out; first | omega | exact Nat.le_refl _⟩, ⟨by (with_reducible repeat (first | apply kA_ | apply kN_ | apply kD_)); exact HO_4.out⟩, ⟨by repeat (first | (with_reducible first | exact HB.out | apply bB_ | apply wN_ | apply bE_) | exact HB.out)⟩⟩
       ·
        rw [if_neg c4] at H
        exact absurd H (by simp)
      ·
       rw [if_neg c3] at H
       have c3b0 : decide (x5_2 < (x0_1.size : Int)) = false := decide_eq_false c3
       clear c3
       (first | rw [c3b0] | (simp only [i64_w, i32_w]; rw [c3b0]) | skip)
       have H' := aM_ H
       clear H
       go_wp2
       go_meet
       case rel => exact ⟨_, (x5_2), (by first | rfl | (simp; done) | (simp [*]; done)), H', ⟨by have := HK1.out; have := HK2.out; first | omega | exact Nat.le_refl _⟩, ⟨by (with_reducible repeat (first | apply kA_ | apply kN_ | apply kD_)); exact HO_4.out⟩, ⟨by repeat (first | (with_reducible first | exact HB.out | apply bB_ | apply wN_ | apply bE_) | exact HB.out)⟩⟩
   case rest =>
    clear HC2
    try clear p2
    try clear c3
    try clear c3b0
    try clear c4
    try clear c4b0
    try clear p5
    try clear q5
    try clear hx5
    try clear p6
    try clear c7
    try clear p2
    try clear p5
    try clear q5
    obtain ⟨kq, x5_1, rfl, HA, HJ1, HO_4, HB⟩ := hcut
    cases kq with
    | zero => exact absurd HA.out (by simp [spec_verFields.j2])
    | succ kj1 =>
     have H := HA.out
     clear HA
     simp only [spec_verFields.j2] at H
     by_cases c8 : x5_1 = 0
     ·
      rw [if_pos c8] at H
      have c8b0 : (x5_1 == 0) = true := beq_iff_eq.mpr c8
      have c8b1 : (x5_1 != 0) = false := bne_eq_false_iff_eq.mpr c8
      clear c8
      simp only [Option.some.injEq, Prod.mk.injEq] at H
      obtain ⟨rfl, rfl⟩ := H
      go_wp2
      go_ret2
      exact ⟨_, by first | rfl | (simp [errW_none, errW_some] <;> rfl) | (simp [*, errW_none, errW_some] <;> rfl), by (with_reducible repeat (first | apply kA_ | apply kN_ | apply kD_)); exact HO_4.out, by repeat (first | (with_reducible first | exact HB.out | apply bB_ | apply wN_ | apply bE_) | exact HB.out)⟩
     ·
      rw [if_neg c8] at H
      have c8b0 : (x5_1 == 0) = false := beq_eq_false_iff_ne.mpr c8
      have c8b1 : (x5_1 != 0) = true := bne_iff_ne.mpr c8
      by_cases c9 : 0 ≤ x5_1
      ·
       rw [if_pos c9] at H
       have c9b0 := eq_true c9
       have c9b1 : decide (0 ≤ x5_1) = true := decide_eq_true c9
       clear c9
       by_cases c10 : x5_1 ≤ (x0_1.size : Int)
       ·
        rw [if_pos c10] at H
        have c10b0 := eq_true c10
        have c10b1 : decide (x5_1 ≤ (x0_1.size : Int)) = true := decide_eq_true c10
        clear c10
        by_cases c11 : x4_1.length < 8796093022208
        ·
         rw [if_pos c11] at H
         have LMc11 := aM_ c11
         clear c11
         obtain ⟨y123, hy123⟩ : ∃ y_ : List ByteArray, y_ = (x4_1 ++ [x0_1.extract 0 (x5_1 : Int).toNat]) := ⟨_, rfl⟩
         replace H : (if ((x0_1.extract (x5_1 : Int).toNat x0_1.size).size : Int) < 2 then (some (y123, x0_1.extract (x5_1 : Int).toNat x0_1.size)) else (if 0 < ((x0_1.extract (x5_1 : Int).toNat x0_1.size).size : Int) then (if (bt (x0_1.extract (x5_1 : Int).toNat x0_1.size) 0) = 46 then (if 1 < ((x0_1.extract (x5_1 : Int).toNat x0_1.size).size : Int) then ((spec_verDigit.f (bt (x0_1.extract (x5_1 : Int).toNat x0_1.size) 1)).bind fun t126 => (if t126 = true then (if 1 ≤ ((x0_1.extract (x5_1 : Int).toNat x0_1.size).size : Int) then (spec_verFields.l0 kj1 ((x0_1.extract (x5_1 : Int).toNat x0_1.size).extract 1 (x0_1.extract (x5_1 : Int).toNat x0_1.size).size) y123) else (none)) else (some (y123, x0_1.extract (x5_1 : Int).toNat x0_1.size)))) else (none)) else (some (y123, x0_1.extract (x5_1 : Int).toNat x0_1.size))) else (none))) = some (r1, r2) := by first | (rw [hy123]; with_reducible exact H) | (have H2_ := (Option.bind_some _ _).symm.trans H; rw [hy123]; with_reducible exact H2_) | (have H2_ := (Option.bind_some _ _).symm.trans H; with_reducible exact H2_) | with_reducible exact H | (rw [hy123]; exact H) | exact H
         have Ny123 := aM_ hy123
         clear hy123
         have c12b0 := eq_true (of_decide_eq_true (by first | (with_reducible assumption) | assumption) : 0 ≤ x5_1)
         have c13b0 := eq_true (of_decide_eq_true (by first | (with_reducible assumption) | assumption) : x5_1 ≤ (x0_1.size : Int))
         by_cases c14 : ((x0_1.extract (x5_1 : Int).toNat x0_1.size).size : Int) < 2
         ·
          rw [if_pos c14] at H
          have c14b0 : decide (((x0_1.extract (x5_1 : Int).toNat x0_1.size).size : Int) < 2) = true := decide_eq_true c14
          have c14z := of_decide_eq_true c14b0
          (try simp only [ByteArray.size_extract, Nat.min_self] at c14z)
          have c14b1 : decide ((x0_1.extract (x5_1 : Int).toNat x0_1.size).size < 2) = true := decide_eq_true (by omega)
          clear c14
          simp only [Option.some.injEq, Prod.mk.injEq] at H
          obtain ⟨rfl, rfl⟩ := H
          go_wp2_with (first | ((with_reducible refine gate_builtin (b := .append) (xs := #[.tmp 22, .tmp 26]) rfl ?_); at_builtin; refine Kd.R_append Kd.string (w0 := w) w.heap.size rfl (.tmp 22) (.tmp 26) 49 9 (.string ⟨#[]⟩) 16 rfl Tryd.underlying49 info9 rfl (by decide) (by omega) u4 x4_1 (x0_1.extract 0 (x5_1 : Int).toNat) [.string (x0_1.extract 0 (x5_1 : Int).toNat)] (fun _ => True) (fun _ => False) rfl rfl ?aP (fun _ hk => hk.elim) ?aF ?aO ?aB ?aS ?aL ?_; (case aP => exact rfl); (case aB => exact (by repeat (first | (with_reducible first | exact HB.out | apply bB_ | apply wN_ | apply bE_) | exact HB.out))); (case aF => exact (fun _ _ => trivial)); (case aO => exact (by (with_reducible repeat (first | apply kA_ | apply kN_ | apply kD_)); exact HO_4.out)); (case aS => exact (below_size (by repeat (first | (with_reducible first | exact HB.out | apply bB_ | apply wN_ | apply bE_) | exact HB.out)))); (case aL => have := LMc11.out; omega); intro v124 w15 ho hb hg hat; rw [← Ny123.out] at ho; have n0_ := aM_ (hb); have n1_ := aM_ (ho); clear HB; clear HO_4; have HB := n0_; have HO125 := n1_; clear n0_ n1_; clear ho hb hg hat))
          go_ret2
          exact ⟨_, by first | rfl | (simp [errW_none, errW_some] <;> rfl) | (simp [*, errW_none, errW_some] <;> rfl), by (with_reducible repeat (first | apply kA_ | apply kN_ | apply kD_)); exact HO125.out, by repeat (first | (with_reducible first | exact HB.out | apply bB_ | apply wN_ | apply bE_) | exact HB.out)⟩
         ·
          rw [if_neg c14] at H
          have c14b0 : decide (((x0_1.extract (x5_1 : Int).toNat x0_1.size).size : Int) < 2) = false := decide_eq_false c14
          have c14z := of_decide_eq_false c14b0
          (try simp only [ByteArray.size_extract, Nat.min_self] at c14z)
          have c14b1 : decide ((x0_1.extract (x5_1 : Int).toNat x0_1.size).size < 2) = false := decide_eq_false (by omega)
          clear c14
          by_cases c16 : 0 < ((x0_1.extract (x5_1 : Int).toNat x0_1.size).size : Int)
          ·
           rw [if_pos c16] at H
           have c16b0 : decide (0 < ((x0_1.extract (x5_1 : Int).toNat x0_1.size).size : Int)) = true := decide_eq_true c16
           have c16z := of_decide_eq_true c16b0
           (try simp only [ByteArray.size_extract, Nat.min_self] at c16z)
           (try have c16y : 0 < x0_1.size - x5_1.toNat := by omega)
           (try have c16x : x5_1.toNat < x0_1.size := by omega)
           have c16b1 : decide (0 < (x0_1.extract (x5_1 : Int).toNat x0_1.size).size) = true := decide_eq_true (by omega)
           clear c16
           by_cases c18 : (bt (x0_1.extract (x5_1 : Int).toNat x0_1.size) 0) = 46
           ·
            rw [if_pos c18] at H
            have c18b0 : ((bt (x0_1.extract (x5_1 : Int).toNat x0_1.size) 0) == 46) = true := beq_iff_eq.mpr c18
            have c18b1 : ((bt (x0_1.extract (x5_1 : Int).toNat x0_1.size) 0) != 46) = false := bne_eq_false_iff_eq.mpr c18
            clear c18
            by_cases c19 : 1 < ((x0_1.extract (x5_1 : Int).toNat x0_1.size).size : Int)
            ·
             rw [if_pos c19] at H
             have c19b0 : decide (1 < ((x0_1.extract (x5_1 : Int).toNat x0_1.size).size : Int)) = true := decide_eq_true c19
             have c19z := of_decide_eq_true c19b0
             (try simp only [ByteArray.size_extract, Nat.min_self] at c19z)
             have c19b1 : decide (1 < (x0_1.extract (x5_1 : Int).toNat x0_1.size).size) = true := decide_eq_true (by omega)
             clear c19
             replace H := Option.bind_eq_some_iff.mp H
             obtain ⟨t126, A210, H⟩ := H
             replace H : (if t126 = true then (if 1 ≤ ((x0_1.extract (x5_1 : Int).toNat x0_1.size).size : Int) then (spec_verFields.l0 kj1 ((x0_1.extract (x5_1 : Int).toNat x0_1.size).extract 1 (x0_1.extract (x5_1 : Int).toNat x0_1.size).size) y123) else (none)) else (some (y123, x0_1.extract (x5_1 : Int).toNat x0_1.size))) = some (r1, r2) := H
             have A21 := aM_ A210
             clear A210
             by_cases c22 : t126 = true
             ·
              subst c22
              have H1 : (if 1 ≤ ((x0_1.extract (x5_1 : Int).toNat x0_1.size).size : Int) then (spec_verFields.l0 kj1 ((x0_1.extract (x5_1 : Int).toNat x0_1.size).extract 1 (x0_1.extract (x5_1 : Int).toNat x0_1.size).size) y123) else (none)) = some (r1, r2) := by rw [if_pos rfl] at H; exact H
              clear H
              have H := H1
              clear H1
              by_cases c23 : 1 ≤ ((x0_1.extract (x5_1 : Int).toNat x0_1.size).size : Int)
              ·
               rw [if_pos c23] at H
               have c23b0 := eq_true c23
               have c23b1 : decide (1 ≤ ((x0_1.extract (x5_1 : Int).toNat x0_1.size).size : Int)) = true := decide_eq_true c23
               clear c23
               have H' := aM_ H
               clear H
               go_wp2_with (first | ((with_reducible refine gate_builtin (b := .append) (xs := #[.tmp 22, .tmp 26]) rfl ?_); at_builtin; refine Kd.R_append Kd.string (w0 := w) w.heap.size rfl (.tmp 22) (.tmp 26) 49 9 (.string ⟨#[]⟩) 16 rfl Tryd.underlying49 info9 rfl (by decide) (by omega) u4 x4_1 (x0_1.extract 0 (x5_1 : Int).toNat) [.string (x0_1.extract 0 (x5_1 : Int).toNat)] (fun _ => True) (fun _ => False) rfl rfl ?aP (fun _ hk => hk.elim) ?aF ?aO ?aB ?aS ?aL ?_; (case aP => exact rfl); (case aB => exact (by repeat (first | (with_reducible first | exact HB.out | apply bB_ | apply wN_ | apply bE_) | exact HB.out))); (case aF => exact (fun _ _ => trivial)); (case aO => exact (by (with_reducible repeat (first | apply kA_ | apply kN_ | apply kD_)); exact HO_4.out)); (case aS => exact (below_size (by repeat (first | (with_reducible first | exact HB.out | apply bB_ | apply wN_ | apply bE_) | exact HB.out)))); (case aL => have := LMc11.out; omega); intro v124 w24 ho hb hg hat; rw [← Ny123.out] at ho; have n0_ := aM_ (hb); have n1_ := aM_ (ho); clear HB; clear HO_4; have HB := n0_; have HO125 := n1_; clear n0_ n1_; clear ho hb hg hat; have p17 : 0 ≤ (0 : Int) := (by omega); have q17 : 0 < (x0_1.extract (x5_1 : Int).toNat x0_1.size).size := (by have : (0 : Int) < ((x0_1.extract (x5_1 : Int).toNat x0_1.size).size : Int) := of_decide_eq_true (by first | (with_reducible assumption) | assumption); omega); have hx17 : ∀ h : 0 < (x0_1.extract (x5_1 : Int).toNat x0_1.size).size, (((x0_1.extract (x5_1 : Int).toNat x0_1.size)[0]'h).toNat : Int) = bt (x0_1.extract (x5_1 : Int).toNat x0_1.size) 0 := bt_at (x0_1.extract (x5_1 : Int).toNat x0_1.size) 0; clear p17; have qi17 : (0 < ((x0_1.extract (x5_1 : Int).toNat x0_1.size).size : Int)) = True := eq_true (of_decide_eq_true (by first | (with_reducible assumption) | assumption)); replace q17 := eq_true q17; have p20 : 0 ≤ (1 : Int) := (by omega); have q20 : 1 < (x0_1.extract (x5_1 : Int).toNat x0_1.size).size := (by have : (1 : Int) < ((x0_1.extract (x5_1 : Int).toNat x0_1.size).size : Int) := of_decide_eq_true (by first | (with_reducible assumption) | assumption); omega); have hx20 : ∀ h : 1 < (x0_1.extract (x5_1 : Int).toNat x0_1.size).size, (((x0_1.extract (x5_1 : Int).toNat x0_1.size)[1]'h).toNat : Int) = bt (x0_1.extract (x5_1 : Int).toNat x0_1.size) 1 := bt_at (x0_1.extract (x5_1 : Int).toNat x0_1.size) 1; clear p20; have qi20 : (1 < ((x0_1.extract (x5_1 : Int).toNat x0_1.size).size : Int)) = True := eq_true (of_decide_eq_true (by first | (with_reducible assumption) | assumption)); replace q20 := eq_true q20) | (go_at_call 32; (with_reducible refine (spec_verDigit.calls (bt (x0_1.extract (x5_1 : Int).toNat x0_1.size) 1) true _ A21.out).mono ?_); rintro e w' ⟨rfl, ⟨nd, rfl⟩⟩))
               go_roundg kj1
               case measure => have := HK1.out; have := HJ1.out; omega
               case rel => exact ⟨((x0_1.extract (x5_1 : Int).toNat x0_1.size).extract 1 (x0_1.extract (x5_1 : Int).toNat x0_1.size).size), (y123), (by first | rfl | (simp; done) | (simp [*]; done)), H', ⟨by have := HK1.out; have := HJ1.out; omega⟩, ⟨by (with_reducible repeat (first | apply kA_ | apply kN_ | apply kD_)); exact HO125.out⟩, ⟨by repeat (first | (with_reducible first | exact HB.out | apply bB_ | apply wN_ | apply bE_) | exact HB.out)⟩⟩
              ·
               rw [if_neg c23] at H
               exact absurd H (by simp)
             ·
              replace c22 := Bool.eq_false_iff.mpr c22
              subst c22
              have H1 : (some (y123, x0_1.extract (x5_1 : Int).toNat x0_1.size)) = some (r1, r2) := by rw [if_neg (show ¬ (false = true) by decide)] at H; exact H
              clear H
              have H := H1
              clear H1
              simp only [Option.some.injEq, Prod.mk.injEq] at H
              obtain ⟨rfl, rfl⟩ := H
              go_wp2_with (first | ((with_reducible refine gate_builtin (b := .append) (xs := #[.tmp 22, .tmp 26]) rfl ?_); at_builtin; refine Kd.R_append Kd.string (w0 := w) w.heap.size rfl (.tmp 22) (.tmp 26) 49 9 (.string ⟨#[]⟩) 16 rfl Tryd.underlying49 info9 rfl (by decide) (by omega) u4 x4_1 (x0_1.extract 0 (x5_1 : Int).toNat) [.string (x0_1.extract 0 (x5_1 : Int).toNat)] (fun _ => True) (fun _ => False) rfl rfl ?aP (fun _ hk => hk.elim) ?aF ?aO ?aB ?aS ?aL ?_; (case aP => exact rfl); (case aB => exact (by repeat (first | (with_reducible first | exact HB.out | apply bB_ | apply wN_ | apply bE_) | exact HB.out))); (case aF => exact (fun _ _ => trivial)); (case aO => exact (by (with_reducible repeat (first | apply kA_ | apply kN_ | apply kD_)); exact HO_4.out)); (case aS => exact (below_size (by repeat (first | (with_reducible first | exact HB.out | apply bB_ | apply wN_ | apply bE_) | exact HB.out)))); (case aL => have := LMc11.out; omega); intro v124 w25 ho hb hg hat; rw [← Ny123.out] at ho; have n0_ := aM_ (hb); have n1_ := aM_ (ho); clear HB; clear HO_4; have HB := n0_; have HO125 := n1_; clear n0_ n1_; clear ho hb hg hat; have p17 : 0 ≤ (0 : Int) := (by omega); have q17 : 0 < (x0_1.extract (x5_1 : Int).toNat x0_1.size).size := (by have : (0 : Int) < ((x0_1.extract (x5_1 : Int).toNat x0_1.size).size : Int) := of_decide_eq_true (by first | (with_reducible assumption) | assumption); omega); have hx17 : ∀ h : 0 < (x0_1.extract (x5_1 : Int).toNat x0_1.size).size, (((x0_1.extract (x5_1 : Int).toNat x0_1.size)[0]'h).toNat : Int) = bt (x0_1.extract (x5_1 : Int).toNat x0_1.size) 0 := bt_at (x0_1.extract (x5_1 : Int).toNat x0_1.size) 0; clear p17; have qi17 : (0 < ((x0_1.extract (x5_1 : Int).toNat x0_1.size).size : Int)) = True := eq_true (of_decide_eq_true (by first | (with_reducible assumption) | assumption)); replace q17 := eq_true q17; have p20 : 0 ≤ (1 : Int) := (by omega); have q20 : 1 < (x0_1.extract (x5_1 : Int).toNat x0_1.size).size := (by have : (1 : Int) < ((x0_1.extract (x5_1 : Int).toNat x0_1.size).size : Int) := of_decide_eq_true (by first | (with_reducible assumption) | assumption); omega); have hx20 : ∀ h : 1 < (x0_1.extract (x5_1 : Int).toNat x0_1.size).size, (((x0_1.extract (x5_1 : Int).toNat x0_1.size)[1]'h).toNat : Int) = bt (x0_1.extract (x5_1 : Int).toNat x0_1.size) 1 := bt_at (x0_1.extract (x5_1 : Int).toNat x0_1.size) 1; clear p20; have qi20 : (1 < ((x0_1.extract (x5_1 : Int).toNat x0_1.size).size : Int)) = True := eq_true (of_decide_eq_true (by first | (with_reducible assumption) | assumption)); replace q20 := eq_true q20) | (go_at_call 32; (with_reducible refine (spec_verDigit.calls (bt (x0_1.extract (x5_1 : Int).toNat x0_1.size) 1) false _ A21.out).mono ?_); rintro e w' ⟨rfl, ⟨nd, rfl⟩⟩))
              go_ret2
              exact ⟨_, by first | rfl | (simp [errW_none, errW_some] <;> rfl) | (simp [*, errW_none, errW_some] <;> rfl), by (with_reducible repeat (first | apply kA_ | apply kN_ | apply kD_)); exact HO125.out, by repeat (first | (with_reducible first | exact HB.out | apply bB_ | apply wN_ | apply bE_) | exact HB.out)⟩
            ·
             rw [if_neg c19] at H
             exact absurd H (by simp)
           ·
            rw [if_neg c18] at H
            have c18b0 : ((bt (x0_1.extract (x5_1 : Int).toNat x0_1.size) 0) == 46) = false := beq_eq_false_iff_ne.mpr c18
            have c18b1 : ((bt (x0_1.extract (x5_1 : Int).toNat x0_1.size) 0) != 46) = true := bne_iff_ne.mpr c18
            simp only [Option.some.injEq, Prod.mk.injEq] at H
            obtain ⟨rfl, rfl⟩ := H
            go_wp2_with (first | ((with_reducible refine gate_builtin (b := .append) (xs := #[.tmp 22, .tmp 26]) rfl ?_); at_builtin; refine Kd.R_append Kd.string (w0 := w) w.heap.size rfl (.tmp 22) (.tmp 26) 49 9 (.string ⟨#[]⟩) 16 rfl Tryd.underlying49 info9 rfl (by decide) (by omega) u4 x4_1 (x0_1.extract 0 (x5_1 : Int).toNat) [.string (x0_1.extract 0 (x5_1 : Int).toNat)] (fun _ => True) (fun _ => False) rfl rfl ?aP (fun _ hk => hk.elim) ?aF ?aO ?aB ?aS ?aL ?_; (case aP => exact rfl); (case aB => exact (by repeat (first | (with_reducible first | exact HB.out | apply bB_ | apply wN_ | apply bE_) | exact HB.out))); (case aF => exact (fun _ _ => trivial)); (case aO => exact (by (with_reducible repeat (first | apply kA_ | apply kN_ | apply kD_)); exact HO_4.out)); (case aS => exact (below_size (by repeat (first | (with_reducible first | exact HB.out | apply bB_ | apply wN_ | apply bE_) | exact HB.out)))); (case aL => have := LMc11.out; omega); intro v124 w26 ho hb hg hat; rw [← Ny123.out] at ho; have n0_ := aM_ (hb); have n1_ := aM_ (ho); clear HB; clear HO_4; have HB := n0_; have HO125 := n1_; clear n0_ n1_; clear ho hb hg hat; have p17 : 0 ≤ (0 : Int) := (by omega); have q17 : 0 < (x0_1.extract (x5_1 : Int).toNat x0_1.size).size := (by have : (0 : Int) < ((x0_1.extract (x5_1 : Int).toNat x0_1.size).size : Int) := of_decide_eq_true (by first | (with_reducible assumption) | assumption); omega); have hx17 : ∀ h : 0 < (x0_1.extract (x5_1 : Int).toNat x0_1.size).size, (((x0_1.extract (x5_1 : Int).toNat x0_1.size)[0]'h).toNat : Int) = bt (x0_1.extract (x5_1 : Int).toNat x0_1.size) 0 := bt_at (x0_1.extract (x5_1 : Int).toNat x0_1.size) 0; clear p17; have qi17 : (0 < ((x0_1.extract (x5_1 : Int).toNat x0_1.size).size : Int)) = True := eq_true (of_decide_eq_true (by first | (with_reducible assumption) | assumption)); replace q17 := eq_true q17))
            go_ret2
            exact ⟨_, by first | rfl | (simp [errW_none, errW_some] <;> rfl) | (simp [*, errW_none, errW_some] <;> rfl), by (with_reducible repeat (first | apply kA_ | apply kN_ | apply kD_)); exact HO125.out, by repeat (first | (with_reducible first | exact HB.out | apply bB_ | apply wN_ | apply bE_) | exact HB.out)⟩
          ·
           rw [if_neg c16] at H
           exact absurd H (by simp)
        ·
         rw [if_neg c11] at H
         exact absurd H (by simp)
       ·
        rw [if_neg c10] at H
        exact absurd H (by simp)
      ·
       rw [if_neg c9] at H
       exact absurd H (by simp)

/-! ### spec_verWhite: function 70 -/
def spec_verWhite.f (a0 : Int) : Option (Bool) := if a0 = 32 then (some true) else (if a0 = 9 then (some true) else (if a0 = 10 then (some true) else (if a0 = 12 then (some true) else (some (a0 == 13)))))
set_option maxHeartbeats 8000000 in
set_option maxRecDepth 100000 in
theorem spec_verWhite.calls (a0 : Int) (r : Bool) (w : World) (h : spec_verWhite.f a0 = some r) :
  Calls Tryd.prog 70 #[.int .u8 a0] w fun e w' => e = .returned (.bool r) ∧ Drawn0 w w' := by
 have H : (if a0 = 32 then (some true) else (if a0 = 9 then (some true) else (if a0 = 10 then (some true) else (if a0 = 12 then (some true) else (some (a0 == 13)))))) = some r := h
 clear h
 by_cases c2 : a0 = 32
 ·
  rw [if_pos c2] at H
  have c2b0 : (a0 == 32) = true := beq_iff_eq.mpr c2
  have c2b1 : (a0 != 32) = false := bne_eq_false_iff_eq.mpr c2
  clear c2
  obtain rfl := Option.some.inj H
  go_enter Tryd.func70, Tryd.ntmps70
  go_wp2
  go_ret
  exact ⟨by first | rfl | (simp; done) | (simp [*]; done), by repeat (first | exact Drawn0.refl _ | apply Drawn0.step)⟩
 ·
  rw [if_neg c2] at H
  have c2b0 : (a0 == 32) = false := beq_eq_false_iff_ne.mpr c2
  have c2b1 : (a0 != 32) = true := bne_iff_ne.mpr c2
  by_cases c3 : a0 = 9
  ·
   rw [if_pos c3] at H
   have c3b0 : (a0 == 9) = true := beq_iff_eq.mpr c3
   have c3b1 : (a0 != 9) = false := bne_eq_false_iff_eq.mpr c3
   clear c3
   obtain rfl := Option.some.inj H
   go_enter Tryd.func70, Tryd.ntmps70
   go_wp2
   go_ret
   exact ⟨by first | rfl | (simp; done) | (simp [*]; done), by repeat (first | exact Drawn0.refl _ | apply Drawn0.step)⟩
  ·
   rw [if_neg c3] at H
   have c3b0 : (a0 == 9) = false := beq_eq_false_iff_ne.mpr c3
   have c3b1 : (a0 != 9) = true := bne_iff_ne.mpr c3
   by_cases c4 : a0 = 10
   ·
    rw [if_pos c4] at H
    have c4b0 : (a0 == 10) = true := beq_iff_eq.mpr c4
    have c4b1 : (a0 != 10) = false := bne_eq_false_iff_eq.mpr c4
    clear c4
    obtain rfl := Option.some.inj H
    go_enter Tryd.func70, Tryd.ntmps70
    go_wp2
    go_ret
    exact ⟨by first | rfl | (simp; done) | (simp [*]; done), by repeat (first | exact Drawn0.refl _ | apply Drawn0.step)⟩
   ·
    rw [if_neg c4] at H
    have c4b0 : (a0 == 10) = false := beq_eq_false_iff_ne.mpr c4
    have c4b1 : (a0 != 10) = true := bne_iff_ne.mpr c4
    by_cases c5 : a0 = 12
    ·
     rw [if_pos c5] at H
     have c5b0 : (a0 == 12) = true := beq_iff_eq.mpr c5
     have c5b1 : (a0 != 12) = false := bne_eq_false_iff_eq.mpr c5
     clear c5
     obtain rfl := Option.some.inj H
     go_enter Tryd.func70, Tryd.ntmps70
     go_wp2
     go_ret
     exact ⟨by first | rfl | (simp; done) | (simp [*]; done), by repeat (first | exact Drawn0.refl _ | apply Drawn0.step)⟩
    ·
     rw [if_neg c5] at H
     have c5b0 : (a0 == 12) = false := beq_eq_false_iff_ne.mpr c5
     have c5b1 : (a0 != 12) = true := bne_iff_ne.mpr c5
     obtain rfl := Option.some.inj H
     go_enter Tryd.func70, Tryd.ntmps70
     go_wp2
     go_ret
     exact ⟨by first | rfl | (simp; done) | (simp [*]; done), by repeat (first | exact Drawn0.refl _ | apply Drawn0.step)⟩

/-! ### spec_verAhead: function 38 -/
def spec_verAhead.l0 : Nat → ByteArray → Option (ByteArray)
 | 0, _ => none
 | k + 1, x0 => if x0.toList = ([] : List UInt8) then (some x0) else (if 0 < (x0.size : Int) then ((spec_verWhite.f (bt x0 0)).bind fun t127 => (if t127 = true then (if 1 ≤ (x0.size : Int) then (spec_verAhead.l0 k (x0.extract 1 x0.size)) else (none)) else (if (bt x0 0) = 118 then (if 1 ≤ (x0.size : Int) then (some (x0.extract 1 x0.size)) else (none)) else (some x0)))) else (none))
def spec_verAhead.f (k : Nat) (a0 : ByteArray) : Option (ByteArray) := spec_verAhead.l0 k a0
set_option maxHeartbeats 8000000 in
set_option maxRecDepth 100000 in
theorem spec_verAhead.calls (k : Nat) (a0 : ByteArray) (r : ByteArray) (w : World) (h : spec_verAhead.f k a0 = some r) :
  Calls Tryd.prog 38 #[.string a0] w fun e w' => e = .returned (.string r) ∧ Drawn0 w w' := by
 have H : (spec_verAhead.l0 k a0) = some r := h
 clear h
 have H' := aM_ H
 clear H
 go_enter Tryd.func38, Tryd.ntmps38
 go_wp2
 go_loopg [0] k (fun kq v0 w' => ∃ (x0_1 : ByteArray), v0 = .string x0_1 ∧ Aside0 (spec_verAhead.l0 kq x0_1 = some r) ∧ Aside0 (kq ≤ k) ∧ Drawn0 w w')
 case atStart => exact ⟨(a0), (by first | rfl | (simp; done) | (simp [*]; done)), H', ⟨Nat.le_refl _⟩, by repeat (first | exact Drawn0.refl _ | apply Drawn0.step)⟩
 case round =>
  clear H'
  obtain ⟨x0_1, rfl, HA, HK1, ⟨m1, rfl⟩⟩ := hrel
  cases gk with
  | zero => exact absurd HA.out (by simp [spec_verAhead.l0])
  | succ k1 =>
   have H := HA.out
   clear HA
   simp only [spec_verAhead.l0] at H
   by_cases c2 : x0_1.toList = ([] : List UInt8)
   ·
    rw [if_pos c2] at H
    have c2b0 : (x0_1.toList == ([] : List UInt8)) = true := beq_iff_eq.mpr c2
    have c2b1 : (x0_1.toList != ([] : List UInt8)) = false := bne_eq_false_iff_eq.mpr c2
    clear c2
    obtain rfl := Option.some.inj H
    go_wp2
    go_ret
    exact ⟨by first | rfl | (simp; done) | (simp [*]; done), by repeat (first | exact Drawn0.refl _ | apply Drawn0.step)⟩
   ·
    rw [if_neg c2] at H
    have c2b0 : (x0_1.toList == ([] : List UInt8)) = false := beq_eq_false_iff_ne.mpr c2
    have c2b1 : (x0_1.toList != ([] : List UInt8)) = true := bne_iff_ne.mpr c2
    by_cases c3 : 0 < (x0_1.size : Int)
    ·
     rw [if_pos c3] at H
     have c3b0 : decide (0 < (x0_1.size : Int)) = true := decide_eq_true c3
     have c3b1 : decide (0 < x0_1.size) = true := decide_eq_true (by omega)
     clear c3
     replace H := Option.bind_eq_some_iff.mp H
     obtain ⟨t127, A50, H⟩ := H
     replace H : (if t127 = true then (if 1 ≤ (x0_1.size : Int) then (spec_verAhead.l0 k1 (x0_1.extract 1 x0_1.size)) else (none)) else (if (bt x0_1 0) = 118 then (if 1 ≤ (x0_1.size : Int) then (some (x0_1.extract 1 x0_1.size)) else (none)) else (some x0_1))) = some r := H
     have A5 := aM_ A50
     clear A50
     by_cases c6 : t127 = true
     ·
      subst c6
      have H1 : (if 1 ≤ (x0_1.size : Int) then (spec_verAhead.l0 k1 (x0_1.extract 1 x0_1.size)) else (none)) = some r := by rw [if_pos rfl] at H; exact H
      clear H
      have H := H1
      clear H1
      by_cases c7 : 1 ≤ (x0_1.size : Int)
      ·
       rw [if_pos c7] at H
       have c7b0 := eq_true c7
       have c7b1 : decide (1 ≤ (x0_1.size : Int)) = true := decide_eq_true c7
       clear c7
       have H' := aM_ H
       clear H
       have p4 : 0 ≤ (0 : Int) := (by omega)
       have q4 : 0 < x0_1.size := (by have : (0 : Int) < (x0_1.size : Int) := of_decide_eq_true (by first | (with_reducible assumption) | assumption); omega)
       have hx4 : ∀ h : 0 < x0_1.size, ((x0_1[0]'h).toNat : Int) = bt x0_1 0 := bt_at x0_1 0
       clear p4
       have qi4 : (0 < (x0_1.size : Int)) = True := eq_true (of_decide_eq_true (by first | (with_reducible assumption) | assumption))
       replace q4 := eq_true q4
       go_wp2_with (first | (go_at_call 70; (with_reducible refine (spec_verWhite.calls (bt x0_1 0) true _ A5.out).mono ?_); rintro e w' ⟨rfl, ⟨nd, rfl⟩⟩))
       go_roundg k1
       case measure => have := HK1.out; omega
       case rel => exact ⟨(x0_1.extract 1 x0_1.size), (by first | rfl | (simp; done) | (simp [*]; done)), H', ⟨by have := HK1.out; omega⟩, by repeat (first | exact Drawn0.refl _ | apply Drawn0.step)⟩
      ·
       rw [if_neg c7] at H
       exact absurd H (by simp)
     ·
      replace c6 := Bool.eq_false_iff.mpr c6
      subst c6
      have H1 : (if (bt x0_1 0) = 118 then (if 1 ≤ (x0_1.size : Int) then (some (x0_1.extract 1 x0_1.size)) else (none)) else (some x0_1)) = some r := by rw [if_neg (show ¬ (false = true) by decide)] at H; exact H
      clear H
      have H := H1
      clear H1
      by_cases c9 : (bt x0_1 0) = 118
      ·
       rw [if_pos c9] at H
       have c9b0 : ((bt x0_1 0) == 118) = true := beq_iff_eq.mpr c9
       have c9b1 : ((bt x0_1 0) != 118) = false := bne_eq_false_iff_eq.mpr c9
       clear c9
       by_cases c10 : 1 ≤ (x0_1.size : Int)
       ·
        rw [if_pos c10] at H
        have c10b0 := eq_true c10
        have c10b1 : decide (1 ≤ (x0_1.size : Int)) = true := decide_eq_true c10
        clear c10
        obtain rfl := Option.some.inj H
        have p4 : 0 ≤ (0 : Int) := (by omega)
        have q4 : 0 < x0_1.size := (by have : (0 : Int) < (x0_1.size : Int) := of_decide_eq_true (by first | (with_reducible assumption) | assumption); omega)
        have hx4 : ∀ h : 0 < x0_1.size, ((x0_1[0]'h).toNat : Int) = bt x0_1 0 := bt_at x0_1 0
        clear p4
        have qi4 : (0 < (x0_1.size : Int)) = True := eq_true (of_decide_eq_true (by first | (with_reducible assumption) | assumption))
        replace q4 := eq_true q4
        go_wp2_with (first | (go_at_call 70; (with_reducible refine (spec_verWhite.calls (bt x0_1 0) false _ A5.out).mono ?_); rintro e w' ⟨rfl, ⟨nd, rfl⟩⟩; have p8 : 0 ≤ (0 : Int) := (by omega); have q8 : 0 < x0_1.size := (by have : (0 : Int) < (x0_1.size : Int) := of_decide_eq_true (by first | (with_reducible assumption) | assumption); omega); have hx8 : ∀ h : 0 < x0_1.size, ((x0_1[0]'h).toNat : Int) = bt x0_1 0 := bt_at x0_1 0; clear p8; have qi8 : (0 < (x0_1.size : Int)) = True := eq_true (of_decide_eq_true (by first | (with_reducible assumption) | assumption)); replace q8 := eq_true q8))
        go_ret
        exact ⟨by first | rfl | (simp; done) | (simp [*]; done), by repeat (first | exact Drawn0.refl _ | apply Drawn0.step)⟩
       ·
        rw [if_neg c10] at H
        exact absurd H (by simp)
      ·
       rw [if_neg c9] at H
       have c9b0 : ((bt x0_1 0) == 118) = false := beq_eq_false_iff_ne.mpr c9
       have c9b1 : ((bt x0_1 0) != 118) = true := bne_iff_ne.mpr c9
       obtain rfl := Option.some.inj H
       have p4 : 0 ≤ (0 : Int) := (by omega)
       have q4 : 0 < x0_1.size := (by have : (0 : Int) < (x0_1.size : Int) := of_decide_eq_true (by first | (with_reducible assumption) | assumption); omega)
       have hx4 : ∀ h : 0 < x0_1.size, ((x0_1[0]'h).toNat : Int) = bt x0_1 0 := bt_at x0_1 0
       clear p4
       have qi4 : (0 < (x0_1.size : Int)) = True := eq_true (of_decide_eq_true (by first | (with_reducible assumption) | assumption))
       replace q4 := eq_true q4
       go_wp2_with (first | (go_at_call 70; (with_reducible refine (spec_verWhite.calls (bt x0_1 0) false _ A5.out).mono ?_); rintro e w' ⟨rfl, ⟨nd, rfl⟩⟩; have p8 : 0 ≤ (0 : Int) := (by omega); have q8 : 0 < x0_1.size := (by have : (0 : Int) < (x0_1.size : Int) := of_decide_eq_true (by first | (with_reducible assumption) | assumption); omega); have hx8 : ∀ h : 0 < x0_1.size, ((x0_1[0]'h).toNat : Int) = bt x0_1 0 := bt_at x0_1 0; clear p8; have qi8 : (0 < (x0_1.size : Int)) = True := eq_true (of_decide_eq_true (by first | (with_reducible assumption) | assumption)); replace q8 := eq_true q8))
       go_ret
       exact ⟨by first | rfl | (simp; done) | (simp [*]; done), by repeat (first | exact Drawn0.refl _ | apply Drawn0.step)⟩
    ·
     rw [if_neg c3] at H
     exact absurd H (by simp)

/-! ### spec_verPlace: function 39 -/
def spec_verPlace.l0 : Nat → ByteArray → Int → Int → Option (Int)
 | 0, _, _, _ => none
 | k + 1, x0, x1, x5 => if x5 < (x0.size : Int) then (if 0 ≤ x5 then (if (bt x0 x5) = x1 then (some x5) else (spec_verPlace.l0 k x0 x1 (wrap64 (x5 + 1)))) else (none)) else (some (-1))
def spec_verPlace.f (k : Nat) (a0 : ByteArray) (a1 : Int) : Option (Int) := spec_verPlace.l0 k a0 a1 0
theorem spec_verPlace.mono_l : ∀ k, (∀ y0 y1 y2, LeO (spec_verPlace.l0 k y0 y1 y2) (spec_verPlace.l0 (k + 1) y0 y1 y2))
 | 0 => fun _ _ _ r h => by simp [spec_verPlace.l0] at h
 | k + 1 => by
  have ih0 := spec_verPlace.mono_l k
  ·
   intro y0 y1 y2
   unfold spec_verPlace.l0
   repeat' first
   | (with_reducible exact ih0 _ _ _)
   | (with_reducible exact LeO.refl _)
   | (with_reducible exact LeO.none _)
   | (with_reducible refine LeO.ite ?_ ?_)
   | (with_reducible refine LeO.bind ?_ (fun _ => ?_))
   | exact ih0 _ _ _
   | exact LeO.none _
   | refine LeO.ite ?_ ?_
   | refine LeO.bind ?_ (fun _ => ?_)
theorem spec_verPlace.mono : ∀ a0 a1 k, LeO (spec_verPlace.f k a0 a1) (spec_verPlace.f (k + 1) a0 a1) := by
 intro a0 a1 k
 have ih0 := spec_verPlace.mono_l k
 unfold spec_verPlace.f
 repeat' first
   | (with_reducible exact ih0 _ _ _)
   | (with_reducible exact LeO.refl _)
   | (with_reducible exact LeO.none _)
   | (with_reducible refine LeO.ite ?_ ?_)
   | (with_reducible refine LeO.bind ?_ (fun _ => ?_))
   | exact ih0 _ _ _
   | exact LeO.none _
   | refine LeO.ite ?_ ?_
   | refine LeO.bind ?_ (fun _ => ?_)
set_option maxHeartbeats 8000000 in
set_option maxRecDepth 100000 in
theorem spec_verPlace.calls (k : Nat) (a0 : ByteArray) (a1 : Int) (r : Int) (w : World) (h : spec_verPlace.f k a0 a1 = some r) :
  Calls Tryd.prog 39 #[.string a0, .int .u8 a1] w fun e w' => e = .returned (.int .i64 r) ∧ Drawn0 w w' := by
 have H : (spec_verPlace.l0 k a0 a1 0) = some r := h
 clear h
 have H' := aM_ H
 clear H
 go_enter Tryd.func39, Tryd.ntmps39
 go_wp2
 go_loopg [5] k (fun kq v5 w' => ∃ (x5_1 : Int), v5 = .int .i64 x5_1 ∧ Aside0 (spec_verPlace.l0 kq a0 a1 x5_1 = some r) ∧ Aside0 (kq ≤ k) ∧ Drawn0 w w')
 case atStart => exact ⟨(0), (by first | rfl | (simp; done) | (simp [*]; done)), H', ⟨Nat.le_refl _⟩, by repeat (first | exact Drawn0.refl _ | apply Drawn0.step)⟩
 case round =>
  clear H'
  try clear p2
  obtain ⟨x5_1, rfl, HA, HK1, ⟨m1, rfl⟩⟩ := hrel
  cases gk with
  | zero => exact absurd HA.out (by simp [spec_verPlace.l0])
  | succ k1 =>
   have H := HA.out
   clear HA
   simp only [spec_verPlace.l0] at H
   by_cases c3 : x5_1 < (a0.size : Int)
   ·
    rw [if_pos c3] at H
    have c3b0 : decide (x5_1 < (a0.size : Int)) = true := decide_eq_true c3
    clear c3
    by_cases c4 : 0 ≤ x5_1
    ·
     rw [if_pos c4] at H
     have c4b0 : decide (0 ≤ x5_1) = true := decide_eq_true c4
     clear c4
     by_cases c6 : (bt a0 x5_1) = a1
     ·
      rw [if_pos c6] at H
      have c6b0 : ((bt a0 x5_1) == a1) = true := beq_iff_eq.mpr c6
      have c6b1 : ((bt a0 x5_1) != a1) = false := bne_eq_false_iff_eq.mpr c6
      clear c6
      obtain rfl := Option.some.inj H
      have p5 : 0 ≤ (x5_1 : Int) := of_decide_eq_true (by first | (with_reducible assumption) | assumption)
      have q5 : x5_1 < (a0.size : Int) := of_decide_eq_true (by first | (with_reducible assumption) | assumption)
      have hx5 := bt_at a0 x5_1
      replace p5 := eq_true p5
      replace q5 := eq_true q5
      go_wp2
      go_ret
      exact ⟨by first | rfl | (simp; done) | (simp [*]; done), by repeat (first | exact Drawn0.refl _ | apply Drawn0.step)⟩
     ·
      rw [if_neg c6] at H
      have c6b0 : ((bt a0 x5_1) == a1) = false := beq_eq_false_iff_ne.mpr c6
      have c6b1 : ((bt a0 x5_1) != a1) = true := bne_iff_ne.mpr c6
      have H' := aM_ H
      clear H
      have p5 : 0 ≤ (x5_1 : Int) := of_decide_eq_true (by first | (with_reducible assumption) | assumption)
      have q5 : x5_1 < (a0.size : Int) := of_decide_eq_true (by first | (with_reducible assumption) | assumption)
      have hx5 := bt_at a0 x5_1
      replace p5 := eq_true p5
      replace q5 := eq_true q5
      go_wp2
      go_roundg k1
      case measure => have := HK1.out; omega
      case rel => exact ⟨(wrap64 (x5_1 + 1)), (by first | rfl | (simp; done) | (simp [*]; done)), H', ⟨by have := HK1.out; omega⟩, by repeat (first | exact Drawn0.refl _ | apply Drawn0.step)⟩
    ·
     rw [if_neg c4] at H
     exact absurd H (by simp)
   ·
    rw [if_neg c3] at H
    have c3b0 : decide (x5_1 < (a0.size : Int)) = false := decide_eq_false c3
    clear c3
    obtain rfl := Option.some.inj H
    go_wp2
    go_ret
    exact ⟨by first | rfl | (simp; done) | (simp [*]; done), by repeat (first | exact Drawn0.refl _ | apply Drawn0.step)⟩

end Go.Proofs.YtomoefldmgfaoaaDoor.PFnVersionSteps

namespace Go.Proofs.YtomoefldmgfaoaaDoor.PFnVersionSteps
open Go.RowKit Go.Proofs.YtomoefldmgfaoaaDoorW.PrintWords Go.Proofs.YtomoefldmgfaoaaDoorW.PrintLast Go.Proofs.YtomoefldmgfaoaaDoorW.PrintMore
attribute [local go_sem] max2_int min2_int max_two min_two max_three min_three max_four min_four   -- for this text's walks alone
set_option linter.unusedVariables false
set_option linter.unusedSimpArgs false

/-! ### spec_VerSplit: function 31 -/
def spec_VerSplit.f : Nat → ByteArray → Option (List ByteArray)
 | 0, _ => none
 | k + 1, a0 => (spec_verPlace.f k a0 46).bind fun t128 => (if t128 < 0 then (some (([a0] : List ByteArray))) else (if 0 ≤ t128 then (if t128 ≤ (a0.size : Int) then ((some (([a0.extract 0 (t128 : Int).toNat] : List ByteArray) : List ByteArray)).bind fun y132 => (if 0 ≤ (wrap64 (t128 + 1)) then (if (wrap64 (t128 + 1)) ≤ (a0.size : Int) then ((spec_VerSplit.f k (a0.extract ((wrap64 (t128 + 1)) : Int).toNat a0.size)).bind fun t135 => (if y132.length + t135.length < 8796093022208 then (some (y132 ++ t135)) else (none))) else (none)) else (none))) else (none)) else (none)))
def spec_VerSplit.T4 : Bool × List (List Nat × List Nat) := (true, [([], []), ([], []), ([0, 1], [0, 1]), ([2], [2]), ([], []), ([], []), ([5], [5]), ([4, 6], [4, 6]), ([7], [7]), ([3, 8, 8], [3, 8]), ([9, 9, 0, 1, 2, 3, 4, 5, 6, 7, 8, 9], [9])])
def spec_VerSplit.B4 : List Nat := [0, 0, 3, 7, 0, 0, 32, 112, 240, 511, 1023]
theorem spec_VerSplit.tab4 : rtab .any (opsOf Tryd.f31 4) = spec_VerSplit.T4 := by kernel_rfl
theorem spec_VerSplit.bits4 : waitsOk spec_VerSplit.T4.2 spec_VerSplit.B4 = true := by kernel_rfl
set_option maxHeartbeats 8000000 in
set_option maxRecDepth 100000 in
theorem spec_VerSplit.calls (k : Nat) : ∀ (a0 : ByteArray) (r : List ByteArray) (w : World) (h : spec_VerSplit.f k a0 = some r),
  Calls Tryd.prog 31 #[.string a0] w fun e w' => ∃ v0_ : Value, e = .returned (v0_) ∧ Kd.R Kd.string 9 w' w.heap.size (fun _ => True) v0_ r ∧ Below w.heap.size w w' := by
 induction k using Nat.strongRecOn with
 | _ k ih =>
 intro a0 r w h
 cases k with
 | zero => exact absurd h (by simp [spec_VerSplit.f])
 | succ k =>
 simp only [spec_VerSplit.f] at h
 have HB := aM_ (Below.refl w.heap.size w)
 have H : ((spec_verPlace.f k a0 46).bind fun t128 => (if t128 < 0 then (some (([a0] : List ByteArray))) else (if 0 ≤ t128 then (if t128 ≤ (a0.size : Int) then ((some (([a0.extract 0 (t128 : Int).toNat] : List ByteArray) : List ByteArray)).bind fun y132 => (if 0 ≤ (wrap64 (t128 + 1)) then (if (wrap64 (t128 + 1)) ≤ (a0.size : Int) then ((spec_VerSplit.f k (a0.extract ((wrap64 (t128 + 1)) : Int).toNat a0.size)).bind fun t135 => (if y132.length + t135.length < 8796093022208 then (some (y132 ++ t135)) else (none))) else (none)) else (none))) else (none)) else (none)))) = some r := h
 clear h
 replace H := Option.bind_eq_some_iff.mp H
 obtain ⟨t128, A20, H⟩ := H
 replace H : (if t128 < 0 then (some (([a0] : List ByteArray))) else (if 0 ≤ t128 then (if t128 ≤ (a0.size : Int) then ((some (([a0.extract 0 (t128 : Int).toNat] : List ByteArray) : List ByteArray)).bind fun y132 => (if 0 ≤ (wrap64 (t128 + 1)) then (if (wrap64 (t128 + 1)) ≤ (a0.size : Int) then ((spec_VerSplit.f k (a0.extract ((wrap64 (t128 + 1)) : Int).toNat a0.size)).bind fun t135 => (if y132.length + t135.length < 8796093022208 then (some (y132 ++ t135)) else (none))) else (none)) else (none))) else (none)) else (none))) = some r := H
 have A2 := aM_ A20
 clear A20
 by_cases c3 : t128 < 0
 ·
  rw [if_pos c3] at H
  have c3b0 : decide (t128 < 0) = true := decide_eq_true c3
  clear c3
  obtain ⟨y129, hy129⟩ : ∃ y_ : List ByteArray, y_ = (([a0] : List ByteArray)) := ⟨_, rfl⟩
  replace H : (some y129) = some r := by first | (rw [hy129]; with_reducible exact H) | (have H2_ := (Option.bind_some _ _).symm.trans H; rw [hy129]; with_reducible exact H2_) | (have H2_ := (Option.bind_some _ _).symm.trans H; with_reducible exact H2_) | with_reducible exact H | (rw [hy129]; exact H) | exact H
  have Ny129 := aM_ hy129
  clear hy129
  obtain rfl := Option.some.inj H
  go_enter Tryd.func31, Tryd.ntmps31
  go_wp2_with (first | ((with_reducible refine gate_callee (f := 39) rfl ?_); refine goesL_ (some 5) rfl rfl Tryd.func39 (by kernel_rfl) rfl #[.string a0, .int .u8 46] rfl (by (try simp only [List.map_toArray, List.map_cons, List.map_nil]); first | done | rfl | (simp only [List.length_drop, List.length_take]; rfl)) ?_; (with_reducible refine (spec_verPlace.calls k a0 46 t128 _ A2.out).mono ?_); rintro e w' ⟨rfl, ⟨nd, rfl⟩⟩; refine ⟨_, rfl, ?_⟩) | ((with_reducible refine gate_dst (N := 9) rfl ?_); refine Kd.R_lit Kd.string _ 9 ?hg (N := 9) ?hd (xs := ([a0] : List ByteArray)) (inner := [.string a0]) (ok := fun _ => True) (okp := fun _ => True) ?hr ?hp (fun _ hk => hk) trivial (Below.refl _ _) (Nat.le_refl _) (by simp) ?_; (case hd => rfl); (case hg => rfl); (case hr => first | (go_simp; done) | (go_simp; rfl)); (case hp => exact (Reps.one (show Kd.M Kd.string _ _ _ a0 [.string a0] from rfl) (Reps.none _ _))); intro v130 w4 ho5 hb hg_ hnew_; clear hg_ hnew_; (first | rw [← Ny129.out] at ho5 | (simp only [Int.reduceToNat] at ho5; rw [← Ny129.out] at ho5)); have n0_ := aM_ (Kd.R_lower ho5 (below_size (by repeat (first | (with_reducible first | exact HB.out | apply bB_ | apply wN_ | apply bE_) | exact HB.out)))); have n1_ := aM_ (below_step (by repeat (first | (with_reducible first | exact HB.out | apply bB_ | apply wN_ | apply bE_) | exact HB.out)) hb); clear HB; have HO131 := n0_; have HB := n1_; clear n0_ n1_; clear hb ho5))
  go_ret
  exact ⟨_, by first | rfl | (simp [errW_none, errW_some] <;> rfl) | (simp [*, errW_none, errW_some] <;> rfl), by (with_reducible repeat (first | apply kA_ | apply kN_ | apply kD_)); exact HO131.out, by repeat (first | (with_reducible first | exact HB.out | apply bB_ | apply wN_ | apply bE_) | exact HB.out)⟩
 ·
  rw [if_neg c3] at H
  have c3b0 : decide (t128 < 0) = false := decide_eq_false c3
  clear c3
  by_cases c6 : 0 ≤ t128
  ·
   rw [if_pos c6] at H
   have c6b0 := eq_true c6
   have c6b1 : decide (0 ≤ t128) = true := decide_eq_true c6
   clear c6
   by_cases c7 : t128 ≤ (a0.size : Int)
   ·
    rw [if_pos c7] at H
    have c7b0 := eq_true c7
    have c7b1 : decide (t128 ≤ (a0.size : Int)) = true := decide_eq_true c7
    clear c7
    obtain ⟨y132, hy132⟩ : ∃ y_ : List ByteArray, y_ = (([a0.extract 0 (t128 : Int).toNat] : List ByteArray)) := ⟨_, rfl⟩
    replace H : (if 0 ≤ (wrap64 (t128 + 1)) then (if (wrap64 (t128 + 1)) ≤ (a0.size : Int) then ((spec_VerSplit.f k (a0.extract ((wrap64 (t128 + 1)) : Int).toNat a0.size)).bind fun t135 => (if y132.length + t135.length < 8796093022208 then (some (y132 ++ t135)) else (none))) else (none)) else (none)) = some r := by first | (rw [hy132]; with_reducible exact H) | (have H2_ := (Option.bind_some _ _).symm.trans H; rw [hy132]; with_reducible exact H2_) | (have H2_ := (Option.bind_some _ _).symm.trans H; with_reducible exact H2_) | with_reducible exact H | (rw [hy132]; exact H) | exact H
    have Ny132 := aM_ hy132
    clear hy132
    obtain ⟨ji8, hji8⟩ : ∃ j_ : Int, (wrap64 (t128 + 1)) = j_ := ⟨_, rfl⟩
    replace H : (if 0 ≤ (ji8) then (if (ji8) ≤ (a0.size : Int) then ((spec_VerSplit.f k (a0.extract ((ji8) : Int).toNat a0.size)).bind fun t135 => (if y132.length + t135.length < 8796093022208 then (some (y132 ++ t135)) else (none))) else (none)) else (none)) = some r := by first | (rw [hji8] at H; exact H) | (simp only [hji8] at H ⊢; exact H)
    (try rw [hji8] at A2)
    have hji8w : (IntKind.i64.wrap (t128 + 1)) = ji8 := (i64_w _).trans hji8
    by_cases c9 : 0 ≤ (ji8)
    ·
     rw [if_pos c9] at H
     have c9b0 := eq_true c9
     have c9b1 : decide (0 ≤ (ji8)) = true := decide_eq_true c9
     clear c9
     by_cases c10 : (ji8) ≤ (a0.size : Int)
     ·
      rw [if_pos c10] at H
      have c10b0 := eq_true c10
      have c10b1 : decide ((ji8) ≤ (a0.size : Int)) = true := decide_eq_true c10
      clear c10
      replace H := Option.bind_eq_some_iff.mp H
      obtain ⟨t135, A110, H⟩ := H
      replace H : (if y132.length + t135.length < 8796093022208 then (some (y132 ++ t135)) else (none)) = some r := H
      have A11 := aM_ A110
      clear A110
      by_cases c12 : y132.length + t135.length < 8796093022208
      ·
       rw [if_pos c12] at H
       have LMc12 := aM_ c12
       clear c12
       obtain ⟨y138, hy138⟩ : ∃ y_ : List ByteArray, y_ = (y132 ++ t135) := ⟨_, rfl⟩
       replace H : (some y138) = some r := by first | (rw [hy138]; with_reducible exact H) | (have H2_ := (Option.bind_some _ _).symm.trans H; rw [hy138]; with_reducible exact H2_) | (have H2_ := (Option.bind_some _ _).symm.trans H; with_reducible exact H2_) | with_reducible exact H | (rw [hy138]; exact H) | exact H
       have Ny138 := aM_ hy138
       clear hy138
       obtain rfl := Option.some.inj H
       go_enter Tryd.func31, Tryd.ntmps31
       try go_wp2_with (first | ((with_reducible refine gate_callee (f := 39) rfl ?_); refine goesL_ (some 5) rfl rfl Tryd.func39 (by kernel_rfl) rfl #[.string a0, .int .u8 46] rfl (by (try simp only [List.map_toArray, List.map_cons, List.map_nil]); first | done | rfl | (simp only [List.length_drop, List.length_take]; rfl)) ?_; (with_reducible refine (spec_verPlace.calls k a0 46 t128 _ A2.out).mono ?_); rintro e w' ⟨rfl, ⟨nd, rfl⟩⟩; refine ⟨_, rfl, ?_⟩))
       have n0_ := aM_ (bE_ (pw_below_drewN HB.out nd))
       clear HB
       have HB := n0_
       clear n0_
       refine start_ (n := 11) (S := fun w' => True) (ds := []) #[false, false, false, false, false, false, false, false, false, false, false] (by kernel_rfl) rfl rfl trivial (fun hHeld => ?_); refine with_tabW spec_VerSplit.tab4 spec_VerSplit.bits4 (fun HT_ HW_ => ?_)
       generalize (w.drewN nd).drew = w13 at HB hHeld ⊢
       refine pure_ (i := 0) (N := some 10) (v := ?_) (a' := ?_) #[true, false, false, false, false, false, false, false, false, false, false] rfl rfl (any_of HT_.out (by kernel_rfl)) (fun _ _ _ h => h) (Or.inl ⟨by rfl, ?_⟩) ?_ ?_
       rotate_left
       ·
        intro w'
        go_simp
        with_reducible rfl
       rotate_left
       ·
        simp only [Act.put, List.setIfInBounds_toArray, List.set_cons_zero, List.set_cons_succ, i64_w, i32_w]
        rfl
       refine pure_ (i := 1) (N := some 11) (v := ?_) (a' := ?_) #[true, true, false, false, false, false, false, false, false, false, false] rfl rfl (any_of HT_.out (by kernel_rfl)) (fun _ _ _ h => h) (Or.inl ⟨by rfl, ?_⟩) ?_ ?_
       rotate_left
       ·
        intro w'
        go_simp
        with_reducible rfl
       rotate_left
       ·
        simp only [Act.put, List.setIfInBounds_toArray, List.set_cons_zero, List.set_cons_succ, i64_w, i32_w]
        rfl
       refine pure_ (i := 2) (N := some 12) (v := ?_) (a' := ?_) #[true, true, true, false, false, false, false, false, false, false, false] rfl rfl (any_of HT_.out (by kernel_rfl)) (fun _ _ _ h => h) (Or.inl ⟨by rfl, ?_⟩) ?_ ?_
       rotate_left
       ·
        intro w'
        go_simp
        with_reducible rfl
       rotate_left
       ·
        simp only [Act.put, List.setIfInBounds_toArray, List.set_cons_zero, List.set_cons_succ, i64_w, i32_w]
        rfl
       refine pure_ (i := 4) (N := some 14) (v := ?_) (a' := ?_) #[true, true, true, false, true, false, false, false, false, false, false] rfl rfl (any_of HT_.out (by kernel_rfl)) (fun _ _ _ h => h) (Or.inl ⟨by rfl, ?_⟩) ?_ ?_
       rotate_left
       ·
        intro w'
        go_simp
        with_reducible rfl
       rotate_left
       ·
        simp only [Act.put, List.setIfInBounds_toArray, List.set_cons_zero, List.set_cons_succ, i64_w, i32_w]
        rfl
       refine pure_ (i := 5) (N := some 15) (v := ?_) (a' := ?_) #[true, true, true, false, true, true, false, false, false, false, false] rfl rfl (any_of HT_.out (by kernel_rfl)) (fun _ _ _ h => h) (Or.inl ⟨by rfl, ?_⟩) ?_ ?_
       rotate_left
       ·
        intro w'
        go_simp
        with_reducible rfl
       rotate_left
       ·
        simp only [Act.put, List.setIfInBounds_toArray, List.set_cons_zero, List.set_cons_succ, i64_w, i32_w]
        rfl
       refine pure_ (i := 6) (N := some 16) (v := ?_) (a' := ?_) #[true, true, true, false, true, true, true, false, false, false, false] rfl rfl (any_of HT_.out (by kernel_rfl)) (fun _ _ _ h => h) (Or.inl ⟨by rfl, ?_⟩) ?_ ?_
       rotate_left
       ·
        intro w'
        go_simp
        with_reducible rfl
       rotate_left
       ·
        simp only [Act.put, List.setIfInBounds_toArray, List.set_cons_zero, List.set_cons_succ, i64_w, i32_w]
        rfl
       refine pure_ (i := 7) (N := some 17) (v := ?_) (a' := ?_) #[true, true, true, false, true, true, true, true, false, false, false] rfl rfl (any_of HT_.out (by kernel_rfl)) (fun _ _ _ h => h) (Or.inl ⟨by rfl, ?_⟩) ?_ ?_
       rotate_left
       ·
        intro w'
        go_simp
        with_reducible rfl
       rotate_left
       ·
        simp only [Act.put, List.setIfInBounds_toArray, List.set_cons_zero, List.set_cons_succ, i64_w, i32_w]
        rfl
       refine join_ (σ := Value × Value) 2 #[true, true, true, true, true, true, true, true, true, false, false] (fun s_ => [(13, s_.1), (18, s_.2)]) (fun s_ w' => (Kd.R Kd.string 9 w' w.heap.size (fun k_ => some k_ ≠ (s_.2 : Value).ownBlock) s_.1 y132) ∧ (Kd.R Kd.string 9 w' w.heap.size (fun k_ => some k_ ≠ (s_.1 : Value).ownBlock) s_.2 t135) ∧ (Below w.heap.size w w')) ?_ ?_
       rotate_left
       ·
        intro hCont
        refine two_ (i := 3) (j := 8) (Ni := some 13) (Nj := some 18) #[true, true, true, true, true, true, true, true, false, false, false] #[true, true, true, false, true, true, true, true, true, false, false] rfl rfl rfl rfl (two_of HT_.out (by kernel_rfl)) (by decide) (by decide) (fun K hK => ?_) (fun K hK => ?_)
        ·
         skip
         refine Kd.R_lit_step Kd.string _ 9 ?hg (N := 13) ?hd (xs := ([a0.extract 0 (t128 : Int).toNat] : List ByteArray)) (inner := [.string (a0.extract 0 (t128 : Int).toNat)]) (ok := fun _ => True) (okp := fun _ => True) ?hr ?hp (fun _ hk => hk) trivial (Below.refl _ _) (Nat.le_refl _) (by simp) ?_; (case hd => rfl); (case hg => rfl); (case hr => first | (go_simp; done) | (go_simp; rfl)); (case hp => exact (Reps.one (show Kd.M Kd.string _ _ _ (a0.extract 0 (t128 : Int).toNat) [.string (a0.extract 0 (t128 : Int).toNat)] from rfl) (Reps.none _ _)))
         intro v133 w14 ho15 hb hg_ hnew_
         clear hg_ hnew_
         (first | rw [← Ny132.out] at ho15 | (simp only [Int.reduceToNat] at ho15; rw [← Ny132.out] at ho15))
         have n0_ := aM_ (Kd.R_lower ho15 (below_size (by repeat (first | (with_reducible first | exact HB.out | apply bB_ | apply wN_ | apply bE_) | exact HB.out))))
         have n1_ := aM_ (below_step (by repeat (first | (with_reducible first | exact HB.out | apply bB_ | apply wN_ | apply bE_) | exact HB.out)) hb)
         clear HB
         have HO134 := n0_
         have HB := n1_
         clear n0_ n1_
         clear hb ho15
         refine hK.out _ _ trivial (fun hHeld => ?_)
         clear hK K
         refine norm_ (a' := ?_) ?_ ?_
         rotate_left
         ·
          show Act.put _ (some 13) _ = _
          simp only [Act.put, List.setIfInBounds_toArray, List.set_cons_zero, List.set_cons_succ, i64_w, i32_w]
          rfl
         refine one_ (i := 8) (N := some 18) #[true, true, true, true, true, true, true, true, true, false, false] rfl rfl (one_of HT_.out (by kernel_rfl)) (by decide) (fun K hK => ?_)
         refine goes_ Tryd.func31 (by kernel_rfl) rfl #[.string (a0.extract ((ji8) : Int).toNat a0.size)] (by rfl) rfl rfl (by (try simp only [List.map_toArray, List.map_cons, List.map_nil]); first | done | (simp only [hji8]; rfl) | rfl | (simp only [List.length_drop, List.length_take]; rfl)) ?_
         with_reducible refine (ih k (by omega) (a0.extract ((ji8) : Int).toNat a0.size) t135 _ A11.out).mono ?_
         rintro e w16 ⟨v136, rfl, ho0, hb⟩
         refine ⟨_, rfl, ?_⟩
         have n0_ := aM_ (Kd.R_elder' (by (with_reducible repeat (first | apply kA_ | apply kN_ | apply kD_)); exact HO134.out) (Kd.R_base ho0) hb)
         have n1_ := aM_ (Kd.R_lower (Kd.R_new' ho0 (Kd.R_lt (by (with_reducible repeat (first | apply kA_ | apply kN_ | apply kD_)); exact HO134.out))) (below_size (by repeat (first | (with_reducible first | exact HB.out | apply bB_ | apply wN_ | apply bE_) | exact HB.out))))
         have n2_ := aM_ (below_step (by repeat (first | (with_reducible first | exact HB.out | apply bB_ | apply wN_ | apply bE_) | exact HB.out)) hb)
         clear HO134
         clear HB
         have HO134 := n0_
         have HO137 := n1_
         have HB := n2_
         clear n0_ n1_ n2_
         (try clear hb)
         (try clear hb2)
         (try clear hk)
         (try clear hi)
         (try clear ho0)
         refine hK.out _ _ trivial (fun hHeld => ?_)
         clear hK K
         refine norm_ (a' := ?_) ?_ ?_
         rotate_left
         ·
          show Act.put _ (some 18) _ = _
          simp only [Act.put, List.setIfInBounds_toArray, List.set_cons_zero, List.set_cons_succ, i64_w, i32_w]
          rfl
         exact norm_ (by simp only [putAll, Act.put, List.setIfInBounds_toArray, List.set_cons_zero, List.set_cons_succ]) (hCont (v133, v136) _ ⟨(by (with_reducible repeat (first | apply kA_ | apply kN_ | apply kD_)); exact Kd.R_mono HO134.out (fun _ hk => hk.2)), (by (with_reducible repeat (first | apply kA_ | apply kN_ | apply kD_)); exact Kd.R_mono HO137.out (fun _ hk => hk.2)), (by repeat (first | (with_reducible first | exact HB.out | apply bB_ | apply wN_ | apply bE_) | exact HB.out))⟩)
        ·
         skip
         refine goes_ Tryd.func31 (by kernel_rfl) rfl #[.string (a0.extract ((ji8) : Int).toNat a0.size)] (by rfl) rfl rfl (by (try simp only [List.map_toArray, List.map_cons, List.map_nil]); first | done | (simp only [hji8]; rfl) | rfl | (simp only [List.length_drop, List.length_take]; rfl)) ?_
         with_reducible refine (ih k (by omega) (a0.extract ((ji8) : Int).toNat a0.size) t135 _ A11.out).mono ?_
         rintro e w14 ⟨v136, rfl, ho0, hb⟩
         refine ⟨_, rfl, ?_⟩
         have n0_ := aM_ (Kd.R_lower ho0 (below_size (by repeat (first | (with_reducible first | exact HB.out | apply bB_ | apply wN_ | apply bE_) | exact HB.out))))
         have n1_ := aM_ (below_step (by repeat (first | (with_reducible first | exact HB.out | apply bB_ | apply wN_ | apply bE_) | exact HB.out)) hb)
         clear HB
         have HO137 := n0_
         have HB := n1_
         clear n0_ n1_
         (try clear hb)
         (try clear hb2)
         (try clear hk)
         (try clear hi)
         (try clear ho0)
         refine hK.out _ _ trivial (fun hHeld => ?_)
         clear hK K
         refine norm_ (a' := ?_) ?_ ?_
         rotate_left
         ·
          show Act.put _ (some 18) _ = _
          simp only [Act.put, List.setIfInBounds_toArray, List.set_cons_zero, List.set_cons_succ, i64_w, i32_w]
          rfl
         refine one_ (i := 3) (N := some 13) #[true, true, true, true, true, true, true, true, true, false, false] rfl rfl (one_of HT_.out (by kernel_rfl)) (by decide) (fun K hK => ?_)
         refine Kd.R_lit_step Kd.string _ 9 ?hg (N := 13) ?hd (xs := ([a0.extract 0 (t128 : Int).toNat] : List ByteArray)) (inner := [.string (a0.extract 0 (t128 : Int).toNat)]) (ok := fun _ => True) (okp := fun _ => True) ?hr ?hp (fun _ hk => hk) trivial (Below.refl _ _) (Nat.le_refl _) (by simp) ?_; (case hd => rfl); (case hg => rfl); (case hr => first | (go_simp; done) | (go_simp; rfl)); (case hp => exact (Reps.one (show Kd.M Kd.string _ _ _ (a0.extract 0 (t128 : Int).toNat) [.string (a0.extract 0 (t128 : Int).toNat)] from rfl) (Reps.none _ _)))
         intro v133 w15 ho16 hb hg_ hnew_
         clear hg_ hnew_
         (first | rw [← Ny132.out] at ho16 | (simp only [Int.reduceToNat] at ho16; rw [← Ny132.out] at ho16))
         have n0_ := aM_ (Kd.R_elder' (by (with_reducible repeat (first | apply kA_ | apply kN_ | apply kD_)); exact HO137.out) (Kd.R_base ho16) hb)
         have n1_ := aM_ (Kd.R_lower (Kd.R_new' ho16 (Kd.R_lt (by (with_reducible repeat (first | apply kA_ | apply kN_ | apply kD_)); exact HO137.out))) (below_size (by repeat (first | (with_reducible first | exact HB.out | apply bB_ | apply wN_ | apply bE_) | exact HB.out))))
         have n2_ := aM_ (below_step (by repeat (first | (with_reducible first | exact HB.out | apply bB_ | apply wN_ | apply bE_) | exact HB.out)) hb)
         clear HO137
         clear HB
         have HO137 := n0_
         have HO134 := n1_
         have HB := n2_
         clear n0_ n1_ n2_
         clear hb ho16
         refine hK.out _ _ trivial (fun hHeld => ?_)
         clear hK K
         refine norm_ (a' := ?_) ?_ ?_
         rotate_left
         ·
          show Act.put _ (some 13) _ = _
          simp only [Act.put, List.setIfInBounds_toArray, List.set_cons_zero, List.set_cons_succ, i64_w, i32_w]
          rfl
         exact norm_ (by simp only [putAll, Act.put, List.setIfInBounds_toArray, List.set_cons_zero, List.set_cons_succ]) (hCont (v133, v136) _ ⟨(by (with_reducible repeat (first | apply kA_ | apply kN_ | apply kD_)); exact Kd.R_mono HO134.out (fun _ hk => hk.2)), (by (with_reducible repeat (first | apply kA_ | apply kN_ | apply kD_)); exact Kd.R_mono HO137.out (fun _ hk => hk.2)), (by repeat (first | (with_reducible first | exact HB.out | apply bB_ | apply wN_ | apply bE_) | exact HB.out))⟩)
       rintro ⟨v133, v136⟩ w17 ⟨h0_, h1_, h2_⟩
       have n0_ : Aside0 (Kd.R Kd.string 9 w17 w.heap.size (fun k_ => some k_ ≠ (v136 : Value).ownBlock) v133 y132) := ⟨h0_⟩
       have n1_ : Aside0 (Kd.R Kd.string 9 w17 w.heap.size (fun k_ => some k_ ≠ (v133 : Value).ownBlock) v136 t135) := ⟨h1_⟩
       have n2_ : Aside0 (Below w.heap.size w w17) := ⟨h2_⟩
       clear HB
       clear h0_ h1_ h2_
       have HO134 := n0_
       have HO137 := n1_
       have HB := n2_
       clear n0_ n1_ n2_
       have hHeld := trivial
       obtain ⟨Ao19, co19, eo19⟩ := Kd.R_slice HO137.out
       (first | subst eo19 | (injection eo19 with f1_ f2_ f3_; have f4_ := f1_.symm; have f5_ := f3_.symm; clear f1_ f2_ f3_; subst f4_; subst f5_))
       refine norm_ (a' := ?_) ?_ ?_
       rotate_left
       ·
        simp only [putAll, Act.put, List.setIfInBounds_toArray, List.set_cons_zero, List.set_cons_succ]
        rfl
       refine one_ (i := 9) (N := some 19) #[true, true, true, true, true, true, true, true, true, true, false] rfl rfl (one_of HT_.out (by kernel_rfl)) (by decide) (fun K hK => ?_)
       refine Kd.R_append_rows_step Kd.string (w0 := w) w.heap.size (by rfl) (.tmp 13) (.tmp 18) 49 9 (.string ⟨#[]⟩) 16 rfl Tryd.underlying49 info9 rfl (by decide) (by omega) v133 y132 t135 _ _ _ (fun k_ => some k_ ≠ (.slice Ao19 t135.length co19 : Value).ownBlock) (fun _ => False) rfl rfl ?aO ?aR (fun _ _ h => h) (fun _ h => h.elim) ?aF ?aB ?aS ?aL ?_
       (case aR => repeat (first | exact (Kd.R_reads' HO137.out).2.2 | (with_reducible refine Kd.C_alloc ?_ _) | (with_reducible refine Kd.C_drewN ?_ _) | (with_reducible refine Kd.C_drew ?_)))
       (case aB => exact (by repeat (first | (with_reducible first | exact HB.out | apply bB_ | apply wN_ | apply bE_) | exact HB.out)))
       (case aF => exact (fun k_ hk => Kd.fresh' (Kd.R_lt (by (with_reducible repeat (first | apply kA_ | apply kN_ | apply kD_)); exact HO137.out)) k_ hk))
       (case aO => exact (by (with_reducible repeat (first | apply kA_ | apply kN_ | apply kD_)); exact HO134.out))
       (case aS => exact (below_size (by repeat (first | (with_reducible first | exact HB.out | apply bB_ | apply wN_ | apply bE_) | exact HB.out))))
       (case aL => have := LMc12.out; omega)
       intro v139 w18 ho hb hg hat
       rw [← Ny138.out] at ho
       have n0_ := aM_ (Kd.R_after (ok := (fun _ => True)) (by (with_reducible repeat (first | apply kA_ | apply kN_ | apply kD_)); exact Kd.R_mono HO137.out (fun _ hk => ⟨trivial, hk⟩)) hg hat)
       have n1_ := aM_ (hb)
       have n2_ := aM_ (ho)
       clear HO137
       clear HB
       clear HO134
       have HO137 := n0_
       have HB := n1_
       have HO140 := n2_
       clear n0_ n1_ n2_
       clear ho hb hg hat
       refine hK.out _ _ trivial (fun hHeld => ?_)
       clear hK K
       refine norm_ (a' := ?_) ?_ ?_
       rotate_left
       ·
        show Act.put _ (some 19) _ = _
        simp only [Act.put, List.setIfInBounds_toArray, List.set_cons_zero, List.set_cons_succ, i64_w, i32_w]
        rfl
       refine pure_ (i := 10) (N := some 2) (v := ?_) (a' := ?_) #[true, true, true, true, true, true, true, true, true, true, true] rfl rfl (any_of HT_.out (by kernel_rfl)) (fun _ _ _ h => h) (Or.inl ⟨by rfl, ?_⟩) ?_ ?_
       rotate_left
       ·
        intro w'
        go_simp
        with_reducible rfl
       rotate_left
       ·
        simp only [Act.put, List.setIfInBounds_toArray, List.set_cons_zero, List.set_cons_succ, i64_w, i32_w]
        rfl
       refine done_ (done_of HT_.out (by kernel_rfl)) ?_
       try go_wp2
       go_ret
       exact ⟨_, by first | rfl | (simp [errW_none, errW_some] <;> rfl) | (simp only [← hji8]; first | rfl | (simp [errW_none, errW_some] <;> rfl)) | (simp [*, errW_none, errW_some] <;> rfl), by (with_reducible repeat (first | apply kA_ | apply kN_ | apply kD_)); exact Kd.R_mono HO140.out (fun _ hk => trivial), by repeat (first | (with_reducible first | exact HB.out | apply bB_ | apply wN_ | apply bE_) | exact HB.out)⟩
      ·
       rw [if_neg c12] at H
       exact absurd H (by simp)
     ·
      rw [if_neg c10] at H
      exact absurd H (by simp)
    ·
     rw [if_neg c9] at H
     exact absurd H (by simp)
   ·
    rw [if_neg c7] at H
    exact absurd H (by simp)
  ·
   rw [if_neg c6] at H
   exact absurd H (by simp)

/-! ### spec_VerNumeric: function 33 -/
def spec_VerNumeric.l0 : Nat → ByteArray → Int → Option (Bool)
 | 0, _, _ => none
 | k + 1, x0, x3 => if x3 < (x0.size : Int) then (if 0 ≤ x3 then ((spec_verDigit.f (bt x0 x3)).bind fun t141 => (if t141 = true then (spec_VerNumeric.l0 k x0 (wrap64 (x3 + 1))) else (some false))) else (none)) else (some (x0.toList != ([] : List UInt8)))
def spec_VerNumeric.f (k : Nat) (a0 : ByteArray) : Option (Bool) := spec_VerNumeric.l0 k a0 0
set_option maxHeartbeats 8000000 in
set_option maxRecDepth 100000 in
theorem spec_VerNumeric.calls (k : Nat) (a0 : ByteArray) (r : Bool) (w : World) (h : spec_VerNumeric.f k a0 = some r) :
  Calls Tryd.prog 33 #[.string a0] w fun e w' => e = .returned (.bool r) ∧ Drawn0 w w' := by
 have H : (spec_VerNumeric.l0 k a0 0) = some r := h
 clear h
 have H' := aM_ H
 clear H
 go_enter Tryd.func33, Tryd.ntmps33
 go_wp2
 go_loopg [3] k (fun kq v3 w' => ∃ (x3_1 : Int), v3 = .int .i64 x3_1 ∧ Aside0 (spec_VerNumeric.l0 kq a0 x3_1 = some r) ∧ Aside0 (kq ≤ k) ∧ Drawn0 w w')
 case atStart => exact ⟨(0), (by first | rfl | (simp; done) | (simp [*]; done)), H', ⟨Nat.le_refl _⟩, by repeat (first | exact Drawn0.refl _ | apply Drawn0.step)⟩
 case round =>
  clear H'
  obtain ⟨x3_1, rfl, HA, HK1, ⟨m1, rfl⟩⟩ := hrel
  cases gk with
  | zero => exact absurd HA.out (by simp [spec_VerNumeric.l0])
  | succ k1 =>
   have H := HA.out
   clear HA
   simp only [spec_VerNumeric.l0] at H
   by_cases c2 : x3_1 < (a0.size : Int)
   ·
    rw [if_pos c2] at H
    have c2b0 : decide (x3_1 < (a0.size : Int)) = true := decide_eq_true c2
    clear c2
    by_cases c3 : 0 ≤ x3_1
    ·
     rw [if_pos c3] at H
     have c3b0 : decide (0 ≤ x3_1) = true := decide_eq_true c3
     clear c3
     replace H := Option.bind_eq_some_iff.mp H
     obtain ⟨t141, A50, H⟩ := H
     replace H : (if t141 = true then (spec_VerNumeric.l0 k1 a0 (wrap64 (x3_1 + 1))) else (some false)) = some r := H
     have A5 := aM_ A50
     clear A50
     by_cases c6 : t141 = true
     ·
      subst c6
      have H1 : (spec_VerNumeric.l0 k1 a0 (wrap64 (x3_1 + 1))) = some r := by rw [if_pos rfl] at H; exact H
      clear H
      have H := H1
      clear H1
      have H' := aM_ H
      clear H
      have p4 : 0 ≤ (x3_1 : Int) := of_decide_eq_true (by first | (with_reducible assumption) | assumption)
      have q4 : x3_1 < (a0.size : Int) := of_decide_eq_true (by first | (with_reducible assumption) | assumption)
      have hx4 := bt_at a0 x3_1
      replace p4 := eq_true p4
      replace q4 := eq_true q4
      go_wp2_with (first | ((with_reducible refine gate_callee (f := 32) rfl ?_); refine goesL_ (some 13) rfl rfl Tryd.func32 (by kernel_rfl) rfl #[.int .u8 (bt a0 x3_1)] rfl (by (try simp only [List.map_toArray, List.map_cons, List.map_nil]); first | done | rfl | (simp only [List.length_drop, List.length_take]; rfl)) ?_; (with_reducible refine (spec_verDigit.calls (bt a0 x3_1) true _ A5.out).mono ?_); rintro e w' ⟨rfl, ⟨nd, rfl⟩⟩; refine ⟨_, rfl, ?_⟩))
      go_roundg k1
      case measure => have := HK1.out; omega
      case rel => exact ⟨(wrap64 (x3_1 + 1)), (by first | rfl | (simp; done) | (simp [*]; done)), H', ⟨by have := HK1.out; omega⟩, by repeat (first | exact Drawn0.refl _ | apply Drawn0.step)⟩
     ·
      replace c6 := Bool.eq_false_iff.mpr c6
      subst c6
      have H1 : (some false) = some r := by rw [if_neg (show ¬ (false = true) by decide)] at H; exact H
      clear H
      have H := H1
      clear H1
      obtain rfl := Option.some.inj H
      have p4 : 0 ≤ (x3_1 : Int) := of_decide_eq_true (by first | (with_reducible assumption) | assumption)
      have q4 : x3_1 < (a0.size : Int) := of_decide_eq_true (by first | (with_reducible assumption) | assumption)
      have hx4 := bt_at a0 x3_1
      replace p4 := eq_true p4
      replace q4 := eq_true q4
      go_wp2_with (first | ((with_reducible refine gate_callee (f := 32) rfl ?_); refine goesL_ (some 13) rfl rfl Tryd.func32 (by kernel_rfl) rfl #[.int .u8 (bt a0 x3_1)] rfl (by (try simp only [List.map_toArray, List.map_cons, List.map_nil]); first | done | rfl | (simp only [List.length_drop, List.length_take]; rfl)) ?_; (with_reducible refine (spec_verDigit.calls (bt a0 x3_1) false _ A5.out).mono ?_); rintro e w' ⟨rfl, ⟨nd, rfl⟩⟩; refine ⟨_, rfl, ?_⟩))
      go_ret
      exact ⟨by first | rfl | (simp; done) | (simp [*]; done) | (simp; cases a0.toList <;> rfl) | (cases a0.toList <;> simp), by repeat (first | exact Drawn0.refl _ | apply Drawn0.step)⟩
    ·
     rw [if_neg c3] at H
     exact absurd H (by simp)
   ·
    rw [if_neg c2] at H
    have c2b0 : decide (x3_1 < (a0.size : Int)) = false := decide_eq_false c2
    clear c2
    obtain rfl := Option.some.inj H
    go_wp2
    go_ret
    exact ⟨by first | rfl | (simp; done) | (simp [*]; done) | (simp; cases a0.toList <;> rfl) | (cases a0.toList <;> simp), by repeat (first | exact Drawn0.refl _ | apply Drawn0.step)⟩

/-! ### spec_VerPlainly: function 34 -/
def spec_VerPlainly.f (a0 : ByteArray) : Option (Bool) := if (a0.size : Int) = 1 then (some true) else (if a0.toList = ([] : List UInt8) then (some false) else (if 0 < (a0.size : Int) then (some ((bt a0 0) != 48)) else (none)))
set_option maxHeartbeats 8000000 in
set_option maxRecDepth 100000 in
theorem spec_VerPlainly.calls (a0 : ByteArray) (r : Bool) (w : World) (h : spec_VerPlainly.f a0 = some r) :
  Calls Tryd.prog 34 #[.string a0] w fun e w' => e = .returned (.bool r) ∧ Drawn0 w w' := by
 have H : (if (a0.size : Int) = 1 then (some true) else (if a0.toList = ([] : List UInt8) then (some false) else (if 0 < (a0.size : Int) then (some ((bt a0 0) != 48)) else (none)))) = some r := h
 clear h
 by_cases c2 : (a0.size : Int) = 1
 ·
  rw [if_pos c2] at H
  have c2b0 : ((a0.size : Int) == 1) = true := beq_iff_eq.mpr c2
  have c2b1 : ((a0.size : Int) != 1) = false := bne_eq_false_iff_eq.mpr c2
  clear c2
  obtain rfl := Option.some.inj H
  go_enter Tryd.func34, Tryd.ntmps34
  go_wp2
  go_ret
  exact ⟨by first | rfl | (simp; done) | (simp [*]; done) | (simp; cases a0.toList <;> rfl) | (cases a0.toList <;> simp), by repeat (first | exact Drawn0.refl _ | apply Drawn0.step)⟩
 ·
  rw [if_neg c2] at H
  have c2b0 : ((a0.size : Int) == 1) = false := beq_eq_false_iff_ne.mpr c2
  have c2b1 : ((a0.size : Int) != 1) = true := bne_iff_ne.mpr c2
  by_cases c3 : a0.toList = ([] : List UInt8)
  ·
   rw [if_pos c3] at H
   have c3b0 : (a0.toList == ([] : List UInt8)) = true := beq_iff_eq.mpr c3
   have c3b1 : (a0.toList != ([] : List UInt8)) = false := bne_eq_false_iff_eq.mpr c3
   clear c3
   obtain rfl := Option.some.inj H
   go_enter Tryd.func34, Tryd.ntmps34
   go_wp2
   go_ret
   exact ⟨by first | rfl | (simp; done) | (simp [*]; done) | (simp; cases a0.toList <;> rfl) | (cases a0.toList <;> simp), by repeat (first | exact Drawn0.refl _ | apply Drawn0.step)⟩
  ·
   rw [if_neg c3] at H
   have c3b0 : (a0.toList == ([] : List UInt8)) = false := beq_eq_false_iff_ne.mpr c3
   have c3b1 : (a0.toList != ([] : List UInt8)) = true := bne_iff_ne.mpr c3
   by_cases c4 : 0 < (a0.size : Int)
   ·
    rw [if_pos c4] at H
    have c4b0 : decide (0 < (a0.size : Int)) = true := decide_eq_true c4
    have c4b1 : decide (0 < a0.size) = true := decide_eq_true (by omega)
    clear c4
    obtain rfl := Option.some.inj H
    have p5 : 0 ≤ (0 : Int) := (by omega)
    have q5 : 0 < a0.size := (by have : (0 : Int) < (a0.size : Int) := of_decide_eq_true (by first | (with_reducible assumption) | assumption); omega)
    have hx5 : ∀ h : 0 < a0.size, ((a0[0]'h).toNat : Int) = bt a0 0 := bt_at a0 0
    clear p5
    have qi5 : (0 < (a0.size : Int)) = True := eq_true (of_decide_eq_true (by first | (with_reducible assumption) | assumption))
    replace q5 := eq_true q5
    go_enter Tryd.func34, Tryd.ntmps34
    go_wp2
    go_ret
    exact ⟨by first | rfl | (simp; done) | (simp [*]; done) | (simp; cases a0.toList <;> rfl) | (cases a0.toList <;> simp), by repeat (first | exact Drawn0.refl _ | apply Drawn0.step)⟩
   ·
    rw [if_neg c4] at H
    exact absurd H (by simp)

end Go.Proofs.YtomoefldmgfaoaaDoor.PFnVersionSteps

namespace Go.Proofs.YtomoefldmgfaoaaDoor.PFnVersionSteps
open Go.RowKit Go.Proofs.YtomoefldmgfaoaaDoorW.PrintWords Go.Proofs.YtomoefldmgfaoaaDoorW.PrintLast Go.Proofs.YtomoefldmgfaoaaDoorW.PrintMore
attribute [local go_sem] max2_int min2_int max_two min_two max_three min_three max_four min_four   -- for this text's walks alone
set_option linter.unusedVariables false
set_option linter.unusedSimpArgs false

/-! ### spec_VerIdentifiers: function 11 -/
mutual
def spec_VerIdentifiers.l0 : Nat → Bool → List ByteArray → Int → Option (Bool)
 | 0, _, _, _ => none
 | k + 1, x1, x5, x6 => if x6 < (x5.length : Int) then (spec_VerIdentifiers.l1 k x1 x5 x6 0) else (some true)
def spec_VerIdentifiers.l1 : Nat → Bool → List ByteArray → Int → Int → Option (Bool)
 | 0, _, _, _, _ => none
 | k + 1, x1, x5, x6, x7 => if 0 ≤ x6 then (if x6 < (x5.length : Int) then (if x7 < ((rdOf ByteArray.empty x5 x6).size : Int) then (if 0 ≤ x7 then ((spec_verDigit.f (bt (rdOf ByteArray.empty x5 x6) x7)).bind fun t147 => (if t147 = true then (spec_VerIdentifiers.l1 k x1 x5 x6 (wrap64 (x7 + 1))) else (if (bt (rdOf ByteArray.empty x5 x6) x7) = 45 then (spec_VerIdentifiers.l1 k x1 x5 x6 (wrap64 (x7 + 1))) else (if (bt (rdOf ByteArray.empty x5 x6) x7) < 97 then (if (bt (rdOf ByteArray.empty x5 x6) x7) < 65 then (some false) else (if (bt (rdOf ByteArray.empty x5 x6) x7) > 90 then (some false) else (spec_VerIdentifiers.l1 k x1 x5 x6 (wrap64 (x7 + 1))))) else (if (bt (rdOf ByteArray.empty x5 x6) x7) > 122 then (if (bt (rdOf ByteArray.empty x5 x6) x7) < 65 then (some false) else (if (bt (rdOf ByteArray.empty x5 x6) x7) > 90 then (some false) else (spec_VerIdentifiers.l1 k x1 x5 x6 (wrap64 (x7 + 1))))) else (spec_VerIdentifiers.l1 k x1 x5 x6 (wrap64 (x7 + 1)))))))) else (none)) else (if (rdOf ByteArray.empty x5 x6).toList = ([] : List UInt8) then (some false) else (if x1 = true then ((spec_VerNumeric.f k (rdOf ByteArray.empty x5 x6)).bind fun t150 => (if t150 = true then ((spec_VerPlainly.f (rdOf ByteArray.empty x5 x6)).bind fun t152 => (if t152 = true then (spec_VerIdentifiers.l0 k x1 x5 (wrap64 (x6 + 1))) else (some false))) else (spec_VerIdentifiers.l0 k x1 x5 (wrap64 (x6 + 1))))) else (spec_VerIdentifiers.l0 k x1 x5 (wrap64 (x6 + 1)))))) else (none)) else (none)
end
def spec_VerIdentifiers.f (k : Nat) (a0 : ByteArray) (a1 : Bool) : Option (Bool) := (spec_VerSplit.f k a0).bind fun t142 => (spec_VerIdentifiers.l0 k a1 t142 0)
set_option maxHeartbeats 8000000 in
set_option maxRecDepth 100000 in
theorem spec_VerIdentifiers.calls (k : Nat) (a0 : ByteArray) (a1 : Bool) (r : Bool) (w : World) (h : spec_VerIdentifiers.f k a0 a1 = some r) :
  Calls Tryd.prog 11 #[.string a0, .bool a1] w fun e w' => e = .returned (.bool r) ∧ Below w.heap.size w w' := by
 have HB := aM_ (Below.refl w.heap.size w)
 have H : ((spec_VerSplit.f k a0).bind fun t142 => (spec_VerIdentifiers.l0 k a1 t142 0)) = some r := h
 clear h
 replace H := Option.bind_eq_some_iff.mp H
 obtain ⟨t142, A30, H⟩ := H
 replace H : (spec_VerIdentifiers.l0 k a1 t142 0) = some r := H
 have A3 := aM_ A30
 clear A30
 have H' := aM_ H
 clear H
 go_enter Tryd.func11, Tryd.ntmps11
 go_wp2_with (first | ((with_reducible refine gate_callee (f := 31) rfl ?_); refine goesL_ (some 10) rfl rfl Tryd.func31 (by kernel_rfl) rfl #[.string a0] rfl (by (try simp only [List.map_toArray, List.map_cons, List.map_nil]); first | done | rfl | (simp only [List.length_drop, List.length_take]; rfl)) ?_; (with_reducible refine (spec_VerSplit.calls k a0 t142 _ A3.out).mono ?_); rintro e w4 ⟨v143, rfl, ho0, hb⟩; refine ⟨_, rfl, ?_⟩; have n0_ := aM_ (Kd.R_lower ho0 (below_size (by repeat (first | (with_reducible first | exact HB.out | apply bB_ | apply wN_ | apply bE_) | exact HB.out)))); have n1_ := aM_ (below_step (by repeat (first | (with_reducible first | exact HB.out | apply bB_ | apply wN_ | apply bE_) | exact HB.out)) hb); clear HB; have HO144 := n0_; have HB := n1_; clear n0_ n1_; (try clear hb); (try clear hb2); (try clear hk); (try clear hi); (try clear ho0)))
 go_loopg [6] k (fun kq v6 w' => ∃ (x6_1 : Int), v6 = .int .i64 x6_1 ∧ Aside0 (spec_VerIdentifiers.l0 kq a1 t142 x6_1 = some r) ∧ Aside0 (kq ≤ k) ∧ Aside0 (Kd.R Kd.string 9 w' w.heap.size (fun _ => True) v143 t142) ∧ Aside0 (Below w.heap.size w w'))
 case atStart => exact ⟨(0), (by first | rfl | (simp; done) | (simp [*]; done)), H', ⟨Nat.le_refl _⟩, ⟨by (with_reducible repeat (first | apply kA_ | apply kN_ | apply kD_)); exact HO144.out⟩, ⟨by repeat (first | (with_reducible first | exact HB.out | apply bB_ | apply wN_ | apply bE_) | exact HB.out)⟩⟩
 case round =>
  clear H'
  try clear c1
  try clear p2
  try clear c3
  obtain ⟨x6_1, rfl, HA, HK1, HO_5, HB⟩ := hrel
  cases gk with
  | zero => exact absurd HA.out (by simp [spec_VerIdentifiers.l0])
  | succ k1 =>
   have H := HA.out
   clear HA
   simp only [spec_VerIdentifiers.l0] at H
   by_cases c5 : x6_1 < (t142.length : Int)
   ·
    rw [if_pos c5] at H
    have c5b0 : decide (x6_1 < (t142.length : Int)) = true := decide_eq_true c5
    clear c5
    have H' := aM_ H
    clear H
    obtain ⟨Ao6, co6, eo6⟩ := Kd.R_slice HO_5.out
    subst eo6
    go_wp2
    go_loopg [7] k1 (fun kq v7 w' => ∃ (x7_2 : Int), v7 = .int .i64 x7_2 ∧ Aside0 (spec_VerIdentifiers.l1 kq a1 t142 x6_1 x7_2 = some r) ∧ Aside0 (kq ≤ k1) ∧ Aside0 (Kd.R Kd.string 9 w' w.heap.size (fun _ => True) (.slice Ao6 t142.length co6) t142) ∧ Aside0 (Below w.heap.size w w'))
    case atStart => exact ⟨(0), (by first | rfl | (simp; done) | (simp [*]; done)), H', ⟨Nat.le_refl _⟩, ⟨by (with_reducible repeat (first | apply kA_ | apply kN_ | apply kD_)); exact HO_5.out⟩, ⟨by repeat (first | (with_reducible first | exact HB.out | apply bB_ | apply wN_ | apply bE_) | exact HB.out)⟩⟩
    case round =>
     clear H'
     try clear c1
     try clear p2
     try clear c3
     try clear c5
     try clear c5b0
     try clear p2
     obtain ⟨x7_2, rfl, HA, HK2, HO_5, HB⟩ := hrel
     cases gk with
     | zero => exact absurd HA.out (by simp [spec_VerIdentifiers.l1])
     | succ k2 =>
      have H := HA.out
      clear HA
      simp only [spec_VerIdentifiers.l1] at H
      by_cases c7 : 0 ≤ x6_1
      ·
       rw [if_pos c7] at H
       have c7b0 : decide (0 ≤ x6_1) = true := decide_eq_true c7
       clear c7
       by_cases c8 : x6_1 < (t142.length : Int)
       ·
        rw [if_pos c8] at H
        have c8b0 : decide (x6_1 < (t142.length : Int)) = true := decide_eq_true c8
        clear c8
        by_cases c9 : x7_2 < ((rdOf ByteArray.empty t142 x6_1).size : Int)
        ·
         rw [if_pos c9] at H
         have c9b0 : decide (x7_2 < ((rdOf ByteArray.empty t142 x6_1).size : Int)) = true := decide_eq_true c9
         clear c9
         by_cases c10 : 0 ≤ x7_2
         ·
          rw [if_pos c10] at H
          have c10b0 : decide (0 ≤ x7_2) = true := decide_eq_true c10
          clear c10
          replace H := Option.bind_eq_some_iff.mp H
          obtain ⟨t147, A120, H⟩ := H
          replace H : (if t147 = true then (spec_VerIdentifiers.l1 k2 a1 t142 x6_1 (wrap64 (x7_2 + 1))) else (if (bt (rdOf ByteArray.empty t142 x6_1) x7_2) = 45 then (spec_VerIdentifiers.l1 k2 a1 t142 x6_1 (wrap64 (x7_2 + 1))) else (if (bt (rdOf ByteArray.empty t142 x6_1) x7_2) < 97 then (if (bt (rdOf ByteArray.empty t142 x6_1) x7_2) < 65 then (some false) else (if (bt (rdOf ByteArray.empty t142 x6_1) x7_2) > 90 then (some false) else (spec_VerIdentifiers.l1 k2 a1 t142 x6_1 (wrap64 (x7_2 + 1))))) else (if (bt (rdOf ByteArray.empty t142 x6_1) x7_2) > 122 then (if (bt (rdOf ByteArray.empty t142 x6_1) x7_2) < 65 then (some false) else (if (bt (rdOf ByteArray.empty t142 x6_1) x7_2) > 90 then (some false) else (spec_VerIdentifiers.l1 k2 a1 t142 x6_1 (wrap64 (x7_2 + 1))))) else (spec_VerIdentifiers.l1 k2 a1 t142 x6_1 (wrap64 (x7_2 + 1))))))) = some r := H
          have A12 := aM_ A120
          clear A120
          by_cases c13 : t147 = true
          ·
           subst c13
           have H1 : (spec_VerIdentifiers.l1 k2 a1 t142 x6_1 (wrap64 (x7_2 + 1))) = some r := by rw [if_pos rfl] at H; exact H
           clear H
           have H := H1
           clear H1
           have H' := aM_ H
           clear H
           have p145 : 0 ≤ (x6_1 : Int) := of_decide_eq_true (by first | (with_reducible assumption) | assumption)
           have q145 : x6_1 < (t142.length : Int) := of_decide_eq_true (by first | (with_reducible assumption) | assumption)
           obtain ⟨ad145, e145, hx145_0⟩ := Kd.at_string (Kd.R_reads' HO_5.out).2.2 x6_1 p145 q145
           cases e145
           replace p145 := eq_true p145
           replace q145 := eq_true q145
           have p146 : 0 ≤ (x6_1 : Int) := of_decide_eq_true (by first | (with_reducible assumption) | assumption)
           have q146 : x6_1 < (t142.length : Int) := of_decide_eq_true (by first | (with_reducible assumption) | assumption)
           obtain ⟨ad146, e146, hx146_0⟩ := Kd.at_string (Kd.R_reads' HO_5.out).2.2 x6_1 p146 q146
           obtain rfl : ad145 = ad146 := (by injection e146)
           replace p146 := eq_true p146
           replace q146 := eq_true q146
           have p11 : 0 ≤ (x7_2 : Int) := of_decide_eq_true (by first | (with_reducible assumption) | assumption)
           have q11 : x7_2 < ((rdOf ByteArray.empty t142 x6_1).size : Int) := of_decide_eq_true (by first | (with_reducible assumption) | assumption)
           have hx11 := bt_at (rdOf ByteArray.empty t142 x6_1) x7_2
           replace p11 := eq_true p11
           replace q11 := eq_true q11
           go_wp2_with (first | ((with_reducible refine gate_callee (f := 32) rfl ?_); refine goesL_ (some 33) rfl rfl Tryd.func32 (by kernel_rfl) rfl #[.int .u8 (bt (rdOf ByteArray.empty t142 x6_1) x7_2)] rfl (by (try simp only [List.map_toArray, List.map_cons, List.map_nil]); first | done | rfl | (simp only [List.length_drop, List.length_take]; rfl)) ?_; (with_reducible refine (spec_verDigit.calls (bt (rdOf ByteArray.empty t142 x6_1) x7_2) true _ A12.out).mono ?_); rintro e w' ⟨rfl, ⟨nd, rfl⟩⟩; refine ⟨_, rfl, ?_⟩))
           go_roundg k2
           case measure => have := HK1.out; have := HK2.out; omega
           case rel => exact ⟨(wrap64 (x7_2 + 1)), (by first | rfl | (simp; done) | (simp [*]; done)), H', ⟨by have := HK1.out; have := HK2.out; omega⟩, ⟨by (with_reducible repeat (first | apply kA_ | apply kN_ | apply kD_)); exact HO_5.out⟩, ⟨by repeat (first | (with_reducible first | exact HB.out | apply bB_ | apply wN_ | apply bE_) | exact HB.out)⟩⟩
          ·
           replace c13 := Bool.eq_false_iff.mpr c13
           subst c13
           have H1 : (if (bt (rdOf ByteArray.empty t142 x6_1) x7_2) = 45 then (spec_VerIdentifiers.l1 k2 a1 t142 x6_1 (wrap64 (x7_2 + 1))) else (if (bt (rdOf ByteArray.empty t142 x6_1) x7_2) < 97 then (if (bt (rdOf ByteArray.empty t142 x6_1) x7_2) < 65 then (some false) else (if (bt (rdOf ByteArray.empty t142 x6_1) x7_2) > 90 then (some false) else (spec_VerIdentifiers.l1 k2 a1 t142 x6_1 (wrap64 (x7_2 + 1))))) else (if (bt (rdOf ByteArray.empty t142 x6_1) x7_2) > 122 then (if (bt (rdOf ByteArray.empty t142 x6_1) x7_2) < 65 then (some false) else (if (bt (rdOf ByteArray.empty t142 x6_1) x7_2) > 90 then (some false) else (spec_VerIdentifiers.l1 k2 a1 t142 x6_1 (wrap64 (x7_2 + 1))))) else (spec_VerIdentifiers.l1 k2 a1 t142 x6_1 (wrap64 (x7_2 + 1)))))) = some r := by rw [if_neg (show ¬ (false = true) by decide)] at H; exact H
           clear H
           have H := H1
           clear H1
           by_cases c14 : (bt (rdOf ByteArray.empty t142 x6_1) x7_2) = 45
           ·
            rw [if_pos c14] at H
            have c14b0 : ((bt (rdOf ByteArray.empty t142 x6_1) x7_2) == 45) = true := beq_iff_eq.mpr c14
            have c14b1 : ((bt (rdOf ByteArray.empty t142 x6_1) x7_2) != 45) = false := bne_eq_false_iff_eq.mpr c14
            clear c14
            have H' := aM_ H
            clear H
            have p145 : 0 ≤ (x6_1 : Int) := of_decide_eq_true (by first | (with_reducible assumption) | assumption)
            have q145 : x6_1 < (t142.length : Int) := of_decide_eq_true (by first | (with_reducible assumption) | assumption)
            obtain ⟨ad145, e145, hx145_0⟩ := Kd.at_string (Kd.R_reads' HO_5.out).2.2 x6_1 p145 q145
            cases e145
            replace p145 := eq_true p145
            replace q145 := eq_true q145
            have p146 : 0 ≤ (x6_1 : Int) := of_decide_eq_true (by first | (with_reducible assumption) | assumption)
            have q146 : x6_1 < (t142.length : Int) := of_decide_eq_true (by first | (with_reducible assumption) | assumption)
            obtain ⟨ad146, e146, hx146_0⟩ := Kd.at_string (Kd.R_reads' HO_5.out).2.2 x6_1 p146 q146
            obtain rfl : ad145 = ad146 := (by injection e146)
            replace p146 := eq_true p146
            replace q146 := eq_true q146
            have p11 : 0 ≤ (x7_2 : Int) := of_decide_eq_true (by first | (with_reducible assumption) | assumption)
            have q11 : x7_2 < ((rdOf ByteArray.empty t142 x6_1).size : Int) := of_decide_eq_true (by first | (with_reducible assumption) | assumption)
            have hx11 := bt_at (rdOf ByteArray.empty t142 x6_1) x7_2
            replace p11 := eq_true p11
            replace q11 := eq_true q11
            go_wp2_with (first | ((with_reducible refine gate_callee (f := 32) rfl ?_); refine goesL_ (some 33) rfl rfl Tryd.func32 (by kernel_rfl) rfl #[.int .u8 (bt (rdOf ByteArray.empty t142 x6_1) x7_2)] rfl (by (try simp only [List.map_toArray, List.map_cons, List.map_nil]); first | done | rfl | (simp only [List.length_drop, List.length_take]; rfl)) ?_; (with_reducible refine (spec_verDigit.calls (bt (rdOf ByteArray.empty t142 x6_1) x7_2) false _ A12.out).mono ?_); rintro e w' ⟨rfl, ⟨nd, rfl⟩⟩; refine ⟨_, rfl, ?_⟩))
            go_roundg k2
            case measure => have := HK1.out; have := HK2.out; omega
            case rel => exact ⟨(wrap64 (x7_2 + 1)), (by first | rfl | (simp; done) | (simp [*]; done)), H', ⟨by have := HK1.out; have := HK2.out; omega⟩, ⟨by (with_reducible repeat (first | apply kA_ | apply kN_ | apply kD_)); exact HO_5.out⟩, ⟨by repeat (first | (with_reducible first | exact HB.out | apply bB_ | apply wN_ | apply bE_) | exact HB.out)⟩⟩
           ·
            rw [if_neg c14] at H
            have c14b0 : ((bt (rdOf ByteArray.empty t142 x6_1) x7_2) == 45) = false := beq_eq_false_iff_ne.mpr c14
            have c14b1 : ((bt (rdOf ByteArray.empty t142 x6_1) x7_2) != 45) = true := bne_iff_ne.mpr c14
            by_cases c15 : (bt (rdOf ByteArray.empty t142 x6_1) x7_2) < 97
            ·
             rw [if_pos c15] at H
             have c15b0 : decide ((bt (rdOf ByteArray.empty t142 x6_1) x7_2) < 97) = true := decide_eq_true c15
             clear c15
             by_cases c16 : (bt (rdOf ByteArray.empty t142 x6_1) x7_2) < 65
             ·
              rw [if_pos c16] at H
              have c16b0 : decide ((bt (rdOf ByteArray.empty t142 x6_1) x7_2) < 65) = true := decide_eq_true c16
              clear c16
              obtain rfl := Option.some.inj H
              have p145 : 0 ≤ (x6_1 : Int) := of_decide_eq_true (by first | (with_reducible assumption) | assumption)
              have q145 : x6_1 < (t142.length : Int) := of_decide_eq_true (by first | (with_reducible assumption) | assumption)
              obtain ⟨ad145, e145, hx145_0⟩ := Kd.at_string (Kd.R_reads' HO_5.out).2.2 x6_1 p145 q145
              cases e145
              replace p145 := eq_true p145
              replace q145 := eq_true q145
              have p146 : 0 ≤ (x6_1 : Int) := of_decide_eq_true (by first | (with_reducible assumption) | assumption)
              have q146 : x6_1 < (t142.length : Int) := of_decide_eq_true (by first | (with_reducible assumption) | assumption)
              obtain ⟨ad146, e146, hx146_0⟩ := Kd.at_string (Kd.R_reads' HO_5.out).2.2 x6_1 p146 q146
              obtain rfl : ad145 = ad146 := (by injection e146)
              replace p146 := eq_true p146
              replace q146 := eq_true q146
              have p11 : 0 ≤ (x7_2 : Int) := of_decide_eq_true (by first | (with_reducible assumption) | assumption)
              have q11 : x7_2 < ((rdOf ByteArray.empty t142 x6_1).size : Int) := of_decide_eq_true (by first | (with_reducible assumption) | assumption)
              have hx11 := bt_at (rdOf ByteArray.empty t142 x6_1) x7_2
              replace p11 := eq_true p11
              replace q11 := eq_true q11
              go_wp2_with (first | ((with_reducible refine gate_callee (f := 32) rfl ?_); refine goesL_ (some 33) rfl rfl Tryd.func32 (by kernel_rfl) rfl #[.int .u8 (bt (rdOf ByteArray.empty t142 x6_1) x7_2)] rfl (by (try simp only [List.map_toArray, List.map_cons, List.map_nil]); first | done | rfl | (simp only [List.length_drop, List.length_take]; rfl)) ?_; (with_reducible refine (spec_verDigit.calls (bt (rdOf ByteArray.empty t142 x6_1) x7_2) false _ A12.out).mono ?_); rintro e w' ⟨rfl, ⟨nd, rfl⟩⟩; refine ⟨_, rfl, ?_⟩))
              go_ret
              exact ⟨by first | rfl | (simp [errW_none, errW_some] <;> rfl) | (simp [*, errW_none, errW_some] <;> rfl) | (exfalso; contradiction), by repeat (first | (with_reducible first | exact HB.out | apply bB_ | apply wN_ | apply bE_) | exact HB.out)⟩
             ·
              rw [if_neg c16] at H
              have c16b0 : decide ((bt (rdOf ByteArray.empty t142 x6_1) x7_2) < 65) = false := decide_eq_false c16
              clear c16
              by_cases c17 : (bt (rdOf ByteArray.empty t142 x6_1) x7_2) > 90
              ·
               rw [if_pos c17] at H
               have c17b0 : decide (90 < (bt (rdOf ByteArray.empty t142 x6_1) x7_2)) = true := decide_eq_true c17
               clear c17
               obtain rfl := Option.some.inj H
               have p145 : 0 ≤ (x6_1 : Int) := of_decide_eq_true (by first | (with_reducible assumption) | assumption)
               have q145 : x6_1 < (t142.length : Int) := of_decide_eq_true (by first | (with_reducible assumption) | assumption)
               obtain ⟨ad145, e145, hx145_0⟩ := Kd.at_string (Kd.R_reads' HO_5.out).2.2 x6_1 p145 q145
               cases e145
               replace p145 := eq_true p145
               replace q145 := eq_true q145
               have p146 : 0 ≤ (x6_1 : Int) := of_decide_eq_true (by first | (with_reducible assumption) | assumption)
               have q146 : x6_1 < (t142.length : Int) := of_decide_eq_true (by first | (with_reducible assumption) | assumption)
               obtain ⟨ad146, e146, hx146_0⟩ := Kd.at_string (Kd.R_reads' HO_5.out).2.2 x6_1 p146 q146
               obtain rfl : ad145 = ad146 := (by injection e146)
               replace p146 := eq_true p146
               replace q146 := eq_true q146
               have p11 : 0 ≤ (x7_2 : Int) := of_decide_eq_true (by first | (with_reducible assumption) | assumption)
               have q11 : x7_2 < ((rdOf ByteArray.empty t142 x6_1).size : Int) := of_decide_eq_true (by first | (with_reducible assumption) | assumption)
               have hx11 := bt_at (rdOf ByteArray.empty t142 x6_1) x7_2
               replace p11 := eq_true p11
               replace q11 := eq_true q11
               go_wp2_with (first | ((with_reducible refine gate_callee (f := 32) rfl ?_); refine goesL_ (some 33) rfl rfl Tryd.func32 (by kernel_rfl) rfl #[.int .u8 (bt (rdOf ByteArray.empty t142 x6_1) x7_2)] rfl (by (try simp only [List.map_toArray, List.map_cons, List.map_nil]); first | done | rfl | (simp only [List.length_drop, List.length_take]; rfl)) ?_; (with_reducible refine (spec_verDigit.calls (bt (rdOf ByteArray.empty t142 x6_1) x7_2) false _ A12.out).mono ?_); rintro e w' ⟨rfl, ⟨nd, rfl⟩⟩; refine ⟨_, rfl, ?_⟩))
               go_ret
               exact ⟨by first | rfl | (simp [errW_none, errW_some] <;> rfl) | (simp [*, errW_none, errW_some] <;> rfl) | (exfalso; contradiction), by repeat (first | (with_reducible first | exact HB.out | apply bB_ | apply wN_ | apply bE_) | exact HB.out)⟩
              ·
               rw [if_neg c17] at H
               have c17b0 : decide (90 < (bt (rdOf ByteArray.empty t142 x6_1) x7_2)) = false := decide_eq_false c17
               clear c17
               have H' := aM_ H
               clear H
               have p145 : 0 ≤ (x6_1 : Int) := of_decide_eq_true (by first | (with_reducible assumption) | assumption)
               have q145 : x6_1 < (t142.length : Int) := of_decide_eq_true (by first | (with_reducible assumption) | assumption)
               obtain ⟨ad145, e145, hx145_0⟩ := Kd.at_string (Kd.R_reads' HO_5.out).2.2 x6_1 p145 q145
               cases e145
               replace p145 := eq_true p145
               replace q145 := eq_true q145
               have p146 : 0 ≤ (x6_1 : Int) := of_decide_eq_true (by first | (with_reducible assumption) | assumption)
               have q146 : x6_1 < (t142.length : Int) := of_decide_eq_true (by first | (with_reducible assumption) | assumption)
               obtain ⟨ad146, e146, hx146_0⟩ := Kd.at_string (Kd.R_reads' HO_5.out).2.2 x6_1 p146 q146
               obtain rfl : ad145 = ad146 := (by injection e146)
               replace p146 := eq_true p146
               replace q146 := eq_true q146
               have p11 : 0 ≤ (x7_2 : Int) := of_decide_eq_true (by first | (with_reducible assumption) | assumption)
               have q11 : x7_2 < ((rdOf ByteArray.empty t142 x6_1).size : Int) := of_decide_eq_true (by first | (with_reducible assumption) | assumption)
               have hx11 := bt_at (rdOf ByteArray.empty t142 x6_1) x7_2
               replace p11 := eq_true p11
               replace q11 := eq_true q11
               go_wp2_with (first | ((with_reducible refine gate_callee (f := 32) rfl ?_); refine goesL_ (some 33) rfl rfl Tryd.func32 (by kernel_rfl) rfl #[.int .u8 (bt (rdOf ByteArray.empty t142 x6_1) x7_2)] rfl (by (try simp only [List.map_toArray, List.map_cons, List.map_nil]); first | done | rfl | (simp only [List.length_drop, List.length_take]; rfl)) ?_; (with_reducible refine (spec_verDigit.calls (bt (rdOf ByteArray.empty t142 x6_1) x7_2) false _ A12.out).mono ?_); rintro e w' ⟨rfl, ⟨nd, rfl⟩⟩; refine ⟨_, rfl, ?_⟩))
               go_roundg k2
               case measure => have := HK1.out; have := HK2.out; omega
               case rel => exact ⟨(wrap64 (x7_2 + 1)), (by first | rfl | (simp; done) | (simp [*]; done)), H', ⟨by have := HK1.out; have := HK2.out; omega⟩, ⟨by (with_reducible repeat (first | apply kA_ | apply kN_ | apply kD_)); exact HO_5.out⟩, ⟨by repeat (first | (with_reducible first | exact HB.out | apply bB_ | apply wN_ | apply bE_) | exact HB.out)⟩⟩
            ·
             rw [if_neg c15] at H
             have c15b0 : decide ((bt (rdOf ByteArray.empty t142 x6_1) x7_2) < 97) = false := decide_eq_false c15
             clear c15
             by_cases c18 : (bt (rdOf ByteArray.empty t142 x6_1) x7_2) > 122
             ·
              rw [if_pos c18] at H
              have c18b0 : decide (122 < (bt (rdOf ByteArray.empty t142 x6_1) x7_2)) = true := decide_eq_true c18
              clear c18
              by_cases c19 : (bt (rdOf ByteArray.empty t142 x6_1) x7_2) < 65
              ·
               rw [if_pos c19] at H
               have c19b0 : decide ((bt (rdOf ByteArray.empty t142 x6_1) x7_2) < 65) = true := decide_eq_true c19
               clear c19
               obtain rfl := Option.some.inj H
               have p145 : 0 ≤ (x6_1 : Int) := of_decide_eq_true (by first | (with_reducible assumption) | assumption)
               have q145 : x6_1 < (t142.length : Int) := of_decide_eq_true (by first | (with_reducible assumption) | assumption)
               obtain ⟨ad145, e145, hx145_0⟩ := Kd.at_string (Kd.R_reads' HO_5.out).2.2 x6_1 p145 q145
               cases e145
               replace p145 := eq_true p145
               replace q145 := eq_true q145
               have p146 : 0 ≤ (x6_1 : Int) := of_decide_eq_true (by first | (with_reducible assumption) | assumption)
               have q146 : x6_1 < (t142.length : Int) := of_decide_eq_true (by first | (with_reducible assumption) | assumption)
               obtain ⟨ad146, e146, hx146_0⟩ := Kd.at_string (Kd.R_reads' HO_5.out).2.2 x6_1 p146 q146
               obtain rfl : ad145 = ad146 := (by injection e146)
               replace p146 := eq_true p146
               replace q146 := eq_true q146
               have p11 : 0 ≤ (x7_2 : Int) := of_decide_eq_true (by first | (with_reducible assumption) | assumption)
               have q11 : x7_2 < ((rdOf ByteArray.empty t142 x6_1).size : Int) := of_decide_eq_true (by first | (with_reducible assumption) | assumption)
               have hx11 := bt_at (rdOf ByteArray.empty t142 x6_1) x7_2
               replace p11 := eq_true p11
               replace q11 := eq_true q11
               go_wp2_with (first | ((with_reducible refine gate_callee (f := 32) rfl ?_); refine goesL_ (some 33) rfl rfl Tryd.func32 (by kernel_rfl) rfl #[.int .u8 (bt (rdOf ByteArray.empty t142 x6_1) x7_2)] rfl (by (try simp only [List.map_toArray, List.map_cons, List.map_nil]); first | done | rfl | (simp only [List.length_drop, List.length_take]; rfl)) ?_; (with_reducible refine (spec_verDigit.calls (bt (rdOf ByteArray.empty t142 x6_1) x7_2) false _ A12.out).mono ?_); rintro e w' ⟨rfl, ⟨nd, rfl⟩⟩; refine ⟨_, rfl, ?_⟩))
               go_ret
               exact ⟨by first | rfl | (simp [errW_none, errW_some] <;> rfl) | (simp [*, errW_none, errW_some] <;> rfl) | (exfalso; contradiction), by repeat (first | (with_reducible first | exact HB.out | apply bB_ | apply wN_ | apply bE_) | exact HB.out)⟩
              ·
               rw [if_neg c19] at H
               have c19b0 : decide ((bt (rdOf ByteArray.empty t142 x6_1) x7_2) < 65) = false := decide_eq_false c19
               clear c19
               by_cases c20 : (bt (rdOf ByteArray.empty t142 x6_1) x7_2) > 90
               ·
                rw [if_pos c20] at H
                have c20b0 : decide (90 < (bt (rdOf ByteArray.empty t142 x6_1) x7_2)) = true := decide_eq_true c20
                clear c20
                obtain rfl := Option.some.inj H
                have p145 : 0 ≤ (x6_1 : Int) := of_decide_eq_true (by first | (with_reducible assumption) | assumption)
                have q145 : x6_1 < (t142.length : Int) := of_decide_eq_true (by first | (with_reducible assumption) | assumption)
                obtain ⟨ad145, e145, hx145_0⟩ := Kd.at_string (Kd.R_reads' HO_5.out).2.2 x6_1 p145 q145
                cases e145
                replace p145 := eq_true p145
                replace q145 := eq_true q145
                have p146 : 0 ≤ (x6_1 : Int) := of_decide_eq_true (by first | (with_reducible assumption) | assumption)
                have q146 : x6_1 < (t142.length : Int) := of_decide_eq_true (by first | (with_reducible assumption) | assumption)
                obtain ⟨ad146, e146, hx146_0⟩ := Kd.at_string (Kd.R_reads' HO_5.out).2.2 x6_1 p146 q146
                obtain rfl : ad145 = ad146 := (by injection e146)
                replace p146 := eq_true p146
                replace q146 := eq_true q146
                have p11 : 0 ≤ (x7_2 : Int) := of_decide_eq_true (by first | (with_reducible assumption) | assumption)
                have q11 : x7_2 < ((rdOf ByteArray.empty t142 x6_1).size : Int) := of_decide_eq_true (by first | (with_reducible assumption) | assumption)
                have hx11 := bt_at (rdOf ByteArray.empty t142 x6_1) x7_2
                replace p11 := eq_true p11
                replace q11 := eq_true q11
                go_wp2_with (first | ((with_reducible refine gate_callee (f := 32) rfl ?_); refine goesL_ (some 33) rfl rfl Tryd.func32 (by kernel_rfl) rfl #[.int .u8 (bt (rdOf ByteArray.empty t142 x6_1) x7_2)] rfl (by (try simp only [List.map_toArray, List.map_cons, List.map_nil]); first | done | rfl | (simp only [List.length_drop, List.length_take]; rfl)) ?_; (with_reducible refine (spec_verDigit.calls (bt (rdOf ByteArray.empty t142 x6_1) x7_2) false _ A12.out).mono ?_); rintro e w' ⟨rfl, ⟨nd, rfl⟩⟩; refine ⟨_, rfl, ?_⟩))
                go_ret
                exact ⟨by first | rfl | (simp [errW_none, errW_some] <;> rfl) | (simp [*, errW_none, errW_some] <;> rfl) | (exfalso; contradiction), by repeat (first | (with_reducible first | exact HB.out | apply bB_ | apply wN_ | apply bE_) | exact HB.out)⟩
               ·
                rw [if_neg c20] at H
                have c20b0 : decide (90 < (bt (rdOf ByteArray.empty t142 x6_1) x7_2)) = false := decide_eq_false c20
                clear c20
                have H' := aM_ H
                clear H
                have p145 : 0 ≤ (x6_1 : Int) := of_decide_eq_true (by first | (with_reducible assumption) | assumption)
                have q145 : x6_1 < (t142.length : Int) := of_decide_eq_true (by first | (with_reducible assumption) | assumption)
                obtain ⟨ad145, e145, hx145_0⟩ := Kd.at_string (Kd.R_reads' HO_5.out).2.2 x6_1 p145 q145
                cases e145
                replace p145 := eq_true p145
                replace q145 := eq_true q145
                have p146 : 0 ≤ (x6_1 : Int) := of_decide_eq_true (by first | (with_reducible assumption) | assumption)
                have q146 : x6_1 < (t142.length : Int) := of_decide_eq_true (by first | (with_reducible assumption) | assumption)
                obtain ⟨ad146, e146, hx146_0⟩ := Kd.at_string (Kd.R_reads' HO_5.out).2.2 x6_1 p146 q146
                obtain rfl : ad145 = ad146 := (by injection e146)
                replace p146 := eq_true p146
                replace q146 := eq_true q146
                have p11 : 0 ≤ (x7_2 : Int) := of_decide_eq_true (by first | (with_reducible assumption) | assumption)
                have q11 : x7_2 < ((rdOf ByteArray.empty t142 x6_1).size : Int) := of_decide_eq_true (by first | (with_reducible assumption) | assumption)
                have hx11 := bt_at (rdOf ByteArray.empty t142 x6_1) x7_2
                replace p11 := eq_true p11
                replace q11 := eq_true q11
                go_wp2_with (first | ((with_reducible refine gate_callee (f := 32) rfl ?_); refine goesL_ (some 33) rfl rfl Tryd.func32 (by kernel_rfl) rfl #[.int .u8 (bt (rdOf ByteArray.empty t142 x6_1) x7_2)] rfl (by (try simp only [List.map_toArray, List.map_cons, List.map_nil]); first | done | rfl | (simp only [List.length_drop, List.length_take]; rfl)) ?_; (with_reducible refine (spec_verDigit.calls (bt (rdOf ByteArray.empty t142 x6_1) x7_2) false _ A12.out).mono ?_); rintro e w' ⟨rfl, ⟨nd, rfl⟩⟩; refine ⟨_, rfl, ?_⟩))
                go_roundg k2
                case measure => have := HK1.out; have := HK2.out; omega
                case rel => exact ⟨(wrap64 (x7_2 + 1)), (by first | rfl | (simp; done) | (simp [*]; done)), H', ⟨by have := HK1.out; have := HK2.out; omega⟩, ⟨by (with_reducible repeat (first | apply kA_ | apply kN_ | apply kD_)); exact HO_5.out⟩, ⟨by repeat (first | (with_reducible first | exact HB.out | apply bB_ | apply wN_ | apply bE_) | exact HB.out)⟩⟩
             ·
              rw [if_neg c18] at H
              have c18b0 : decide (122 < (bt (rdOf ByteArray.empty t142 x6_1) x7_2)) = false := decide_eq_false c18
              clear c18
              have H' := aM_ H
              clear H
              have p145 : 0 ≤ (x6_1 : Int) := of_decide_eq_true (by first | (with_reducible assumption) | assumption)
              have q145 : x6_1 < (t142.length : Int) := of_decide_eq_true (by first | (with_reducible assumption) | assumption)
              obtain ⟨ad145, e145, hx145_0⟩ := Kd.at_string (Kd.R_reads' HO_5.out).2.2 x6_1 p145 q145
              cases e145
              replace p145 := eq_true p145
              replace q145 := eq_true q145
              have p146 : 0 ≤ (x6_1 : Int) := of_decide_eq_true (by first | (with_reducible assumption) | assumption)
              have q146 : x6_1 < (t142.length : Int) := of_decide_eq_true (by first | (with_reducible assumption) | assumption)
              obtain ⟨ad146, e146, hx146_0⟩ := Kd.at_string (Kd.R_reads' HO_5.out).2.2 x6_1 p146 q146
              obtain rfl : ad145 = ad146 := (by injection e146)
              replace p146 := eq_true p146
              replace q146 := eq_true q146
              have p11 : 0 ≤ (x7_2 : Int) := of_decide_eq_true (by first | (with_reducible assumption) | assumption)
              have q11 : x7_2 < ((rdOf ByteArray.empty t142 x6_1).size : Int) := of_decide_eq_true (by first | (with_reducible assumption) | assumption)
              have hx11 := bt_at (rdOf ByteArray.empty t142 x6_1) x7_2
              replace p11 := eq_true p11
              replace q11 := eq_true q11
              go_wp2_with (first | ((with_reducible refine gate_callee (f := 32) rfl ?_); refine goesL_ (some 33) rfl rfl Tryd.func32 (by kernel_rfl) rfl #[.int .u8 (bt (rdOf ByteArray.empty t142 x6_1) x7_2)] rfl (by (try simp only [List.map_toArray, List.map_cons, List.map_nil]); first | done | rfl | (simp only [List.length_drop, List.length_take]; rfl)) ?_; (with_reducible refine (spec_verDigit.calls (bt (rdOf ByteArray.empty t142 x6_1) x7_2) false _ A12.out).mono ?_); rintro e w' ⟨rfl, ⟨nd, rfl⟩⟩; refine ⟨_, rfl, ?_⟩))
              go_roundg k2
              case measure => have := HK1.out; have := HK2.out; omega
              case rel => exact ⟨(wrap64 (x7_2 + 1)), (by first | rfl | (simp; done) | (simp [*]; done)), H', ⟨by have := HK1.out; have := HK2.out; omega⟩, ⟨by (with_reducible repeat (first | apply kA_ | apply kN_ | apply kD_)); exact HO_5.out⟩, ⟨by repeat (first | (with_reducible first | exact HB.out | apply bB_ | apply wN_ | apply bE_) | exact HB.out)⟩⟩
         ·
          rw [if_neg c10] at H
          exact absurd H (by simp)
        ·
         rw [if_neg c9] at H
         have c9b0 : decide (x7_2 < ((rdOf ByteArray.empty t142 x6_1).size : Int)) = false := decide_eq_false c9
         clear c9
         by_cases c21 : (rdOf ByteArray.empty t142 x6_1).toList = ([] : List UInt8)
         ·
          rw [if_pos c21] at H
          have c21b0 : ((rdOf ByteArray.empty t142 x6_1).toList == ([] : List UInt8)) = true := beq_iff_eq.mpr c21
          have c21b1 : ((rdOf ByteArray.empty t142 x6_1).toList != ([] : List UInt8)) = false := bne_eq_false_iff_eq.mpr c21
          clear c21
          obtain rfl := Option.some.inj H
          have p145 : 0 ≤ (x6_1 : Int) := of_decide_eq_true (by first | (with_reducible assumption) | assumption)
          have q145 : x6_1 < (t142.length : Int) := of_decide_eq_true (by first | (with_reducible assumption) | assumption)
          obtain ⟨ad145, e145, hx145_0⟩ := Kd.at_string (Kd.R_reads' HO_5.out).2.2 x6_1 p145 q145
          cases e145
          replace p145 := eq_true p145
          replace q145 := eq_true q145
          have p148 : 0 ≤ (x6_1 : Int) := of_decide_eq_true (by first | (with_reducible assumption) | assumption)
          have q148 : x6_1 < (t142.length : Int) := of_decide_eq_true (by first | (with_reducible assumption) | assumption)
          obtain ⟨ad148, e148, hx148_0⟩ := Kd.at_string (Kd.R_reads' HO_5.out).2.2 x6_1 p148 q148
          obtain rfl : ad145 = ad148 := (by injection e148)
          replace p148 := eq_true p148
          replace q148 := eq_true q148
          go_wp2
          go_ret
          exact ⟨by first | rfl | (simp [errW_none, errW_some] <;> rfl) | (simp [*, errW_none, errW_some] <;> rfl) | (exfalso; contradiction), by repeat (first | (with_reducible first | exact HB.out | apply bB_ | apply wN_ | apply bE_) | exact HB.out)⟩
         ·
          rw [if_neg c21] at H
          have c21b0 : ((rdOf ByteArray.empty t142 x6_1).toList == ([] : List UInt8)) = false := beq_eq_false_iff_ne.mpr c21
          have c21b1 : ((rdOf ByteArray.empty t142 x6_1).toList != ([] : List UInt8)) = true := bne_iff_ne.mpr c21
          by_cases c22 : a1 = true
          ·
           subst c22
           have H1 : ((spec_VerNumeric.f k2 (rdOf ByteArray.empty t142 x6_1)).bind fun t150 => (if t150 = true then ((spec_VerPlainly.f (rdOf ByteArray.empty t142 x6_1)).bind fun t152 => (if t152 = true then (spec_VerIdentifiers.l0 k2 true t142 (wrap64 (x6_1 + 1))) else (some false))) else (spec_VerIdentifiers.l0 k2 true t142 (wrap64 (x6_1 + 1))))) = some r := by rw [if_pos rfl] at H; exact H
           clear H
           have H := H1
           clear H1
           replace H := Option.bind_eq_some_iff.mp H
           obtain ⟨t150, A230, H⟩ := H
           replace H : (if t150 = true then ((spec_VerPlainly.f (rdOf ByteArray.empty t142 x6_1)).bind fun t152 => (if t152 = true then (spec_VerIdentifiers.l0 k2 true t142 (wrap64 (x6_1 + 1))) else (some false))) else (spec_VerIdentifiers.l0 k2 true t142 (wrap64 (x6_1 + 1)))) = some r := H
           have A23 := aM_ A230
           clear A230
           by_cases c24 : t150 = true
           ·
            subst c24
            have H1 : ((spec_VerPlainly.f (rdOf ByteArray.empty t142 x6_1)).bind fun t152 => (if t152 = true then (spec_VerIdentifiers.l0 k2 true t142 (wrap64 (x6_1 + 1))) else (some false))) = some r := by rw [if_pos rfl] at H; exact H
            clear H
            have H := H1
            clear H1
            replace H := Option.bind_eq_some_iff.mp H
            obtain ⟨t152, A250, H⟩ := H
            replace H : (if t152 = true then (spec_VerIdentifiers.l0 k2 true t142 (wrap64 (x6_1 + 1))) else (some false)) = some r := H
            have A25 := aM_ A250
            clear A250
            by_cases c26 : t152 = true
            ·
             subst c26
             have H1 : (spec_VerIdentifiers.l0 k2 true t142 (wrap64 (x6_1 + 1))) = some r := by rw [if_pos rfl] at H; exact H
             clear H
             have H := H1
             clear H1
             have H' := aM_ H
             clear H
             have p145 : 0 ≤ (x6_1 : Int) := of_decide_eq_true (by first | (with_reducible assumption) | assumption)
             have q145 : x6_1 < (t142.length : Int) := of_decide_eq_true (by first | (with_reducible assumption) | assumption)
             obtain ⟨ad145, e145, hx145_0⟩ := Kd.at_string (Kd.R_reads' HO_5.out).2.2 x6_1 p145 q145
             cases e145
             replace p145 := eq_true p145
             replace q145 := eq_true q145
             have p148 : 0 ≤ (x6_1 : Int) := of_decide_eq_true (by first | (with_reducible assumption) | assumption)
             have q148 : x6_1 < (t142.length : Int) := of_decide_eq_true (by first | (with_reducible assumption) | assumption)
             obtain ⟨ad148, e148, hx148_0⟩ := Kd.at_string (Kd.R_reads' HO_5.out).2.2 x6_1 p148 q148
             obtain rfl : ad145 = ad148 := (by injection e148)
             replace p148 := eq_true p148
             replace q148 := eq_true q148
             have p149 : 0 ≤ (x6_1 : Int) := of_decide_eq_true (by first | (with_reducible assumption) | assumption)
             have q149 : x6_1 < (t142.length : Int) := of_decide_eq_true (by first | (with_reducible assumption) | assumption)
             obtain ⟨ad149, e149, hx149_0⟩ := Kd.at_string (Kd.R_reads' HO_5.out).2.2 x6_1 p149 q149
             obtain rfl : ad145 = ad149 := (by injection e149)
             replace p149 := eq_true p149
             replace q149 := eq_true q149
             go_wp2_with (first | (go_at_call 33; (with_reducible refine (spec_VerNumeric.calls k2 (rdOf ByteArray.empty t142 x6_1) true _ A23.out).mono ?_); rintro e w' ⟨rfl, ⟨nd, rfl⟩⟩; have p151 : 0 ≤ (x6_1 : Int) := of_decide_eq_true (by first | (with_reducible assumption) | assumption); have q151 : x6_1 < (t142.length : Int) := of_decide_eq_true (by first | (with_reducible assumption) | assumption); obtain ⟨ad151, e151, hx151_0⟩ := Kd.at_string (Kd.R_reads' HO_5.out).2.2 x6_1 p151 q151; obtain rfl : ad145 = ad151 := (by injection e151); replace p151 := eq_true p151; replace q151 := eq_true q151) | (go_at_call 34; (with_reducible refine (spec_VerPlainly.calls (rdOf ByteArray.empty t142 x6_1) true _ A25.out).mono ?_); rintro e w' ⟨rfl, ⟨nd, rfl⟩⟩))
             go_roundg k2
             case measure => have := HK1.out; have := HK2.out; omega
             case rel => exact ⟨(wrap64 (x6_1 + 1)), (by first | rfl | (simp; done) | (simp [*]; done)), H', ⟨by have := HK1.out; have := HK2.out; omega⟩, ⟨by (with_reducible repeat (first | apply kA_ | apply kN_ | apply kD_)); exact HO_5.out⟩, ⟨by repeat (first | (with_reducible first | exact HB.out | apply bB_ | apply wN_ | apply bE_) | exact HB.out)⟩⟩
            ·
             replace c26 := Bool.eq_false_iff.mpr c26
             subst c26
             have H1 : (some false) = some r := by rw [if_neg (show ¬ (false = true) by decide)] at H; exact H
             clear H
             have H := H1
             clear H1
             obtain rfl := Option.some.inj H
             have p145 : 0 ≤ (x6_1 : Int) := of_decide_eq_true (by first | (with_reducible assumption) | assumption)
             have q145 : x6_1 < (t142.length : Int) := of_decide_eq_true (by first | (with_reducible assumption) | assumption)
             obtain ⟨ad145, e145, hx145_0⟩ := Kd.at_string (Kd.R_reads' HO_5.out).2.2 x6_1 p145 q145
             cases e145
             replace p145 := eq_true p145
             replace q145 := eq_true q145
             have p148 : 0 ≤ (x6_1 : Int) := of_decide_eq_true (by first | (with_reducible assumption) | assumption)
             have q148 : x6_1 < (t142.length : Int) := of_decide_eq_true (by first | (with_reducible assumption) | assumption)
             obtain ⟨ad148, e148, hx148_0⟩ := Kd.at_string (Kd.R_reads' HO_5.out).2.2 x6_1 p148 q148
             obtain rfl : ad145 = ad148 := (by injection e148)
             replace p148 := eq_true p148
             replace q148 := eq_true q148
             have p149 : 0 ≤ (x6_1 : Int) := of_decide_eq_true (by first | (with_reducible assumption) | assumption)
             have q149 : x6_1 < (t142.length : Int) := of_decide_eq_true (by first | (with_reducible assumption) | assumption)
             obtain ⟨ad149, e149, hx149_0⟩ := Kd.at_string (Kd.R_reads' HO_5.out).2.2 x6_1 p149 q149
             obtain rfl : ad145 = ad149 := (by injection e149)
             replace p149 := eq_true p149
             replace q149 := eq_true q149
             go_wp2_with (first | (go_at_call 33; (with_reducible refine (spec_VerNumeric.calls k2 (rdOf ByteArray.empty t142 x6_1) true _ A23.out).mono ?_); rintro e w' ⟨rfl, ⟨nd, rfl⟩⟩; have p151 : 0 ≤ (x6_1 : Int) := of_decide_eq_true (by first | (with_reducible assumption) | assumption); have q151 : x6_1 < (t142.length : Int) := of_decide_eq_true (by first | (with_reducible assumption) | assumption); obtain ⟨ad151, e151, hx151_0⟩ := Kd.at_string (Kd.R_reads' HO_5.out).2.2 x6_1 p151 q151; obtain rfl : ad145 = ad151 := (by injection e151); replace p151 := eq_true p151; replace q151 := eq_true q151) | (go_at_call 34; (with_reducible refine (spec_VerPlainly.calls (rdOf ByteArray.empty t142 x6_1) false _ A25.out).mono ?_); rintro e w' ⟨rfl, ⟨nd, rfl⟩⟩))
             go_ret
             exact ⟨by first | rfl | (simp [errW_none, errW_some] <;> rfl) | (simp [*, errW_none, errW_some] <;> rfl) | (exfalso; contradiction), by repeat (first | (with_reducible first | exact HB.out | apply bB_ | apply wN_ | apply bE_) | exact HB.out)⟩
           ·
            replace c24 := Bool.eq_false_iff.mpr c24
            subst c24
            have H1 : (spec_VerIdentifiers.l0 k2 true t142 (wrap64 (x6_1 + 1))) = some r := by rw [if_neg (show ¬ (false = true) by decide)] at H; exact H
            clear H
            have H := H1
            clear H1
            have H' := aM_ H
            clear H
            have p145 : 0 ≤ (x6_1 : Int) := of_decide_eq_true (by first | (with_reducible assumption) | assumption)
            have q145 : x6_1 < (t142.length : Int) := of_decide_eq_true (by first | (with_reducible assumption) | assumption)
            obtain ⟨ad145, e145, hx145_0⟩ := Kd.at_string (Kd.R_reads' HO_5.out).2.2 x6_1 p145 q145
            cases e145
            replace p145 := eq_true p145
            replace q145 := eq_true q145
            have p148 : 0 ≤ (x6_1 : Int) := of_decide_eq_true (by first | (with_reducible assumption) | assumption)
            have q148 : x6_1 < (t142.length : Int) := of_decide_eq_true (by first | (with_reducible assumption) | assumption)
            obtain ⟨ad148, e148, hx148_0⟩ := Kd.at_string (Kd.R_reads' HO_5.out).2.2 x6_1 p148 q148
            obtain rfl : ad145 = ad148 := (by injection e148)
            replace p148 := eq_true p148
            replace q148 := eq_true q148
            have p149 : 0 ≤ (x6_1 : Int) := of_decide_eq_true (by first | (with_reducible assumption) | assumption)
            have q149 : x6_1 < (t142.length : Int) := of_decide_eq_true (by first | (with_reducible assumption) | assumption)
            obtain ⟨ad149, e149, hx149_0⟩ := Kd.at_string (Kd.R_reads' HO_5.out).2.2 x6_1 p149 q149
            obtain rfl : ad145 = ad149 := (by injection e149)
            replace p149 := eq_true p149
            replace q149 := eq_true q149
            go_wp2_with (first | (go_at_call 33; (with_reducible refine (spec_VerNumeric.calls k2 (rdOf ByteArray.empty t142 x6_1) false _ A23.out).mono ?_); rintro e w' ⟨rfl, ⟨nd, rfl⟩⟩))
            go_roundg k2
            case measure => have := HK1.out; have := HK2.out; omega
            case rel => exact ⟨(wrap64 (x6_1 + 1)), (by first | rfl | (simp; done) | (simp [*]; done)), H', ⟨by have := HK1.out; have := HK2.out; omega⟩, ⟨by (with_reducible repeat (first | apply kA_ | apply kN_ | apply kD_)); exact HO_5.out⟩, ⟨by repeat (first | (with_reducible first | exact HB.out | apply bB_ | apply wN_ | apply bE_) | exact HB.out)⟩⟩
          ·
           replace c22 := Bool.eq_false_iff.mpr c22
           subst c22
           have H1 : (spec_VerIdentifiers.l0 k2 false t142 (wrap64 (x6_1 + 1))) = some r := by rw [if_neg (show ¬ (false = true) by decide)] at H; exact H
           clear H
           have H := H1
           clear H1
           have H' := aM_ H
           clear H
           have p145 : 0 ≤ (x6_1 : Int) := of_decide_eq_true (by first | (with_reducible assumption) | assumption)
           have q145 : x6_1 < (t142.length : Int) := of_decide_eq_true (by first | (with_reducible assumption) | assumption)
           obtain ⟨ad145, e145, hx145_0⟩ := Kd.at_string (Kd.R_reads' HO_5.out).2.2 x6_1 p145 q145
           cases e145
           replace p145 := eq_true p145
           replace q145 := eq_true q145
           have p148 : 0 ≤ (x6_1 : Int) := of_decide_eq_true (by first | (with_reducible assumption) | assumption)
           have q148 : x6_1 < (t142.length : Int) := of_decide_eq_true (by first | (with_reducible assumption) | assumption)
           obtain ⟨ad148, e148, hx148_0⟩ := Kd.at_string (Kd.R_reads' HO_5.out).2.2 x6_1 p148 q148
           obtain rfl : ad145 = ad148 := (by injection e148)
           replace p148 := eq_true p148
           replace q148 := eq_true q148
           go_wp2
           go_roundg k2
           case measure => have := HK1.out; have := HK2.out; omega
           case rel => exact ⟨(wrap64 (x6_1 + 1)), (by first | rfl | (simp; done) | (simp [*]; done)), H', ⟨by have := HK1.out; have := HK2.out; omega⟩, ⟨by (with_reducible repeat (first | apply kA_ | apply kN_ | apply kD_)); exact HO_5.out⟩, ⟨by repeat (first | (with_reducible first | exact HB.out | apply bB_ | apply wN_ | apply bE_) | exact HB.out)⟩⟩
       ·
        rw [if_neg c8] at H
        exact absurd H (by simp)
      ·
       rw [if_neg c7] at H
       exact absurd H (by simp)
   ·
    rw [if_neg c5] at H
    have c5b0 : decide (x6_1 < (t142.length : Int)) = false := decide_eq_false c5
    clear c5
    obtain rfl := Option.some.inj H
    obtain ⟨Ao27, co27, eo27⟩ := Kd.R_slice HO_5.out
    subst eo27
    go_wp2
    go_ret
    exact ⟨by first | rfl | (simp [errW_none, errW_some] <;> rfl) | (simp [*, errW_none, errW_some] <;> rfl) | (exfalso; contradiction), by repeat (first | (with_reducible first | exact HB.out | apply bB_ | apply wN_ | apply bE_) | exact HB.out)⟩

/-! ### spec_VerUint: function 71 -/
def spec_VerUint.l0 : Nat → ByteArray → Int → Int → Option (Int × Bool)
 | 0, _, _, _ => none
 | k + 1, x0, x4, x5 => if x5 < (x0.size : Int) then (if 0 ≤ x5 then ((spec_verDigit.f (bt x0 x5)).bind fun t153 => (if t153 = true then (if x4 > ((18446744073709551615 - (((bt x0 x5) - 48) % 256)) / 10) then (some (0, false)) else (spec_VerUint.l0 k x0 (IntKind.u64.wrap ((IntKind.u64.wrap (10 * x4)) + (((bt x0 x5) - 48) % 256))) (wrap64 (x5 + 1)))) else (some (0, false)))) else (none)) else (some (x4, (x0.toList != ([] : List UInt8))))
def spec_VerUint.f (k : Nat) (a0 : ByteArray) : Option (Int × Bool) := spec_VerUint.l0 k a0 0 0
set_option maxHeartbeats 8000000 in
set_option maxRecDepth 100000 in
theorem spec_VerUint.calls (k : Nat) (a0 : ByteArray) (r1 : Int) (r2 : Bool) (w : World) (h : spec_VerUint.f k a0 = some (r1, r2)) :
  Calls Tryd.prog 71 #[.string a0] w fun e w' => e = .returned (.tuple #[.int .u64 r1, .bool r2]) ∧ Drawn0 w w' := by
 have H : (spec_VerUint.l0 k a0 0 0) = some (r1, r2) := h
 clear h
 have H' := aM_ H
 clear H
 go_enter Tryd.func71, Tryd.ntmps71
 go_wp2
 go_loopg [4, 5] k (fun kq v4 v5 w' => ∃ (x4_1 : Int) (x5_1 : Int), v4 = .int .u64 x4_1 ∧ v5 = .int .i64 x5_1 ∧ Aside0 (spec_VerUint.l0 kq a0 x4_1 x5_1 = some (r1, r2)) ∧ Aside0 (kq ≤ k) ∧ Drawn0 w w')
 case atStart => exact ⟨(0), (0), (by first | rfl | (simp; done) | (simp [*]; done)), (by first | rfl | (simp; done) | (simp [*]; done)), H', ⟨Nat.le_refl _⟩, by repeat (first | exact Drawn0.refl _ | apply Drawn0.step)⟩
 case round =>
  clear H'
  obtain ⟨x4_1, x5_1, rfl, rfl, HA, HK1, ⟨m1, rfl⟩⟩ := hrel
  cases gk with
  | zero => exact absurd HA.out (by simp [spec_VerUint.l0])
  | succ k1 =>
   have H := HA.out
   clear HA
   simp only [spec_VerUint.l0] at H
   by_cases c2 : x5_1 < (a0.size : Int)
   ·
    rw [if_pos c2] at H
    have c2b0 : decide (x5_1 < (a0.size : Int)) = true := decide_eq_true c2
    clear c2
    by_cases c3 : 0 ≤ x5_1
    ·
     rw [if_pos c3] at H
     have c3b0 : decide (0 ≤ x5_1) = true := decide_eq_true c3
     clear c3
     replace H := Option.bind_eq_some_iff.mp H
     obtain ⟨t153, A50, H⟩ := H
     replace H : (if t153 = true then (if x4_1 > ((18446744073709551615 - (((bt a0 x5_1) - 48) % 256)) / 10) then (some (0, false)) else (spec_VerUint.l0 k1 a0 (IntKind.u64.wrap ((IntKind.u64.wrap (10 * x4_1)) + (((bt a0 x5_1) - 48) % 256))) (wrap64 (x5_1 + 1)))) else (some (0, false))) = some (r1, r2) := H
     have A5 := aM_ A50
     clear A50
     by_cases c6 : t153 = true
     ·
      subst c6
      have H1 : (if x4_1 > ((18446744073709551615 - (((bt a0 x5_1) - 48) % 256)) / 10) then (some (0, false)) else (spec_VerUint.l0 k1 a0 (IntKind.u64.wrap ((IntKind.u64.wrap (10 * x4_1)) + (((bt a0 x5_1) - 48) % 256))) (wrap64 (x5_1 + 1)))) = some (r1, r2) := by rw [if_pos rfl] at H; exact H
      clear H
      have H := H1
      clear H1
      by_cases c8 : x4_1 > ((18446744073709551615 - (((bt a0 x5_1) - 48) % 256)) / 10)
      ·
       rw [if_pos c8] at H
       have c8b0 : decide (((18446744073709551615 - (((bt a0 x5_1) - 48) % 256)) / 10) < x4_1) = true := decide_eq_true c8
       clear c8
       simp only [Option.some.injEq, Prod.mk.injEq] at H
       obtain ⟨rfl, rfl⟩ := H
       have p4 : 0 ≤ (x5_1 : Int) := of_decide_eq_true (by first | (with_reducible assumption) | assumption)
       have q4 : x5_1 < (a0.size : Int) := of_decide_eq_true (by first | (with_reducible assumption) | assumption)
       have hx4 := bt_at a0 x5_1
       replace p4 := eq_true p4
       replace q4 := eq_true q4
       go_wp2_with (first | ((with_reducible refine gate_callee (f := 32) rfl ?_); refine goesL_ (some 16) rfl rfl Tryd.func32 (by kernel_rfl) rfl #[.int .u8 (bt a0 x5_1)] rfl (by (try simp only [List.map_toArray, List.map_cons, List.map_nil]); first | done | rfl | (simp only [List.length_drop, List.length_take]; rfl)) ?_; (with_reducible refine (spec_verDigit.calls (bt a0 x5_1) true _ A5.out).mono ?_); rintro e w' ⟨rfl, ⟨nd, rfl⟩⟩; refine ⟨_, rfl, ?_⟩; have p7 : 0 ≤ (x5_1 : Int) := of_decide_eq_true (by first | (with_reducible assumption) | assumption); have q7 : x5_1 < (a0.size : Int) := of_decide_eq_true (by first | (with_reducible assumption) | assumption); have hx7 := bt_at a0 x5_1; replace p7 := eq_true p7; replace q7 := eq_true q7))
       go_ret2
       exact ⟨by first | rfl | (simp; done) | (simp [*]; done) | (simp; cases a0.toList <;> rfl) | (cases a0.toList <;> simp), by repeat (first | exact Drawn0.refl _ | apply Drawn0.step)⟩
      ·
       rw [if_neg c8] at H
       have c8b0 : decide (((18446744073709551615 - (((bt a0 x5_1) - 48) % 256)) / 10) < x4_1) = false := decide_eq_false c8
       clear c8
       have H' := aM_ H
       clear H
       have p4 : 0 ≤ (x5_1 : Int) := of_decide_eq_true (by first | (with_reducible assumption) | assumption)
       have q4 : x5_1 < (a0.size : Int) := of_decide_eq_true (by first | (with_reducible assumption) | assumption)
       have hx4 := bt_at a0 x5_1
       replace p4 := eq_true p4
       replace q4 := eq_true q4
       go_wp2_with (first | ((with_reducible refine gate_callee (f := 32) rfl ?_); refine goesL_ (some 16) rfl rfl Tryd.func32 (by kernel_rfl) rfl #[.int .u8 (bt a0 x5_1)] rfl (by (try simp only [List.map_toArray, List.map_cons, List.map_nil]); first | done | rfl | (simp only [List.length_drop, List.length_take]; rfl)) ?_; (with_reducible refine (spec_verDigit.calls (bt a0 x5_1) true _ A5.out).mono ?_); rintro e w' ⟨rfl, ⟨nd, rfl⟩⟩; refine ⟨_, rfl, ?_⟩; have p7 : 0 ≤ (x5_1 : Int) := of_decide_eq_true (by first | (with_reducible assumption) | assumption); have q7 : x5_1 < (a0.size : Int) := of_decide_eq_true (by first | (with_reducible assumption) | assumption); have hx7 := bt_at a0 x5_1; replace p7 := eq_true p7; replace q7 := eq_true q7))
       go_roundg k1
       case measure => have := HK1.out; omega
       case rel => exact ⟨(IntKind.u64.wrap ((IntKind.u64.wrap (10 * x4_1)) + (((bt a0 x5_1) - 48) % 256))), (wrap64 (x5_1 + 1)), (by first | rfl | (simp; done) | (simp [*]; done)), (by first | rfl | (simp; done) | (simp [*]; done)), H', ⟨by have := HK1.out; omega⟩, by repeat (first | exact Drawn0.refl _ | apply Drawn0.step)⟩
     ·
      replace c6 := Bool.eq_false_iff.mpr c6
      subst c6
      have H1 : (some (0, false)) = some (r1, r2) := by rw [if_neg (show ¬ (false = true) by decide)] at H; exact H
      clear H
      have H := H1
      clear H1
      simp only [Option.some.injEq, Prod.mk.injEq] at H
      obtain ⟨rfl, rfl⟩ := H
      have p4 : 0 ≤ (x5_1 : Int) := of_decide_eq_true (by first | (with_reducible assumption) | assumption)
      have q4 : x5_1 < (a0.size : Int) := of_decide_eq_true (by first | (with_reducible assumption) | assumption)
      have hx4 := bt_at a0 x5_1
      replace p4 := eq_true p4
      replace q4 := eq_true q4
      go_wp2_with (first | ((with_reducible refine gate_callee (f := 32) rfl ?_); refine goesL_ (some 16) rfl rfl Tryd.func32 (by kernel_rfl) rfl #[.int .u8 (bt a0 x5_1)] rfl (by (try simp only [List.map_toArray, List.map_cons, List.map_nil]); first | done | rfl | (simp only [List.length_drop, List.length_take]; rfl)) ?_; (with_reducible refine (spec_verDigit.calls (bt a0 x5_1) false _ A5.out).mono ?_); rintro e w' ⟨rfl, ⟨nd, rfl⟩⟩; refine ⟨_, rfl, ?_⟩))
      go_ret2
      exact ⟨by first | rfl | (simp; done) | (simp [*]; done) | (simp; cases a0.toList <;> rfl) | (cases a0.toList <;> simp), by repeat (first | exact Drawn0.refl _ | apply Drawn0.step)⟩
    ·
     rw [if_neg c3] at H
     exact absurd H (by simp)
   ·
    rw [if_neg c2] at H
    have c2b0 : decide (x5_1 < (a0.size : Int)) = false := decide_eq_false c2
    clear c2
    simp only [Option.some.injEq, Prod.mk.injEq] at H
    obtain ⟨rfl, rfl⟩ := H
    go_wp2
    go_ret2
    exact ⟨by first | rfl | (simp; done) | (simp [*]; done) | (simp; cases a0.toList <;> rfl) | (cases a0.toList <;> simp), by repeat (first | exact Drawn0.refl _ | apply Drawn0.step)⟩

end Go.Proofs.YtomoefldmgfaoaaDoor.PFnVersionSteps
