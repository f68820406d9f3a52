/- Functions of the program as plain Lean functions, and that the machine's calls do what these say: written for this claim by wip/myprint.py over the kit's print.py. -/
import Derived.Test.YtomoefldmgfaoaaDoorPFnKubeOrdersx0
namespace Go.Proofs.YtomoefldmgfaoaaDoor.PFnKubeOrders
open Go.RowKit Go.Proofs.YtomoefldmgfaoaaDoorW.PrintWords Go.Proofs.YtomoefldmgfaoaaDoorW.PrintLast Go.Proofs.YtomoefldmgfaoaaDoorW.PrintMore
attribute [local go_sem] max2_int min2_int max_two min_two max_three min_three max_four min_four   -- for this text's walks alone
set_option linter.unusedVariables false
set_option linter.unusedSimpArgs false

/-! ### spec_verDigit: function 32 -/
def spec_verDigit.f (a0 : Int) : Option (Bool) := if a0 ≥ 48 then (some (decide (a0 ≤ 57))) else (some false)
set_option maxHeartbeats 8000000 in
set_option maxRecDepth 100000 in
theorem spec_verDigit.calls (a0 : Int) (r : Bool) (w : World) (h : spec_verDigit.f a0 = some r) :
  Calls Tryd.prog 32 #[.int .u8 a0] w fun e w' => e = .returned (.bool r) ∧ Drawn0 w w' := by
 have H : (if a0 ≥ 48 then (some (decide (a0 ≤ 57))) else (some false)) = some r := h
 clear h
 by_cases c2 : a0 ≥ 48
 ·
  rw [if_pos c2] at H
  have c2b0 : decide (48 ≤ a0) = true := decide_eq_true c2
  clear c2
  obtain rfl := Option.some.inj H
  go_enter Tryd.func32, Tryd.ntmps32
  go_wp2
  go_ret
  exact ⟨by first | rfl | (simp; done) | (simp [*]; done), by repeat (first | exact Drawn0.refl _ | apply Drawn0.step)⟩
 ·
  rw [if_neg c2] at H
  have c2b0 : decide (48 ≤ a0) = false := decide_eq_false c2
  clear c2
  obtain rfl := Option.some.inj H
  go_enter Tryd.func32, Tryd.ntmps32
  go_wp2
  go_ret
  exact ⟨by first | rfl | (simp; done) | (simp [*]; done), by repeat (first | exact Drawn0.refl _ | apply Drawn0.step)⟩

/-! ### spec_verDigits: function 75 -/
def spec_verDigits.l0 : Nat → ByteArray → Int → Option (ByteArray × ByteArray)
 | 0, _, _ => none
 | k + 1, x0, x4 => if x4 < (x0.size : Int) then (if 0 ≤ x4 then ((spec_verDigit.f (bt x0 x4)).bind fun t101 => (if t101 = true then (spec_verDigits.l0 k x0 (wrap64 (x4 + 1))) else (if x4 ≤ (x0.size : Int) then (some (x0.extract 0 (x4 : Int).toNat, x0.extract (x4 : Int).toNat x0.size)) else (none)))) else (none)) else (if 0 ≤ x4 then (if x4 ≤ (x0.size : Int) then (some (x0.extract 0 (x4 : Int).toNat, x0.extract (x4 : Int).toNat x0.size)) else (none)) else (none))
def spec_verDigits.f (k : Nat) (a0 : ByteArray) : Option (ByteArray × ByteArray) := spec_verDigits.l0 k a0 0
theorem spec_verDigits.mono_l : ∀ k, (∀ y0 y1, LeO (spec_verDigits.l0 k y0 y1) (spec_verDigits.l0 (k + 1) y0 y1))
 | 0 => fun _ _ r h => by simp [spec_verDigits.l0] at h
 | k + 1 => by
  have ih0 := spec_verDigits.mono_l k
  ·
   intro y0 y1
   unfold spec_verDigits.l0
   repeat' first
   | (with_reducible exact ih0 _ _)
   | (with_reducible exact LeO.refl _)
   | (with_reducible exact LeO.none _)
   | (with_reducible refine LeO.ite ?_ ?_)
   | (with_reducible refine LeO.bind ?_ (fun _ => ?_))
   | exact ih0 _ _
   | exact LeO.none _
   | refine LeO.ite ?_ ?_
   | refine LeO.bind ?_ (fun _ => ?_)
theorem spec_verDigits.mono : ∀ a0 k, LeO (spec_verDigits.f k a0) (spec_verDigits.f (k + 1) a0) := by
 intro a0 k
 have ih0 := spec_verDigits.mono_l k
 unfold spec_verDigits.f
 repeat' first
   | (with_reducible exact ih0 _ _)
   | (with_reducible exact LeO.refl _)
   | (with_reducible exact LeO.none _)
   | (with_reducible refine LeO.ite ?_ ?_)
   | (with_reducible refine LeO.bind ?_ (fun _ => ?_))
   | exact ih0 _ _
   | exact LeO.none _
   | refine LeO.ite ?_ ?_
   | refine LeO.bind ?_ (fun _ => ?_)
set_option maxHeartbeats 8000000 in
set_option maxRecDepth 100000 in
theorem spec_verDigits.calls (k : Nat) (a0 : ByteArray) (r1 : ByteArray) (r2 : ByteArray) (w : World) (h : spec_verDigits.f k a0 = some (r1, r2)) :
  Calls Tryd.prog 75 #[.string a0] w fun e w' => e = .returned (.tuple #[.string r1, .string r2]) ∧ Drawn0 w w' := by
 have H : (spec_verDigits.l0 k a0 0) = some (r1, r2) := h
 clear h
 have H' := aM_ H
 clear H
 go_enter Tryd.func75, Tryd.ntmps75
 go_wp2
 repeat (go_quiet (fail); try go_wp2)
 go_loopg [4] k (fun kq v4 w' => ∃ (x4_1 : Int), v4 = .int .i64 x4_1 ∧ Aside0 (spec_verDigits.l0 kq a0 x4_1 = some (r1, r2)) ∧ Aside0 (kq ≤ k) ∧ Drawn0 w w')
 case atStart => exact ⟨(0), (by first | rfl | (simp; done) | (simp [*]; done)), H', ⟨Nat.le_refl _⟩, by repeat (first | exact Drawn0.refl _ | apply Drawn0.step)⟩
 case round =>
  clear H'
  obtain ⟨x4_1, rfl, HA, HK1, ⟨m1, rfl⟩⟩ := hrel
  cases gk with
  | zero => exact absurd HA.out (by simp [spec_verDigits.l0])
  | succ k1 =>
   have H := HA.out
   clear HA
   simp only [spec_verDigits.l0] at H
   by_cases c2 : x4_1 < (a0.size : Int)
   ·
    rw [if_pos c2] at H
    have c2b0 : decide (x4_1 < (a0.size : Int)) = true := decide_eq_true c2
    clear c2
    by_cases c3 : 0 ≤ x4_1
    ·
     rw [if_pos c3] at H
     have c3b0 : decide (0 ≤ x4_1) = true := decide_eq_true c3
     clear c3
     replace H := Option.bind_eq_some_iff.mp H
     obtain ⟨t101, A50, H⟩ := H
     replace H : (if t101 = true then (spec_verDigits.l0 k1 a0 (wrap64 (x4_1 + 1))) else (if x4_1 ≤ (a0.size : Int) then (some (a0.extract 0 (x4_1 : Int).toNat, a0.extract (x4_1 : Int).toNat a0.size)) else (none))) = some (r1, r2) := H
     have A5 := aM_ A50
     clear A50
     by_cases c6 : t101 = true
     ·
      subst c6
      have H1 : (spec_verDigits.l0 k1 a0 (wrap64 (x4_1 + 1))) = some (r1, r2) := by rw [if_pos rfl] at H; exact H
      clear H
      have H := H1
      clear H1
      have H' := aM_ H
      clear H
      have p4 : 0 ≤ (x4_1 : Int) := of_decide_eq_true (by first | (with_reducible assumption) | assumption)
      have q4 : x4_1 < (a0.size : Int) := of_decide_eq_true (by first | (with_reducible assumption) | assumption)
      have hx4 := bt_at a0 x4_1
      replace p4 := eq_true p4
      replace q4 := eq_true q4
      go_wp2_with (first | (go_at_call 32; (with_reducible refine (spec_verDigit.calls (bt a0 x4_1) true _ A5.out).mono ?_); rintro e w' ⟨rfl, ⟨nd, rfl⟩⟩; (try first | exact ⟨rfl, _, World.drewN_drewN _ _ _⟩ | exact ⟨rfl, _, Eq.trans (World.drewN_drewN _ _ _) (congrArg (World.drewN _) (Nat.add_assoc _ _ _))⟩)))
      repeat (go_quiet (first | (go_at_call 32; (with_reducible refine (spec_verDigit.calls (bt a0 x4_1) true _ A5.out).mono ?_); rintro e w' ⟨rfl, ⟨nd, rfl⟩⟩; (try first | exact ⟨rfl, _, World.drewN_drewN _ _ _⟩ | exact ⟨rfl, _, Eq.trans (World.drewN_drewN _ _ _) (congrArg (World.drewN _) (Nat.add_assoc _ _ _))⟩))); try go_wp2_with (first | (go_at_call 32; (with_reducible refine (spec_verDigit.calls (bt a0 x4_1) true _ A5.out).mono ?_); rintro e w' ⟨rfl, ⟨nd, rfl⟩⟩; (try first | exact ⟨rfl, _, World.drewN_drewN _ _ _⟩ | exact ⟨rfl, _, Eq.trans (World.drewN_drewN _ _ _) (congrArg (World.drewN _) (Nat.add_assoc _ _ _))⟩))))
      go_roundg k1
      case measure => have := HK1.out; omega
      case rel => exact ⟨(wrap64 (x4_1 + 1)), (by first | rfl | (simp; done) | (simp [*]; done)), H', ⟨by have := HK1.out; omega⟩, by repeat (first | exact Drawn0.refl _ | apply Drawn0.step)⟩
     ·
      replace c6 := Bool.eq_false_iff.mpr c6
      subst c6
      have H1 : (if x4_1 ≤ (a0.size : Int) then (some (a0.extract 0 (x4_1 : Int).toNat, a0.extract (x4_1 : Int).toNat a0.size)) else (none)) = some (r1, r2) := by rw [if_neg (show ¬ (false = true) by decide)] at H; exact H
      clear H
      have H := H1
      clear H1
      have c7b0 := eq_true (of_decide_eq_true (by first | (with_reducible assumption) | assumption) : 0 ≤ x4_1)
      by_cases c8 : x4_1 ≤ (a0.size : Int)
      ·
       rw [if_pos c8] at H
       have c8b0 := eq_true c8
       have c8b1 : decide (x4_1 ≤ (a0.size : Int)) = true := decide_eq_true c8
       clear c8
       have c9b0 := eq_true (of_decide_eq_true (by first | (with_reducible assumption) | assumption) : 0 ≤ x4_1)
       have c10b0 := eq_true (of_decide_eq_true (by first | (with_reducible assumption) | assumption) : x4_1 ≤ (a0.size : Int))
       simp only [Option.some.injEq, Prod.mk.injEq] at H
       obtain ⟨rfl, rfl⟩ := H
       have p4 : 0 ≤ (x4_1 : Int) := of_decide_eq_true (by first | (with_reducible assumption) | assumption)
       have q4 : x4_1 < (a0.size : Int) := of_decide_eq_true (by first | (with_reducible assumption) | assumption)
       have hx4 := bt_at a0 x4_1
       replace p4 := eq_true p4
       replace q4 := eq_true q4
       go_wp2_with (first | (go_at_call 32; (with_reducible refine (spec_verDigit.calls (bt a0 x4_1) false _ A5.out).mono ?_); rintro e w' ⟨rfl, ⟨nd, rfl⟩⟩; (try first | exact ⟨rfl, _, World.drewN_drewN _ _ _⟩ | exact ⟨rfl, _, Eq.trans (World.drewN_drewN _ _ _) (congrArg (World.drewN _) (Nat.add_assoc _ _ _))⟩)))
       repeat (go_quiet (first | (go_at_call 32; (with_reducible refine (spec_verDigit.calls (bt a0 x4_1) false _ A5.out).mono ?_); rintro e w' ⟨rfl, ⟨nd, rfl⟩⟩; (try first | exact ⟨rfl, _, World.drewN_drewN _ _ _⟩ | exact ⟨rfl, _, Eq.trans (World.drewN_drewN _ _ _) (congrArg (World.drewN _) (Nat.add_assoc _ _ _))⟩))); try go_wp2_with (first | (go_at_call 32; (with_reducible refine (spec_verDigit.calls (bt a0 x4_1) false _ A5.out).mono ?_); rintro e w' ⟨rfl, ⟨nd, rfl⟩⟩; (try first | exact ⟨rfl, _, World.drewN_drewN _ _ _⟩ | exact ⟨rfl, _, Eq.trans (World.drewN_drewN _ _ _) (congrArg (World.drewN _) (Nat.add_assoc _ _ _))⟩))))
       go_ret2
       exact ⟨by first | rfl | (simp; done) | (simp [*]; done), by repeat (first | exact Drawn0.refl _ | apply Drawn0.step)⟩
      ·
       rw [if_neg c8] at H
       exact absurd H (by simp)
    ·
     rw [if_neg c3] at H
     exact absurd H (by simp)
   ·
    rw [if_neg c2] at H
    have c2b0 : decide (x4_1 < (a0.size : Int)) = false := decide_eq_false c2
    clear c2
    by_cases c11 : 0 ≤ x4_1
    ·
     rw [if_pos c11] at H
     have c11b0 := eq_true c11
     have c11b1 : decide (0 ≤ x4_1) = true := decide_eq_true c11
     clear c11
     by_cases c12 : x4_1 ≤ (a0.size : Int)
     ·
      rw [if_pos c12] at H
      have c12b0 := eq_true c12
      have c12b1 : decide (x4_1 ≤ (a0.size : Int)) = true := decide_eq_true c12
      clear c12
      have c13b0 := eq_true (of_decide_eq_true (by first | (with_reducible assumption) | assumption) : 0 ≤ x4_1)
      have c14b0 := eq_true (of_decide_eq_true (by first | (with_reducible assumption) | assumption) : x4_1 ≤ (a0.size : Int))
      simp only [Option.some.injEq, Prod.mk.injEq] at H
      obtain ⟨rfl, rfl⟩ := H
      go_wp2
      repeat (go_quiet (fail); try go_wp2)
      go_ret2
      exact ⟨by first | rfl | (simp; done) | (simp [*]; done), by repeat (first | exact Drawn0.refl _ | apply Drawn0.step)⟩
     ·
      rw [if_neg c12] at H
      exact absurd H (by simp)
    ·
     rw [if_neg c11] at H
     exact absurd H (by simp)

/-! ### spec_VerHead: function 76 -/
def spec_VerHead.f (a0 : ByteArray) (a1 : ByteArray) : Option (Bool) := if (a0.size : Int) ≥ (a1.size : Int) then (if 0 ≤ (a1.size : Int) then (if (a1.size : Int) ≤ (a0.size : Int) then (some ((a0.extract 0 ((a1.size : Int) : Int).toNat).toList == a1.toList)) else (none)) else (none)) else (some false)
set_option maxHeartbeats 8000000 in
set_option maxRecDepth 100000 in
theorem spec_VerHead.calls (a0 : ByteArray) (a1 : ByteArray) (r : Bool) (w : World) (h : spec_VerHead.f a0 a1 = some r) :
  Calls Tryd.prog 76 #[.string a0, .string a1] w fun e w' => e = .returned (.bool r) ∧ Drawn0 w w' := by
 have H : (if (a0.size : Int) ≥ (a1.size : Int) then (if 0 ≤ (a1.size : Int) then (if (a1.size : Int) ≤ (a0.size : Int) then (some ((a0.extract 0 ((a1.size : Int) : Int).toNat).toList == a1.toList)) else (none)) else (none)) else (some false)) = some r := h
 clear h
 by_cases c3 : (a0.size : Int) ≥ (a1.size : Int)
 ·
  rw [if_pos c3] at H
  have c3b0 : decide ((a1.size : Int) ≤ (a0.size : Int)) = true := decide_eq_true c3
  have c3b1 : decide (a1.size ≤ a0.size) = true := decide_eq_true (Int.ofNat_le.mp c3)
  clear c3
  by_cases c4 : 0 ≤ (a1.size : Int)
  ·
   rw [if_pos c4] at H
   have c4b0 := eq_true c4
   have c4b1 : decide (0 ≤ (a1.size : Int)) = true := decide_eq_true c4
   clear c4
   by_cases c5 : (a1.size : Int) ≤ (a0.size : Int)
   ·
    rw [if_pos c5] at H
    have c5b0 := eq_true c5
    have c5b1 : decide ((a1.size : Int) ≤ (a0.size : Int)) = true := decide_eq_true c5
    clear c5
    obtain rfl := Option.some.inj H
    go_enter Tryd.func76, Tryd.ntmps76
    go_wp2
    go_ret
    exact ⟨by first | rfl | (simp; done) | (simp [*]; done), by repeat (first | exact Drawn0.refl _ | apply Drawn0.step)⟩
   ·
    rw [if_neg c5] at H
    exact absurd H (by simp)
  ·
   rw [if_neg c4] at H
   exact absurd H (by simp)
 ·
  rw [if_neg c3] at H
  have c3b0 : decide ((a1.size : Int) ≤ (a0.size : Int)) = false := decide_eq_false c3
  have c3b1 : decide (a1.size ≤ a0.size) = false := decide_eq_false (fun h => c3 (Int.ofNat_le.mpr h))
  clear c3
  obtain rfl := Option.some.inj H
  go_enter Tryd.func76, Tryd.ntmps76
  go_wp2
  go_ret
  exact ⟨by first | rfl | (simp; done) | (simp [*]; done), by repeat (first | exact Drawn0.refl _ | apply Drawn0.step)⟩

/-! ### spec_Kube: function 54 -/
def spec_Kube.j0 : Nat → ByteArray → ByteArray → Bool → Option (Int × ByteArray × ByteArray × Bool × Bool)
 | 0, _, _, _ => none
 | k + 1, x0, x4, x14 => if x14 = true then (some (0, (⟨#[]⟩ : ByteArray), (⟨#[]⟩ : ByteArray), false, true)) else (if 1 ≤ (x0.size : Int) then ((spec_verDigits.f k (x0.extract 1 x0.size)).bind fun bt102 => ((spec_VerHead.f bt102.2 (⟨#[97, 108, 112, 104, 97]⟩ : ByteArray)).bind fun t104 => (if t104 = true then (if 5 ≤ (bt102.2.size : Int) then ((spec_verDigits.f k (bt102.2.extract 5 bt102.2.size)).bind fun bt105 => (if bt102.1.toList = ([] : List UInt8) then (some (0, (⟨#[]⟩ : ByteArray), (⟨#[]⟩ : ByteArray), false, true)) else (if bt105.2.toList = ([] : List UInt8) then (if 0 < 2 then (if bt105.1.toList = ([] : List UInt8) then (some (0, (⟨#[]⟩ : ByteArray), (⟨#[]⟩ : ByteArray), false, true)) else (if (bt102.1.size : Int) ≤ 18 then (some (0, bt102.1, bt105.1, true, decide ((bt105.1.size : Int) ≤ 18))) else (some (0, bt102.1, bt105.1, true, false)))) else (if (bt102.1.size : Int) ≤ 18 then (some (0, bt102.1, bt105.1, true, decide ((bt105.1.size : Int) ≤ 18))) else (some (0, bt102.1, bt105.1, true, false)))) else (some (0, (⟨#[]⟩ : ByteArray), (⟨#[]⟩ : ByteArray), false, true))))) else (none)) else ((spec_VerHead.f bt102.2 (⟨#[98, 101, 116, 97]⟩ : ByteArray)).bind fun t107 => (if t107 = true then (if 4 ≤ (bt102.2.size : Int) then ((spec_verDigits.f k (bt102.2.extract 4 bt102.2.size)).bind fun bt108 => (if bt102.1.toList = ([] : List UInt8) then (some (0, (⟨#[]⟩ : ByteArray), (⟨#[]⟩ : ByteArray), false, true)) else (if bt108.2.toList = ([] : List UInt8) then (if 1 < 2 then (if bt108.1.toList = ([] : List UInt8) then (some (0, (⟨#[]⟩ : ByteArray), (⟨#[]⟩ : ByteArray), false, true)) else (if (bt102.1.size : Int) ≤ 18 then (some (1, bt102.1, bt108.1, true, decide ((bt108.1.size : Int) ≤ 18))) else (some (1, bt102.1, bt108.1, true, false)))) else (if (bt102.1.size : Int) ≤ 18 then (some (1, bt102.1, bt108.1, true, decide ((bt108.1.size : Int) ≤ 18))) else (some (1, bt102.1, bt108.1, true, false)))) else (some (0, (⟨#[]⟩ : ByteArray), (⟨#[]⟩ : ByteArray), false, true))))) else (none)) else (if bt102.1.toList = ([] : List UInt8) then (some (0, (⟨#[]⟩ : ByteArray), (⟨#[]⟩ : ByteArray), false, true)) else (if bt102.2.toList = ([] : List UInt8) then (if 2 < 2 then (if x4.toList = ([] : List UInt8) then (some (0, (⟨#[]⟩ : ByteArray), (⟨#[]⟩ : ByteArray), false, true)) else (if (bt102.1.size : Int) ≤ 18 then (some (2, bt102.1, x4, true, decide ((x4.size : Int) ≤ 18))) else (some (2, bt102.1, x4, true, false)))) else (if (bt102.1.size : Int) ≤ 18 then (some (2, bt102.1, x4, true, decide ((x4.size : Int) ≤ 18))) else (some (2, bt102.1, x4, true, false)))) else (some (0, (⟨#[]⟩ : ByteArray), (⟨#[]⟩ : ByteArray), false, true))))))))) else (none))
def spec_Kube.f (k : Nat) (a0 : ByteArray) : Option (Int × ByteArray × ByteArray × Bool × Bool) := if a0.toList = ([] : List UInt8) then (spec_Kube.j0 k a0 (⟨#[]⟩ : ByteArray) true) else (if 0 < (a0.size : Int) then (spec_Kube.j0 k a0 (⟨#[]⟩ : ByteArray) ((bt a0 0) != 118)) else (none))
theorem spec_Kube.mono_l : ∀ k, (∀ y0 y1 y2, LeO (spec_Kube.j0 k y0 y1 y2) (spec_Kube.j0 (k + 1) y0 y1 y2))
 | 0 => fun _ _ _ r h => by simp [spec_Kube.j0] at h
 | k + 1 => by
  have ih0 := spec_Kube.mono_l k
  ·
   intro y0 y1 y2
   unfold spec_Kube.j0
   repeat' first
   | (with_reducible exact ih0 _ _ _)
   | (with_reducible exact spec_verDigits.mono _ _)
   | (with_reducible exact LeO.refl _)
   | (with_reducible exact LeO.none _)
   | (with_reducible refine LeO.ite ?_ ?_)
   | (with_reducible refine LeO.bind ?_ (fun _ => ?_))
   | exact ih0 _ _ _
   | exact spec_verDigits.mono _ _
   | exact LeO.none _
   | refine LeO.ite ?_ ?_
   | refine LeO.bind ?_ (fun _ => ?_)
theorem spec_Kube.mono : ∀ a0 k, LeO (spec_Kube.f k a0) (spec_Kube.f (k + 1) a0) := by
 intro a0 k
 have ih0 := spec_Kube.mono_l k
 unfold spec_Kube.f
 repeat' first
   | (with_reducible exact ih0 _ _ _)
   | (with_reducible exact spec_verDigits.mono _ _)
   | (with_reducible exact LeO.refl _)
   | (with_reducible exact LeO.none _)
   | (with_reducible refine LeO.ite ?_ ?_)
   | (with_reducible refine LeO.bind ?_ (fun _ => ?_))
   | exact ih0 _ _ _
   | exact spec_verDigits.mono _ _
   | exact LeO.none _
   | refine LeO.ite ?_ ?_
   | refine LeO.bind ?_ (fun _ => ?_)
set_option maxHeartbeats 8000000 in
set_option maxRecDepth 100000 in
theorem spec_Kube.calls (k : Nat) (a0 : ByteArray) (r1 : Int) (r2 : ByteArray) (r3 : ByteArray) (r4 : Bool) (r5 : Bool) (w : World) (h : spec_Kube.f k a0 = some (r1, r2, r3, r4, r5)) :
  Calls Tryd.prog 54 #[.string a0] w fun e w' => e = .returned (.tuple #[.int .i64 r1, .string r2, .string r3, .bool r4, .bool r5]) ∧ Drawn0 w w' := by
 have H : (if a0.toList = ([] : List UInt8) then (spec_Kube.j0 k a0 (⟨#[]⟩ : ByteArray) true) else (if 0 < (a0.size : Int) then (spec_Kube.j0 k a0 (⟨#[]⟩ : ByteArray) ((bt a0 0) != 118)) else (none))) = some (r1, r2, r3, r4, r5) := h
 clear h
 have HC2 := aM_ H
 clear H
 go_enter Tryd.func54, Tryd.ntmps54
 go_upto_region 1 with (fail)
 go_cut [14] (fun v14 wc => ∃ (kq : Nat) (x14_1 : Bool), v14 = .bool x14_1 ∧ Aside0 (spec_Kube.j0 kq a0 (⟨#[]⟩ : ByteArray) x14_1 = some (r1, r2, r3, r4, r5)) ∧ Aside0 (kq ≤ k) ∧ Drawn0 w wc)
 case first =>
  have H := HC2.out
  clear HC2
  by_cases c3 : a0.toList = ([] : List UInt8)
  ·
   rw [if_pos c3] at H
   have c3b0 : (a0.toList == ([] : List UInt8)) = true := beq_iff_eq.mpr c3
   have c3b1 : (a0.toList != ([] : List UInt8)) = false := bne_eq_false_iff_eq.mpr c3
   clear c3
   (first | rw [c3b0] | (simp only [i64_w, i32_w]; rw [c3b0]) | skip)
   have H' := aM_ H
   clear H
   go_wp2
   go_meet
   case rel => exact ⟨_, (true), (by first | rfl | (simp; done) | (simp [*]; done)), H', ⟨by first | omega | exact Nat.le_refl _⟩, by repeat (first | exact Drawn0.refl _ | apply Drawn0.step)⟩
  ·
   rw [if_neg c3] at H
   have c3b0 : (a0.toList == ([] : List UInt8)) = false := beq_eq_false_iff_ne.mpr c3
   have c3b1 : (a0.toList != ([] : List UInt8)) = true := bne_iff_ne.mpr c3
   (first | rw [c3b0] | (simp only [i64_w, i32_w]; rw [c3b0]) | skip)
   by_cases c4 : 0 < (a0.size : Int)
   ·
    rw [if_pos c4] at H
    have c4b0 : decide (0 < (a0.size : Int)) = true := decide_eq_true c4
    have c4b1 : decide (0 < a0.size) = true := decide_eq_true (by omega)
    clear c4
    have H' := aM_ H
    clear H
    have p5 : 0 ≤ (0 : Int) := (by omega)
    have q5 : 0 < a0.size := (by have : (0 : Int) < (a0.size : Int) := of_decide_eq_true (by first | (with_reducible assumption) | assumption); omega)
    have hx5 : ∀ h : 0 < a0.size, ((a0[0]'h).toNat : Int) = bt a0 0 := bt_at a0 0
    clear p5
    have qi5 : (0 < (a0.size : Int)) = True := eq_true (of_decide_eq_true (by first | (with_reducible assumption) | assumption))
    replace q5 := eq_true q5
    go_wp2
    go_meet
    case rel => exact ⟨_, (((bt a0 0) != 118)), (by first | rfl | (simp; done) | (simp [*]; done)), H', ⟨by first | omega | exact Nat.le_refl _⟩, by repeat (first | exact Drawn0.refl _ | apply Drawn0.step)⟩
   ·
    rw [if_neg c4] at H
    exact absurd H (by simp)
 case rest =>
  clear HC2
  try clear p2
  try clear c3
  try clear c3b0
  try clear c3b1
  try clear c4
  try clear c4b0
  try clear c4b1
  try clear c5
  try clear p5
  try clear q5
  try clear hx5
  try clear qi5
  try clear p5
  try clear q5
  obtain ⟨kq, x14_1, rfl, HA, HJ1, ⟨mc1, rfl⟩⟩ := hcut
  cases kq with
  | zero => exact absurd HA.out (by simp [spec_Kube.j0])
  | succ kj1 =>
   have H := HA.out
   clear HA
   simp only [spec_Kube.j0] at H
   by_cases c6 : x14_1 = true
   ·
    subst c6
    have H1 : (some (0, (⟨#[]⟩ : ByteArray), (⟨#[]⟩ : ByteArray), false, true)) = some (r1, r2, r3, r4, r5) := by rw [if_pos rfl] at H; exact H
    clear H
    have H := H1
    clear H1
    simp only [Option.some.injEq, Prod.mk.injEq] at H
    obtain ⟨rfl, rfl, rfl, rfl, rfl⟩ := H
    go_wp2
    refine bodyPost_ret (results_list (rs := [.tmp 2, .tmp 3, .tmp 4, .tmp 5, .tmp 6]) rfl (by simp) (.tmp (.tmp (.tmp (.tmp (.tmp .nil)))))) rfl ?_
    exact ⟨by first | rfl | (simp; done) | (simp [*]; done), by repeat (first | exact Drawn0.refl _ | apply Drawn0.step)⟩
   ·
    replace c6 := Bool.eq_false_iff.mpr c6
    subst c6
    have H1 : (if 1 ≤ (a0.size : Int) then ((spec_verDigits.f kj1 (a0.extract 1 a0.size)).bind fun bt102 => ((spec_VerHead.f bt102.2 (⟨#[97, 108, 112, 104, 97]⟩ : ByteArray)).bind fun t104 => (if t104 = true then (if 5 ≤ (bt102.2.size : Int) then ((spec_verDigits.f kj1 (bt102.2.extract 5 bt102.2.size)).bind fun bt105 => (if bt102.1.toList = ([] : List UInt8) then (some (0, (⟨#[]⟩ : ByteArray), (⟨#[]⟩ : ByteArray), false, true)) else (if bt105.2.toList = ([] : List UInt8) then (if 0 < 2 then (if bt105.1.toList = ([] : List UInt8) then (some (0, (⟨#[]⟩ : ByteArray), (⟨#[]⟩ : ByteArray), false, true)) else (if (bt102.1.size : Int) ≤ 18 then (some (0, bt102.1, bt105.1, true, decide ((bt105.1.size : Int) ≤ 18))) else (some (0, bt102.1, bt105.1, true, false)))) else (if (bt102.1.size : Int) ≤ 18 then (some (0, bt102.1, bt105.1, true, decide ((bt105.1.size : Int) ≤ 18))) else (some (0, bt102.1, bt105.1, true, false)))) else (some (0, (⟨#[]⟩ : ByteArray), (⟨#[]⟩ : ByteArray), false, true))))) else (none)) else ((spec_VerHead.f bt102.2 (⟨#[98, 101, 116, 97]⟩ : ByteArray)).bind fun t107 => (if t107 = true then (if 4 ≤ (bt102.2.size : Int) then ((spec_verDigits.f kj1 (bt102.2.extract 4 bt102.2.size)).bind fun bt108 => (if bt102.1.toList = ([] : List UInt8) then (some (0, (⟨#[]⟩ : ByteArray), (⟨#[]⟩ : ByteArray), false, true)) else (if bt108.2.toList = ([] : List UInt8) then (if 1 < 2 then (if bt108.1.toList = ([] : List UInt8) then (some (0, (⟨#[]⟩ : ByteArray), (⟨#[]⟩ : ByteArray), false, true)) else (if (bt102.1.size : Int) ≤ 18 then (some (1, bt102.1, bt108.1, true, decide ((bt108.1.size : Int) ≤ 18))) else (some (1, bt102.1, bt108.1, true, false)))) else (if (bt102.1.size : Int) ≤ 18 then (some (1, bt102.1, bt108.1, true, decide ((bt108.1.size : Int) ≤ 18))) else (some (1, bt102.1, bt108.1, true, false)))) else (some (0, (⟨#[]⟩ : ByteArray), (⟨#[]⟩ : ByteArray), false, true))))) else (none)) else (if bt102.1.toList = ([] : List UInt8) then (some (0, (⟨#[]⟩ : ByteArray), (⟨#[]⟩ : ByteArray), false, true)) else (if bt102.2.toList = ([] : List UInt8) then (if 2 < 2 then (if (⟨#[]⟩ : ByteArray).toList = ([] : List UInt8) then (some (0, (⟨#[]⟩ : ByteArray), (⟨#[]⟩ : ByteArray), false, true)) else (if (bt102.1.size : Int) ≤ 18 then (some (2, bt102.1, (⟨#[]⟩ : ByteArray), true, decide (((⟨#[]⟩ : ByteArray).size : Int) ≤ 18))) else (some (2, bt102.1, (⟨#[]⟩ : ByteArray), true, false)))) else (if (bt102.1.size : Int) ≤ 18 then (some (2, bt102.1, (⟨#[]⟩ : ByteArray), true, decide (((⟨#[]⟩ : ByteArray).size : Int) ≤ 18))) else (some (2, bt102.1, (⟨#[]⟩ : ByteArray), true, false)))) else (some (0, (⟨#[]⟩ : ByteArray), (⟨#[]⟩ : ByteArray), false, true))))))))) else (none)) = some (r1, r2, r3, r4, r5) := by rw [if_neg (show ¬ (false = true) by decide)] at H; exact H
    clear H
    have H := H1
    clear H1
    by_cases c7 : 1 ≤ (a0.size : Int)
    ·
     rw [if_pos c7] at H
     have c7b0 := eq_true c7
     have c7b1 : decide (1 ≤ (a0.size : Int)) = true := decide_eq_true c7
     clear c7
     replace H := Option.bind_eq_some_iff.mp H
     obtain ⟨⟨t102, t103⟩, A80, H⟩ := H
     replace H : ((spec_VerHead.f t103 (⟨#[97, 108, 112, 104, 97]⟩ : ByteArray)).bind fun t104 => (if t104 = true then (if 5 ≤ (t103.size : Int) then ((spec_verDigits.f kj1 (t103.extract 5 t103.size)).bind fun bt105 => (if t102.toList = ([] : List UInt8) then (some (0, (⟨#[]⟩ : ByteArray), (⟨#[]⟩ : ByteArray), false, true)) else (if bt105.2.toList = ([] : List UInt8) then (if 0 < 2 then (if bt105.1.toList = ([] : List UInt8) then (some (0, (⟨#[]⟩ : ByteArray), (⟨#[]⟩ : ByteArray), false, true)) else (if (t102.size : Int) ≤ 18 then (some (0, t102, bt105.1, true, decide ((bt105.1.size : Int) ≤ 18))) else (some (0, t102, bt105.1, true, false)))) else (if (t102.size : Int) ≤ 18 then (some (0, t102, bt105.1, true, decide ((bt105.1.size : Int) ≤ 18))) else (some (0, t102, bt105.1, true, false)))) else (some (0, (⟨#[]⟩ : ByteArray), (⟨#[]⟩ : ByteArray), false, true))))) else (none)) else ((spec_VerHead.f t103 (⟨#[98, 101, 116, 97]⟩ : ByteArray)).bind fun t107 => (if t107 = true then (if 4 ≤ (t103.size : Int) then ((spec_verDigits.f kj1 (t103.extract 4 t103.size)).bind fun bt108 => (if t102.toList = ([] : List UInt8) then (some (0, (⟨#[]⟩ : ByteArray), (⟨#[]⟩ : ByteArray), false, true)) else (if bt108.2.toList = ([] : List UInt8) then (if 1 < 2 then (if bt108.1.toList = ([] : List UInt8) then (some (0, (⟨#[]⟩ : ByteArray), (⟨#[]⟩ : ByteArray), false, true)) else (if (t102.size : Int) ≤ 18 then (some (1, t102, bt108.1, true, decide ((bt108.1.size : Int) ≤ 18))) else (some (1, t102, bt108.1, true, false)))) else (if (t102.size : Int) ≤ 18 then (some (1, t102, bt108.1, true, decide ((bt108.1.size : Int) ≤ 18))) else (some (1, t102, bt108.1, true, false)))) else (some (0, (⟨#[]⟩ : ByteArray), (⟨#[]⟩ : ByteArray), false, true))))) else (none)) else (if t102.toList = ([] : List UInt8) then (some (0, (⟨#[]⟩ : ByteArray), (⟨#[]⟩ : ByteArray), false, true)) else (if t103.toList = ([] : List UInt8) then (if 2 < 2 then (if (⟨#[]⟩ : ByteArray).toList = ([] : List UInt8) then (some (0, (⟨#[]⟩ : ByteArray), (⟨#[]⟩ : ByteArray), false, true)) else (if (t102.size : Int) ≤ 18 then (some (2, t102, (⟨#[]⟩ : ByteArray), true, decide (((⟨#[]⟩ : ByteArray).size : Int) ≤ 18))) else (some (2, t102, (⟨#[]⟩ : ByteArray), true, false)))) else (if (t102.size : Int) ≤ 18 then (some (2, t102, (⟨#[]⟩ : ByteArray), true, decide (((⟨#[]⟩ : ByteArray).size : Int) ≤ 18))) else (some (2, t102, (⟨#[]⟩ : ByteArray), true, false)))) else (some (0, (⟨#[]⟩ : ByteArray), (⟨#[]⟩ : ByteArray), false, true)))))))) = some (r1, r2, r3, r4, r5) := H
     have A8 := aM_ A80
     clear A80
     replace H := Option.bind_eq_some_iff.mp H
     obtain ⟨t104, A90, H⟩ := H
     replace H : (if t104 = true then (if 5 ≤ (t103.size : Int) then ((spec_verDigits.f kj1 (t103.extract 5 t103.size)).bind fun bt105 => (if t102.toList = ([] : List UInt8) then (some (0, (⟨#[]⟩ : ByteArray), (⟨#[]⟩ : ByteArray), false, true)) else (if bt105.2.toList = ([] : List UInt8) then (if 0 < 2 then (if bt105.1.toList = ([] : List UInt8) then (some (0, (⟨#[]⟩ : ByteArray), (⟨#[]⟩ : ByteArray), false, true)) else (if (t102.size : Int) ≤ 18 then (some (0, t102, bt105.1, true, decide ((bt105.1.size : Int) ≤ 18))) else (some (0, t102, bt105.1, true, false)))) else (if (t102.size : Int) ≤ 18 then (some (0, t102, bt105.1, true, decide ((bt105.1.size : Int) ≤ 18))) else (some (0, t102, bt105.1, true, false)))) else (some (0, (⟨#[]⟩ : ByteArray), (⟨#[]⟩ : ByteArray), false, true))))) else (none)) else ((spec_VerHead.f t103 (⟨#[98, 101, 116, 97]⟩ : ByteArray)).bind fun t107 => (if t107 = true then (if 4 ≤ (t103.size : Int) then ((spec_verDigits.f kj1 (t103.extract 4 t103.size)).bind fun bt108 => (if t102.toList = ([] : List UInt8) then (some (0, (⟨#[]⟩ : ByteArray), (⟨#[]⟩ : ByteArray), false, true)) else (if bt108.2.toList = ([] : List UInt8) then (if 1 < 2 then (if bt108.1.toList = ([] : List UInt8) then (some (0, (⟨#[]⟩ : ByteArray), (⟨#[]⟩ : ByteArray), false, true)) else (if (t102.size : Int) ≤ 18 then (some (1, t102, bt108.1, true, decide ((bt108.1.size : Int) ≤ 18))) else (some (1, t102, bt108.1, true, false)))) else (if (t102.size : Int) ≤ 18 then (some (1, t102, bt108.1, true, decide ((bt108.1.size : Int) ≤ 18))) else (some (1, t102, bt108.1, true, false)))) else (some (0, (⟨#[]⟩ : ByteArray), (⟨#[]⟩ : ByteArray), false, true))))) else (none)) else (if t102.toList = ([] : List UInt8) then (some (0, (⟨#[]⟩ : ByteArray), (⟨#[]⟩ : ByteArray), false, true)) else (if t103.toList = ([] : List UInt8) then (if 2 < 2 then (if (⟨#[]⟩ : ByteArray).toList = ([] : List UInt8) then (some (0, (⟨#[]⟩ : ByteArray), (⟨#[]⟩ : ByteArray), false, true)) else (if (t102.size : Int) ≤ 18 then (some (2, t102, (⟨#[]⟩ : ByteArray), true, decide (((⟨#[]⟩ : ByteArray).size : Int) ≤ 18))) else (some (2, t102, (⟨#[]⟩ : ByteArray), true, false)))) else (if (t102.size : Int) ≤ 18 then (some (2, t102, (⟨#[]⟩ : ByteArray), true, decide (((⟨#[]⟩ : ByteArray).size : Int) ≤ 18))) else (some (2, t102, (⟨#[]⟩ : ByteArray), true, false)))) else (some (0, (⟨#[]⟩ : ByteArray), (⟨#[]⟩ : ByteArray), false, true))))))) = some (r1, r2, r3, r4, r5) := H
     have A9 := aM_ A90
     clear A90
     by_cases c10 : t104 = true
     ·
      subst c10
      have H1 : (if 5 ≤ (t103.size : Int) then ((spec_verDigits.f kj1 (t103.extract 5 t103.size)).bind fun bt105 => (if t102.toList = ([] : List UInt8) then (some (0, (⟨#[]⟩ : ByteArray), (⟨#[]⟩ : ByteArray), false, true)) else (if bt105.2.toList = ([] : List UInt8) then (if 0 < 2 then (if bt105.1.toList = ([] : List UInt8) then (some (0, (⟨#[]⟩ : ByteArray), (⟨#[]⟩ : ByteArray), false, true)) else (if (t102.size : Int) ≤ 18 then (some (0, t102, bt105.1, true, decide ((bt105.1.size : Int) ≤ 18))) else (some (0, t102, bt105.1, true, false)))) else (if (t102.size : Int) ≤ 18 then (some (0, t102, bt105.1, true, decide ((bt105.1.size : Int) ≤ 18))) else (some (0, t102, bt105.1, true, false)))) else (some (0, (⟨#[]⟩ : ByteArray), (⟨#[]⟩ : ByteArray), false, true))))) else (none)) = some (r1, r2, r3, r4, r5) := by rw [if_pos rfl] at H; exact H
      clear H
      have H := H1
      clear H1
      by_cases c11 : 5 ≤ (t103.size : Int)
      ·
       rw [if_pos c11] at H
       have c11b0 := eq_true c11
       have c11b1 : decide (5 ≤ (t103.size : Int)) = true := decide_eq_true c11
       clear c11
       replace H := Option.bind_eq_some_iff.mp H
       obtain ⟨⟨t105, t106⟩, A120, H⟩ := H
       replace H : (if t102.toList = ([] : List UInt8) then (some (0, (⟨#[]⟩ : ByteArray), (⟨#[]⟩ : ByteArray), false, true)) else (if t106.toList = ([] : List UInt8) then (if 0 < 2 then (if t105.toList = ([] : List UInt8) then (some (0, (⟨#[]⟩ : ByteArray), (⟨#[]⟩ : ByteArray), false, true)) else (if (t102.size : Int) ≤ 18 then (some (0, t102, t105, true, decide ((t105.size : Int) ≤ 18))) else (some (0, t102, t105, true, false)))) else (if (t102.size : Int) ≤ 18 then (some (0, t102, t105, true, decide ((t105.size : Int) ≤ 18))) else (some (0, t102, t105, true, false)))) else (some (0, (⟨#[]⟩ : ByteArray), (⟨#[]⟩ : ByteArray), false, true)))) = some (r1, r2, r3, r4, r5) := H
       have A12 := aM_ A120
       clear A120
       by_cases c13 : t102.toList = ([] : List UInt8)
       ·
        rw [if_pos c13] at H
        have c13b0 : (t102.toList == ([] : List UInt8)) = true := beq_iff_eq.mpr c13
        have c13b1 : (t102.toList != ([] : List UInt8)) = false := bne_eq_false_iff_eq.mpr c13
        clear c13
        simp only [Option.some.injEq, Prod.mk.injEq] at H
        obtain ⟨rfl, rfl, rfl, rfl, rfl⟩ := H
        go_wp2_with (first | ((with_reducible refine gate_callee (f := 75) rfl ?_); refine goesL_ (some 18) rfl rfl Tryd.func75 (by kernel_rfl) rfl #[.string (a0.extract 1 a0.size)] rfl (by (try simp only [List.map_toArray, List.map_cons, List.map_nil]); first | done | rfl | (simp only [List.length_drop, List.length_take]; rfl)) ?_; (with_reducible refine (spec_verDigits.calls kj1 (a0.extract 1 a0.size) t102 t103 _ A8.out).mono ?_); rintro e w' ⟨rfl, ⟨nd, rfl⟩⟩; refine ⟨_, rfl, ?_⟩) | ((with_reducible refine gate_callee (f := 76) rfl ?_); refine goesL_ (some 23) rfl rfl Tryd.func76 (by kernel_rfl) rfl #[.string t103, .string (⟨#[97, 108, 112, 104, 97]⟩ : ByteArray)] rfl (by (try simp only [List.map_toArray, List.map_cons, List.map_nil]); first | done | rfl | (simp only [List.length_drop, List.length_take]; rfl)) ?_; (with_reducible refine (spec_VerHead.calls t103 (⟨#[97, 108, 112, 104, 97]⟩ : ByteArray) true _ A9.out).mono ?_); rintro e w' ⟨rfl, ⟨nd, rfl⟩⟩; refine ⟨_, rfl, ?_⟩) | ((with_reducible refine gate_callee (f := 75) rfl ?_); refine goesL_ (some 27) rfl rfl Tryd.func75 (by kernel_rfl) rfl #[.string (t103.extract 5 t103.size)] rfl (by (try simp only [List.map_toArray, List.map_cons, List.map_nil]); first | done | rfl | (simp only [List.length_drop, List.length_take]; rfl)) ?_; (with_reducible refine (spec_verDigits.calls kj1 (t103.extract 5 t103.size) t105 t106 _ A12.out).mono ?_); rintro e w' ⟨rfl, ⟨nd, rfl⟩⟩; refine ⟨_, rfl, ?_⟩))
        refine bodyPost_ret (results_list (rs := [.tmp 2, .tmp 3, .tmp 4, .tmp 5, .tmp 6]) rfl (by simp) (.tmp (.tmp (.tmp (.tmp (.tmp .nil)))))) rfl ?_
        exact ⟨by first | rfl | (simp; done) | (simp [*]; done), by repeat (first | exact Drawn0.refl _ | apply Drawn0.step)⟩
       ·
        rw [if_neg c13] at H
        have c13b0 : (t102.toList == ([] : List UInt8)) = false := beq_eq_false_iff_ne.mpr c13
        have c13b1 : (t102.toList != ([] : List UInt8)) = true := bne_iff_ne.mpr c13
        by_cases c14 : t106.toList = ([] : List UInt8)
        ·
         rw [if_pos c14] at H
         have c14b0 : (t106.toList == ([] : List UInt8)) = true := beq_iff_eq.mpr c14
         have c14b1 : (t106.toList != ([] : List UInt8)) = false := bne_eq_false_iff_eq.mpr c14
         clear c14
         by_cases c15 : 0 < 2
         ·
          rw [if_pos c15] at H
          have c15b0 : decide (0 < 2) = true := decide_eq_true c15
          clear c15
          by_cases c16 : t105.toList = ([] : List UInt8)
          ·
           rw [if_pos c16] at H
           have c16b0 : (t105.toList == ([] : List UInt8)) = true := beq_iff_eq.mpr c16
           have c16b1 : (t105.toList != ([] : List UInt8)) = false := bne_eq_false_iff_eq.mpr c16
           clear c16
           simp only [Option.some.injEq, Prod.mk.injEq] at H
           obtain ⟨rfl, rfl, rfl, rfl, rfl⟩ := H
           go_wp2_with (first | ((with_reducible refine gate_callee (f := 75) rfl ?_); refine goesL_ (some 18) rfl rfl Tryd.func75 (by kernel_rfl) rfl #[.string (a0.extract 1 a0.size)] rfl (by (try simp only [List.map_toArray, List.map_cons, List.map_nil]); first | done | rfl | (simp only [List.length_drop, List.length_take]; rfl)) ?_; (with_reducible refine (spec_verDigits.calls kj1 (a0.extract 1 a0.size) t102 t103 _ A8.out).mono ?_); rintro e w' ⟨rfl, ⟨nd, rfl⟩⟩; refine ⟨_, rfl, ?_⟩) | ((with_reducible refine gate_callee (f := 76) rfl ?_); refine goesL_ (some 23) rfl rfl Tryd.func76 (by kernel_rfl) rfl #[.string t103, .string (⟨#[97, 108, 112, 104, 97]⟩ : ByteArray)] rfl (by (try simp only [List.map_toArray, List.map_cons, List.map_nil]); first | done | rfl | (simp only [List.length_drop, List.length_take]; rfl)) ?_; (with_reducible refine (spec_VerHead.calls t103 (⟨#[97, 108, 112, 104, 97]⟩ : ByteArray) true _ A9.out).mono ?_); rintro e w' ⟨rfl, ⟨nd, rfl⟩⟩; refine ⟨_, rfl, ?_⟩) | ((with_reducible refine gate_callee (f := 75) rfl ?_); refine goesL_ (some 27) rfl rfl Tryd.func75 (by kernel_rfl) rfl #[.string (t103.extract 5 t103.size)] rfl (by (try simp only [List.map_toArray, List.map_cons, List.map_nil]); first | done | rfl | (simp only [List.length_drop, List.length_take]; rfl)) ?_; (with_reducible refine (spec_verDigits.calls kj1 (t103.extract 5 t103.size) t105 t106 _ A12.out).mono ?_); rintro e w' ⟨rfl, ⟨nd, rfl⟩⟩; refine ⟨_, rfl, ?_⟩))
           refine bodyPost_ret (results_list (rs := [.tmp 2, .tmp 3, .tmp 4, .tmp 5, .tmp 6]) rfl (by simp) (.tmp (.tmp (.tmp (.tmp (.tmp .nil)))))) rfl ?_
           exact ⟨by first | rfl | (simp; done) | (simp [*]; done), by repeat (first | exact Drawn0.refl _ | apply Drawn0.step)⟩
          ·
           rw [if_neg c16] at H
           have c16b0 : (t105.toList == ([] : List UInt8)) = false := beq_eq_false_iff_ne.mpr c16
           have c16b1 : (t105.toList != ([] : List UInt8)) = true := bne_iff_ne.mpr c16
           by_cases c17 : (t102.size : Int) ≤ 18
           ·
            rw [if_pos c17] at H
            have c17b0 : decide ((t102.size : Int) ≤ 18) = true := decide_eq_true c17
            have c17b1 : decide (t102.size ≤ 18) = true := decide_eq_true (by omega)
            clear c17
            simp only [Option.some.injEq, Prod.mk.injEq] at H
            obtain ⟨rfl, rfl, rfl, rfl, rfl⟩ := H
            go_wp2_with (first | ((with_reducible refine gate_callee (f := 75) rfl ?_); refine goesL_ (some 18) rfl rfl Tryd.func75 (by kernel_rfl) rfl #[.string (a0.extract 1 a0.size)] rfl (by (try simp only [List.map_toArray, List.map_cons, List.map_nil]); first | done | rfl | (simp only [List.length_drop, List.length_take]; rfl)) ?_; (with_reducible refine (spec_verDigits.calls kj1 (a0.extract 1 a0.size) t102 t103 _ A8.out).mono ?_); rintro e w' ⟨rfl, ⟨nd, rfl⟩⟩; refine ⟨_, rfl, ?_⟩) | ((with_reducible refine gate_callee (f := 76) rfl ?_); refine goesL_ (some 23) rfl rfl Tryd.func76 (by kernel_rfl) rfl #[.string t103, .string (⟨#[97, 108, 112, 104, 97]⟩ : ByteArray)] rfl (by (try simp only [List.map_toArray, List.map_cons, List.map_nil]); first | done | rfl | (simp only [List.length_drop, List.length_take]; rfl)) ?_; (with_reducible refine (spec_VerHead.calls t103 (⟨#[97, 108, 112, 104, 97]⟩ : ByteArray) true _ A9.out).mono ?_); rintro e w' ⟨rfl, ⟨nd, rfl⟩⟩; refine ⟨_, rfl, ?_⟩) | ((with_reducible refine gate_callee (f := 75) rfl ?_); refine goesL_ (some 27) rfl rfl Tryd.func75 (by kernel_rfl) rfl #[.string (t103.extract 5 t103.size)] rfl (by (try simp only [List.map_toArray, List.map_cons, List.map_nil]); first | done | rfl | (simp only [List.length_drop, List.length_take]; rfl)) ?_; (with_reducible refine (spec_verDigits.calls kj1 (t103.extract 5 t103.size) t105 t106 _ A12.out).mono ?_); rintro e w' ⟨rfl, ⟨nd, rfl⟩⟩; refine ⟨_, rfl, ?_⟩))
            refine bodyPost_ret (results_list (rs := [.tmp 2, .tmp 3, .tmp 4, .tmp 5, .tmp 6]) rfl (by simp) (.tmp (.tmp (.tmp (.tmp (.tmp .nil)))))) rfl ?_
            exact ⟨by first | rfl | (simp; done) | (simp [*]; done), by repeat (first | exact Drawn0.refl _ | apply Drawn0.step)⟩
           ·
            rw [if_neg c17] at H
            have c17b0 : decide ((t102.size : Int) ≤ 18) = false := decide_eq_false c17
            have c17b1 : decide (t102.size ≤ 18) = false := decide_eq_false (by omega)
            clear c17
            simp only [Option.some.injEq, Prod.mk.injEq] at H
            obtain ⟨rfl, rfl, rfl, rfl, rfl⟩ := H
            go_wp2_with (first | ((with_reducible refine gate_callee (f := 75) rfl ?_); refine goesL_ (some 18) rfl rfl Tryd.func75 (by kernel_rfl) rfl #[.string (a0.extract 1 a0.size)] rfl (by (try simp only [List.map_toArray, List.map_cons, List.map_nil]); first | done | rfl | (simp only [List.length_drop, List.length_take]; rfl)) ?_; (with_reducible refine (spec_verDigits.calls kj1 (a0.extract 1 a0.size) t102 t103 _ A8.out).mono ?_); rintro e w' ⟨rfl, ⟨nd, rfl⟩⟩; refine ⟨_, rfl, ?_⟩) | ((with_reducible refine gate_callee (f := 76) rfl ?_); refine goesL_ (some 23) rfl rfl Tryd.func76 (by kernel_rfl) rfl #[.string t103, .string (⟨#[97, 108, 112, 104, 97]⟩ : ByteArray)] rfl (by (try simp only [List.map_toArray, List.map_cons, List.map_nil]); first | done | rfl | (simp only [List.length_drop, List.length_take]; rfl)) ?_; (with_reducible refine (spec_VerHead.calls t103 (⟨#[97, 108, 112, 104, 97]⟩ : ByteArray) true _ A9.out).mono ?_); rintro e w' ⟨rfl, ⟨nd, rfl⟩⟩; refine ⟨_, rfl, ?_⟩) | ((with_reducible refine gate_callee (f := 75) rfl ?_); refine goesL_ (some 27) rfl rfl Tryd.func75 (by kernel_rfl) rfl #[.string (t103.extract 5 t103.size)] rfl (by (try simp only [List.map_toArray, List.map_cons, List.map_nil]); first | done | rfl | (simp only [List.length_drop, List.length_take]; rfl)) ?_; (with_reducible refine (spec_verDigits.calls kj1 (t103.extract 5 t103.size) t105 t106 _ A12.out).mono ?_); rintro e w' ⟨rfl, ⟨nd, rfl⟩⟩; refine ⟨_, rfl, ?_⟩))
            refine bodyPost_ret (results_list (rs := [.tmp 2, .tmp 3, .tmp 4, .tmp 5, .tmp 6]) rfl (by simp) (.tmp (.tmp (.tmp (.tmp (.tmp .nil)))))) rfl ?_
            exact ⟨by first | rfl | (simp; done) | (simp [*]; done), by repeat (first | exact Drawn0.refl _ | apply Drawn0.step)⟩
         · exact absurd (by decide) c15
        ·
         rw [if_neg c14] at H
         have c14b0 : (t106.toList == ([] : List UInt8)) = false := beq_eq_false_iff_ne.mpr c14
         have c14b1 : (t106.toList != ([] : List UInt8)) = true := bne_iff_ne.mpr c14
         simp only [Option.some.injEq, Prod.mk.injEq] at H
         obtain ⟨rfl, rfl, rfl, rfl, rfl⟩ := H
         go_wp2_with (first | ((with_reducible refine gate_callee (f := 75) rfl ?_); refine goesL_ (some 18) rfl rfl Tryd.func75 (by kernel_rfl) rfl #[.string (a0.extract 1 a0.size)] rfl (by (try simp only [List.map_toArray, List.map_cons, List.map_nil]); first | done | rfl | (simp only [List.length_drop, List.length_take]; rfl)) ?_; (with_reducible refine (spec_verDigits.calls kj1 (a0.extract 1 a0.size) t102 t103 _ A8.out).mono ?_); rintro e w' ⟨rfl, ⟨nd, rfl⟩⟩; refine ⟨_, rfl, ?_⟩) | ((with_reducible refine gate_callee (f := 76) rfl ?_); refine goesL_ (some 23) rfl rfl Tryd.func76 (by kernel_rfl) rfl #[.string t103, .string (⟨#[97, 108, 112, 104, 97]⟩ : ByteArray)] rfl (by (try simp only [List.map_toArray, List.map_cons, List.map_nil]); first | done | rfl | (simp only [List.length_drop, List.length_take]; rfl)) ?_; (with_reducible refine (spec_VerHead.calls t103 (⟨#[97, 108, 112, 104, 97]⟩ : ByteArray) true _ A9.out).mono ?_); rintro e w' ⟨rfl, ⟨nd, rfl⟩⟩; refine ⟨_, rfl, ?_⟩) | ((with_reducible refine gate_callee (f := 75) rfl ?_); refine goesL_ (some 27) rfl rfl Tryd.func75 (by kernel_rfl) rfl #[.string (t103.extract 5 t103.size)] rfl (by (try simp only [List.map_toArray, List.map_cons, List.map_nil]); first | done | rfl | (simp only [List.length_drop, List.length_take]; rfl)) ?_; (with_reducible refine (spec_verDigits.calls kj1 (t103.extract 5 t103.size) t105 t106 _ A12.out).mono ?_); rintro e w' ⟨rfl, ⟨nd, rfl⟩⟩; refine ⟨_, rfl, ?_⟩))
         refine bodyPost_ret (results_list (rs := [.tmp 2, .tmp 3, .tmp 4, .tmp 5, .tmp 6]) rfl (by simp) (.tmp (.tmp (.tmp (.tmp (.tmp .nil)))))) rfl ?_
         exact ⟨by first | rfl | (simp; done) | (simp [*]; done), by repeat (first | exact Drawn0.refl _ | apply Drawn0.step)⟩
      ·
       rw [if_neg c11] at H
       exact absurd H (by simp)
     ·
      replace c10 := Bool.eq_false_iff.mpr c10
      subst c10
      have H1 : ((spec_VerHead.f t103 (⟨#[98, 101, 116, 97]⟩ : ByteArray)).bind fun t107 => (if t107 = true then (if 4 ≤ (t103.size : Int) then ((spec_verDigits.f kj1 (t103.extract 4 t103.size)).bind fun bt108 => (if t102.toList = ([] : List UInt8) then (some (0, (⟨#[]⟩ : ByteArray), (⟨#[]⟩ : ByteArray), false, true)) else (if bt108.2.toList = ([] : List UInt8) then (if 1 < 2 then (if bt108.1.toList = ([] : List UInt8) then (some (0, (⟨#[]⟩ : ByteArray), (⟨#[]⟩ : ByteArray), false, true)) else (if (t102.size : Int) ≤ 18 then (some (1, t102, bt108.1, true, decide ((bt108.1.size : Int) ≤ 18))) else (some (1, t102, bt108.1, true, false)))) else (if (t102.size : Int) ≤ 18 then (some (1, t102, bt108.1, true, decide ((bt108.1.size : Int) ≤ 18))) else (some (1, t102, bt108.1, true, false)))) else (some (0, (⟨#[]⟩ : ByteArray), (⟨#[]⟩ : ByteArray), false, true))))) else (none)) else (if t102.toList = ([] : List UInt8) then (some (0, (⟨#[]⟩ : ByteArray), (⟨#[]⟩ : ByteArray), false, true)) else (if t103.toList = ([] : List UInt8) then (if 2 < 2 then (if (⟨#[]⟩ : ByteArray).toList = ([] : List UInt8) then (some (0, (⟨#[]⟩ : ByteArray), (⟨#[]⟩ : ByteArray), false, true)) else (if (t102.size : Int) ≤ 18 then (some (2, t102, (⟨#[]⟩ : ByteArray), true, decide (((⟨#[]⟩ : ByteArray).size : Int) ≤ 18))) else (some (2, t102, (⟨#[]⟩ : ByteArray), true, false)))) else (if (t102.size : Int) ≤ 18 then (some (2, t102, (⟨#[]⟩ : ByteArray), true, decide (((⟨#[]⟩ : ByteArray).size : Int) ≤ 18))) else (some (2, t102, (⟨#[]⟩ : ByteArray), true, false)))) else (some (0, (⟨#[]⟩ : ByteArray), (⟨#[]⟩ : ByteArray), false, true)))))) = some (r1, r2, r3, r4, r5) := by rw [if_neg (show ¬ (false = true) by decide)] at H; exact H
      clear H
      have H := H1
      clear H1
      replace H := Option.bind_eq_some_iff.mp H
      obtain ⟨t107, A190, H⟩ := H
      replace H : (if t107 = true then (if 4 ≤ (t103.size : Int) then ((spec_verDigits.f kj1 (t103.extract 4 t103.size)).bind fun bt108 => (if t102.toList = ([] : List UInt8) then (some (0, (⟨#[]⟩ : ByteArray), (⟨#[]⟩ : ByteArray), false, true)) else (if bt108.2.toList = ([] : List UInt8) then (if 1 < 2 then (if bt108.1.toList = ([] : List UInt8) then (some (0, (⟨#[]⟩ : ByteArray), (⟨#[]⟩ : ByteArray), false, true)) else (if (t102.size : Int) ≤ 18 then (some (1, t102, bt108.1, true, decide ((bt108.1.size : Int) ≤ 18))) else (some (1, t102, bt108.1, true, false)))) else (if (t102.size : Int) ≤ 18 then (some (1, t102, bt108.1, true, decide ((bt108.1.size : Int) ≤ 18))) else (some (1, t102, bt108.1, true, false)))) else (some (0, (⟨#[]⟩ : ByteArray), (⟨#[]⟩ : ByteArray), false, true))))) else (none)) else (if t102.toList = ([] : List UInt8) then (some (0, (⟨#[]⟩ : ByteArray), (⟨#[]⟩ : ByteArray), false, true)) else (if t103.toList = ([] : List UInt8) then (if 2 < 2 then (if (⟨#[]⟩ : ByteArray).toList = ([] : List UInt8) then (some (0, (⟨#[]⟩ : ByteArray), (⟨#[]⟩ : ByteArray), false, true)) else (if (t102.size : Int) ≤ 18 then (some (2, t102, (⟨#[]⟩ : ByteArray), true, decide (((⟨#[]⟩ : ByteArray).size : Int) ≤ 18))) else (some (2, t102, (⟨#[]⟩ : ByteArray), true, false)))) else (if (t102.size : Int) ≤ 18 then (some (2, t102, (⟨#[]⟩ : ByteArray), true, decide (((⟨#[]⟩ : ByteArray).size : Int) ≤ 18))) else (some (2, t102, (⟨#[]⟩ : ByteArray), true, false)))) else (some (0, (⟨#[]⟩ : ByteArray), (⟨#[]⟩ : ByteArray), false, true))))) = some (r1, r2, r3, r4, r5) := H
      have A19 := aM_ A190
      clear A190
      by_cases c20 : t107 = true
      ·
       subst c20
       have H1 : (if 4 ≤ (t103.size : Int) then ((spec_verDigits.f kj1 (t103.extract 4 t103.size)).bind fun bt108 => (if t102.toList = ([] : List UInt8) then (some (0, (⟨#[]⟩ : ByteArray), (⟨#[]⟩ : ByteArray), false, true)) else (if bt108.2.toList = ([] : List UInt8) then (if 1 < 2 then (if bt108.1.toList = ([] : List UInt8) then (some (0, (⟨#[]⟩ : ByteArray), (⟨#[]⟩ : ByteArray), false, true)) else (if (t102.size : Int) ≤ 18 then (some (1, t102, bt108.1, true, decide ((bt108.1.size : Int) ≤ 18))) else (some (1, t102, bt108.1, true, false)))) else (if (t102.size : Int) ≤ 18 then (some (1, t102, bt108.1, true, decide ((bt108.1.size : Int) ≤ 18))) else (some (1, t102, bt108.1, true, false)))) else (some (0, (⟨#[]⟩ : ByteArray), (⟨#[]⟩ : ByteArray), false, true))))) else (none)) = some (r1, r2, r3, r4, r5) := by rw [if_pos rfl] at H; exact H
       clear H
       have H := H1
       clear H1
       by_cases c21 : 4 ≤ (t103.size : Int)
       ·
        rw [if_pos c21] at H
        have c21b0 := eq_true c21
        have c21b1 : decide (4 ≤ (t103.size : Int)) = true := decide_eq_true c21
        clear c21
        replace H := Option.bind_eq_some_iff.mp H
        obtain ⟨⟨t108, t109⟩, A220, H⟩ := H
        replace H : (if t102.toList = ([] : List UInt8) then (some (0, (⟨#[]⟩ : ByteArray), (⟨#[]⟩ : ByteArray), false, true)) else (if t109.toList = ([] : List UInt8) then (if 1 < 2 then (if t108.toList = ([] : List UInt8) then (some (0, (⟨#[]⟩ : ByteArray), (⟨#[]⟩ : ByteArray), false, true)) else (if (t102.size : Int) ≤ 18 then (some (1, t102, t108, true, decide ((t108.size : Int) ≤ 18))) else (some (1, t102, t108, true, false)))) else (if (t102.size : Int) ≤ 18 then (some (1, t102, t108, true, decide ((t108.size : Int) ≤ 18))) else (some (1, t102, t108, true, false)))) else (some (0, (⟨#[]⟩ : ByteArray), (⟨#[]⟩ : ByteArray), false, true)))) = some (r1, r2, r3, r4, r5) := H
        have A22 := aM_ A220
        clear A220
        by_cases c23 : t102.toList = ([] : List UInt8)
        ·
         rw [if_pos c23] at H
         have c23b0 : (t102.toList == ([] : List UInt8)) = true := beq_iff_eq.mpr c23
         have c23b1 : (t102.toList != ([] : List UInt8)) = false := bne_eq_false_iff_eq.mpr c23
         clear c23
         simp only [Option.some.injEq, Prod.mk.injEq] at H
         obtain ⟨rfl, rfl, rfl, rfl, rfl⟩ := H
         go_wp2_with (first | ((with_reducible refine gate_callee (f := 75) rfl ?_); refine goesL_ (some 18) rfl rfl Tryd.func75 (by kernel_rfl) rfl #[.string (a0.extract 1 a0.size)] rfl (by (try simp only [List.map_toArray, List.map_cons, List.map_nil]); first | done | rfl | (simp only [List.length_drop, List.length_take]; rfl)) ?_; (with_reducible refine (spec_verDigits.calls kj1 (a0.extract 1 a0.size) t102 t103 _ A8.out).mono ?_); rintro e w' ⟨rfl, ⟨nd, rfl⟩⟩; refine ⟨_, rfl, ?_⟩) | ((with_reducible refine gate_callee (f := 76) rfl ?_); refine goesL_ (some 23) rfl rfl Tryd.func76 (by kernel_rfl) rfl #[.string t103, .string (⟨#[97, 108, 112, 104, 97]⟩ : ByteArray)] rfl (by (try simp only [List.map_toArray, List.map_cons, List.map_nil]); first | done | rfl | (simp only [List.length_drop, List.length_take]; rfl)) ?_; (with_reducible refine (spec_VerHead.calls t103 (⟨#[97, 108, 112, 104, 97]⟩ : ByteArray) false _ A9.out).mono ?_); rintro e w' ⟨rfl, ⟨nd, rfl⟩⟩; refine ⟨_, rfl, ?_⟩) | ((with_reducible refine gate_callee (f := 76) rfl ?_); refine goesL_ (some 32) rfl rfl Tryd.func76 (by kernel_rfl) rfl #[.string t103, .string (⟨#[98, 101, 116, 97]⟩ : ByteArray)] rfl (by (try simp only [List.map_toArray, List.map_cons, List.map_nil]); first | done | rfl | (simp only [List.length_drop, List.length_take]; rfl)) ?_; (with_reducible refine (spec_VerHead.calls t103 (⟨#[98, 101, 116, 97]⟩ : ByteArray) true _ A19.out).mono ?_); rintro e w' ⟨rfl, ⟨nd, rfl⟩⟩; refine ⟨_, rfl, ?_⟩) | ((with_reducible refine gate_callee (f := 75) rfl ?_); refine goesL_ (some 36) rfl rfl Tryd.func75 (by kernel_rfl) rfl #[.string (t103.extract 4 t103.size)] rfl (by (try simp only [List.map_toArray, List.map_cons, List.map_nil]); first | done | rfl | (simp only [List.length_drop, List.length_take]; rfl)) ?_; (with_reducible refine (spec_verDigits.calls kj1 (t103.extract 4 t103.size) t108 t109 _ A22.out).mono ?_); rintro e w' ⟨rfl, ⟨nd, rfl⟩⟩; refine ⟨_, rfl, ?_⟩))
         refine bodyPost_ret (results_list (rs := [.tmp 2, .tmp 3, .tmp 4, .tmp 5, .tmp 6]) rfl (by simp) (.tmp (.tmp (.tmp (.tmp (.tmp .nil)))))) rfl ?_
         exact ⟨by first | rfl | (simp; done) | (simp [*]; done), by repeat (first | exact Drawn0.refl _ | apply Drawn0.step)⟩
        ·
         rw [if_neg c23] at H
         have c23b0 : (t102.toList == ([] : List UInt8)) = false := beq_eq_false_iff_ne.mpr c23
         have c23b1 : (t102.toList != ([] : List UInt8)) = true := bne_iff_ne.mpr c23
         by_cases c24 : t109.toList = ([] : List UInt8)
         ·
          rw [if_pos c24] at H
          have c24b0 : (t109.toList == ([] : List UInt8)) = true := beq_iff_eq.mpr c24
          have c24b1 : (t109.toList != ([] : List UInt8)) = false := bne_eq_false_iff_eq.mpr c24
          clear c24
          by_cases c25 : 1 < 2
          ·
           rw [if_pos c25] at H
           have c25b0 : decide (1 < 2) = true := decide_eq_true c25
           clear c25
           by_cases c26 : t108.toList = ([] : List UInt8)
           ·
            rw [if_pos c26] at H
            have c26b0 : (t108.toList == ([] : List UInt8)) = true := beq_iff_eq.mpr c26
            have c26b1 : (t108.toList != ([] : List UInt8)) = false := bne_eq_false_iff_eq.mpr c26
            clear c26
            simp only [Option.some.injEq, Prod.mk.injEq] at H
            obtain ⟨rfl, rfl, rfl, rfl, rfl⟩ := H
            go_wp2_with (first | ((with_reducible refine gate_callee (f := 75) rfl ?_); refine goesL_ (some 18) rfl rfl Tryd.func75 (by kernel_rfl) rfl #[.string (a0.extract 1 a0.size)] rfl (by (try simp only [List.map_toArray, List.map_cons, List.map_nil]); first | done | rfl | (simp only [List.length_drop, List.length_take]; rfl)) ?_; (with_reducible refine (spec_verDigits.calls kj1 (a0.extract 1 a0.size) t102 t103 _ A8.out).mono ?_); rintro e w' ⟨rfl, ⟨nd, rfl⟩⟩; refine ⟨_, rfl, ?_⟩) | ((with_reducible refine gate_callee (f := 76) rfl ?_); refine goesL_ (some 23) rfl rfl Tryd.func76 (by kernel_rfl) rfl #[.string t103, .string (⟨#[97, 108, 112, 104, 97]⟩ : ByteArray)] rfl (by (try simp only [List.map_toArray, List.map_cons, List.map_nil]); first | done | rfl | (simp only [List.length_drop, List.length_take]; rfl)) ?_; (with_reducible refine (spec_VerHead.calls t103 (⟨#[97, 108, 112, 104, 97]⟩ : ByteArray) false _ A9.out).mono ?_); rintro e w' ⟨rfl, ⟨nd, rfl⟩⟩; refine ⟨_, rfl, ?_⟩) | ((with_reducible refine gate_callee (f := 76) rfl ?_); refine goesL_ (some 32) rfl rfl Tryd.func76 (by kernel_rfl) rfl #[.string t103, .string (⟨#[98, 101, 116, 97]⟩ : ByteArray)] rfl (by (try simp only [List.map_toArray, List.map_cons, List.map_nil]); first | done | rfl | (simp only [List.length_drop, List.length_take]; rfl)) ?_; (with_reducible refine (spec_VerHead.calls t103 (⟨#[98, 101, 116, 97]⟩ : ByteArray) true _ A19.out).mono ?_); rintro e w' ⟨rfl, ⟨nd, rfl⟩⟩; refine ⟨_, rfl, ?_⟩) | ((with_reducible refine gate_callee (f := 75) rfl ?_); refine goesL_ (some 36) rfl rfl Tryd.func75 (by kernel_rfl) rfl #[.string (t103.extract 4 t103.size)] rfl (by (try simp only [List.map_toArray, List.map_cons, List.map_nil]); first | done | rfl | (simp only [List.length_drop, List.length_take]; rfl)) ?_; (with_reducible refine (spec_verDigits.calls kj1 (t103.extract 4 t103.size) t108 t109 _ A22.out).mono ?_); rintro e w' ⟨rfl, ⟨nd, rfl⟩⟩; refine ⟨_, rfl, ?_⟩))
            refine bodyPost_ret (results_list (rs := [.tmp 2, .tmp 3, .tmp 4, .tmp 5, .tmp 6]) rfl (by simp) (.tmp (.tmp (.tmp (.tmp (.tmp .nil)))))) rfl ?_
            exact ⟨by first | rfl | (simp; done) | (simp [*]; done), by repeat (first | exact Drawn0.refl _ | apply Drawn0.step)⟩
           ·
            rw [if_neg c26] at H
            have c26b0 : (t108.toList == ([] : List UInt8)) = false := beq_eq_false_iff_ne.mpr c26
            have c26b1 : (t108.toList != ([] : List UInt8)) = true := bne_iff_ne.mpr c26
            by_cases c27 : (t102.size : Int) ≤ 18
            ·
             rw [if_pos c27] at H
             have c27b0 : decide ((t102.size : Int) ≤ 18) = true := decide_eq_true c27
             have c27b1 : decide (t102.size ≤ 18) = true := decide_eq_true (by omega)
             clear c27
             simp only [Option.some.injEq, Prod.mk.injEq] at H
             obtain ⟨rfl, rfl, rfl, rfl, rfl⟩ := H
             go_wp2_with (first | ((with_reducible refine gate_callee (f := 75) rfl ?_); refine goesL_ (some 18) rfl rfl Tryd.func75 (by kernel_rfl) rfl #[.string (a0.extract 1 a0.size)] rfl (by (try simp only [List.map_toArray, List.map_cons, List.map_nil]); first | done | rfl | (simp only [List.length_drop, List.length_take]; rfl)) ?_; (with_reducible refine (spec_verDigits.calls kj1 (a0.extract 1 a0.size) t102 t103 _ A8.out).mono ?_); rintro e w' ⟨rfl, ⟨nd, rfl⟩⟩; refine ⟨_, rfl, ?_⟩) | ((with_reducible refine gate_callee (f := 76) rfl ?_); refine goesL_ (some 23) rfl rfl Tryd.func76 (by kernel_rfl) rfl #[.string t103, .string (⟨#[97, 108, 112, 104, 97]⟩ : ByteArray)] rfl (by (try simp only [List.map_toArray, List.map_cons, List.map_nil]); first | done | rfl | (simp only [List.length_drop, List.length_take]; rfl)) ?_; (with_reducible refine (spec_VerHead.calls t103 (⟨#[97, 108, 112, 104, 97]⟩ : ByteArray) false _ A9.out).mono ?_); rintro e w' ⟨rfl, ⟨nd, rfl⟩⟩; refine ⟨_, rfl, ?_⟩) | ((with_reducible refine gate_callee (f := 76) rfl ?_); refine goesL_ (some 32) rfl rfl Tryd.func76 (by kernel_rfl) rfl #[.string t103, .string (⟨#[98, 101, 116, 97]⟩ : ByteArray)] rfl (by (try simp only [List.map_toArray, List.map_cons, List.map_nil]); first | done | rfl | (simp only [List.length_drop, List.length_take]; rfl)) ?_; (with_reducible refine (spec_VerHead.calls t103 (⟨#[98, 101, 116, 97]⟩ : ByteArray) true _ A19.out).mono ?_); rintro e w' ⟨rfl, ⟨nd, rfl⟩⟩; refine ⟨_, rfl, ?_⟩) | ((with_reducible refine gate_callee (f := 75) rfl ?_); refine goesL_ (some 36) rfl rfl Tryd.func75 (by kernel_rfl) rfl #[.string (t103.extract 4 t103.size)] rfl (by (try simp only [List.map_toArray, List.map_cons, List.map_nil]); first | done | rfl | (simp only [List.length_drop, List.length_take]; rfl)) ?_; (with_reducible refine (spec_verDigits.calls kj1 (t103.extract 4 t103.size) t108 t109 _ A22.out).mono ?_); rintro e w' ⟨rfl, ⟨nd, rfl⟩⟩; refine ⟨_, rfl, ?_⟩))
             refine bodyPost_ret (results_list (rs := [.tmp 2, .tmp 3, .tmp 4, .tmp 5, .tmp 6]) rfl (by simp) (.tmp (.tmp (.tmp (.tmp (.tmp .nil)))))) rfl ?_
             exact ⟨by first | rfl | (simp; done) | (simp [*]; done), by repeat (first | exact Drawn0.refl _ | apply Drawn0.step)⟩
            ·
             rw [if_neg c27] at H
             have c27b0 : decide ((t102.size : Int) ≤ 18) = false := decide_eq_false c27
             have c27b1 : decide (t102.size ≤ 18) = false := decide_eq_false (by omega)
             clear c27
             simp only [Option.some.injEq, Prod.mk.injEq] at H
             obtain ⟨rfl, rfl, rfl, rfl, rfl⟩ := H
             go_wp2_with (first | ((with_reducible refine gate_callee (f := 75) rfl ?_); refine goesL_ (some 18) rfl rfl Tryd.func75 (by kernel_rfl) rfl #[.string (a0.extract 1 a0.size)] rfl (by (try simp only [List.map_toArray, List.map_cons, List.map_nil]); first | done | rfl | (simp only [List.length_drop, List.length_take]; rfl)) ?_; (with_reducible refine (spec_verDigits.calls kj1 (a0.extract 1 a0.size) t102 t103 _ A8.out).mono ?_); rintro e w' ⟨rfl, ⟨nd, rfl⟩⟩; refine ⟨_, rfl, ?_⟩) | ((with_reducible refine gate_callee (f := 76) rfl ?_); refine goesL_ (some 23) rfl rfl Tryd.func76 (by kernel_rfl) rfl #[.string t103, .string (⟨#[97, 108, 112, 104, 97]⟩ : ByteArray)] rfl (by (try simp only [List.map_toArray, List.map_cons, List.map_nil]); first | done | rfl | (simp only [List.length_drop, List.length_take]; rfl)) ?_; (with_reducible refine (spec_VerHead.calls t103 (⟨#[97, 108, 112, 104, 97]⟩ : ByteArray) false _ A9.out).mono ?_); rintro e w' ⟨rfl, ⟨nd, rfl⟩⟩; refine ⟨_, rfl, ?_⟩) | ((with_reducible refine gate_callee (f := 76) rfl ?_); refine goesL_ (some 32) rfl rfl Tryd.func76 (by kernel_rfl) rfl #[.string t103, .string (⟨#[98, 101, 116, 97]⟩ : ByteArray)] rfl (by (try simp only [List.map_toArray, List.map_cons, List.map_nil]); first | done | rfl | (simp only [List.length_drop, List.length_take]; rfl)) ?_; (with_reducible refine (spec_VerHead.calls t103 (⟨#[98, 101, 116, 97]⟩ : ByteArray) true _ A19.out).mono ?_); rintro e w' ⟨rfl, ⟨nd, rfl⟩⟩; refine ⟨_, rfl, ?_⟩) | ((with_reducible refine gate_callee (f := 75) rfl ?_); refine goesL_ (some 36) rfl rfl Tryd.func75 (by kernel_rfl) rfl #[.string (t103.extract 4 t103.size)] rfl (by (try simp only [List.map_toArray, List.map_cons, List.map_nil]); first | done | rfl | (simp only [List.length_drop, List.length_take]; rfl)) ?_; (with_reducible refine (spec_verDigits.calls kj1 (t103.extract 4 t103.size) t108 t109 _ A22.out).mono ?_); rintro e w' ⟨rfl, ⟨nd, rfl⟩⟩; refine ⟨_, rfl, ?_⟩))
             refine bodyPost_ret (results_list (rs := [.tmp 2, .tmp 3, .tmp 4, .tmp 5, .tmp 6]) rfl (by simp) (.tmp (.tmp (.tmp (.tmp (.tmp .nil)))))) rfl ?_
             exact ⟨by first | rfl | (simp; done) | (simp [*]; done), by repeat (first | exact Drawn0.refl _ | apply Drawn0.step)⟩
          · exact absurd (by decide) c25
         ·
          rw [if_neg c24] at H
          have c24b0 : (t109.toList == ([] : List UInt8)) = false := beq_eq_false_iff_ne.mpr c24
          have c24b1 : (t109.toList != ([] : List UInt8)) = true := bne_iff_ne.mpr c24
          simp only [Option.some.injEq, Prod.mk.injEq] at H
          obtain ⟨rfl, rfl, rfl, rfl, rfl⟩ := H
          go_wp2_with (first | ((with_reducible refine gate_callee (f := 75) rfl ?_); refine goesL_ (some 18) rfl rfl Tryd.func75 (by kernel_rfl) rfl #[.string (a0.extract 1 a0.size)] rfl (by (try simp only [List.map_toArray, List.map_cons, List.map_nil]); first | done | rfl | (simp only [List.length_drop, List.length_take]; rfl)) ?_; (with_reducible refine (spec_verDigits.calls kj1 (a0.extract 1 a0.size) t102 t103 _ A8.out).mono ?_); rintro e w' ⟨rfl, ⟨nd, rfl⟩⟩; refine ⟨_, rfl, ?_⟩) | ((with_reducible refine gate_callee (f := 76) rfl ?_); refine goesL_ (some 23) rfl rfl Tryd.func76 (by kernel_rfl) rfl #[.string t103, .string (⟨#[97, 108, 112, 104, 97]⟩ : ByteArray)] rfl (by (try simp only [List.map_toArray, List.map_cons, List.map_nil]); first | done | rfl | (simp only [List.length_drop, List.length_take]; rfl)) ?_; (with_reducible refine (spec_VerHead.calls t103 (⟨#[97, 108, 112, 104, 97]⟩ : ByteArray) false _ A9.out).mono ?_); rintro e w' ⟨rfl, ⟨nd, rfl⟩⟩; refine ⟨_, rfl, ?_⟩) | ((with_reducible refine gate_callee (f := 76) rfl ?_); refine goesL_ (some 32) rfl rfl Tryd.func76 (by kernel_rfl) rfl #[.string t103, .string (⟨#[98, 101, 116, 97]⟩ : ByteArray)] rfl (by (try simp only [List.map_toArray, List.map_cons, List.map_nil]); first | done | rfl | (simp only [List.length_drop, List.length_take]; rfl)) ?_; (with_reducible refine (spec_VerHead.calls t103 (⟨#[98, 101, 116, 97]⟩ : ByteArray) true _ A19.out).mono ?_); rintro e w' ⟨rfl, ⟨nd, rfl⟩⟩; refine ⟨_, rfl, ?_⟩) | ((with_reducible refine gate_callee (f := 75) rfl ?_); refine goesL_ (some 36) rfl rfl Tryd.func75 (by kernel_rfl) rfl #[.string (t103.extract 4 t103.size)] rfl (by (try simp only [List.map_toArray, List.map_cons, List.map_nil]); first | done | rfl | (simp only [List.length_drop, List.length_take]; rfl)) ?_; (with_reducible refine (spec_verDigits.calls kj1 (t103.extract 4 t103.size) t108 t109 _ A22.out).mono ?_); rintro e w' ⟨rfl, ⟨nd, rfl⟩⟩; refine ⟨_, rfl, ?_⟩))
          refine bodyPost_ret (results_list (rs := [.tmp 2, .tmp 3, .tmp 4, .tmp 5, .tmp 6]) rfl (by simp) (.tmp (.tmp (.tmp (.tmp (.tmp .nil)))))) rfl ?_
          exact ⟨by first | rfl | (simp; done) | (simp [*]; done), by repeat (first | exact Drawn0.refl _ | apply Drawn0.step)⟩
       ·
        rw [if_neg c21] at H
        exact absurd H (by simp)
      ·
       replace c20 := Bool.eq_false_iff.mpr c20
       subst c20
       have H1 : (if t102.toList = ([] : List UInt8) then (some (0, (⟨#[]⟩ : ByteArray), (⟨#[]⟩ : ByteArray), false, true)) else (if t103.toList = ([] : List UInt8) then (if 2 < 2 then (if (⟨#[]⟩ : ByteArray).toList = ([] : List UInt8) then (some (0, (⟨#[]⟩ : ByteArray), (⟨#[]⟩ : ByteArray), false, true)) else (if (t102.size : Int) ≤ 18 then (some (2, t102, (⟨#[]⟩ : ByteArray), true, decide (((⟨#[]⟩ : ByteArray).size : Int) ≤ 18))) else (some (2, t102, (⟨#[]⟩ : ByteArray), true, false)))) else (if (t102.size : Int) ≤ 18 then (some (2, t102, (⟨#[]⟩ : ByteArray), true, decide (((⟨#[]⟩ : ByteArray).size : Int) ≤ 18))) else (some (2, t102, (⟨#[]⟩ : ByteArray), true, false)))) else (some (0, (⟨#[]⟩ : ByteArray), (⟨#[]⟩ : ByteArray), false, true)))) = some (r1, r2, r3, r4, r5) := by rw [if_neg (show ¬ (false = true) by decide)] at H; exact H
       clear H
       have H := H1
       clear H1
       by_cases c29 : t102.toList = ([] : List UInt8)
       ·
        rw [if_pos c29] at H
        have c29b0 : (t102.toList == ([] : List UInt8)) = true := beq_iff_eq.mpr c29
        have c29b1 : (t102.toList != ([] : List UInt8)) = false := bne_eq_false_iff_eq.mpr c29
        clear c29
        simp only [Option.some.injEq, Prod.mk.injEq] at H
        obtain ⟨rfl, rfl, rfl, rfl, rfl⟩ := H
        go_wp2_with (first | ((with_reducible refine gate_callee (f := 75) rfl ?_); refine goesL_ (some 18) rfl rfl Tryd.func75 (by kernel_rfl) rfl #[.string (a0.extract 1 a0.size)] rfl (by (try simp only [List.map_toArray, List.map_cons, List.map_nil]); first | done | rfl | (simp only [List.length_drop, List.length_take]; rfl)) ?_; (with_reducible refine (spec_verDigits.calls kj1 (a0.extract 1 a0.size) t102 t103 _ A8.out).mono ?_); rintro e w' ⟨rfl, ⟨nd, rfl⟩⟩; refine ⟨_, rfl, ?_⟩) | ((with_reducible refine gate_callee (f := 76) rfl ?_); refine goesL_ (some 23) rfl rfl Tryd.func76 (by kernel_rfl) rfl #[.string t103, .string (⟨#[97, 108, 112, 104, 97]⟩ : ByteArray)] rfl (by (try simp only [List.map_toArray, List.map_cons, List.map_nil]); first | done | rfl | (simp only [List.length_drop, List.length_take]; rfl)) ?_; (with_reducible refine (spec_VerHead.calls t103 (⟨#[97, 108, 112, 104, 97]⟩ : ByteArray) false _ A9.out).mono ?_); rintro e w' ⟨rfl, ⟨nd, rfl⟩⟩; refine ⟨_, rfl, ?_⟩) | ((with_reducible refine gate_callee (f := 76) rfl ?_); refine goesL_ (some 32) rfl rfl Tryd.func76 (by kernel_rfl) rfl #[.string t103, .string (⟨#[98, 101, 116, 97]⟩ : ByteArray)] rfl (by (try simp only [List.map_toArray, List.map_cons, List.map_nil]); first | done | rfl | (simp only [List.length_drop, List.length_take]; rfl)) ?_; (with_reducible refine (spec_VerHead.calls t103 (⟨#[98, 101, 116, 97]⟩ : ByteArray) false _ A19.out).mono ?_); rintro e w' ⟨rfl, ⟨nd, rfl⟩⟩; refine ⟨_, rfl, ?_⟩))
        refine bodyPost_ret (results_list (rs := [.tmp 2, .tmp 3, .tmp 4, .tmp 5, .tmp 6]) rfl (by simp) (.tmp (.tmp (.tmp (.tmp (.tmp .nil)))))) rfl ?_
        exact ⟨by first | rfl | (simp; done) | (simp [*]; done), by repeat (first | exact Drawn0.refl _ | apply Drawn0.step)⟩
       ·
        rw [if_neg c29] at H
        have c29b0 : (t102.toList == ([] : List UInt8)) = false := beq_eq_false_iff_ne.mpr c29
        have c29b1 : (t102.toList != ([] : List UInt8)) = true := bne_iff_ne.mpr c29
        by_cases c30 : t103.toList = ([] : List UInt8)
        ·
         rw [if_pos c30] at H
         have c30b0 : (t103.toList == ([] : List UInt8)) = true := beq_iff_eq.mpr c30
         have c30b1 : (t103.toList != ([] : List UInt8)) = false := bne_eq_false_iff_eq.mpr c30
         clear c30
         by_cases c31 : 2 < 2
         · exact absurd c31 (by decide)
         ·
          rw [if_neg c31] at H
          have c31b0 : decide (2 < 2) = false := decide_eq_false c31
          clear c31
          by_cases c34 : (t102.size : Int) ≤ 18
          ·
           rw [if_pos c34] at H
           have c34b0 : decide ((t102.size : Int) ≤ 18) = true := decide_eq_true c34
           have c34b1 : decide (t102.size ≤ 18) = true := decide_eq_true (by omega)
           clear c34
           simp only [Option.some.injEq, Prod.mk.injEq] at H
           obtain ⟨rfl, rfl, rfl, rfl, rfl⟩ := H
           go_wp2_with (first | ((with_reducible refine gate_callee (f := 75) rfl ?_); refine goesL_ (some 18) rfl rfl Tryd.func75 (by kernel_rfl) rfl #[.string (a0.extract 1 a0.size)] rfl (by (try simp only [List.map_toArray, List.map_cons, List.map_nil]); first | done | rfl | (simp only [List.length_drop, List.length_take]; rfl)) ?_; (with_reducible refine (spec_verDigits.calls kj1 (a0.extract 1 a0.size) t102 t103 _ A8.out).mono ?_); rintro e w' ⟨rfl, ⟨nd, rfl⟩⟩; refine ⟨_, rfl, ?_⟩) | ((with_reducible refine gate_callee (f := 76) rfl ?_); refine goesL_ (some 23) rfl rfl Tryd.func76 (by kernel_rfl) rfl #[.string t103, .string (⟨#[97, 108, 112, 104, 97]⟩ : ByteArray)] rfl (by (try simp only [List.map_toArray, List.map_cons, List.map_nil]); first | done | rfl | (simp only [List.length_drop, List.length_take]; rfl)) ?_; (with_reducible refine (spec_VerHead.calls t103 (⟨#[97, 108, 112, 104, 97]⟩ : ByteArray) false _ A9.out).mono ?_); rintro e w' ⟨rfl, ⟨nd, rfl⟩⟩; refine ⟨_, rfl, ?_⟩) | ((with_reducible refine gate_callee (f := 76) rfl ?_); refine goesL_ (some 32) rfl rfl Tryd.func76 (by kernel_rfl) rfl #[.string t103, .string (⟨#[98, 101, 116, 97]⟩ : ByteArray)] rfl (by (try simp only [List.map_toArray, List.map_cons, List.map_nil]); first | done | rfl | (simp only [List.length_drop, List.length_take]; rfl)) ?_; (with_reducible refine (spec_VerHead.calls t103 (⟨#[98, 101, 116, 97]⟩ : ByteArray) false _ A19.out).mono ?_); rintro e w' ⟨rfl, ⟨nd, rfl⟩⟩; refine ⟨_, rfl, ?_⟩))
           refine bodyPost_ret (results_list (rs := [.tmp 2, .tmp 3, .tmp 4, .tmp 5, .tmp 6]) rfl (by simp) (.tmp (.tmp (.tmp (.tmp (.tmp .nil)))))) rfl ?_
           exact ⟨by first | rfl | (simp; done) | (simp [*]; done), by repeat (first | exact Drawn0.refl _ | apply Drawn0.step)⟩
          ·
           rw [if_neg c34] at H
           have c34b0 : decide ((t102.size : Int) ≤ 18) = false := decide_eq_false c34
           have c34b1 : decide (t102.size ≤ 18) = false := decide_eq_false (by omega)
           clear c34
           simp only [Option.some.injEq, Prod.mk.injEq] at H
           obtain ⟨rfl, rfl, rfl, rfl, rfl⟩ := H
           go_wp2_with (first | ((with_reducible refine gate_callee (f := 75) rfl ?_); refine goesL_ (some 18) rfl rfl Tryd.func75 (by kernel_rfl) rfl #[.string (a0.extract 1 a0.size)] rfl (by (try simp only [List.map_toArray, List.map_cons, List.map_nil]); first | done | rfl | (simp only [List.length_drop, List.length_take]; rfl)) ?_; (with_reducible refine (spec_verDigits.calls kj1 (a0.extract 1 a0.size) t102 t103 _ A8.out).mono ?_); rintro e w' ⟨rfl, ⟨nd, rfl⟩⟩; refine ⟨_, rfl, ?_⟩) | ((with_reducible refine gate_callee (f := 76) rfl ?_); refine goesL_ (some 23) rfl rfl Tryd.func76 (by kernel_rfl) rfl #[.string t103, .string (⟨#[97, 108, 112, 104, 97]⟩ : ByteArray)] rfl (by (try simp only [List.map_toArray, List.map_cons, List.map_nil]); first | done | rfl | (simp only [List.length_drop, List.length_take]; rfl)) ?_; (with_reducible refine (spec_VerHead.calls t103 (⟨#[97, 108, 112, 104, 97]⟩ : ByteArray) false _ A9.out).mono ?_); rintro e w' ⟨rfl, ⟨nd, rfl⟩⟩; refine ⟨_, rfl, ?_⟩) | ((with_reducible refine gate_callee (f := 76) rfl ?_); refine goesL_ (some 32) rfl rfl Tryd.func76 (by kernel_rfl) rfl #[.string t103, .string (⟨#[98, 101, 116, 97]⟩ : ByteArray)] rfl (by (try simp only [List.map_toArray, List.map_cons, List.map_nil]); first | done | rfl | (simp only [List.length_drop, List.length_take]; rfl)) ?_; (with_reducible refine (spec_VerHead.calls t103 (⟨#[98, 101, 116, 97]⟩ : ByteArray) false _ A19.out).mono ?_); rintro e w' ⟨rfl, ⟨nd, rfl⟩⟩; refine ⟨_, rfl, ?_⟩))
           refine bodyPost_ret (results_list (rs := [.tmp 2, .tmp 3, .tmp 4, .tmp 5, .tmp 6]) rfl (by simp) (.tmp (.tmp (.tmp (.tmp (.tmp .nil)))))) rfl ?_
           exact ⟨by first | rfl | (simp; done) | (simp [*]; done), by repeat (first | exact Drawn0.refl _ | apply Drawn0.step)⟩
        ·
         rw [if_neg c30] at H
         have c30b0 : (t103.toList == ([] : List UInt8)) = false := beq_eq_false_iff_ne.mpr c30
         have c30b1 : (t103.toList != ([] : List UInt8)) = true := bne_iff_ne.mpr c30
         simp only [Option.some.injEq, Prod.mk.injEq] at H
         obtain ⟨rfl, rfl, rfl, rfl, rfl⟩ := H
         go_wp2_with (first | ((with_reducible refine gate_callee (f := 75) rfl ?_); refine goesL_ (some 18) rfl rfl Tryd.func75 (by kernel_rfl) rfl #[.string (a0.extract 1 a0.size)] rfl (by (try simp only [List.map_toArray, List.map_cons, List.map_nil]); first | done | rfl | (simp only [List.length_drop, List.length_take]; rfl)) ?_; (with_reducible refine (spec_verDigits.calls kj1 (a0.extract 1 a0.size) t102 t103 _ A8.out).mono ?_); rintro e w' ⟨rfl, ⟨nd, rfl⟩⟩; refine ⟨_, rfl, ?_⟩) | ((with_reducible refine gate_callee (f := 76) rfl ?_); refine goesL_ (some 23) rfl rfl Tryd.func76 (by kernel_rfl) rfl #[.string t103, .string (⟨#[97, 108, 112, 104, 97]⟩ : ByteArray)] rfl (by (try simp only [List.map_toArray, List.map_cons, List.map_nil]); first | done | rfl | (simp only [List.length_drop, List.length_take]; rfl)) ?_; (with_reducible refine (spec_VerHead.calls t103 (⟨#[97, 108, 112, 104, 97]⟩ : ByteArray) false _ A9.out).mono ?_); rintro e w' ⟨rfl, ⟨nd, rfl⟩⟩; refine ⟨_, rfl, ?_⟩) | ((with_reducible refine gate_callee (f := 76) rfl ?_); refine goesL_ (some 32) rfl rfl Tryd.func76 (by kernel_rfl) rfl #[.string t103, .string (⟨#[98, 101, 116, 97]⟩ : ByteArray)] rfl (by (try simp only [List.map_toArray, List.map_cons, List.map_nil]); first | done | rfl | (simp only [List.length_drop, List.length_take]; rfl)) ?_; (with_reducible refine (spec_VerHead.calls t103 (⟨#[98, 101, 116, 97]⟩ : ByteArray) false _ A19.out).mono ?_); rintro e w' ⟨rfl, ⟨nd, rfl⟩⟩; refine ⟨_, rfl, ?_⟩))
         refine bodyPost_ret (results_list (rs := [.tmp 2, .tmp 3, .tmp 4, .tmp 5, .tmp 6]) rfl (by simp) (.tmp (.tmp (.tmp (.tmp (.tmp .nil)))))) rfl ?_
         exact ⟨by first | rfl | (simp; done) | (simp [*]; done), by repeat (first | exact Drawn0.refl _ | apply Drawn0.step)⟩
    ·
     rw [if_neg c7] at H
     exact absurd H (by simp)

/-! ### spec_verSign: function 55 -/
def spec_verSign.f (a0 : Int) : Option (Int) := if a0 < 0 then (some (-1)) else (if a0 > 0 then (some 1) else (some 0))
set_option maxHeartbeats 8000000 in
set_option maxRecDepth 100000 in
theorem spec_verSign.calls (a0 : Int) (r : Int) (w : World) (h : spec_verSign.f a0 = some r) :
  Calls Tryd.prog 55 #[.int .i64 a0] w fun e w' => e = .returned (.int .i64 r) ∧ Drawn0 w w' := by
 have H : (if a0 < 0 then (some (-1)) else (if a0 > 0 then (some 1) else (some 0))) = some r := h
 clear h
 by_cases c2 : a0 < 0
 ·
  rw [if_pos c2] at H
  have c2b0 : decide (a0 < 0) = true := decide_eq_true c2
  clear c2
  obtain rfl := Option.some.inj H
  go_enter Tryd.func55, Tryd.ntmps55
  go_wp2
  go_ret
  exact ⟨by first | rfl | (simp; done) | (simp [*]; done), by repeat (first | exact Drawn0.refl _ | apply Drawn0.step)⟩
 ·
  rw [if_neg c2] at H
  have c2b0 : decide (a0 < 0) = false := decide_eq_false c2
  clear c2
  by_cases c3 : a0 > 0
  ·
   rw [if_pos c3] at H
   have c3b0 : decide (0 < a0) = true := decide_eq_true c3
   clear c3
   obtain rfl := Option.some.inj H
   go_enter Tryd.func55, Tryd.ntmps55
   go_wp2
   go_ret
   exact ⟨by first | rfl | (simp; done) | (simp [*]; done), by repeat (first | exact Drawn0.refl _ | apply Drawn0.step)⟩
  ·
   rw [if_neg c3] at H
   have c3b0 : decide (0 < a0) = false := decide_eq_false c3
   clear c3
   obtain rfl := Option.some.inj H
   go_enter Tryd.func55, Tryd.ntmps55
   go_wp2
   go_ret
   exact ⟨by first | rfl | (simp; done) | (simp [*]; done), by repeat (first | exact Drawn0.refl _ | apply Drawn0.step)⟩

/-! ### spec_NumOrder: function 77 -/
def spec_NumOrder.l0 : Nat → ByteArray → ByteArray → Int → Option (Int)
 | 0, _, _, _ => none
 | k + 1, x0, x1, x5 => if x5 < (x0.size : Int) then (if 0 ≤ x5 then (if x5 < (x1.size : Int) then (if (bt x0 x5) = (bt x1 x5) then (spec_NumOrder.l0 k x0 x1 (wrap64 (x5 + 1))) else (if (bt x0 x5) < (bt x1 x5) then (some (-1)) else (some 1))) else (none)) else (none)) else (some 0)
def spec_NumOrder.f (k : Nat) (a0 : ByteArray) (a1 : ByteArray) : Option (Int) := if (a0.size : Int) = (a1.size : Int) then (spec_NumOrder.l0 k a0 a1 0) else (if (a0.size : Int) < (a1.size : Int) then (some (-1)) else (some 1))
theorem spec_NumOrder.mono_l : ∀ k, (∀ y0 y1 y2, LeO (spec_NumOrder.l0 k y0 y1 y2) (spec_NumOrder.l0 (k + 1) y0 y1 y2))
 | 0 => fun _ _ _ r h => by simp [spec_NumOrder.l0] at h
 | k + 1 => by
  have ih0 := spec_NumOrder.mono_l k
  ·
   intro y0 y1 y2
   unfold spec_NumOrder.l0
   repeat' first
   | (with_reducible exact ih0 _ _ _)
   | (with_reducible exact LeO.refl _)
   | (with_reducible exact LeO.none _)
   | (with_reducible refine LeO.ite ?_ ?_)
   | (with_reducible refine LeO.bind ?_ (fun _ => ?_))
   | exact ih0 _ _ _
   | exact LeO.none _
   | refine LeO.ite ?_ ?_
   | refine LeO.bind ?_ (fun _ => ?_)
theorem spec_NumOrder.mono : ∀ a0 a1 k, LeO (spec_NumOrder.f k a0 a1) (spec_NumOrder.f (k + 1) a0 a1) := by
 intro a0 a1 k
 have ih0 := spec_NumOrder.mono_l k
 unfold spec_NumOrder.f
 repeat' first
   | (with_reducible exact ih0 _ _ _)
   | (with_reducible exact LeO.refl _)
   | (with_reducible exact LeO.none _)
   | (with_reducible refine LeO.ite ?_ ?_)
   | (with_reducible refine LeO.bind ?_ (fun _ => ?_))
   | exact ih0 _ _ _
   | exact LeO.none _
   | refine LeO.ite ?_ ?_
   | refine LeO.bind ?_ (fun _ => ?_)
set_option maxHeartbeats 8000000 in
set_option maxRecDepth 100000 in
theorem spec_NumOrder.calls (k : Nat) (a0 : ByteArray) (a1 : ByteArray) (r : Int) (w : World) (h : spec_NumOrder.f k a0 a1 = some r) :
  Calls Tryd.prog 77 #[.string a0, .string a1] w fun e w' => e = .returned (.int .i64 r) ∧ Drawn0 w w' := by
 have H : (if (a0.size : Int) = (a1.size : Int) then (spec_NumOrder.l0 k a0 a1 0) else (if (a0.size : Int) < (a1.size : Int) then (some (-1)) else (some 1))) = some r := h
 clear h
 by_cases c3 : (a0.size : Int) = (a1.size : Int)
 ·
  rw [if_pos c3] at H
  have c3b0 : ((a0.size : Int) == (a1.size : Int)) = true := beq_iff_eq.mpr c3
  have c3b1 : ((a0.size : Int) != (a1.size : Int)) = false := bne_eq_false_iff_eq.mpr c3
  have c3b2 : (a0.size == a1.size) = true := by first | simpa using c3 | (simp at c3 ⊢; omega)
  clear c3
  have H' := aM_ H
  clear H
  go_enter Tryd.func77, Tryd.ntmps77
  go_wp2
  repeat (go_quiet (fail); try go_wp2)
  go_loopg [5] k (fun kq v5 w' => ∃ (x5_1 : Int), v5 = .int .i64 x5_1 ∧ Aside0 (spec_NumOrder.l0 kq a0 a1 x5_1 = some r) ∧ Aside0 (kq ≤ k) ∧ Drawn0 w w')
  case atStart => exact ⟨(0), (by first | rfl | (simp; done) | (simp [*]; done)), H', ⟨Nat.le_refl _⟩, by repeat (first | exact Drawn0.refl _ | apply Drawn0.step)⟩
  case round =>
   clear H'
   try clear p2
   try clear c3
   try clear c3b0
   try clear c3b1
   try clear c3b2
   obtain ⟨x5_1, rfl, HA, HK1, ⟨m1, rfl⟩⟩ := hrel
   cases gk with
   | zero => exact absurd HA.out (by simp [spec_NumOrder.l0])
   | succ k1 =>
    have H := HA.out
    clear HA
    simp only [spec_NumOrder.l0] at H
    by_cases c4 : x5_1 < (a0.size : Int)
    ·
     rw [if_pos c4] at H
     have c4b0 : decide (x5_1 < (a0.size : Int)) = true := decide_eq_true c4
     clear c4
     by_cases c5 : 0 ≤ x5_1
     ·
      rw [if_pos c5] at H
      have c5b0 : decide (0 ≤ x5_1) = true := decide_eq_true c5
      clear c5
      by_cases c7 : x5_1 < (a1.size : Int)
      ·
       rw [if_pos c7] at H
       have c7b0 : decide (x5_1 < (a1.size : Int)) = true := decide_eq_true c7
       clear c7
       by_cases c9 : (bt a0 x5_1) = (bt a1 x5_1)
       ·
        rw [if_pos c9] at H
        have c9b0 : ((bt a0 x5_1) == (bt a1 x5_1)) = true := beq_iff_eq.mpr c9
        have c9b1 : ((bt a0 x5_1) != (bt a1 x5_1)) = false := bne_eq_false_iff_eq.mpr c9
        clear c9
        have H' := aM_ H
        clear H
        have p6 : 0 ≤ (x5_1 : Int) := of_decide_eq_true (by first | (with_reducible assumption) | assumption)
        have q6 : x5_1 < (a0.size : Int) := of_decide_eq_true (by first | (with_reducible assumption) | assumption)
        have hx6 := bt_at a0 x5_1
        replace p6 := eq_true p6
        replace q6 := eq_true q6
        have p8 : 0 ≤ (x5_1 : Int) := of_decide_eq_true (by first | (with_reducible assumption) | assumption)
        have q8 : x5_1 < (a1.size : Int) := of_decide_eq_true (by first | (with_reducible assumption) | assumption)
        have hx8 := bt_at a1 x5_1
        replace p8 := eq_true p8
        replace q8 := eq_true q8
        go_wp2
        repeat (go_quiet (fail); try go_wp2)
        go_roundg k1
        case measure => have := HK1.out; omega
        case rel => exact ⟨(wrap64 (x5_1 + 1)), (by first | rfl | (simp; done) | (simp [*]; done)), H', ⟨by have := HK1.out; omega⟩, by repeat (first | exact Drawn0.refl _ | apply Drawn0.step)⟩
       ·
        rw [if_neg c9] at H
        have c9b0 : ((bt a0 x5_1) == (bt a1 x5_1)) = false := beq_eq_false_iff_ne.mpr c9
        have c9b1 : ((bt a0 x5_1) != (bt a1 x5_1)) = true := bne_iff_ne.mpr c9
        by_cases c12 : (bt a0 x5_1) < (bt a1 x5_1)
        ·
         rw [if_pos c12] at H
         have c12b0 : decide ((bt a0 x5_1) < (bt a1 x5_1)) = true := decide_eq_true c12
         clear c12
         obtain rfl := Option.some.inj H
         have p6 : 0 ≤ (x5_1 : Int) := of_decide_eq_true (by first | (with_reducible assumption) | assumption)
         have q6 : x5_1 < (a0.size : Int) := of_decide_eq_true (by first | (with_reducible assumption) | assumption)
         have hx6 := bt_at a0 x5_1
         replace p6 := eq_true p6
         replace q6 := eq_true q6
         have p8 : 0 ≤ (x5_1 : Int) := of_decide_eq_true (by first | (with_reducible assumption) | assumption)
         have q8 : x5_1 < (a1.size : Int) := of_decide_eq_true (by first | (with_reducible assumption) | assumption)
         have hx8 := bt_at a1 x5_1
         replace p8 := eq_true p8
         replace q8 := eq_true q8
         have p10 : 0 ≤ (x5_1 : Int) := of_decide_eq_true (by first | (with_reducible assumption) | assumption)
         have q10 : x5_1 < (a0.size : Int) := of_decide_eq_true (by first | (with_reducible assumption) | assumption)
         have hx10 := bt_at a0 x5_1
         replace p10 := eq_true p10
         replace q10 := eq_true q10
         have p11 : 0 ≤ (x5_1 : Int) := of_decide_eq_true (by first | (with_reducible assumption) | assumption)
         have q11 : x5_1 < (a1.size : Int) := of_decide_eq_true (by first | (with_reducible assumption) | assumption)
         have hx11 := bt_at a1 x5_1
         replace p11 := eq_true p11
         replace q11 := eq_true q11
         go_wp2
         repeat (go_quiet (fail); try go_wp2)
         go_ret
         exact ⟨by first | rfl | (simp; done) | (simp [*]; done), by repeat (first | exact Drawn0.refl _ | apply Drawn0.step)⟩
        ·
         rw [if_neg c12] at H
         have c12b0 : decide ((bt a0 x5_1) < (bt a1 x5_1)) = false := decide_eq_false c12
         clear c12
         obtain rfl := Option.some.inj H
         have p6 : 0 ≤ (x5_1 : Int) := of_decide_eq_true (by first | (with_reducible assumption) | assumption)
         have q6 : x5_1 < (a0.size : Int) := of_decide_eq_true (by first | (with_reducible assumption) | assumption)
         have hx6 := bt_at a0 x5_1
         replace p6 := eq_true p6
         replace q6 := eq_true q6
         have p8 : 0 ≤ (x5_1 : Int) := of_decide_eq_true (by first | (with_reducible assumption) | assumption)
         have q8 : x5_1 < (a1.size : Int) := of_decide_eq_true (by first | (with_reducible assumption) | assumption)
         have hx8 := bt_at a1 x5_1
         replace p8 := eq_true p8
         replace q8 := eq_true q8
         have p10 : 0 ≤ (x5_1 : Int) := of_decide_eq_true (by first | (with_reducible assumption) | assumption)
         have q10 : x5_1 < (a0.size : Int) := of_decide_eq_true (by first | (with_reducible assumption) | assumption)
         have hx10 := bt_at a0 x5_1
         replace p10 := eq_true p10
         replace q10 := eq_true q10
         have p11 : 0 ≤ (x5_1 : Int) := of_decide_eq_true (by first | (with_reducible assumption) | assumption)
         have q11 : x5_1 < (a1.size : Int) := of_decide_eq_true (by first | (with_reducible assumption) | assumption)
         have hx11 := bt_at a1 x5_1
         replace p11 := eq_true p11
         replace q11 := eq_true q11
         go_wp2
         repeat (go_quiet (fail); try go_wp2)
         go_ret
         exact ⟨by first | rfl | (simp; done) | (simp [*]; done), by repeat (first | exact Drawn0.refl _ | apply Drawn0.step)⟩
      ·
       rw [if_neg c7] at H
       exact absurd H (by simp)
     ·
      rw [if_neg c5] at H
      exact absurd H (by simp)
    ·
     rw [if_neg c4] at H
     have c4b0 : decide (x5_1 < (a0.size : Int)) = false := decide_eq_false c4
     clear c4
     obtain rfl := Option.some.inj H
     go_wp2
     repeat (go_quiet (fail); try go_wp2)
     go_ret
     exact ⟨by first | rfl | (simp; done) | (simp [*]; done), by repeat (first | exact Drawn0.refl _ | apply Drawn0.step)⟩
 ·
  rw [if_neg c3] at H
  have c3b0 : ((a0.size : Int) == (a1.size : Int)) = false := beq_eq_false_iff_ne.mpr c3
  have c3b1 : ((a0.size : Int) != (a1.size : Int)) = true := bne_iff_ne.mpr c3
  have c3b2 : (a0.size == a1.size) = false := by first | simpa using c3 | (simp at c3 ⊢; omega)
  by_cases c13 : (a0.size : Int) < (a1.size : Int)
  ·
   rw [if_pos c13] at H
   have c13b0 : decide ((a0.size : Int) < (a1.size : Int)) = true := decide_eq_true c13
   have c13b1 : decide (a0.size < a1.size) = true := decide_eq_true (Int.ofNat_lt.mp c13)
   clear c13
   obtain rfl := Option.some.inj H
   go_enter Tryd.func77, Tryd.ntmps77
   go_wp2
   repeat (go_quiet (fail); try go_wp2)
   go_ret
   exact ⟨by first | rfl | (simp; done) | (simp [*]; done), by repeat (first | exact Drawn0.refl _ | apply Drawn0.step)⟩
  ·
   rw [if_neg c13] at H
   have c13b0 : decide ((a0.size : Int) < (a1.size : Int)) = false := decide_eq_false c13
   have c13b1 : decide (a0.size < a1.size) = false := decide_eq_false (fun h => c13 (Int.ofNat_lt.mpr h))
   clear c13
   obtain rfl := Option.some.inj H
   go_enter Tryd.func77, Tryd.ntmps77
   go_wp2
   repeat (go_quiet (fail); try go_wp2)
   go_ret
   exact ⟨by first | rfl | (simp; done) | (simp [*]; done), by repeat (first | exact Drawn0.refl _ | apply Drawn0.step)⟩

end Go.Proofs.YtomoefldmgfaoaaDoor.PFnKubeOrders
