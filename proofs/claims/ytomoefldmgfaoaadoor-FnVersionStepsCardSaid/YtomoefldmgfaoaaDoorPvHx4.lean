/- Functions of the program as plain Lean functions, and that the machine's calls do what these say: written for this claim by wip/myprint.py over the kit's print.py. -/
import Derived.Test.YtomoefldmgfaoaaDoorPvHx0
namespace Go.Proofs.YtomoefldmgfaoaaDoor.PvH
open Go.RowKit Go.Proofs.YtomoefldmgfaoaaDoorW.PrintWords Go.Proofs.YtomoefldmgfaoaaDoorW.PrintLast Go.Proofs.YtomoefldmgfaoaaDoorW.PrintMore
attribute [local go_sem] max2_int min2_int max_two min_two max_three min_three max_four min_four   -- for this text's walks alone
set_option linter.unusedVariables false
set_option linter.unusedSimpArgs false

/-! ### version_zzWords: function 116 -/
mutual
def version_zzWords.l0 : Nat → ByteArray → Int → Int → Option (Int)
 | 0, _, _, _ => none
 | k + 1, x0, x1, x5 => version_zzWords.l1 k x0 x1 x5 x1
def version_zzWords.j2 : Nat → ByteArray → Int → Int → Int → Option (Int)
 | 0, _, _, _, _ => none
 | k + 1, x0, x1, x5, x6 => if x6 = x1 then (some x5) else (if x6 = (x0.size : Int) then (some x6) else (if 0 ≤ x6 then (if x6 < (x0.size : Int) then (if (bt x0 x6) = 46 then (version_zzWords.l0 k x0 (wrap64 (x6 + 1)) x6) else (some x6)) else (none)) else (none)))
def version_zzWords.l1 : Nat → ByteArray → Int → Int → Int → Option (Int)
 | 0, _, _, _, _ => none
 | k + 1, x0, x1, x5, x6 => if x6 < (x0.size : Int) then (if 0 ≤ x6 then (if 48 ≤ (bt x0 x6) then (if (bt x0 x6) ≤ 57 then (version_zzWords.l1 k x0 x1 x5 (wrap64 (x6 + 1))) else (if 65 ≤ (bt x0 x6) then (if (bt x0 x6) ≤ 90 then (version_zzWords.l1 k x0 x1 x5 (wrap64 (x6 + 1))) else (if 97 ≤ (bt x0 x6) then (if (bt x0 x6) ≤ 122 then (version_zzWords.l1 k x0 x1 x5 (wrap64 (x6 + 1))) else (if (bt x0 x6) = 45 then (version_zzWords.l1 k x0 x1 x5 (wrap64 (x6 + 1))) else (version_zzWords.j2 k x0 x1 x5 x6))) else (if (bt x0 x6) = 45 then (version_zzWords.l1 k x0 x1 x5 (wrap64 (x6 + 1))) else (version_zzWords.j2 k x0 x1 x5 x6)))) else (if 97 ≤ (bt x0 x6) then (if (bt x0 x6) ≤ 122 then (version_zzWords.l1 k x0 x1 x5 (wrap64 (x6 + 1))) else (if (bt x0 x6) = 45 then (version_zzWords.l1 k x0 x1 x5 (wrap64 (x6 + 1))) else (version_zzWords.j2 k x0 x1 x5 x6))) else (if (bt x0 x6) = 45 then (version_zzWords.l1 k x0 x1 x5 (wrap64 (x6 + 1))) else (version_zzWords.j2 k x0 x1 x5 x6))))) else (if 65 ≤ (bt x0 x6) then (if (bt x0 x6) ≤ 90 then (version_zzWords.l1 k x0 x1 x5 (wrap64 (x6 + 1))) else (if 97 ≤ (bt x0 x6) then (if (bt x0 x6) ≤ 122 then (version_zzWords.l1 k x0 x1 x5 (wrap64 (x6 + 1))) else (if (bt x0 x6) = 45 then (version_zzWords.l1 k x0 x1 x5 (wrap64 (x6 + 1))) else (version_zzWords.j2 k x0 x1 x5 x6))) else (if (bt x0 x6) = 45 then (version_zzWords.l1 k x0 x1 x5 (wrap64 (x6 + 1))) else (version_zzWords.j2 k x0 x1 x5 x6)))) else (if 97 ≤ (bt x0 x6) then (if (bt x0 x6) ≤ 122 then (version_zzWords.l1 k x0 x1 x5 (wrap64 (x6 + 1))) else (if (bt x0 x6) = 45 then (version_zzWords.l1 k x0 x1 x5 (wrap64 (x6 + 1))) else (version_zzWords.j2 k x0 x1 x5 x6))) else (if (bt x0 x6) = 45 then (version_zzWords.l1 k x0 x1 x5 (wrap64 (x6 + 1))) else (version_zzWords.j2 k x0 x1 x5 x6))))) else (none)) else (version_zzWords.j2 k x0 x1 x5 x6)
end
def version_zzWords.f (k : Nat) (a0 : ByteArray) (a1 : Int) : Option (Int) := version_zzWords.l0 k a0 a1 a1
set_option maxHeartbeats 8000000 in
set_option maxRecDepth 100000 in
theorem version_zzWords.calls (k : Nat) (a0 : ByteArray) (a1 : Int) (r : Int) (w : World) (h : version_zzWords.f k a0 a1 = some r) :
  Calls Tryd.prog 116 #[.string a0, .int .i64 a1] w fun e w' => e = .returned (.int .i64 r) ∧ Drawn0 w w' := by
 have H : (version_zzWords.l0 k a0 a1 a1) = some r := h
 clear h
 have H' := Aside0.mk H
 clear H
 go_enter Tryd.func116, Tryd.ntmps116
 go_wp2
 go_loopg [1, 5] k (fun kq v1 v5 w' => ∃ (x1_1 : Int) (x5_1 : Int), v1 = .int .i64 x1_1 ∧ v5 = .int .i64 x5_1 ∧ Aside0 (version_zzWords.l0 kq a0 x1_1 x5_1 = some r) ∧ Aside0 (kq ≤ k) ∧ Drawn0 w w')
 case atStart => exact ⟨(a1), (a1), (by first | rfl | (simp; done) | (simp [*]; done)), (by first | rfl | (simp; done) | (simp [*]; done)), H', ⟨Nat.le_refl _⟩, by repeat (first | exact Drawn0.refl _ | apply Drawn0.step)⟩
 case round =>
  clear H'
  try clear c1
  try clear p2
  obtain ⟨x1_1, x5_1, rfl, rfl, HA, HK1, ⟨m1, rfl⟩⟩ := hrel
  cases gk with
  | zero => exact absurd HA.out (by simp [version_zzWords.l0])
  | succ k1 =>
   have H := HA.out
   clear HA
   simp only [version_zzWords.l0] at H
   have HC3 := Aside0.mk H
   clear H
   go_upto_block 2 with (fail)
   go_cut [6] (fun v6 wc => ∃ (kq : Nat) (x6_2 : Int), v6 = .int .i64 x6_2 ∧ Aside0 (version_zzWords.j2 kq a0 x1_1 x5_1 x6_2 = some r) ∧ Aside0 (kq ≤ k1) ∧ Drawn0 w wc)
   case first =>
    have H := HC3.out
    clear HC3
    have H' := Aside0.mk H
    clear H
    go_wp2
    go_loopg [6] k1 (fun kq v6 w' => ∃ (x6_2 : Int), v6 = .int .i64 x6_2 ∧ Aside0 (version_zzWords.l1 kq a0 x1_1 x5_1 x6_2 = some r) ∧ Aside0 (kq ≤ k1) ∧ Drawn0 w w')
    case atStart => exact ⟨(x1_1), (by first | rfl | (simp; done) | (simp [*]; done)), H', ⟨Nat.le_refl _⟩, by repeat (first | exact Drawn0.refl _ | apply Drawn0.step)⟩
    case round =>
     clear H'
     try clear c1
     try clear p2
     try clear p2
     obtain ⟨x6_2, rfl, HA, HK2, ⟨m2, rfl⟩⟩ := hrel
     cases gk with
     | zero => exact absurd HA.out (by simp [version_zzWords.l1])
     | succ k2 =>
      have H := HA.out
      clear HA
      simp only [version_zzWords.l1] at H
      by_cases c4 : x6_2 < (a0.size : Int)
      ·
       rw [if_pos c4] at H
       have c4b0 : decide (x6_2 < (a0.size : Int)) = true := decide_eq_true c4
       clear c4
       (first | rw [c4b0] | (simp only [i64_w, i32_w]; rw [c4b0]) | skip)
       by_cases c5 : 0 ≤ x6_2
       ·
        rw [if_pos c5] at H
        have c5b0 : decide (0 ≤ x6_2) = true := decide_eq_true c5
        clear c5
        by_cases c7 : 48 ≤ (bt a0 x6_2)
        ·
         rw [if_pos c7] at H
         have c7b0 : decide (48 ≤ (bt a0 x6_2)) = true := decide_eq_true c7
         clear c7
         by_cases c9 : (bt a0 x6_2) ≤ 57
         ·
          rw [if_pos c9] at H
          have c9b0 : decide ((bt a0 x6_2) ≤ 57) = true := decide_eq_true c9
          clear c9
          have H' := Aside0.mk H
          clear H
          have p6 : 0 ≤ (x6_2 : Int) := of_decide_eq_true (by first | (with_reducible assumption) | assumption)
          have q6 : x6_2 < (a0.size : Int) := of_decide_eq_true (by first | (with_reducible assumption) | assumption)
          have hx6 := bt_at a0 x6_2
          replace p6 := eq_true p6
          replace q6 := eq_true q6
          have p8 : 0 ≤ (x6_2 : Int) := of_decide_eq_true (by first | (with_reducible assumption) | assumption)
          have q8 : x6_2 < (a0.size : Int) := of_decide_eq_true (by first | (with_reducible assumption) | assumption)
          have hx8 := bt_at a0 x6_2
          replace p8 := eq_true p8
          replace q8 := eq_true q8
          go_wp2
          go_roundg k2
          case measure => have := HK1.out; have := HK2.out; omega
          case rel => exact ⟨(wrap64 (x6_2 + 1)), (by first | rfl | (simp; done) | (simp [*]; done)), H', ⟨by have := HK1.out; have := HK2.out; omega⟩, by repeat (first | exact Drawn0.refl _ | apply Drawn0.step)⟩
         ·
          rw [if_neg c9] at H
          have c9b0 : decide ((bt a0 x6_2) ≤ 57) = false := decide_eq_false c9
          clear c9
          by_cases c11 : 65 ≤ (bt a0 x6_2)
          ·
           rw [if_pos c11] at H
           have c11b0 : decide (65 ≤ (bt a0 x6_2)) = true := decide_eq_true c11
           clear c11
           by_cases c13 : (bt a0 x6_2) ≤ 90
           ·
            rw [if_pos c13] at H
            have c13b0 : decide ((bt a0 x6_2) ≤ 90) = true := decide_eq_true c13
            clear c13
            have H' := Aside0.mk H
            clear H
            have p6 : 0 ≤ (x6_2 : Int) := of_decide_eq_true (by first | (with_reducible assumption) | assumption)
            have q6 : x6_2 < (a0.size : Int) := of_decide_eq_true (by first | (with_reducible assumption) | assumption)
            have hx6 := bt_at a0 x6_2
            replace p6 := eq_true p6
            replace q6 := eq_true q6
            have p8 : 0 ≤ (x6_2 : Int) := of_decide_eq_true (by first | (with_reducible assumption) | assumption)
            have q8 : x6_2 < (a0.size : Int) := of_decide_eq_true (by first | (with_reducible assumption) | assumption)
            have hx8 := bt_at a0 x6_2
            replace p8 := eq_true p8
            replace q8 := eq_true q8
            have p10 : 0 ≤ (x6_2 : Int) := of_decide_eq_true (by first | (with_reducible assumption) | assumption)
            have q10 : x6_2 < (a0.size : Int) := of_decide_eq_true (by first | (with_reducible assumption) | assumption)
            have hx10 := bt_at a0 x6_2
            replace p10 := eq_true p10
            replace q10 := eq_true q10
            have p12 : 0 ≤ (x6_2 : Int) := of_decide_eq_true (by first | (with_reducible assumption) | assumption)
            have q12 : x6_2 < (a0.size : Int) := of_decide_eq_true (by first | (with_reducible assumption) | assumption)
            have hx12 := bt_at a0 x6_2
            replace p12 := eq_true p12
            replace q12 := eq_true q12
            go_wp2
            go_roundg k2
            case measure => have := HK1.out; have := HK2.out; omega
            case rel => exact ⟨(wrap64 (x6_2 + 1)), (by first | rfl | (simp; done) | (simp [*]; done)), H', ⟨by have := HK1.out; have := HK2.out; omega⟩, by repeat (first | exact Drawn0.refl _ | apply Drawn0.step)⟩
           ·
            rw [if_neg c13] at H
            have c13b0 : decide ((bt a0 x6_2) ≤ 90) = false := decide_eq_false c13
            clear c13
            by_cases c15 : 97 ≤ (bt a0 x6_2)
            ·
             rw [if_pos c15] at H
             have c15b0 : decide (97 ≤ (bt a0 x6_2)) = true := decide_eq_true c15
             clear c15
             by_cases c17 : (bt a0 x6_2) ≤ 122
             ·
              rw [if_pos c17] at H
              have c17b0 : decide ((bt a0 x6_2) ≤ 122) = true := decide_eq_true c17
              clear c17
              have H' := Aside0.mk H
              clear H
              have p6 : 0 ≤ (x6_2 : Int) := of_decide_eq_true (by first | (with_reducible assumption) | assumption)
              have q6 : x6_2 < (a0.size : Int) := of_decide_eq_true (by first | (with_reducible assumption) | assumption)
              have hx6 := bt_at a0 x6_2
              replace p6 := eq_true p6
              replace q6 := eq_true q6
              have p8 : 0 ≤ (x6_2 : Int) := of_decide_eq_true (by first | (with_reducible assumption) | assumption)
              have q8 : x6_2 < (a0.size : Int) := of_decide_eq_true (by first | (with_reducible assumption) | assumption)
              have hx8 := bt_at a0 x6_2
              replace p8 := eq_true p8
              replace q8 := eq_true q8
              have p10 : 0 ≤ (x6_2 : Int) := of_decide_eq_true (by first | (with_reducible assumption) | assumption)
              have q10 : x6_2 < (a0.size : Int) := of_decide_eq_true (by first | (with_reducible assumption) | assumption)
              have hx10 := bt_at a0 x6_2
              replace p10 := eq_true p10
              replace q10 := eq_true q10
              have p12 : 0 ≤ (x6_2 : Int) := of_decide_eq_true (by first | (with_reducible assumption) | assumption)
              have q12 : x6_2 < (a0.size : Int) := of_decide_eq_true (by first | (with_reducible assumption) | assumption)
              have hx12 := bt_at a0 x6_2
              replace p12 := eq_true p12
              replace q12 := eq_true q12
              have p14 : 0 ≤ (x6_2 : Int) := of_decide_eq_true (by first | (with_reducible assumption) | assumption)
              have q14 : x6_2 < (a0.size : Int) := of_decide_eq_true (by first | (with_reducible assumption) | assumption)
              have hx14 := bt_at a0 x6_2
              replace p14 := eq_true p14
              replace q14 := eq_true q14
              have p16 : 0 ≤ (x6_2 : Int) := of_decide_eq_true (by first | (with_reducible assumption) | assumption)
              have q16 : x6_2 < (a0.size : Int) := of_decide_eq_true (by first | (with_reducible assumption) | assumption)
              have hx16 := bt_at a0 x6_2
              replace p16 := eq_true p16
              replace q16 := eq_true q16
              go_wp2
              go_roundg k2
              case measure => have := HK1.out; have := HK2.out; omega
              case rel => exact ⟨(wrap64 (x6_2 + 1)), (by first | rfl | (simp; done) | (simp [*]; done)), H', ⟨by have := HK1.out; have := HK2.out; omega⟩, by repeat (first | exact Drawn0.refl _ | apply Drawn0.step)⟩
             ·
              rw [if_neg c17] at H
              have c17b0 : decide ((bt a0 x6_2) ≤ 122) = false := decide_eq_false c17
              clear c17
              by_cases c19 : (bt a0 x6_2) = 45
              ·
               rw [if_pos c19] at H
               have c19b0 : ((bt a0 x6_2) == 45) = true := beq_iff_eq.mpr c19
               have c19b1 : ((bt a0 x6_2) != 45) = false := bne_eq_false_iff_eq.mpr c19
               clear c19
               have H' := Aside0.mk H
               clear H
               have p6 : 0 ≤ (x6_2 : Int) := of_decide_eq_true (by first | (with_reducible assumption) | assumption)
               have q6 : x6_2 < (a0.size : Int) := of_decide_eq_true (by first | (with_reducible assumption) | assumption)
               have hx6 := bt_at a0 x6_2
               replace p6 := eq_true p6
               replace q6 := eq_true q6
               have p8 : 0 ≤ (x6_2 : Int) := of_decide_eq_true (by first | (with_reducible assumption) | assumption)
               have q8 : x6_2 < (a0.size : Int) := of_decide_eq_true (by first | (with_reducible assumption) | assumption)
               have hx8 := bt_at a0 x6_2
               replace p8 := eq_true p8
               replace q8 := eq_true q8
               have p10 : 0 ≤ (x6_2 : Int) := of_decide_eq_true (by first | (with_reducible assumption) | assumption)
               have q10 : x6_2 < (a0.size : Int) := of_decide_eq_true (by first | (with_reducible assumption) | assumption)
               have hx10 := bt_at a0 x6_2
               replace p10 := eq_true p10
               replace q10 := eq_true q10
               have p12 : 0 ≤ (x6_2 : Int) := of_decide_eq_true (by first | (with_reducible assumption) | assumption)
               have q12 : x6_2 < (a0.size : Int) := of_decide_eq_true (by first | (with_reducible assumption) | assumption)
               have hx12 := bt_at a0 x6_2
               replace p12 := eq_true p12
               replace q12 := eq_true q12
               have p14 : 0 ≤ (x6_2 : Int) := of_decide_eq_true (by first | (with_reducible assumption) | assumption)
               have q14 : x6_2 < (a0.size : Int) := of_decide_eq_true (by first | (with_reducible assumption) | assumption)
               have hx14 := bt_at a0 x6_2
               replace p14 := eq_true p14
               replace q14 := eq_true q14
               have p16 : 0 ≤ (x6_2 : Int) := of_decide_eq_true (by first | (with_reducible assumption) | assumption)
               have q16 : x6_2 < (a0.size : Int) := of_decide_eq_true (by first | (with_reducible assumption) | assumption)
               have hx16 := bt_at a0 x6_2
               replace p16 := eq_true p16
               replace q16 := eq_true q16
               have p18 : 0 ≤ (x6_2 : Int) := of_decide_eq_true (by first | (with_reducible assumption) | assumption)
               have q18 : x6_2 < (a0.size : Int) := of_decide_eq_true (by first | (with_reducible assumption) | assumption)
               have hx18 := bt_at a0 x6_2
               replace p18 := eq_true p18
               replace q18 := eq_true q18
               go_wp2
               go_roundg k2
               case measure => have := HK1.out; have := HK2.out; omega
               case rel => exact ⟨(wrap64 (x6_2 + 1)), (by first | rfl | (simp; done) | (simp [*]; done)), H', ⟨by have := HK1.out; have := HK2.out; omega⟩, by repeat (first | exact Drawn0.refl _ | apply Drawn0.step)⟩
              ·
               rw [if_neg c19] at H
               have c19b0 : ((bt a0 x6_2) == 45) = false := beq_eq_false_iff_ne.mpr c19
               have c19b1 : ((bt a0 x6_2) != 45) = true := bne_iff_ne.mpr c19
               have H' := Aside0.mk H
               clear H
               have p6 : 0 ≤ (x6_2 : Int) := of_decide_eq_true (by first | (with_reducible assumption) | assumption)
               have q6 : x6_2 < (a0.size : Int) := of_decide_eq_true (by first | (with_reducible assumption) | assumption)
               have hx6 := bt_at a0 x6_2
               replace p6 := eq_true p6
               replace q6 := eq_true q6
               have p8 : 0 ≤ (x6_2 : Int) := of_decide_eq_true (by first | (with_reducible assumption) | assumption)
               have q8 : x6_2 < (a0.size : Int) := of_decide_eq_true (by first | (with_reducible assumption) | assumption)
               have hx8 := bt_at a0 x6_2
               replace p8 := eq_true p8
               replace q8 := eq_true q8
               have p10 : 0 ≤ (x6_2 : Int) := of_decide_eq_true (by first | (with_reducible assumption) | assumption)
               have q10 : x6_2 < (a0.size : Int) := of_decide_eq_true (by first | (with_reducible assumption) | assumption)
               have hx10 := bt_at a0 x6_2
               replace p10 := eq_true p10
               replace q10 := eq_true q10
               have p12 : 0 ≤ (x6_2 : Int) := of_decide_eq_true (by first | (with_reducible assumption) | assumption)
               have q12 : x6_2 < (a0.size : Int) := of_decide_eq_true (by first | (with_reducible assumption) | assumption)
               have hx12 := bt_at a0 x6_2
               replace p12 := eq_true p12
               replace q12 := eq_true q12
               have p14 : 0 ≤ (x6_2 : Int) := of_decide_eq_true (by first | (with_reducible assumption) | assumption)
               have q14 : x6_2 < (a0.size : Int) := of_decide_eq_true (by first | (with_reducible assumption) | assumption)
               have hx14 := bt_at a0 x6_2
               replace p14 := eq_true p14
               replace q14 := eq_true q14
               have p16 : 0 ≤ (x6_2 : Int) := of_decide_eq_true (by first | (with_reducible assumption) | assumption)
               have q16 : x6_2 < (a0.size : Int) := of_decide_eq_true (by first | (with_reducible assumption) | assumption)
               have hx16 := bt_at a0 x6_2
               replace p16 := eq_true p16
               replace q16 := eq_true q16
               have p18 : 0 ≤ (x6_2 : Int) := of_decide_eq_true (by first | (with_reducible assumption) | assumption)
               have q18 : x6_2 < (a0.size : Int) := of_decide_eq_true (by first | (with_reducible assumption) | assumption)
               have hx18 := bt_at a0 x6_2
               replace p18 := eq_true p18
               replace q18 := eq_true q18
               go_wp2
               go_meet
               case rel => exact ⟨_, (x6_2), (by first | rfl | (simp; done) | (simp [*]; done)), H', ⟨by have := HK1.out; have := HK2.out; first | omega | exact Nat.le_refl _⟩, by repeat (first | exact Drawn0.refl _ | apply Drawn0.step)⟩
            ·
             rw [if_neg c15] at H
             have c15b0 : decide (97 ≤ (bt a0 x6_2)) = false := decide_eq_false c15
             clear c15
             by_cases c21 : (bt a0 x6_2) = 45
             ·
              rw [if_pos c21] at H
              have c21b0 : ((bt a0 x6_2) == 45) = true := beq_iff_eq.mpr c21
              have c21b1 : ((bt a0 x6_2) != 45) = false := bne_eq_false_iff_eq.mpr c21
              clear c21
              have H' := Aside0.mk H
              clear H
              have p6 : 0 ≤ (x6_2 : Int) := of_decide_eq_true (by first | (with_reducible assumption) | assumption)
              have q6 : x6_2 < (a0.size : Int) := of_decide_eq_true (by first | (with_reducible assumption) | assumption)
              have hx6 := bt_at a0 x6_2
              replace p6 := eq_true p6
              replace q6 := eq_true q6
              have p8 : 0 ≤ (x6_2 : Int) := of_decide_eq_true (by first | (with_reducible assumption) | assumption)
              have q8 : x6_2 < (a0.size : Int) := of_decide_eq_true (by first | (with_reducible assumption) | assumption)
              have hx8 := bt_at a0 x6_2
              replace p8 := eq_true p8
              replace q8 := eq_true q8
              have p10 : 0 ≤ (x6_2 : Int) := of_decide_eq_true (by first | (with_reducible assumption) | assumption)
              have q10 : x6_2 < (a0.size : Int) := of_decide_eq_true (by first | (with_reducible assumption) | assumption)
              have hx10 := bt_at a0 x6_2
              replace p10 := eq_true p10
              replace q10 := eq_true q10
              have p12 : 0 ≤ (x6_2 : Int) := of_decide_eq_true (by first | (with_reducible assumption) | assumption)
              have q12 : x6_2 < (a0.size : Int) := of_decide_eq_true (by first | (with_reducible assumption) | assumption)
              have hx12 := bt_at a0 x6_2
              replace p12 := eq_true p12
              replace q12 := eq_true q12
              have p14 : 0 ≤ (x6_2 : Int) := of_decide_eq_true (by first | (with_reducible assumption) | assumption)
              have q14 : x6_2 < (a0.size : Int) := of_decide_eq_true (by first | (with_reducible assumption) | assumption)
              have hx14 := bt_at a0 x6_2
              replace p14 := eq_true p14
              replace q14 := eq_true q14
              have p20 : 0 ≤ (x6_2 : Int) := of_decide_eq_true (by first | (with_reducible assumption) | assumption)
              have q20 : x6_2 < (a0.size : Int) := of_decide_eq_true (by first | (with_reducible assumption) | assumption)
              have hx20 := bt_at a0 x6_2
              replace p20 := eq_true p20
              replace q20 := eq_true q20
              go_wp2
              go_roundg k2
              case measure => have := HK1.out; have := HK2.out; omega
              case rel => exact ⟨(wrap64 (x6_2 + 1)), (by first | rfl | (simp; done) | (simp [*]; done)), H', ⟨by have := HK1.out; have := HK2.out; omega⟩, by repeat (first | exact Drawn0.refl _ | apply Drawn0.step)⟩
             ·
              rw [if_neg c21] at H
              have c21b0 : ((bt a0 x6_2) == 45) = false := beq_eq_false_iff_ne.mpr c21
              have c21b1 : ((bt a0 x6_2) != 45) = true := bne_iff_ne.mpr c21
              have H' := Aside0.mk H
              clear H
              have p6 : 0 ≤ (x6_2 : Int) := of_decide_eq_true (by first | (with_reducible assumption) | assumption)
              have q6 : x6_2 < (a0.size : Int) := of_decide_eq_true (by first | (with_reducible assumption) | assumption)
              have hx6 := bt_at a0 x6_2
              replace p6 := eq_true p6
              replace q6 := eq_true q6
              have p8 : 0 ≤ (x6_2 : Int) := of_decide_eq_true (by first | (with_reducible assumption) | assumption)
              have q8 : x6_2 < (a0.size : Int) := of_decide_eq_true (by first | (with_reducible assumption) | assumption)
              have hx8 := bt_at a0 x6_2
              replace p8 := eq_true p8
              replace q8 := eq_true q8
              have p10 : 0 ≤ (x6_2 : Int) := of_decide_eq_true (by first | (with_reducible assumption) | assumption)
              have q10 : x6_2 < (a0.size : Int) := of_decide_eq_true (by first | (with_reducible assumption) | assumption)
              have hx10 := bt_at a0 x6_2
              replace p10 := eq_true p10
              replace q10 := eq_true q10
              have p12 : 0 ≤ (x6_2 : Int) := of_decide_eq_true (by first | (with_reducible assumption) | assumption)
              have q12 : x6_2 < (a0.size : Int) := of_decide_eq_true (by first | (with_reducible assumption) | assumption)
              have hx12 := bt_at a0 x6_2
              replace p12 := eq_true p12
              replace q12 := eq_true q12
              have p14 : 0 ≤ (x6_2 : Int) := of_decide_eq_true (by first | (with_reducible assumption) | assumption)
              have q14 : x6_2 < (a0.size : Int) := of_decide_eq_true (by first | (with_reducible assumption) | assumption)
              have hx14 := bt_at a0 x6_2
              replace p14 := eq_true p14
              replace q14 := eq_true q14
              have p20 : 0 ≤ (x6_2 : Int) := of_decide_eq_true (by first | (with_reducible assumption) | assumption)
              have q20 : x6_2 < (a0.size : Int) := of_decide_eq_true (by first | (with_reducible assumption) | assumption)
              have hx20 := bt_at a0 x6_2
              replace p20 := eq_true p20
              replace q20 := eq_true q20
              go_wp2
              go_meet
              case rel => exact ⟨_, (x6_2), (by first | rfl | (simp; done) | (simp [*]; done)), H', ⟨by have := HK1.out; have := HK2.out; first | omega | exact Nat.le_refl _⟩, by repeat (first | exact Drawn0.refl _ | apply Drawn0.step)⟩
          ·
           rw [if_neg c11] at H
           have c11b0 : decide (65 ≤ (bt a0 x6_2)) = false := decide_eq_false c11
           clear c11
           by_cases c23 : 97 ≤ (bt a0 x6_2)
           ·
            rw [if_pos c23] at H
            have c23b0 : decide (97 ≤ (bt a0 x6_2)) = true := decide_eq_true c23
            clear c23
            by_cases c25 : (bt a0 x6_2) ≤ 122
            ·
             rw [if_pos c25] at H
             have c25b0 : decide ((bt a0 x6_2) ≤ 122) = true := decide_eq_true c25
             clear c25
             have H' := Aside0.mk H
             clear H
             have p6 : 0 ≤ (x6_2 : Int) := of_decide_eq_true (by first | (with_reducible assumption) | assumption)
             have q6 : x6_2 < (a0.size : Int) := of_decide_eq_true (by first | (with_reducible assumption) | assumption)
             have hx6 := bt_at a0 x6_2
             replace p6 := eq_true p6
             replace q6 := eq_true q6
             have p8 : 0 ≤ (x6_2 : Int) := of_decide_eq_true (by first | (with_reducible assumption) | assumption)
             have q8 : x6_2 < (a0.size : Int) := of_decide_eq_true (by first | (with_reducible assumption) | assumption)
             have hx8 := bt_at a0 x6_2
             replace p8 := eq_true p8
             replace q8 := eq_true q8
             have p10 : 0 ≤ (x6_2 : Int) := of_decide_eq_true (by first | (with_reducible assumption) | assumption)
             have q10 : x6_2 < (a0.size : Int) := of_decide_eq_true (by first | (with_reducible assumption) | assumption)
             have hx10 := bt_at a0 x6_2
             replace p10 := eq_true p10
             replace q10 := eq_true q10
             have p22 : 0 ≤ (x6_2 : Int) := of_decide_eq_true (by first | (with_reducible assumption) | assumption)
             have q22 : x6_2 < (a0.size : Int) := of_decide_eq_true (by first | (with_reducible assumption) | assumption)
             have hx22 := bt_at a0 x6_2
             replace p22 := eq_true p22
             replace q22 := eq_true q22
             have p24 : 0 ≤ (x6_2 : Int) := of_decide_eq_true (by first | (with_reducible assumption) | assumption)
             have q24 : x6_2 < (a0.size : Int) := of_decide_eq_true (by first | (with_reducible assumption) | assumption)
             have hx24 := bt_at a0 x6_2
             replace p24 := eq_true p24
             replace q24 := eq_true q24
             go_wp2
             go_roundg k2
             case measure => have := HK1.out; have := HK2.out; omega
             case rel => exact ⟨(wrap64 (x6_2 + 1)), (by first | rfl | (simp; done) | (simp [*]; done)), H', ⟨by have := HK1.out; have := HK2.out; omega⟩, by repeat (first | exact Drawn0.refl _ | apply Drawn0.step)⟩
            ·
             rw [if_neg c25] at H
             have c25b0 : decide ((bt a0 x6_2) ≤ 122) = false := decide_eq_false c25
             clear c25
             by_cases c27 : (bt a0 x6_2) = 45
             ·
              rw [if_pos c27] at H
              have c27b0 : ((bt a0 x6_2) == 45) = true := beq_iff_eq.mpr c27
              have c27b1 : ((bt a0 x6_2) != 45) = false := bne_eq_false_iff_eq.mpr c27
              clear c27
              have H' := Aside0.mk H
              clear H
              have p6 : 0 ≤ (x6_2 : Int) := of_decide_eq_true (by first | (with_reducible assumption) | assumption)
              have q6 : x6_2 < (a0.size : Int) := of_decide_eq_true (by first | (with_reducible assumption) | assumption)
              have hx6 := bt_at a0 x6_2
              replace p6 := eq_true p6
              replace q6 := eq_true q6
              have p8 : 0 ≤ (x6_2 : Int) := of_decide_eq_true (by first | (with_reducible assumption) | assumption)
              have q8 : x6_2 < (a0.size : Int) := of_decide_eq_true (by first | (with_reducible assumption) | assumption)
              have hx8 := bt_at a0 x6_2
              replace p8 := eq_true p8
              replace q8 := eq_true q8
              have p10 : 0 ≤ (x6_2 : Int) := of_decide_eq_true (by first | (with_reducible assumption) | assumption)
              have q10 : x6_2 < (a0.size : Int) := of_decide_eq_true (by first | (with_reducible assumption) | assumption)
              have hx10 := bt_at a0 x6_2
              replace p10 := eq_true p10
              replace q10 := eq_true q10
              have p22 : 0 ≤ (x6_2 : Int) := of_decide_eq_true (by first | (with_reducible assumption) | assumption)
              have q22 : x6_2 < (a0.size : Int) := of_decide_eq_true (by first | (with_reducible assumption) | assumption)
              have hx22 := bt_at a0 x6_2
              replace p22 := eq_true p22
              replace q22 := eq_true q22
              have p24 : 0 ≤ (x6_2 : Int) := of_decide_eq_true (by first | (with_reducible assumption) | assumption)
              have q24 : x6_2 < (a0.size : Int) := of_decide_eq_true (by first | (with_reducible assumption) | assumption)
              have hx24 := bt_at a0 x6_2
              replace p24 := eq_true p24
              replace q24 := eq_true q24
              have p26 : 0 ≤ (x6_2 : Int) := of_decide_eq_true (by first | (with_reducible assumption) | assumption)
              have q26 : x6_2 < (a0.size : Int) := of_decide_eq_true (by first | (with_reducible assumption) | assumption)
              have hx26 := bt_at a0 x6_2
              replace p26 := eq_true p26
              replace q26 := eq_true q26
              go_wp2
              go_roundg k2
              case measure => have := HK1.out; have := HK2.out; omega
              case rel => exact ⟨(wrap64 (x6_2 + 1)), (by first | rfl | (simp; done) | (simp [*]; done)), H', ⟨by have := HK1.out; have := HK2.out; omega⟩, by repeat (first | exact Drawn0.refl _ | apply Drawn0.step)⟩
             ·
              rw [if_neg c27] at H
              have c27b0 : ((bt a0 x6_2) == 45) = false := beq_eq_false_iff_ne.mpr c27
              have c27b1 : ((bt a0 x6_2) != 45) = true := bne_iff_ne.mpr c27
              have H' := Aside0.mk H
              clear H
              have p6 : 0 ≤ (x6_2 : Int) := of_decide_eq_true (by first | (with_reducible assumption) | assumption)
              have q6 : x6_2 < (a0.size : Int) := of_decide_eq_true (by first | (with_reducible assumption) | assumption)
              have hx6 := bt_at a0 x6_2
              replace p6 := eq_true p6
              replace q6 := eq_true q6
              have p8 : 0 ≤ (x6_2 : Int) := of_decide_eq_true (by first | (with_reducible assumption) | assumption)
              have q8 : x6_2 < (a0.size : Int) := of_decide_eq_true (by first | (with_reducible assumption) | assumption)
              have hx8 := bt_at a0 x6_2
              replace p8 := eq_true p8
              replace q8 := eq_true q8
              have p10 : 0 ≤ (x6_2 : Int) := of_decide_eq_true (by first | (with_reducible assumption) | assumption)
              have q10 : x6_2 < (a0.size : Int) := of_decide_eq_true (by first | (with_reducible assumption) | assumption)
              have hx10 := bt_at a0 x6_2
              replace p10 := eq_true p10
              replace q10 := eq_true q10
              have p22 : 0 ≤ (x6_2 : Int) := of_decide_eq_true (by first | (with_reducible assumption) | assumption)
              have q22 : x6_2 < (a0.size : Int) := of_decide_eq_true (by first | (with_reducible assumption) | assumption)
              have hx22 := bt_at a0 x6_2
              replace p22 := eq_true p22
              replace q22 := eq_true q22
              have p24 : 0 ≤ (x6_2 : Int) := of_decide_eq_true (by first | (with_reducible assumption) | assumption)
              have q24 : x6_2 < (a0.size : Int) := of_decide_eq_true (by first | (with_reducible assumption) | assumption)
              have hx24 := bt_at a0 x6_2
              replace p24 := eq_true p24
              replace q24 := eq_true q24
              have p26 : 0 ≤ (x6_2 : Int) := of_decide_eq_true (by first | (with_reducible assumption) | assumption)
              have q26 : x6_2 < (a0.size : Int) := of_decide_eq_true (by first | (with_reducible assumption) | assumption)
              have hx26 := bt_at a0 x6_2
              replace p26 := eq_true p26
              replace q26 := eq_true q26
              go_wp2
              go_meet
              case rel => exact ⟨_, (x6_2), (by first | rfl | (simp; done) | (simp [*]; done)), H', ⟨by have := HK1.out; have := HK2.out; first | omega | exact Nat.le_refl _⟩, by repeat (first | exact Drawn0.refl _ | apply Drawn0.step)⟩
           ·
            rw [if_neg c23] at H
            have c23b0 : decide (97 ≤ (bt a0 x6_2)) = false := decide_eq_false c23
            clear c23
            by_cases c29 : (bt a0 x6_2) = 45
            ·
             rw [if_pos c29] at H
             have c29b0 : ((bt a0 x6_2) == 45) = true := beq_iff_eq.mpr c29
             have c29b1 : ((bt a0 x6_2) != 45) = false := bne_eq_false_iff_eq.mpr c29
             clear c29
             have H' := Aside0.mk H
             clear H
             have p6 : 0 ≤ (x6_2 : Int) := of_decide_eq_true (by first | (with_reducible assumption) | assumption)
             have q6 : x6_2 < (a0.size : Int) := of_decide_eq_true (by first | (with_reducible assumption) | assumption)
             have hx6 := bt_at a0 x6_2
             replace p6 := eq_true p6
             replace q6 := eq_true q6
             have p8 : 0 ≤ (x6_2 : Int) := of_decide_eq_true (by first | (with_reducible assumption) | assumption)
             have q8 : x6_2 < (a0.size : Int) := of_decide_eq_true (by first | (with_reducible assumption) | assumption)
             have hx8 := bt_at a0 x6_2
             replace p8 := eq_true p8
             replace q8 := eq_true q8
             have p10 : 0 ≤ (x6_2 : Int) := of_decide_eq_true (by first | (with_reducible assumption) | assumption)
             have q10 : x6_2 < (a0.size : Int) := of_decide_eq_true (by first | (with_reducible assumption) | assumption)
             have hx10 := bt_at a0 x6_2
             replace p10 := eq_true p10
             replace q10 := eq_true q10
             have p22 : 0 ≤ (x6_2 : Int) := of_decide_eq_true (by first | (with_reducible assumption) | assumption)
             have q22 : x6_2 < (a0.size : Int) := of_decide_eq_true (by first | (with_reducible assumption) | assumption)
             have hx22 := bt_at a0 x6_2
             replace p22 := eq_true p22
             replace q22 := eq_true q22
             have p28 : 0 ≤ (x6_2 : Int) := of_decide_eq_true (by first | (with_reducible assumption) | assumption)
             have q28 : x6_2 < (a0.size : Int) := of_decide_eq_true (by first | (with_reducible assumption) | assumption)
             have hx28 := bt_at a0 x6_2
             replace p28 := eq_true p28
             replace q28 := eq_true q28
             go_wp2
             go_roundg k2
             case measure => have := HK1.out; have := HK2.out; omega
             case rel => exact ⟨(wrap64 (x6_2 + 1)), (by first | rfl | (simp; done) | (simp [*]; done)), H', ⟨by have := HK1.out; have := HK2.out; omega⟩, by repeat (first | exact Drawn0.refl _ | apply Drawn0.step)⟩
            ·
             rw [if_neg c29] at H
             have c29b0 : ((bt a0 x6_2) == 45) = false := beq_eq_false_iff_ne.mpr c29
             have c29b1 : ((bt a0 x6_2) != 45) = true := bne_iff_ne.mpr c29
             have H' := Aside0.mk H
             clear H
             have p6 : 0 ≤ (x6_2 : Int) := of_decide_eq_true (by first | (with_reducible assumption) | assumption)
             have q6 : x6_2 < (a0.size : Int) := of_decide_eq_true (by first | (with_reducible assumption) | assumption)
             have hx6 := bt_at a0 x6_2
             replace p6 := eq_true p6
             replace q6 := eq_true q6
             have p8 : 0 ≤ (x6_2 : Int) := of_decide_eq_true (by first | (with_reducible assumption) | assumption)
             have q8 : x6_2 < (a0.size : Int) := of_decide_eq_true (by first | (with_reducible assumption) | assumption)
             have hx8 := bt_at a0 x6_2
             replace p8 := eq_true p8
             replace q8 := eq_true q8
             have p10 : 0 ≤ (x6_2 : Int) := of_decide_eq_true (by first | (with_reducible assumption) | assumption)
             have q10 : x6_2 < (a0.size : Int) := of_decide_eq_true (by first | (with_reducible assumption) | assumption)
             have hx10 := bt_at a0 x6_2
             replace p10 := eq_true p10
             replace q10 := eq_true q10
             have p22 : 0 ≤ (x6_2 : Int) := of_decide_eq_true (by first | (with_reducible assumption) | assumption)
             have q22 : x6_2 < (a0.size : Int) := of_decide_eq_true (by first | (with_reducible assumption) | assumption)
             have hx22 := bt_at a0 x6_2
             replace p22 := eq_true p22
             replace q22 := eq_true q22
             have p28 : 0 ≤ (x6_2 : Int) := of_decide_eq_true (by first | (with_reducible assumption) | assumption)
             have q28 : x6_2 < (a0.size : Int) := of_decide_eq_true (by first | (with_reducible assumption) | assumption)
             have hx28 := bt_at a0 x6_2
             replace p28 := eq_true p28
             replace q28 := eq_true q28
             go_wp2
             go_meet
             case rel => exact ⟨_, (x6_2), (by first | rfl | (simp; done) | (simp [*]; done)), H', ⟨by have := HK1.out; have := HK2.out; first | omega | exact Nat.le_refl _⟩, by repeat (first | exact Drawn0.refl _ | apply Drawn0.step)⟩
        ·
         rw [if_neg c7] at H
         have c7b0 : decide (48 ≤ (bt a0 x6_2)) = false := decide_eq_false c7
         clear c7
         by_cases c31 : 65 ≤ (bt a0 x6_2)
         ·
          rw [if_pos c31] at H
          have c31b0 : decide (65 ≤ (bt a0 x6_2)) = true := decide_eq_true c31
          clear c31
          by_cases c33 : (bt a0 x6_2) ≤ 90
          ·
           rw [if_pos c33] at H
           have c33b0 : decide ((bt a0 x6_2) ≤ 90) = true := decide_eq_true c33
           clear c33
           have H' := Aside0.mk H
           clear H
           have p6 : 0 ≤ (x6_2 : Int) := of_decide_eq_true (by first | (with_reducible assumption) | assumption)
           have q6 : x6_2 < (a0.size : Int) := of_decide_eq_true (by first | (with_reducible assumption) | assumption)
           have hx6 := bt_at a0 x6_2
           replace p6 := eq_true p6
           replace q6 := eq_true q6
           have p30 : 0 ≤ (x6_2 : Int) := of_decide_eq_true (by first | (with_reducible assumption) | assumption)
           have q30 : x6_2 < (a0.size : Int) := of_decide_eq_true (by first | (with_reducible assumption) | assumption)
           have hx30 := bt_at a0 x6_2
           replace p30 := eq_true p30
           replace q30 := eq_true q30
           have p32 : 0 ≤ (x6_2 : Int) := of_decide_eq_true (by first | (with_reducible assumption) | assumption)
           have q32 : x6_2 < (a0.size : Int) := of_decide_eq_true (by first | (with_reducible assumption) | assumption)
           have hx32 := bt_at a0 x6_2
           replace p32 := eq_true p32
           replace q32 := eq_true q32
           go_wp2
           go_roundg k2
           case measure => have := HK1.out; have := HK2.out; omega
           case rel => exact ⟨(wrap64 (x6_2 + 1)), (by first | rfl | (simp; done) | (simp [*]; done)), H', ⟨by have := HK1.out; have := HK2.out; omega⟩, by repeat (first | exact Drawn0.refl _ | apply Drawn0.step)⟩
          ·
           rw [if_neg c33] at H
           have c33b0 : decide ((bt a0 x6_2) ≤ 90) = false := decide_eq_false c33
           clear c33
           by_cases c35 : 97 ≤ (bt a0 x6_2)
           ·
            rw [if_pos c35] at H
            have c35b0 : decide (97 ≤ (bt a0 x6_2)) = true := decide_eq_true c35
            clear c35
            by_cases c37 : (bt a0 x6_2) ≤ 122
            ·
             rw [if_pos c37] at H
             have c37b0 : decide ((bt a0 x6_2) ≤ 122) = true := decide_eq_true c37
             clear c37
             have H' := Aside0.mk H
             clear H
             have p6 : 0 ≤ (x6_2 : Int) := of_decide_eq_true (by first | (with_reducible assumption) | assumption)
             have q6 : x6_2 < (a0.size : Int) := of_decide_eq_true (by first | (with_reducible assumption) | assumption)
             have hx6 := bt_at a0 x6_2
             replace p6 := eq_true p6
             replace q6 := eq_true q6
             have p30 : 0 ≤ (x6_2 : Int) := of_decide_eq_true (by first | (with_reducible assumption) | assumption)
             have q30 : x6_2 < (a0.size : Int) := of_decide_eq_true (by first | (with_reducible assumption) | assumption)
             have hx30 := bt_at a0 x6_2
             replace p30 := eq_true p30
             replace q30 := eq_true q30
             have p32 : 0 ≤ (x6_2 : Int) := of_decide_eq_true (by first | (with_reducible assumption) | assumption)
             have q32 : x6_2 < (a0.size : Int) := of_decide_eq_true (by first | (with_reducible assumption) | assumption)
             have hx32 := bt_at a0 x6_2
             replace p32 := eq_true p32
             replace q32 := eq_true q32
             have p34 : 0 ≤ (x6_2 : Int) := of_decide_eq_true (by first | (with_reducible assumption) | assumption)
             have q34 : x6_2 < (a0.size : Int) := of_decide_eq_true (by first | (with_reducible assumption) | assumption)
             have hx34 := bt_at a0 x6_2
             replace p34 := eq_true p34
             replace q34 := eq_true q34
             have p36 : 0 ≤ (x6_2 : Int) := of_decide_eq_true (by first | (with_reducible assumption) | assumption)
             have q36 : x6_2 < (a0.size : Int) := of_decide_eq_true (by first | (with_reducible assumption) | assumption)
             have hx36 := bt_at a0 x6_2
             replace p36 := eq_true p36
             replace q36 := eq_true q36
             go_wp2
             go_roundg k2
             case measure => have := HK1.out; have := HK2.out; omega
             case rel => exact ⟨(wrap64 (x6_2 + 1)), (by first | rfl | (simp; done) | (simp [*]; done)), H', ⟨by have := HK1.out; have := HK2.out; omega⟩, by repeat (first | exact Drawn0.refl _ | apply Drawn0.step)⟩
            ·
             rw [if_neg c37] at H
             have c37b0 : decide ((bt a0 x6_2) ≤ 122) = false := decide_eq_false c37
             clear c37
             by_cases c39 : (bt a0 x6_2) = 45
             ·
              rw [if_pos c39] at H
              have c39b0 : ((bt a0 x6_2) == 45) = true := beq_iff_eq.mpr c39
              have c39b1 : ((bt a0 x6_2) != 45) = false := bne_eq_false_iff_eq.mpr c39
              clear c39
              have H' := Aside0.mk H
              clear H
              have p6 : 0 ≤ (x6_2 : Int) := of_decide_eq_true (by first | (with_reducible assumption) | assumption)
              have q6 : x6_2 < (a0.size : Int) := of_decide_eq_true (by first | (with_reducible assumption) | assumption)
              have hx6 := bt_at a0 x6_2
              replace p6 := eq_true p6
              replace q6 := eq_true q6
              have p30 : 0 ≤ (x6_2 : Int) := of_decide_eq_true (by first | (with_reducible assumption) | assumption)
              have q30 : x6_2 < (a0.size : Int) := of_decide_eq_true (by first | (with_reducible assumption) | assumption)
              have hx30 := bt_at a0 x6_2
              replace p30 := eq_true p30
              replace q30 := eq_true q30
              have p32 : 0 ≤ (x6_2 : Int) := of_decide_eq_true (by first | (with_reducible assumption) | assumption)
              have q32 : x6_2 < (a0.size : Int) := of_decide_eq_true (by first | (with_reducible assumption) | assumption)
              have hx32 := bt_at a0 x6_2
              replace p32 := eq_true p32
              replace q32 := eq_true q32
              have p34 : 0 ≤ (x6_2 : Int) := of_decide_eq_true (by first | (with_reducible assumption) | assumption)
              have q34 : x6_2 < (a0.size : Int) := of_decide_eq_true (by first | (with_reducible assumption) | assumption)
              have hx34 := bt_at a0 x6_2
              replace p34 := eq_true p34
              replace q34 := eq_true q34
              have p36 : 0 ≤ (x6_2 : Int) := of_decide_eq_true (by first | (with_reducible assumption) | assumption)
              have q36 : x6_2 < (a0.size : Int) := of_decide_eq_true (by first | (with_reducible assumption) | assumption)
              have hx36 := bt_at a0 x6_2
              replace p36 := eq_true p36
              replace q36 := eq_true q36
              have p38 : 0 ≤ (x6_2 : Int) := of_decide_eq_true (by first | (with_reducible assumption) | assumption)
              have q38 : x6_2 < (a0.size : Int) := of_decide_eq_true (by first | (with_reducible assumption) | assumption)
              have hx38 := bt_at a0 x6_2
              replace p38 := eq_true p38
              replace q38 := eq_true q38
              go_wp2
              go_roundg k2
              case measure => have := HK1.out; have := HK2.out; omega
              case rel => exact ⟨(wrap64 (x6_2 + 1)), (by first | rfl | (simp; done) | (simp [*]; done)), H', ⟨by have := HK1.out; have := HK2.out; omega⟩, by repeat (first | exact Drawn0.refl _ | apply Drawn0.step)⟩
             ·
              rw [if_neg c39] at H
              have c39b0 : ((bt a0 x6_2) == 45) = false := beq_eq_false_iff_ne.mpr c39
              have c39b1 : ((bt a0 x6_2) != 45) = true := bne_iff_ne.mpr c39
              have H' := Aside0.mk H
              clear H
              have p6 : 0 ≤ (x6_2 : Int) := of_decide_eq_true (by first | (with_reducible assumption) | assumption)
              have q6 : x6_2 < (a0.size : Int) := of_decide_eq_true (by first | (with_reducible assumption) | assumption)
              have hx6 := bt_at a0 x6_2
              replace p6 := eq_true p6
              replace q6 := eq_true q6
              have p30 : 0 ≤ (x6_2 : Int) := of_decide_eq_true (by first | (with_reducible assumption) | assumption)
              have q30 : x6_2 < (a0.size : Int) := of_decide_eq_true (by first | (with_reducible assumption) | assumption)
              have hx30 := bt_at a0 x6_2
              replace p30 := eq_true p30
              replace q30 := eq_true q30
              have p32 : 0 ≤ (x6_2 : Int) := of_decide_eq_true (by first | (with_reducible assumption) | assumption)
              have q32 : x6_2 < (a0.size : Int) := of_decide_eq_true (by first | (with_reducible assumption) | assumption)
              have hx32 := bt_at a0 x6_2
              replace p32 := eq_true p32
              replace q32 := eq_true q32
              have p34 : 0 ≤ (x6_2 : Int) := of_decide_eq_true (by first | (with_reducible assumption) | assumption)
              have q34 : x6_2 < (a0.size : Int) := of_decide_eq_true (by first | (with_reducible assumption) | assumption)
              have hx34 := bt_at a0 x6_2
              replace p34 := eq_true p34
              replace q34 := eq_true q34
              have p36 : 0 ≤ (x6_2 : Int) := of_decide_eq_true (by first | (with_reducible assumption) | assumption)
              have q36 : x6_2 < (a0.size : Int) := of_decide_eq_true (by first | (with_reducible assumption) | assumption)
              have hx36 := bt_at a0 x6_2
              replace p36 := eq_true p36
              replace q36 := eq_true q36
              have p38 : 0 ≤ (x6_2 : Int) := of_decide_eq_true (by first | (with_reducible assumption) | assumption)
              have q38 : x6_2 < (a0.size : Int) := of_decide_eq_true (by first | (with_reducible assumption) | assumption)
              have hx38 := bt_at a0 x6_2
              replace p38 := eq_true p38
              replace q38 := eq_true q38
              go_wp2
              go_meet
              case rel => exact ⟨_, (x6_2), (by first | rfl | (simp; done) | (simp [*]; done)), H', ⟨by have := HK1.out; have := HK2.out; first | omega | exact Nat.le_refl _⟩, by repeat (first | exact Drawn0.refl _ | apply Drawn0.step)⟩
           ·
            rw [if_neg c35] at H
            have c35b0 : decide (97 ≤ (bt a0 x6_2)) = false := decide_eq_false c35
            clear c35
            by_cases c41 : (bt a0 x6_2) = 45
            ·
             rw [if_pos c41] at H
             have c41b0 : ((bt a0 x6_2) == 45) = true := beq_iff_eq.mpr c41
             have c41b1 : ((bt a0 x6_2) != 45) = false := bne_eq_false_iff_eq.mpr c41
             clear c41
             have H' := Aside0.mk H
             clear H
             have p6 : 0 ≤ (x6_2 : Int) := of_decide_eq_true (by first | (with_reducible assumption) | assumption)
             have q6 : x6_2 < (a0.size : Int) := of_decide_eq_true (by first | (with_reducible assumption) | assumption)
             have hx6 := bt_at a0 x6_2
             replace p6 := eq_true p6
             replace q6 := eq_true q6
             have p30 : 0 ≤ (x6_2 : Int) := of_decide_eq_true (by first | (with_reducible assumption) | assumption)
             have q30 : x6_2 < (a0.size : Int) := of_decide_eq_true (by first | (with_reducible assumption) | assumption)
             have hx30 := bt_at a0 x6_2
             replace p30 := eq_true p30
             replace q30 := eq_true q30
             have p32 : 0 ≤ (x6_2 : Int) := of_decide_eq_true (by first | (with_reducible assumption) | assumption)
             have q32 : x6_2 < (a0.size : Int) := of_decide_eq_true (by first | (with_reducible assumption) | assumption)
             have hx32 := bt_at a0 x6_2
             replace p32 := eq_true p32
             replace q32 := eq_true q32
             have p34 : 0 ≤ (x6_2 : Int) := of_decide_eq_true (by first | (with_reducible assumption) | assumption)
             have q34 : x6_2 < (a0.size : Int) := of_decide_eq_true (by first | (with_reducible assumption) | assumption)
             have hx34 := bt_at a0 x6_2
             replace p34 := eq_true p34
             replace q34 := eq_true q34
             have p40 : 0 ≤ (x6_2 : Int) := of_decide_eq_true (by first | (with_reducible assumption) | assumption)
             have q40 : x6_2 < (a0.size : Int) := of_decide_eq_true (by first | (with_reducible assumption) | assumption)
             have hx40 := bt_at a0 x6_2
             replace p40 := eq_true p40
             replace q40 := eq_true q40
             go_wp2
             go_roundg k2
             case measure => have := HK1.out; have := HK2.out; omega
             case rel => exact ⟨(wrap64 (x6_2 + 1)), (by first | rfl | (simp; done) | (simp [*]; done)), H', ⟨by have := HK1.out; have := HK2.out; omega⟩, by repeat (first | exact Drawn0.refl _ | apply Drawn0.step)⟩
            ·
             rw [if_neg c41] at H
             have c41b0 : ((bt a0 x6_2) == 45) = false := beq_eq_false_iff_ne.mpr c41
             have c41b1 : ((bt a0 x6_2) != 45) = true := bne_iff_ne.mpr c41
             have H' := Aside0.mk H
             clear H
             have p6 : 0 ≤ (x6_2 : Int) := of_decide_eq_true (by first | (with_reducible assumption) | assumption)
             have q6 : x6_2 < (a0.size : Int) := of_decide_eq_true (by first | (with_reducible assumption) | assumption)
             have hx6 := bt_at a0 x6_2
             replace p6 := eq_true p6
             replace q6 := eq_true q6
             have p30 : 0 ≤ (x6_2 : Int) := of_decide_eq_true (by first | (with_reducible assumption) | assumption)
             have q30 : x6_2 < (a0.size : Int) := of_decide_eq_true (by first | (with_reducible assumption) | assumption)
             have hx30 := bt_at a0 x6_2
             replace p30 := eq_true p30
             replace q30 := eq_true q30
             have p32 : 0 ≤ (x6_2 : Int) := of_decide_eq_true (by first | (with_reducible assumption) | assumption)
             have q32 : x6_2 < (a0.size : Int) := of_decide_eq_true (by first | (with_reducible assumption) | assumption)
             have hx32 := bt_at a0 x6_2
             replace p32 := eq_true p32
             replace q32 := eq_true q32
             have p34 : 0 ≤ (x6_2 : Int) := of_decide_eq_true (by first | (with_reducible assumption) | assumption)
             have q34 : x6_2 < (a0.size : Int) := of_decide_eq_true (by first | (with_reducible assumption) | assumption)
             have hx34 := bt_at a0 x6_2
             replace p34 := eq_true p34
             replace q34 := eq_true q34
             have p40 : 0 ≤ (x6_2 : Int) := of_decide_eq_true (by first | (with_reducible assumption) | assumption)
             have q40 : x6_2 < (a0.size : Int) := of_decide_eq_true (by first | (with_reducible assumption) | assumption)
             have hx40 := bt_at a0 x6_2
             replace p40 := eq_true p40
             replace q40 := eq_true q40
             go_wp2
             go_meet
             case rel => exact ⟨_, (x6_2), (by first | rfl | (simp; done) | (simp [*]; done)), H', ⟨by have := HK1.out; have := HK2.out; first | omega | exact Nat.le_refl _⟩, by repeat (first | exact Drawn0.refl _ | apply Drawn0.step)⟩
         ·
          rw [if_neg c31] at H
          have c31b0 : decide (65 ≤ (bt a0 x6_2)) = false := decide_eq_false c31
          clear c31
          by_cases c43 : 97 ≤ (bt a0 x6_2)
          ·
           rw [if_pos c43] at H
           have c43b0 : decide (97 ≤ (bt a0 x6_2)) = true := decide_eq_true c43
           clear c43
           by_cases c45 : (bt a0 x6_2) ≤ 122
           ·
            rw [if_pos c45] at H
            have c45b0 : decide ((bt a0 x6_2) ≤ 122) = true := decide_eq_true c45
            clear c45
            have H' := Aside0.mk H
            clear H
            have p6 : 0 ≤ (x6_2 : Int) := of_decide_eq_true (by first | (with_reducible assumption) | assumption)
            have q6 : x6_2 < (a0.size : Int) := of_decide_eq_true (by first | (with_reducible assumption) | assumption)
            have hx6 := bt_at a0 x6_2
            replace p6 := eq_true p6
            replace q6 := eq_true q6
            have p30 : 0 ≤ (x6_2 : Int) := of_decide_eq_true (by first | (with_reducible assumption) | assumption)
            have q30 : x6_2 < (a0.size : Int) := of_decide_eq_true (by first | (with_reducible assumption) | assumption)
            have hx30 := bt_at a0 x6_2
            replace p30 := eq_true p30
            replace q30 := eq_true q30
            have p42 : 0 ≤ (x6_2 : Int) := of_decide_eq_true (by first | (with_reducible assumption) | assumption)
            have q42 : x6_2 < (a0.size : Int) := of_decide_eq_true (by first | (with_reducible assumption) | assumption)
            have hx42 := bt_at a0 x6_2
            replace p42 := eq_true p42
            replace q42 := eq_true q42
            have p44 : 0 ≤ (x6_2 : Int) := of_decide_eq_true (by first | (with_reducible assumption) | assumption)
            have q44 : x6_2 < (a0.size : Int) := of_decide_eq_true (by first | (with_reducible assumption) | assumption)
            have hx44 := bt_at a0 x6_2
            replace p44 := eq_true p44
            replace q44 := eq_true q44
            go_wp2
            go_roundg k2
            case measure => have := HK1.out; have := HK2.out; omega
            case rel => exact ⟨(wrap64 (x6_2 + 1)), (by first | rfl | (simp; done) | (simp [*]; done)), H', ⟨by have := HK1.out; have := HK2.out; omega⟩, by repeat (first | exact Drawn0.refl _ | apply Drawn0.step)⟩
           ·
            rw [if_neg c45] at H
            have c45b0 : decide ((bt a0 x6_2) ≤ 122) = false := decide_eq_false c45
            clear c45
            by_cases c47 : (bt a0 x6_2) = 45
            ·
             rw [if_pos c47] at H
             have c47b0 : ((bt a0 x6_2) == 45) = true := beq_iff_eq.mpr c47
             have c47b1 : ((bt a0 x6_2) != 45) = false := bne_eq_false_iff_eq.mpr c47
             clear c47
             have H' := Aside0.mk H
             clear H
             have p6 : 0 ≤ (x6_2 : Int) := of_decide_eq_true (by first | (with_reducible assumption) | assumption)
             have q6 : x6_2 < (a0.size : Int) := of_decide_eq_true (by first | (with_reducible assumption) | assumption)
             have hx6 := bt_at a0 x6_2
             replace p6 := eq_true p6
             replace q6 := eq_true q6
             have p30 : 0 ≤ (x6_2 : Int) := of_decide_eq_true (by first | (with_reducible assumption) | assumption)
             have q30 : x6_2 < (a0.size : Int) := of_decide_eq_true (by first | (with_reducible assumption) | assumption)
             have hx30 := bt_at a0 x6_2
             replace p30 := eq_true p30
             replace q30 := eq_true q30
             have p42 : 0 ≤ (x6_2 : Int) := of_decide_eq_true (by first | (with_reducible assumption) | assumption)
             have q42 : x6_2 < (a0.size : Int) := of_decide_eq_true (by first | (with_reducible assumption) | assumption)
             have hx42 := bt_at a0 x6_2
             replace p42 := eq_true p42
             replace q42 := eq_true q42
             have p44 : 0 ≤ (x6_2 : Int) := of_decide_eq_true (by first | (with_reducible assumption) | assumption)
             have q44 : x6_2 < (a0.size : Int) := of_decide_eq_true (by first | (with_reducible assumption) | assumption)
             have hx44 := bt_at a0 x6_2
             replace p44 := eq_true p44
             replace q44 := eq_true q44
             have p46 : 0 ≤ (x6_2 : Int) := of_decide_eq_true (by first | (with_reducible assumption) | assumption)
             have q46 : x6_2 < (a0.size : Int) := of_decide_eq_true (by first | (with_reducible assumption) | assumption)
             have hx46 := bt_at a0 x6_2
             replace p46 := eq_true p46
             replace q46 := eq_true q46
             go_wp2
             go_roundg k2
             case measure => have := HK1.out; have := HK2.out; omega
             case rel => exact ⟨(wrap64 (x6_2 + 1)), (by first | rfl | (simp; done) | (simp [*]; done)), H', ⟨by have := HK1.out; have := HK2.out; omega⟩, by repeat (first | exact Drawn0.refl _ | apply Drawn0.step)⟩
            ·
             rw [if_neg c47] at H
             have c47b0 : ((bt a0 x6_2) == 45) = false := beq_eq_false_iff_ne.mpr c47
             have c47b1 : ((bt a0 x6_2) != 45) = true := bne_iff_ne.mpr c47
             have H' := Aside0.mk H
             clear H
             have p6 : 0 ≤ (x6_2 : Int) := of_decide_eq_true (by first | (with_reducible assumption) | assumption)
             have q6 : x6_2 < (a0.size : Int) := of_decide_eq_true (by first | (with_reducible assumption) | assumption)
             have hx6 := bt_at a0 x6_2
             replace p6 := eq_true p6
             replace q6 := eq_true q6
             have p30 : 0 ≤ (x6_2 : Int) := of_decide_eq_true (by first | (with_reducible assumption) | assumption)
             have q30 : x6_2 < (a0.size : Int) := of_decide_eq_true (by first | (with_reducible assumption) | assumption)
             have hx30 := bt_at a0 x6_2
             replace p30 := eq_true p30
             replace q30 := eq_true q30
             have p42 : 0 ≤ (x6_2 : Int) := of_decide_eq_true (by first | (with_reducible assumption) | assumption)
             have q42 : x6_2 < (a0.size : Int) := of_decide_eq_true (by first | (with_reducible assumption) | assumption)
             have hx42 := bt_at a0 x6_2
             replace p42 := eq_true p42
             replace q42 := eq_true q42
             have p44 : 0 ≤ (x6_2 : Int) := of_decide_eq_true (by first | (with_reducible assumption) | assumption)
             have q44 : x6_2 < (a0.size : Int) := of_decide_eq_true (by first | (with_reducible assumption) | assumption)
             have hx44 := bt_at a0 x6_2
             replace p44 := eq_true p44
             replace q44 := eq_true q44
             have p46 : 0 ≤ (x6_2 : Int) := of_decide_eq_true (by first | (with_reducible assumption) | assumption)
             have q46 : x6_2 < (a0.size : Int) := of_decide_eq_true (by first | (with_reducible assumption) | assumption)
             have hx46 := bt_at a0 x6_2
             replace p46 := eq_true p46
             replace q46 := eq_true q46
             go_wp2
             go_meet
             case rel => exact ⟨_, (x6_2), (by first | rfl | (simp; done) | (simp [*]; done)), H', ⟨by have := HK1.out; have := HK2.out; first | omega | exact Nat.le_refl _⟩, by repeat (first | exact Drawn0.refl _ | apply Drawn0.step)⟩
          ·
           rw [if_neg c43] at H
           have c43b0 : decide (97 ≤ (bt a0 x6_2)) = false := decide_eq_false c43
           clear c43
           by_cases c49 : (bt a0 x6_2) = 45
           ·
            rw [if_pos c49] at H
            have c49b0 : ((bt a0 x6_2) == 45) = true := beq_iff_eq.mpr c49
            have c49b1 : ((bt a0 x6_2) != 45) = false := bne_eq_false_iff_eq.mpr c49
            clear c49
            have H' := Aside0.mk H
            clear H
            have p6 : 0 ≤ (x6_2 : Int) := of_decide_eq_true (by first | (with_reducible assumption) | assumption)
            have q6 : x6_2 < (a0.size : Int) := of_decide_eq_true (by first | (with_reducible assumption) | assumption)
            have hx6 := bt_at a0 x6_2
            replace p6 := eq_true p6
            replace q6 := eq_true q6
            have p30 : 0 ≤ (x6_2 : Int) := of_decide_eq_true (by first | (with_reducible assumption) | assumption)
            have q30 : x6_2 < (a0.size : Int) := of_decide_eq_true (by first | (with_reducible assumption) | assumption)
            have hx30 := bt_at a0 x6_2
            replace p30 := eq_true p30
            replace q30 := eq_true q30
            have p42 : 0 ≤ (x6_2 : Int) := of_decide_eq_true (by first | (with_reducible assumption) | assumption)
            have q42 : x6_2 < (a0.size : Int) := of_decide_eq_true (by first | (with_reducible assumption) | assumption)
            have hx42 := bt_at a0 x6_2
            replace p42 := eq_true p42
            replace q42 := eq_true q42
            have p48 : 0 ≤ (x6_2 : Int) := of_decide_eq_true (by first | (with_reducible assumption) | assumption)
            have q48 : x6_2 < (a0.size : Int) := of_decide_eq_true (by first | (with_reducible assumption) | assumption)
            have hx48 := bt_at a0 x6_2
            replace p48 := eq_true p48
            replace q48 := eq_true q48
            go_wp2
            go_roundg k2
            case measure => have := HK1.out; have := HK2.out; omega
            case rel => exact ⟨(wrap64 (x6_2 + 1)), (by first | rfl | (simp; done) | (simp [*]; done)), H', ⟨by have := HK1.out; have := HK2.out; omega⟩, by repeat (first | exact Drawn0.refl _ | apply Drawn0.step)⟩
           ·
            rw [if_neg c49] at H
            have c49b0 : ((bt a0 x6_2) == 45) = false := beq_eq_false_iff_ne.mpr c49
            have c49b1 : ((bt a0 x6_2) != 45) = true := bne_iff_ne.mpr c49
            have H' := Aside0.mk H
            clear H
            have p6 : 0 ≤ (x6_2 : Int) := of_decide_eq_true (by first | (with_reducible assumption) | assumption)
            have q6 : x6_2 < (a0.size : Int) := of_decide_eq_true (by first | (with_reducible assumption) | assumption)
            have hx6 := bt_at a0 x6_2
            replace p6 := eq_true p6
            replace q6 := eq_true q6
            have p30 : 0 ≤ (x6_2 : Int) := of_decide_eq_true (by first | (with_reducible assumption) | assumption)
            have q30 : x6_2 < (a0.size : Int) := of_decide_eq_true (by first | (with_reducible assumption) | assumption)
            have hx30 := bt_at a0 x6_2
            replace p30 := eq_true p30
            replace q30 := eq_true q30
            have p42 : 0 ≤ (x6_2 : Int) := of_decide_eq_true (by first | (with_reducible assumption) | assumption)
            have q42 : x6_2 < (a0.size : Int) := of_decide_eq_true (by first | (with_reducible assumption) | assumption)
            have hx42 := bt_at a0 x6_2
            replace p42 := eq_true p42
            replace q42 := eq_true q42
            have p48 : 0 ≤ (x6_2 : Int) := of_decide_eq_true (by first | (with_reducible assumption) | assumption)
            have q48 : x6_2 < (a0.size : Int) := of_decide_eq_true (by first | (with_reducible assumption) | assumption)
            have hx48 := bt_at a0 x6_2
            replace p48 := eq_true p48
            replace q48 := eq_true q48
            go_wp2
            go_meet
            case rel => exact ⟨_, (x6_2), (by first | rfl | (simp; done) | (simp [*]; done)), H', ⟨by have := HK1.out; have := HK2.out; first | omega | exact Nat.le_refl _⟩, by repeat (first | exact Drawn0.refl _ | apply Drawn0.step)⟩
       ·
        rw [if_neg c5] at H
        exact absurd H (by simp)
      ·
       rw [if_neg c4] at H
       have c4b0 : decide (x6_2 < (a0.size : Int)) = false := decide_eq_false c4
       clear c4
       (first | rw [c4b0] | (simp only [i64_w, i32_w]; rw [c4b0]) | skip)
       have H' := Aside0.mk H
       clear H
       go_wp2
       go_meet
       case rel => exact ⟨_, (x6_2), (by first | rfl | (simp; done) | (simp [*]; done)), H', ⟨by have := HK1.out; have := HK2.out; first | omega | exact Nat.le_refl _⟩, by repeat (first | exact Drawn0.refl _ | apply Drawn0.step)⟩
   case rest =>
    clear HC3
    try clear p1
    try clear q1
    try clear hx1
    try clear c2
    try clear p2
    try clear q2
    try clear hx2
    try clear c3
    try clear p3
    try clear q3
    try clear hx3
    try clear c4
    try clear c4b0
    try clear p4
    try clear q4
    try clear hx4
    try clear c5
    try clear p6
    try clear q6
    try clear hx6
    try clear c7
    try clear c7b0
    try clear p8
    try clear q8
    try clear hx8
    try clear p10
    try clear q10
    try clear hx10
    try clear p22
    try clear q22
    try clear hx22
    try clear c23
    try clear c23b0
    try clear p24
    try clear q24
    try clear hx24
    try clear c25
    try clear c25b0
    try clear p26
    try clear q26
    try clear hx26
    try clear c27
    try clear c27b0
    try clear c27b1
    try clear p28
    try clear q28
    try clear hx28
    try clear c29
    try clear c29b0
    try clear c29b1
    try clear p30
    try clear q30
    try clear hx30
    try clear c31
    try clear c31b0
    try clear p32
    try clear q32
    try clear hx32
    try clear c33
    try clear c33b0
    try clear p34
    try clear q34
    try clear hx34
    try clear c35
    try clear c35b0
    try clear p36
    try clear q36
    try clear hx36
    try clear c37
    try clear c37b0
    try clear p38
    try clear q38
    try clear hx38
    try clear c39
    try clear c39b0
    try clear c39b1
    try clear p40
    try clear q40
    try clear hx40
    try clear c41
    try clear c41b0
    try clear c41b1
    try clear p42
    try clear q42
    try clear hx42
    try clear c43
    try clear c43b0
    try clear p44
    try clear q44
    try clear hx44
    try clear c45
    try clear c45b0
    try clear p46
    try clear q46
    try clear hx46
    try clear c47
    try clear c47b0
    try clear c47b1
    try clear p48
    try clear q48
    try clear hx48
    try clear c49
    try clear c49b0
    try clear c49b1
    try clear p10
    try clear p22
    try clear p24
    try clear p26
    try clear p28
    try clear p30
    try clear p32
    try clear p34
    try clear p36
    try clear p38
    try clear p40
    try clear p42
    try clear p44
    try clear p46
    try clear p48
    try clear p6
    try clear p8
    try clear q10
    try clear q22
    try clear q24
    try clear q26
    try clear q28
    try clear q30
    try clear q32
    try clear q34
    try clear q36
    try clear q38
    try clear q40
    try clear q42
    try clear q44
    try clear q46
    try clear q48
    try clear q6
    try clear q8
    obtain ⟨kq, x6_2, rfl, HA, HJ2, ⟨mc2, rfl⟩⟩ := hcut
    cases kq with
    | zero => exact absurd HA.out (by simp [version_zzWords.j2])
    | succ kj2 =>
     have H := HA.out
     clear HA
     simp only [version_zzWords.j2] at H
     by_cases c50 : x6_2 = x1_1
     ·
      rw [if_pos c50] at H
      have c50b0 : (x6_2 == x1_1) = true := beq_iff_eq.mpr c50
      have c50b1 : (x6_2 != x1_1) = false := bne_eq_false_iff_eq.mpr c50
      clear c50
      obtain rfl := Option.some.inj H
      go_wp2
      go_ret
      exact ⟨by first | rfl | (simp; done) | (simp [*]; done), by repeat (first | exact Drawn0.refl _ | apply Drawn0.step)⟩
     ·
      rw [if_neg c50] at H
      have c50b0 : (x6_2 == x1_1) = false := beq_eq_false_iff_ne.mpr c50
      have c50b1 : (x6_2 != x1_1) = true := bne_iff_ne.mpr c50
      by_cases c51 : x6_2 = (a0.size : Int)
      ·
       rw [if_pos c51] at H
       have c51b0 : (x6_2 == (a0.size : Int)) = true := beq_iff_eq.mpr c51
       have c51b1 : (x6_2 != (a0.size : Int)) = false := bne_eq_false_iff_eq.mpr c51
       clear c51
       obtain rfl := Option.some.inj H
       go_wp2
       go_ret
       exact ⟨by first | rfl | (simp; done) | (simp [*]; done), by repeat (first | exact Drawn0.refl _ | apply Drawn0.step)⟩
      ·
       rw [if_neg c51] at H
       have c51b0 : (x6_2 == (a0.size : Int)) = false := beq_eq_false_iff_ne.mpr c51
       have c51b1 : (x6_2 != (a0.size : Int)) = true := bne_iff_ne.mpr c51
       by_cases c52 : 0 ≤ x6_2
       ·
        rw [if_pos c52] at H
        have c52b0 : decide (0 ≤ x6_2) = true := decide_eq_true c52
        clear c52
        by_cases c53 : x6_2 < (a0.size : Int)
        ·
         rw [if_pos c53] at H
         have c53b0 : decide (x6_2 < (a0.size : Int)) = true := decide_eq_true c53
         clear c53
         by_cases c55 : (bt a0 x6_2) = 46
         ·
          rw [if_pos c55] at H
          have c55b0 : ((bt a0 x6_2) == 46) = true := beq_iff_eq.mpr c55
          have c55b1 : ((bt a0 x6_2) != 46) = false := bne_eq_false_iff_eq.mpr c55
          clear c55
          have H' := Aside0.mk H
          clear H
          have p54 : 0 ≤ (x6_2 : Int) := of_decide_eq_true (by first | (with_reducible assumption) | assumption)
          have q54 : x6_2 < (a0.size : Int) := of_decide_eq_true (by first | (with_reducible assumption) | assumption)
          have hx54 := bt_at a0 x6_2
          replace p54 := eq_true p54
          replace q54 := eq_true q54
          go_wp2
          go_roundg kj2
          case measure => have := HK1.out; have := HJ2.out; omega
          case rel => exact ⟨(wrap64 (x6_2 + 1)), (x6_2), (by first | rfl | (simp; done) | (simp [*]; done)), (by first | rfl | (simp; done) | (simp [*]; done)), H', ⟨by have := HK1.out; have := HJ2.out; omega⟩, by repeat (first | exact Drawn0.refl _ | apply Drawn0.step)⟩
         ·
          rw [if_neg c55] at H
          have c55b0 : ((bt a0 x6_2) == 46) = false := beq_eq_false_iff_ne.mpr c55
          have c55b1 : ((bt a0 x6_2) != 46) = true := bne_iff_ne.mpr c55
          obtain rfl := Option.some.inj H
          have p54 : 0 ≤ (x6_2 : Int) := of_decide_eq_true (by first | (with_reducible assumption) | assumption)
          have q54 : x6_2 < (a0.size : Int) := of_decide_eq_true (by first | (with_reducible assumption) | assumption)
          have hx54 := bt_at a0 x6_2
          replace p54 := eq_true p54
          replace q54 := eq_true q54
          go_wp2
          go_ret
          exact ⟨by first | rfl | (simp; done) | (simp [*]; done), by repeat (first | exact Drawn0.refl _ | apply Drawn0.step)⟩
        ·
         rw [if_neg c53] at H
         exact absurd H (by simp)
       ·
        rw [if_neg c52] at H
        exact absurd H (by simp)

end Go.Proofs.YtomoefldmgfaoaaDoor.PvH
