/- Functions of the program as plain Lean functions, and that the machine's calls do what these say: written for this claim by wip/myprint.py over the kit's print.py. -/
import Derived.Test.YtomoefldmgfaoaaDoorPvHx0
namespace Go.Proofs.YtomoefldmgfaoaaDoor.PvH
open Go.RowKit Go.Proofs.YtomoefldmgfaoaaDoorW.PrintWords Go.Proofs.YtomoefldmgfaoaaDoorW.PrintLast Go.Proofs.YtomoefldmgfaoaaDoorW.PrintMore
attribute [local go_sem] max2_int min2_int max_two min_two max_three min_three max_four min_four   -- for this text's walks alone
set_option linter.unusedVariables false
set_option linter.unusedSimpArgs false

-- NOT PRINTED: function 35 (spec_VerUintText)

-- NOT PRINTED: function 13 (spec_Version_Text)

-- NOT PRINTED: function 28 (spec_Version_part)

-- NOT PRINTED: function 9 (spec_SameVer)

-- NOT PRINTED: function 59 (version_Version_Components)

-- NOT PRINTED: function 60 (version_Version_PreRelease)

-- NOT PRINTED: function 61 (version_Version_BuildMetadata)

-- NOT PRINTED: function 91 (bytes_Buffer_tryGrowByReslice)

-- NOT PRINTED: function 104 (bytes_Buffer_Len)

-- NOT PRINTED: function 105 (bytes_Buffer_Reset)

-- NOT PRINTED: function 106 (bytes_growSlice)

-- NOT PRINTED: function 92 (bytes_Buffer_grow)

-- NOT PRINTED: function 83 (bytes_Buffer_WriteString)

-- NOT PRINTED: function 107 (strconv_small)

-- NOT PRINTED: function 123 (strconv_log10Pow2)

-- NOT PRINTED: function 124 (bits_Len64)

-- NOT PRINTED: function 125 (strconv_bool2_int)

-- NOT PRINTED: function 108 (strconv_numDigits)

-- NOT PRINTED: function 109 (strconv_formatBase10)

-- NOT PRINTED: function 126 (strconv_isPowerOfTwo)

-- NOT PRINTED: function 132 (bits_TrailingZeros32)

-- NOT PRINTED: function 133 (bits_TrailingZeros64)

-- NOT PRINTED: function 127 (bits_TrailingZeros)

-- NOT PRINTED: function 110 (strconv_formatBits)

-- NOT PRINTED: function 93 (strconv_FormatUint_93)

-- NOT PRINTED: function 84 (strconv_FormatUint_84)

-- NOT PRINTED: function 85 (bytes_Buffer_String)

-- NOT PRINTED: function 62 (version_Version_String)

-- NOT PRINTED: function 63 (version_Version_Major)

-- NOT PRINTED: function 64 (version_Version_Minor)

-- NOT PRINTED: function 65 (version_Version_Patch)

-- NOT PRINTED: function 29 (impl_ver)

/-! ### errors_New: function 72 -/
set_option maxHeartbeats 1000000 in
theorem errors_New.calls (s : ByteArray) (w : World) :
  Calls Tryd.prog 72 #[.string s] w fun e w' => (∃ x, e = .returned (.iface 112 x)) ∧ Below w.heap.size w w' := by
 have hu1 := Tryd.underlying114
 go_enter Tryd.func72, Tryd.ntmps72
 go_wp2_with fail
 go_ret
 exact ⟨⟨_, rfl⟩, by repeat (first | (with_reducible exact Below.refl _ _) | apply below_alloc | apply pw_below_drewN | apply below_drew1)⟩
/-! ### version_zzBlanks: function 111 -/
def version_zzBlanks.l0 : Nat → ByteArray → Int → Option (Int)
 | 0, _, _ => none
 | k + 1, x0, x1 => if x1 < (x0.size : Int) then (if 0 ≤ x1 then (if (bt x0 x1) = 32 then (version_zzBlanks.l0 k x0 (wrap64 (x1 + 1))) else (if (bt x0 x1) = 9 then (version_zzBlanks.l0 k x0 (wrap64 (x1 + 1))) else (if (bt x0 x1) = 10 then (version_zzBlanks.l0 k x0 (wrap64 (x1 + 1))) else (if (bt x0 x1) = 12 then (version_zzBlanks.l0 k x0 (wrap64 (x1 + 1))) else (if (bt x0 x1) = 13 then (version_zzBlanks.l0 k x0 (wrap64 (x1 + 1))) else (some x1)))))) else (none)) else (some x1)
def version_zzBlanks.f (k : Nat) (a0 : ByteArray) (a1 : Int) : Option (Int) := version_zzBlanks.l0 k a0 a1
set_option maxHeartbeats 8000000 in
set_option maxRecDepth 100000 in
theorem version_zzBlanks.calls (k : Nat) (a0 : ByteArray) (a1 : Int) (r : Int) (w : World) (h : version_zzBlanks.f k a0 a1 = some r) :
  Calls Tryd.prog 111 #[.string a0, .int .i64 a1] w fun e w' => e = .returned (.int .i64 r) ∧ Drawn0 w w' := by
 have H : (version_zzBlanks.l0 k a0 a1) = some r := h
 clear h
 have H' := Aside0.mk H
 clear H
 go_enter Tryd.func111, Tryd.ntmps111
 go_wp2
 go_loopg [1] k (fun kq v1 w' => ∃ (x1_1 : Int), v1 = .int .i64 x1_1 ∧ Aside0 (version_zzBlanks.l0 kq a0 x1_1 = some r) ∧ Aside0 (kq ≤ k) ∧ Drawn0 w w')
 case atStart => exact ⟨(a1), (by first | rfl | (simp; done) | (simp [*]; done)), H', ⟨Nat.le_refl _⟩, by repeat (first | exact Drawn0.refl _ | apply Drawn0.step)⟩
 case round =>
  clear H'
  try clear c1
  try clear p2
  obtain ⟨x1_1, rfl, HA, HK1, ⟨m1, rfl⟩⟩ := hrel
  cases gk with
  | zero => exact absurd HA.out (by simp [version_zzBlanks.l0])
  | succ k1 =>
   have H := HA.out
   clear HA
   simp only [version_zzBlanks.l0] at H
   by_cases c3 : x1_1 < (a0.size : Int)
   ·
    rw [if_pos c3] at H
    have c3b0 : decide (x1_1 < (a0.size : Int)) = true := decide_eq_true c3
    clear c3
    by_cases c4 : 0 ≤ x1_1
    ·
     rw [if_pos c4] at H
     have c4b0 : decide (0 ≤ x1_1) = true := decide_eq_true c4
     clear c4
     by_cases c6 : (bt a0 x1_1) = 32
     ·
      rw [if_pos c6] at H
      have c6b0 : ((bt a0 x1_1) == 32) = true := beq_iff_eq.mpr c6
      have c6b1 : ((bt a0 x1_1) != 32) = false := bne_eq_false_iff_eq.mpr c6
      clear c6
      have H' := Aside0.mk H
      clear H
      have p5 : 0 ≤ (x1_1 : Int) := of_decide_eq_true (by first | (with_reducible assumption) | assumption)
      have q5 : x1_1 < (a0.size : Int) := of_decide_eq_true (by first | (with_reducible assumption) | assumption)
      have hx5 := bt_at a0 x1_1
      replace p5 := eq_true p5
      replace q5 := eq_true q5
      go_wp2
      go_roundg k1
      case measure => have := HK1.out; omega
      case rel => exact ⟨(wrap64 (x1_1 + 1)), (by first | rfl | (simp; done) | (simp [*]; done)), H', ⟨by have := HK1.out; omega⟩, by repeat (first | exact Drawn0.refl _ | apply Drawn0.step)⟩
     ·
      rw [if_neg c6] at H
      have c6b0 : ((bt a0 x1_1) == 32) = false := beq_eq_false_iff_ne.mpr c6
      have c6b1 : ((bt a0 x1_1) != 32) = true := bne_iff_ne.mpr c6
      by_cases c8 : (bt a0 x1_1) = 9
      ·
       rw [if_pos c8] at H
       have c8b0 : ((bt a0 x1_1) == 9) = true := beq_iff_eq.mpr c8
       have c8b1 : ((bt a0 x1_1) != 9) = false := bne_eq_false_iff_eq.mpr c8
       clear c8
       have H' := Aside0.mk H
       clear H
       have p5 : 0 ≤ (x1_1 : Int) := of_decide_eq_true (by first | (with_reducible assumption) | assumption)
       have q5 : x1_1 < (a0.size : Int) := of_decide_eq_true (by first | (with_reducible assumption) | assumption)
       have hx5 := bt_at a0 x1_1
       replace p5 := eq_true p5
       replace q5 := eq_true q5
       have p7 : 0 ≤ (x1_1 : Int) := of_decide_eq_true (by first | (with_reducible assumption) | assumption)
       have q7 : x1_1 < (a0.size : Int) := of_decide_eq_true (by first | (with_reducible assumption) | assumption)
       have hx7 := bt_at a0 x1_1
       replace p7 := eq_true p7
       replace q7 := eq_true q7
       go_wp2
       go_roundg k1
       case measure => have := HK1.out; omega
       case rel => exact ⟨(wrap64 (x1_1 + 1)), (by first | rfl | (simp; done) | (simp [*]; done)), H', ⟨by have := HK1.out; omega⟩, by repeat (first | exact Drawn0.refl _ | apply Drawn0.step)⟩
      ·
       rw [if_neg c8] at H
       have c8b0 : ((bt a0 x1_1) == 9) = false := beq_eq_false_iff_ne.mpr c8
       have c8b1 : ((bt a0 x1_1) != 9) = true := bne_iff_ne.mpr c8
       by_cases c10 : (bt a0 x1_1) = 10
       ·
        rw [if_pos c10] at H
        have c10b0 : ((bt a0 x1_1) == 10) = true := beq_iff_eq.mpr c10
        have c10b1 : ((bt a0 x1_1) != 10) = false := bne_eq_false_iff_eq.mpr c10
        clear c10
        have H' := Aside0.mk H
        clear H
        have p5 : 0 ≤ (x1_1 : Int) := of_decide_eq_true (by first | (with_reducible assumption) | assumption)
        have q5 : x1_1 < (a0.size : Int) := of_decide_eq_true (by first | (with_reducible assumption) | assumption)
        have hx5 := bt_at a0 x1_1
        replace p5 := eq_true p5
        replace q5 := eq_true q5
        have p7 : 0 ≤ (x1_1 : Int) := of_decide_eq_true (by first | (with_reducible assumption) | assumption)
        have q7 : x1_1 < (a0.size : Int) := of_decide_eq_true (by first | (with_reducible assumption) | assumption)
        have hx7 := bt_at a0 x1_1
        replace p7 := eq_true p7
        replace q7 := eq_true q7
        have p9 : 0 ≤ (x1_1 : Int) := of_decide_eq_true (by first | (with_reducible assumption) | assumption)
        have q9 : x1_1 < (a0.size : Int) := of_decide_eq_true (by first | (with_reducible assumption) | assumption)
        have hx9 := bt_at a0 x1_1
        replace p9 := eq_true p9
        replace q9 := eq_true q9
        go_wp2
        go_roundg k1
        case measure => have := HK1.out; omega
        case rel => exact ⟨(wrap64 (x1_1 + 1)), (by first | rfl | (simp; done) | (simp [*]; done)), H', ⟨by have := HK1.out; omega⟩, by repeat (first | exact Drawn0.refl _ | apply Drawn0.step)⟩
       ·
        rw [if_neg c10] at H
        have c10b0 : ((bt a0 x1_1) == 10) = false := beq_eq_false_iff_ne.mpr c10
        have c10b1 : ((bt a0 x1_1) != 10) = true := bne_iff_ne.mpr c10
        by_cases c12 : (bt a0 x1_1) = 12
        ·
         rw [if_pos c12] at H
         have c12b0 : ((bt a0 x1_1) == 12) = true := beq_iff_eq.mpr c12
         have c12b1 : ((bt a0 x1_1) != 12) = false := bne_eq_false_iff_eq.mpr c12
         clear c12
         have H' := Aside0.mk H
         clear H
         have p5 : 0 ≤ (x1_1 : Int) := of_decide_eq_true (by first | (with_reducible assumption) | assumption)
         have q5 : x1_1 < (a0.size : Int) := of_decide_eq_true (by first | (with_reducible assumption) | assumption)
         have hx5 := bt_at a0 x1_1
         replace p5 := eq_true p5
         replace q5 := eq_true q5
         have p7 : 0 ≤ (x1_1 : Int) := of_decide_eq_true (by first | (with_reducible assumption) | assumption)
         have q7 : x1_1 < (a0.size : Int) := of_decide_eq_true (by first | (with_reducible assumption) | assumption)
         have hx7 := bt_at a0 x1_1
         replace p7 := eq_true p7
         replace q7 := eq_true q7
         have p9 : 0 ≤ (x1_1 : Int) := of_decide_eq_true (by first | (with_reducible assumption) | assumption)
         have q9 : x1_1 < (a0.size : Int) := of_decide_eq_true (by first | (with_reducible assumption) | assumption)
         have hx9 := bt_at a0 x1_1
         replace p9 := eq_true p9
         replace q9 := eq_true q9
         have p11 : 0 ≤ (x1_1 : Int) := of_decide_eq_true (by first | (with_reducible assumption) | assumption)
         have q11 : x1_1 < (a0.size : Int) := of_decide_eq_true (by first | (with_reducible assumption) | assumption)
         have hx11 := bt_at a0 x1_1
         replace p11 := eq_true p11
         replace q11 := eq_true q11
         go_wp2
         go_roundg k1
         case measure => have := HK1.out; omega
         case rel => exact ⟨(wrap64 (x1_1 + 1)), (by first | rfl | (simp; done) | (simp [*]; done)), H', ⟨by have := HK1.out; omega⟩, by repeat (first | exact Drawn0.refl _ | apply Drawn0.step)⟩
        ·
         rw [if_neg c12] at H
         have c12b0 : ((bt a0 x1_1) == 12) = false := beq_eq_false_iff_ne.mpr c12
         have c12b1 : ((bt a0 x1_1) != 12) = true := bne_iff_ne.mpr c12
         by_cases c14 : (bt a0 x1_1) = 13
         ·
          rw [if_pos c14] at H
          have c14b0 : ((bt a0 x1_1) == 13) = true := beq_iff_eq.mpr c14
          have c14b1 : ((bt a0 x1_1) != 13) = false := bne_eq_false_iff_eq.mpr c14
          clear c14
          have H' := Aside0.mk H
          clear H
          have p5 : 0 ≤ (x1_1 : Int) := of_decide_eq_true (by first | (with_reducible assumption) | assumption)
          have q5 : x1_1 < (a0.size : Int) := of_decide_eq_true (by first | (with_reducible assumption) | assumption)
          have hx5 := bt_at a0 x1_1
          replace p5 := eq_true p5
          replace q5 := eq_true q5
          have p7 : 0 ≤ (x1_1 : Int) := of_decide_eq_true (by first | (with_reducible assumption) | assumption)
          have q7 : x1_1 < (a0.size : Int) := of_decide_eq_true (by first | (with_reducible assumption) | assumption)
          have hx7 := bt_at a0 x1_1
          replace p7 := eq_true p7
          replace q7 := eq_true q7
          have p9 : 0 ≤ (x1_1 : Int) := of_decide_eq_true (by first | (with_reducible assumption) | assumption)
          have q9 : x1_1 < (a0.size : Int) := of_decide_eq_true (by first | (with_reducible assumption) | assumption)
          have hx9 := bt_at a0 x1_1
          replace p9 := eq_true p9
          replace q9 := eq_true q9
          have p11 : 0 ≤ (x1_1 : Int) := of_decide_eq_true (by first | (with_reducible assumption) | assumption)
          have q11 : x1_1 < (a0.size : Int) := of_decide_eq_true (by first | (with_reducible assumption) | assumption)
          have hx11 := bt_at a0 x1_1
          replace p11 := eq_true p11
          replace q11 := eq_true q11
          have p13 : 0 ≤ (x1_1 : Int) := of_decide_eq_true (by first | (with_reducible assumption) | assumption)
          have q13 : x1_1 < (a0.size : Int) := of_decide_eq_true (by first | (with_reducible assumption) | assumption)
          have hx13 := bt_at a0 x1_1
          replace p13 := eq_true p13
          replace q13 := eq_true q13
          go_wp2
          go_roundg k1
          case measure => have := HK1.out; omega
          case rel => exact ⟨(wrap64 (x1_1 + 1)), (by first | rfl | (simp; done) | (simp [*]; done)), H', ⟨by have := HK1.out; omega⟩, by repeat (first | exact Drawn0.refl _ | apply Drawn0.step)⟩
         ·
          rw [if_neg c14] at H
          have c14b0 : ((bt a0 x1_1) == 13) = false := beq_eq_false_iff_ne.mpr c14
          have c14b1 : ((bt a0 x1_1) != 13) = true := bne_iff_ne.mpr c14
          obtain rfl := Option.some.inj H
          have p5 : 0 ≤ (x1_1 : Int) := of_decide_eq_true (by first | (with_reducible assumption) | assumption)
          have q5 : x1_1 < (a0.size : Int) := of_decide_eq_true (by first | (with_reducible assumption) | assumption)
          have hx5 := bt_at a0 x1_1
          replace p5 := eq_true p5
          replace q5 := eq_true q5
          have p7 : 0 ≤ (x1_1 : Int) := of_decide_eq_true (by first | (with_reducible assumption) | assumption)
          have q7 : x1_1 < (a0.size : Int) := of_decide_eq_true (by first | (with_reducible assumption) | assumption)
          have hx7 := bt_at a0 x1_1
          replace p7 := eq_true p7
          replace q7 := eq_true q7
          have p9 : 0 ≤ (x1_1 : Int) := of_decide_eq_true (by first | (with_reducible assumption) | assumption)
          have q9 : x1_1 < (a0.size : Int) := of_decide_eq_true (by first | (with_reducible assumption) | assumption)
          have hx9 := bt_at a0 x1_1
          replace p9 := eq_true p9
          replace q9 := eq_true q9
          have p11 : 0 ≤ (x1_1 : Int) := of_decide_eq_true (by first | (with_reducible assumption) | assumption)
          have q11 : x1_1 < (a0.size : Int) := of_decide_eq_true (by first | (with_reducible assumption) | assumption)
          have hx11 := bt_at a0 x1_1
          replace p11 := eq_true p11
          replace q11 := eq_true q11
          have p13 : 0 ≤ (x1_1 : Int) := of_decide_eq_true (by first | (with_reducible assumption) | assumption)
          have q13 : x1_1 < (a0.size : Int) := of_decide_eq_true (by first | (with_reducible assumption) | assumption)
          have hx13 := bt_at a0 x1_1
          replace p13 := eq_true p13
          replace q13 := eq_true q13
          go_wp2
          go_ret
          exact ⟨by first | rfl | (simp; done) | (simp [*]; done), by repeat (first | exact Drawn0.refl _ | apply Drawn0.step)⟩
    ·
     rw [if_neg c4] at H
     exact absurd H (by simp)
   ·
    rw [if_neg c3] at H
    have c3b0 : decide (x1_1 < (a0.size : Int)) = false := decide_eq_false c3
    clear c3
    obtain rfl := Option.some.inj H
    go_wp2
    go_ret
    exact ⟨by first | rfl | (simp; done) | (simp [*]; done), by repeat (first | exact Drawn0.refl _ | apply Drawn0.step)⟩

/-! ### version_zzDigits: function 112 -/
def version_zzDigits.l0 : Nat → ByteArray → Int → Option (Int)
 | 0, _, _ => none
 | k + 1, x0, x1 => if x1 < (x0.size : Int) then (if 0 ≤ x1 then (if 48 ≤ (bt x0 x1) then (if (bt x0 x1) ≤ 57 then (version_zzDigits.l0 k x0 (wrap64 (x1 + 1))) else (some x1)) else (some x1)) else (none)) else (some x1)
def version_zzDigits.f (k : Nat) (a0 : ByteArray) (a1 : Int) : Option (Int) := version_zzDigits.l0 k a0 a1
set_option maxHeartbeats 8000000 in
set_option maxRecDepth 100000 in
theorem version_zzDigits.calls (k : Nat) (a0 : ByteArray) (a1 : Int) (r : Int) (w : World) (h : version_zzDigits.f k a0 a1 = some r) :
  Calls Tryd.prog 112 #[.string a0, .int .i64 a1] w fun e w' => e = .returned (.int .i64 r) ∧ Drawn0 w w' := by
 have H : (version_zzDigits.l0 k a0 a1) = some r := h
 clear h
 have H' := Aside0.mk H
 clear H
 go_enter Tryd.func112, Tryd.ntmps112
 go_wp2
 go_loopg [1] k (fun kq v1 w' => ∃ (x1_1 : Int), v1 = .int .i64 x1_1 ∧ Aside0 (version_zzDigits.l0 kq a0 x1_1 = some r) ∧ Aside0 (kq ≤ k) ∧ Drawn0 w w')
 case atStart => exact ⟨(a1), (by first | rfl | (simp; done) | (simp [*]; done)), H', ⟨Nat.le_refl _⟩, by repeat (first | exact Drawn0.refl _ | apply Drawn0.step)⟩
 case round =>
  clear H'
  try clear c1
  try clear p2
  obtain ⟨x1_1, rfl, HA, HK1, ⟨m1, rfl⟩⟩ := hrel
  cases gk with
  | zero => exact absurd HA.out (by simp [version_zzDigits.l0])
  | succ k1 =>
   have H := HA.out
   clear HA
   simp only [version_zzDigits.l0] at H
   by_cases c3 : x1_1 < (a0.size : Int)
   ·
    rw [if_pos c3] at H
    have c3b0 : decide (x1_1 < (a0.size : Int)) = true := decide_eq_true c3
    clear c3
    by_cases c4 : 0 ≤ x1_1
    ·
     rw [if_pos c4] at H
     have c4b0 : decide (0 ≤ x1_1) = true := decide_eq_true c4
     clear c4
     by_cases c6 : 48 ≤ (bt a0 x1_1)
     ·
      rw [if_pos c6] at H
      have c6b0 : decide (48 ≤ (bt a0 x1_1)) = true := decide_eq_true c6
      clear c6
      by_cases c8 : (bt a0 x1_1) ≤ 57
      ·
       rw [if_pos c8] at H
       have c8b0 : decide ((bt a0 x1_1) ≤ 57) = true := decide_eq_true c8
       clear c8
       have H' := Aside0.mk H
       clear H
       have p5 : 0 ≤ (x1_1 : Int) := of_decide_eq_true (by first | (with_reducible assumption) | assumption)
       have q5 : x1_1 < (a0.size : Int) := of_decide_eq_true (by first | (with_reducible assumption) | assumption)
       have hx5 := bt_at a0 x1_1
       replace p5 := eq_true p5
       replace q5 := eq_true q5
       have p7 : 0 ≤ (x1_1 : Int) := of_decide_eq_true (by first | (with_reducible assumption) | assumption)
       have q7 : x1_1 < (a0.size : Int) := of_decide_eq_true (by first | (with_reducible assumption) | assumption)
       have hx7 := bt_at a0 x1_1
       replace p7 := eq_true p7
       replace q7 := eq_true q7
       go_wp2
       go_roundg k1
       case measure => have := HK1.out; omega
       case rel => exact ⟨(wrap64 (x1_1 + 1)), (by first | rfl | (simp; done) | (simp [*]; done)), H', ⟨by have := HK1.out; omega⟩, by repeat (first | exact Drawn0.refl _ | apply Drawn0.step)⟩
      ·
       rw [if_neg c8] at H
       have c8b0 : decide ((bt a0 x1_1) ≤ 57) = false := decide_eq_false c8
       clear c8
       obtain rfl := Option.some.inj H
       have p5 : 0 ≤ (x1_1 : Int) := of_decide_eq_true (by first | (with_reducible assumption) | assumption)
       have q5 : x1_1 < (a0.size : Int) := of_decide_eq_true (by first | (with_reducible assumption) | assumption)
       have hx5 := bt_at a0 x1_1
       replace p5 := eq_true p5
       replace q5 := eq_true q5
       have p7 : 0 ≤ (x1_1 : Int) := of_decide_eq_true (by first | (with_reducible assumption) | assumption)
       have q7 : x1_1 < (a0.size : Int) := of_decide_eq_true (by first | (with_reducible assumption) | assumption)
       have hx7 := bt_at a0 x1_1
       replace p7 := eq_true p7
       replace q7 := eq_true q7
       go_wp2
       go_ret
       exact ⟨by first | rfl | (simp; done) | (simp [*]; done), by repeat (first | exact Drawn0.refl _ | apply Drawn0.step)⟩
     ·
      rw [if_neg c6] at H
      have c6b0 : decide (48 ≤ (bt a0 x1_1)) = false := decide_eq_false c6
      clear c6
      obtain rfl := Option.some.inj H
      have p5 : 0 ≤ (x1_1 : Int) := of_decide_eq_true (by first | (with_reducible assumption) | assumption)
      have q5 : x1_1 < (a0.size : Int) := of_decide_eq_true (by first | (with_reducible assumption) | assumption)
      have hx5 := bt_at a0 x1_1
      replace p5 := eq_true p5
      replace q5 := eq_true q5
      go_wp2
      go_ret
      exact ⟨by first | rfl | (simp; done) | (simp [*]; done), by repeat (first | exact Drawn0.refl _ | apply Drawn0.step)⟩
    ·
     rw [if_neg c4] at H
     exact absurd H (by simp)
   ·
    rw [if_neg c3] at H
    have c3b0 : decide (x1_1 < (a0.size : Int)) = false := decide_eq_false c3
    clear c3
    obtain rfl := Option.some.inj H
    go_wp2
    go_ret
    exact ⟨by first | rfl | (simp; done) | (simp [*]; done), by repeat (first | exact Drawn0.refl _ | apply Drawn0.step)⟩

end Go.Proofs.YtomoefldmgfaoaaDoor.PvH
