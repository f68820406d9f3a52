/- Functions of the program as plain Lean functions, and that the machine's calls do what these say: written for this claim by wip/myprint.py over the kit's print.py. -/
import Derived.Test.YtomoefldmgfaoaaDoorPvHx0
import Derived.Test.YtomoefldmgfaoaaDoorPvHx1
namespace Go.Proofs.YtomoefldmgfaoaaDoor.PvH
open Go.RowKit Go.Proofs.YtomoefldmgfaoaaDoorW.PrintWords Go.Proofs.YtomoefldmgfaoaaDoorW.PrintLast Go.Proofs.YtomoefldmgfaoaaDoorW.PrintMore
attribute [local go_sem] max2_int min2_int max_two min_two max_three min_three max_four min_four   -- for this text's walks alone
set_option linter.unusedVariables false
set_option linter.unusedSimpArgs false

/-! ### version_zzVersion: function 94 -/
mutual
def version_zzVersion.j0 : Nat → ByteArray → Int → Bool → Option (List ByteArray)
 | 0, _, _, _ => none
 | k + 1, x0, x3, x18 => if x18 = true then (version_zzVersion.j1 k x0 (wrap64 (x3 + 1))) else (version_zzVersion.j1 k x0 x3)
def version_zzVersion.j1 : Nat → ByteArray → Int → Option (List ByteArray)
 | 0, _, _ => none
 | k + 1, x0, x3 => (version_zzDigits.f k x0 x3).bind fun t102 => (if t102 = x3 then (some ([] : List ByteArray)) else (version_zzVersion.l0 k x0 x3 t102))
def version_zzVersion.j4 : Nat → ByteArray → Int → Int → Option (List ByteArray)
 | 0, _, _, _ => none
 | k + 1, x0, x3, x4 => version_zzVersion.l1 k x0 x3 x4 x4
def version_zzVersion.l1 : Nat → ByteArray → Int → Int → Int → Option (List ByteArray)
 | 0, _, _, _, _ => none
 | k + 1, x0, x3, x4, x6 => if x6 < (x0.size : Int) then (if 0 ≤ x6 then (if (bt x0 x6) = 10 then (some ([] : List ByteArray)) else (version_zzVersion.l1 k x0 x3 x4 (wrap64 (x6 + 1)))) else (none)) else (if 0 ≤ x3 then (if x3 ≤ x4 then (if x4 ≤ (x0.size : Int) then (if 0 ≤ x4 then (some (([x0, x0.extract (x3 : Int).toNat (x4 : Int).toNat, x0.extract (x4 : Int).toNat x0.size] : List ByteArray))) else (none)) else (none)) else (none)) else (none))
def version_zzVersion.l0 : Nat → ByteArray → Int → Int → Option (List ByteArray)
 | 0, _, _, _ => none
 | k + 1, x0, x3, x4 => if x4 < (x0.size : Int) then (if 0 ≤ x4 then (version_zzVersion.j3 k x0 x3 x4 ((bt x0 x4) == 46)) else (none)) else (version_zzVersion.j3 k x0 x3 x4 false)
def version_zzVersion.j3 : Nat → ByteArray → Int → Int → Bool → Option (List ByteArray)
 | 0, _, _, _, _ => none
 | k + 1, x0, x3, x4, x36 => if x36 = true then ((version_zzDigits.f k x0 (wrap64 (x4 + 1))).bind fun t103 => (if t103 = (wrap64 (x4 + 1)) then (version_zzVersion.j4 k x0 x3 x4) else (version_zzVersion.l0 k x0 x3 t103))) else (version_zzVersion.j4 k x0 x3 x4)
end
def version_zzVersion.f (k : Nat) (a0 : ByteArray) : Option (List ByteArray) := (version_zzBlanks.f k a0 0).bind fun t101 => (if t101 < (a0.size : Int) then (if 0 ≤ t101 then (version_zzVersion.j0 k a0 t101 ((bt a0 t101) == 118)) else (none)) else (version_zzVersion.j0 k a0 t101 false))
def version_zzVersion.T16 : Bool × List (List Nat × List Nat) := (true, [([], []), ([], []), ([], []), ([], []), ([1, 2, 3], [1, 2, 3]), ([], []), ([], []), ([5, 6], [5, 6]), ([0, 4, 7], [0, 4, 7]), ([8, 0, 1, 2, 3, 4, 5, 6, 7, 8], [8])])
def version_zzVersion.B16 : List Nat := [0, 0, 0, 0, 14, 0, 0, 96, 255, 511]
theorem version_zzVersion.tab16 : rtab .any (opsOf Tryd.f94 16) = version_zzVersion.T16 := by kernel_rfl
theorem version_zzVersion.bits16 : waitsOk version_zzVersion.T16.2 version_zzVersion.B16 = true := by kernel_rfl
set_option maxHeartbeats 8000000 in
set_option maxRecDepth 100000 in
theorem version_zzVersion.calls (k : Nat) (a0 : ByteArray) (r : List ByteArray) (w : World) (h : version_zzVersion.f k a0 = some r) :
  Calls Tryd.prog 94 #[.string a0] w fun e w' => ∃ v0_ : Value, e = .returned (v0_) ∧ Kd.R Kd.string 9 w' w.heap.size (fun _ => True) v0_ r ∧ Below w.heap.size w w' ∧ (r = [] → v0_ = .slice none 0 0) := by
 have HB := Aside0.mk (Below.refl w.heap.size w)
 have H : ((version_zzBlanks.f k a0 0).bind fun t101 => (if t101 < (a0.size : Int) then (if 0 ≤ t101 then (version_zzVersion.j0 k a0 t101 ((bt a0 t101) == 118)) else (none)) else (version_zzVersion.j0 k a0 t101 false))) = some r := h
 clear h
 replace H := Option.bind_eq_some_iff.mp H
 obtain ⟨t101, A20, H⟩ := H
 replace H : (if t101 < (a0.size : Int) then (if 0 ≤ t101 then (version_zzVersion.j0 k a0 t101 ((bt a0 t101) == 118)) else (none)) else (version_zzVersion.j0 k a0 t101 false)) = some r := H
 have A2 := Aside0.mk A20
 clear A20
 have HC3 := Aside0.mk H
 clear H
 go_enter Tryd.func94, Tryd.ntmps94
 go_upto_region 2 with (first | ((with_reducible refine gate_callee (f := 111) rfl ?_); refine goesL_ (some 8) rfl rfl Tryd.func111 (by kernel_rfl) rfl #[.string a0, .int .i64 0] rfl (by (try simp only [List.map_toArray, List.map_cons, List.map_nil]); first | done | rfl | (simp only [List.length_drop, List.length_take]; rfl)) ?_; (with_reducible refine (version_zzBlanks.calls k a0 0 t101 _ A2.out).mono ?_); rintro e w' ⟨rfl, ⟨nd, rfl⟩⟩; refine ⟨_, rfl, ?_⟩))
 (try simp only [Act.put, List.setIfInBounds_toArray, List.set_cons_zero, List.set_cons_succ])
 go_cut [18] (fun v18 wc => ∃ (kq : Nat) (x18_2 : Bool), v18 = .bool x18_2 ∧ Aside0 (version_zzVersion.j0 kq a0 t101 x18_2 = some r) ∧ Aside0 (kq ≤ k) ∧ Aside0 (Below w.heap.size w wc))
 case first =>
  have H := HC3.out
  clear HC3
  by_cases c4 : t101 < (a0.size : Int)
  ·
   rw [if_pos c4] at H
   have c4b0 : decide (t101 < (a0.size : Int)) = true := decide_eq_true c4
   clear c4
   (first | rw [c4b0] | (simp only [i64_w, i32_w]; rw [c4b0]) | skip)
   by_cases c5 : 0 ≤ t101
   ·
    rw [if_pos c5] at H
    have c5b0 : decide (0 ≤ t101) = true := decide_eq_true c5
    clear c5
    have H' := Aside0.mk H
    clear H
    have p6 : 0 ≤ (t101 : Int) := of_decide_eq_true (by first | (with_reducible assumption) | assumption)
    have q6 : t101 < (a0.size : Int) := of_decide_eq_true (by first | (with_reducible assumption) | assumption)
    have hx6 := bt_at a0 t101
    replace p6 := eq_true p6
    replace q6 := eq_true q6
    go_wp2
    go_meet
    case rel => exact ⟨_, (((bt a0 t101) == 118)), (by first | rfl | (simp; done) | (simp [*]; done)), H', ⟨by first | omega | exact Nat.le_refl _⟩, ⟨by repeat (first | (with_reducible first | exact HB.out | apply below_alloc | apply pw_below_drewN | apply below_drew1) | exact HB.out)⟩⟩
   ·
    rw [if_neg c5] at H
    exact absurd H (by simp)
  ·
   rw [if_neg c4] at H
   have c4b0 : decide (t101 < (a0.size : Int)) = false := decide_eq_false c4
   clear c4
   (first | rw [c4b0] | (simp only [i64_w, i32_w]; rw [c4b0]) | skip)
   have H' := Aside0.mk H
   clear H
   go_wp2
   go_meet
   case rel => exact ⟨_, (false), (by first | rfl | (simp; done) | (simp [*]; done)), H', ⟨by first | omega | exact Nat.le_refl _⟩, ⟨by repeat (first | (with_reducible first | exact HB.out | apply below_alloc | apply pw_below_drewN | apply below_drew1) | exact HB.out)⟩⟩
 case rest =>
  clear HC3
  try clear c1
  try clear p2
  try clear c4
  try clear c4b0
  try clear c5
  try clear c5b0
  try clear p6
  try clear q6
  try clear hx6
  try clear p6
  try clear q6
  obtain ⟨kq, x18_2, rfl, HA, HJ2, HB⟩ := hcut
  cases kq with
  | zero => exact absurd HA.out (by simp [version_zzVersion.j0])
  | succ kj2 =>
   have H := HA.out
   clear HA
   simp only [version_zzVersion.j0] at H
   have HC7 := Aside0.mk H
   clear H
   go_upto_if 18 with (fail)
   go_cut [3] (fun v3 wc => ∃ (kq : Nat) (x3_6 : Int), v3 = .int .i64 x3_6 ∧ Aside0 (version_zzVersion.j1 kq a0 x3_6 = some r) ∧ Aside0 (kq ≤ kj2) ∧ Aside0 (Below w.heap.size w wc))
   case first =>
    have H := HC7.out
    clear HC7
    by_cases c8 : x18_2 = true
    ·
     subst c8
     have H1 : (version_zzVersion.j1 kj2 a0 (wrap64 (t101 + 1))) = some r := by rw [if_pos rfl] at H; exact H
     clear H
     have H := H1
     clear H1
     have H' := Aside0.mk H
     clear H
     go_wp2
     go_meet
     case rel => exact ⟨_, (wrap64 (t101 + 1)), (by first | rfl | (simp; done) | (simp [*]; done)), H', ⟨by have := HJ2.out; first | omega | exact Nat.le_refl _⟩, ⟨by repeat (first | (with_reducible first | exact HB.out | apply below_alloc | apply pw_below_drewN | apply below_drew1) | exact HB.out)⟩⟩
    ·
     replace c8 := Bool.eq_false_iff.mpr c8
     subst c8
     have H1 : (version_zzVersion.j1 kj2 a0 t101) = some r := by rw [if_neg (show ¬ (false = true) by decide)] at H; exact H
     clear H
     have H := H1
     clear H1
     have H' := Aside0.mk H
     clear H
     go_wp2
     go_meet
     case rel => exact ⟨_, (t101), (by first | rfl | (simp; done) | (simp [*]; done)), H', ⟨by have := HJ2.out; first | omega | exact Nat.le_refl _⟩, ⟨by repeat (first | (with_reducible first | exact HB.out | apply below_alloc | apply pw_below_drewN | apply below_drew1) | exact HB.out)⟩⟩
   case rest =>
    clear HC7
    try clear c1
    try clear p2
    try clear c4
    try clear c4b0
    try clear c5
    try clear c5b0
    try clear p6
    try clear q6
    try clear hx6
    try clear c8
    try clear p2
    try clear p6
    try clear q6
    obtain ⟨kq, x3_6, rfl, HA, HJ6, HB⟩ := hcut
    cases kq with
    | zero => exact absurd HA.out (by simp [version_zzVersion.j1])
    | succ kj6 =>
     have H := HA.out
     clear HA
     simp only [version_zzVersion.j1] at H
     replace H := Option.bind_eq_some_iff.mp H
     obtain ⟨t102, A90, H⟩ := H
     replace H : (if t102 = x3_6 then (some ([] : List ByteArray)) else (version_zzVersion.l0 kj6 a0 x3_6 t102)) = some r := H
     have A9 := Aside0.mk A90
     clear A90
     by_cases c10 : t102 = x3_6
     ·
      rw [if_pos c10] at H
      have c10b0 : (t102 == x3_6) = true := beq_iff_eq.mpr c10
      have c10b1 : (t102 != x3_6) = false := bne_eq_false_iff_eq.mpr c10
      clear c10
      obtain rfl := Option.some.inj H
      go_wp2_with (first | ((with_reducible refine gate_callee (f := 112) rfl ?_); refine goesL_ (some 23) rfl rfl Tryd.func112 (by kernel_rfl) rfl #[.string a0, .int .i64 x3_6] rfl (by (try simp only [List.map_toArray, List.map_cons, List.map_nil]); first | done | rfl | (simp only [List.length_drop, List.length_take]; rfl)) ?_; (with_reducible refine (version_zzDigits.calls kj6 a0 x3_6 t102 _ A9.out).mono ?_); rintro e w' ⟨rfl, ⟨nd, rfl⟩⟩; refine ⟨_, rfl, ?_⟩))
      go_ret
      exact ⟨_, by first | rfl | (simp [errW_none, errW_some] <;> rfl) | (simp [*, errW_none, errW_some] <;> rfl), by first | exact Kd.R_nil _ _ _ _ _ | exact Kd.N_nil _ _ _ _ _ | exact Kd.V_nil _ _ _ _ _ | exact Kd.Q_nil _ _ _ _ _ | exact Kd.S_nil _ _ _ _ _, by repeat (first | (with_reducible first | exact HB.out | apply below_alloc | apply pw_below_drewN | apply below_drew1) | exact HB.out), (by first | rfl | (simp; done) | (intro e; subst e; exact absurd H.out (by simp)))⟩
     ·
      rw [if_neg c10] at H
      have c10b0 : (t102 == x3_6) = false := beq_eq_false_iff_ne.mpr c10
      have c10b1 : (t102 != x3_6) = true := bne_iff_ne.mpr c10
      have HC11 := Aside0.mk H
      clear H
      go_upto_block 0 with (first | ((with_reducible refine gate_callee (f := 112) rfl ?_); refine goesL_ (some 23) rfl rfl Tryd.func112 (by kernel_rfl) rfl #[.string a0, .int .i64 x3_6] rfl (by (try simp only [List.map_toArray, List.map_cons, List.map_nil]); first | done | rfl | (simp only [List.length_drop, List.length_take]; rfl)) ?_; (with_reducible refine (version_zzDigits.calls kj6 a0 x3_6 t102 _ A9.out).mono ?_); rintro e w' ⟨rfl, ⟨nd, rfl⟩⟩; refine ⟨_, rfl, ?_⟩))
      (try simp only [Act.put, List.setIfInBounds_toArray, List.set_cons_zero, List.set_cons_succ])
      go_cut [4] (fun v4 wc => ∃ (kq : Nat) (x4_10 : Int), v4 = .int .i64 x4_10 ∧ Aside0 (version_zzVersion.j4 kq a0 x3_6 x4_10 = some r) ∧ Aside0 (kq ≤ kj6) ∧ Aside0 (Below w.heap.size w wc))
      case first =>
       have H := HC11.out
       clear HC11
       have H' := Aside0.mk H
       clear H
       go_wp2
       go_loopg [4] kj6 (fun kq v4 w' => ∃ (x4_3 : Int), v4 = .int .i64 x4_3 ∧ Aside0 (version_zzVersion.l0 kq a0 x3_6 x4_3 = some r) ∧ Aside0 (kq ≤ kj6) ∧ Aside0 (Below w.heap.size w w'))
       case atStart => exact ⟨(t102), (by first | rfl | (simp; done) | (simp [*]; done)), H', ⟨Nat.le_refl _⟩, ⟨by repeat (first | (with_reducible first | exact HB.out | apply below_alloc | apply pw_below_drewN | apply below_drew1) | exact HB.out)⟩⟩
       case round =>
        clear H'
        try clear c1
        try clear p2
        try clear c4
        try clear c4b0
        try clear c5
        try clear c5b0
        try clear p6
        try clear q6
        try clear hx6
        try clear c8
        try clear c9
        try clear c10
        try clear c10b0
        try clear c10b1
        try clear c11
        try clear p2
        try clear p6
        try clear q6
        obtain ⟨x4_3, rfl, HA, HK3, HB⟩ := hrel
        cases gk with
        | zero => exact absurd HA.out (by simp [version_zzVersion.l0])
        | succ k3 =>
         have H := HA.out
         clear HA
         simp only [version_zzVersion.l0] at H
         have HC12 := Aside0.mk H
         clear H
         go_upto_region 7 with (fail)
         go_cut [36] (fun v36 wc => ∃ (kq : Nat) (x36_11 : Bool), v36 = .bool x36_11 ∧ Aside0 (version_zzVersion.j3 kq a0 x3_6 x4_3 x36_11 = some r) ∧ Aside0 (kq ≤ k3) ∧ Aside0 (Below w.heap.size w wc))
         case first =>
          have H := HC12.out
          clear HC12
          by_cases c13 : x4_3 < (a0.size : Int)
          ·
           rw [if_pos c13] at H
           have c13b0 : decide (x4_3 < (a0.size : Int)) = true := decide_eq_true c13
           clear c13
           (first | rw [c13b0] | (simp only [i64_w, i32_w]; rw [c13b0]) | skip)
           by_cases c14 : 0 ≤ x4_3
           ·
            rw [if_pos c14] at H
            have c14b0 : decide (0 ≤ x4_3) = true := decide_eq_true c14
            clear c14
            have H' := Aside0.mk H
            clear H
            have p15 : 0 ≤ (x4_3 : Int) := of_decide_eq_true (by first | (with_reducible assumption) | assumption)
            have q15 : x4_3 < (a0.size : Int) := of_decide_eq_true (by first | (with_reducible assumption) | assumption)
            have hx15 := bt_at a0 x4_3
            replace p15 := eq_true p15
            replace q15 := eq_true q15
            go_wp2
            go_meet
            case rel => exact ⟨_, (((bt a0 x4_3) == 46)), (by first | rfl | (simp; done) | (simp [*]; done)), H', ⟨by have := HJ2.out; have := HJ6.out; have := HK3.out; first | omega | exact Nat.le_refl _⟩, ⟨by repeat (first | (with_reducible first | exact HB.out | apply below_alloc | apply pw_below_drewN | apply below_drew1) | exact HB.out)⟩⟩
           ·
            rw [if_neg c14] at H
            exact absurd H (by simp)
          ·
           rw [if_neg c13] at H
           have c13b0 : decide (x4_3 < (a0.size : Int)) = false := decide_eq_false c13
           clear c13
           (first | rw [c13b0] | (simp only [i64_w, i32_w]; rw [c13b0]) | skip)
           have H' := Aside0.mk H
           clear H
           go_wp2
           go_meet
           case rel => exact ⟨_, (false), (by first | rfl | (simp; done) | (simp [*]; done)), H', ⟨by have := HJ2.out; have := HJ6.out; have := HK3.out; first | omega | exact Nat.le_refl _⟩, ⟨by repeat (first | (with_reducible first | exact HB.out | apply below_alloc | apply pw_below_drewN | apply below_drew1) | exact HB.out)⟩⟩
         case rest =>
          clear HC12
          try clear c1
          try clear p1
          try clear q1
          try clear hx1
          try clear p2
          try clear c4
          try clear c4b0
          try clear c5
          try clear c5b0
          try clear p6
          try clear q6
          try clear hx6
          try clear c8
          try clear c9
          try clear c10
          try clear c10b0
          try clear c10b1
          try clear c11
          try clear c13
          try clear c13b0
          try clear c14
          try clear c14b0
          try clear p15
          try clear q15
          try clear hx15
          try clear p15
          try clear p2
          try clear p6
          try clear q15
          try clear q6
          obtain ⟨kq, x36_11, rfl, HA, HJ11, HB⟩ := hcut
          cases kq with
          | zero => exact absurd HA.out (by simp [version_zzVersion.j3])
          | succ kj11 =>
           have H := HA.out
           clear HA
           simp only [version_zzVersion.j3] at H
           by_cases c16 : x36_11 = true
           ·
            subst c16
            have H1 : ((version_zzDigits.f kj11 a0 (wrap64 (x4_3 + 1))).bind fun t103 => (if t103 = (wrap64 (x4_3 + 1)) then (version_zzVersion.j4 kj11 a0 x3_6 x4_3) else (version_zzVersion.l0 kj11 a0 x3_6 t103))) = some r := by rw [if_pos rfl] at H; exact H
            clear H
            have H := H1
            clear H1
            replace H := Option.bind_eq_some_iff.mp H
            obtain ⟨t103, A170, H⟩ := H
            replace H : (if t103 = (wrap64 (x4_3 + 1)) then (version_zzVersion.j4 kj11 a0 x3_6 x4_3) else (version_zzVersion.l0 kj11 a0 x3_6 t103)) = some r := H
            have A17 := Aside0.mk A170
            clear A170
            by_cases c18 : t103 = (wrap64 (x4_3 + 1))
            ·
             rw [if_pos c18] at H
             have c18b0 : (t103 == (wrap64 (x4_3 + 1))) = true := beq_iff_eq.mpr c18
             have c18b1 : (t103 != (wrap64 (x4_3 + 1))) = false := bne_eq_false_iff_eq.mpr c18
             clear c18
             have H' := Aside0.mk H
             clear H
             go_wp2_with (first | ((with_reducible refine gate_callee (f := 112) rfl ?_); refine goesL_ (some 40) rfl rfl Tryd.func112 (by kernel_rfl) rfl #[.string a0, .int .i64 (wrap64 (x4_3 + 1))] rfl (by (try simp only [List.map_toArray, List.map_cons, List.map_nil]); first | done | rfl | (simp only [List.length_drop, List.length_take]; rfl)) ?_; (with_reducible refine (version_zzDigits.calls kj11 a0 (wrap64 (x4_3 + 1)) t103 _ A17.out).mono ?_); rintro e w' ⟨rfl, ⟨nd, rfl⟩⟩; refine ⟨_, rfl, ?_⟩))
             go_meet
             case rel => exact ⟨_, (x4_3), (by first | rfl | (simp; done) | (simp [*]; done)), H', ⟨by have := HJ2.out; have := HJ6.out; have := HK3.out; have := HJ11.out; first | omega | exact Nat.le_refl _⟩, ⟨by repeat (first | (with_reducible first | exact HB.out | apply below_alloc | apply pw_below_drewN | apply below_drew1) | exact HB.out)⟩⟩
            ·
             rw [if_neg c18] at H
             have c18b0 : (t103 == (wrap64 (x4_3 + 1))) = false := beq_eq_false_iff_ne.mpr c18
             have c18b1 : (t103 != (wrap64 (x4_3 + 1))) = true := bne_iff_ne.mpr c18
             have H' := Aside0.mk H
             clear H
             go_wp2_with (first | ((with_reducible refine gate_callee (f := 112) rfl ?_); refine goesL_ (some 40) rfl rfl Tryd.func112 (by kernel_rfl) rfl #[.string a0, .int .i64 (wrap64 (x4_3 + 1))] rfl (by (try simp only [List.map_toArray, List.map_cons, List.map_nil]); first | done | rfl | (simp only [List.length_drop, List.length_take]; rfl)) ?_; (with_reducible refine (version_zzDigits.calls kj11 a0 (wrap64 (x4_3 + 1)) t103 _ A17.out).mono ?_); rintro e w' ⟨rfl, ⟨nd, rfl⟩⟩; refine ⟨_, rfl, ?_⟩))
             go_roundg kj11
             case measure => have := HJ2.out; have := HJ6.out; have := HK3.out; have := HJ11.out; omega
             case rel => exact ⟨(t103), (by first | rfl | (simp; done) | (simp [*]; done)), H', ⟨by have := HJ2.out; have := HJ6.out; have := HK3.out; have := HJ11.out; omega⟩, ⟨by repeat (first | (with_reducible first | exact HB.out | apply below_alloc | apply pw_below_drewN | apply below_drew1) | exact HB.out)⟩⟩
           ·
            replace c16 := Bool.eq_false_iff.mpr c16
            subst c16
            have H1 : (version_zzVersion.j4 kj11 a0 x3_6 x4_3) = some r := by rw [if_neg (show ¬ (false = true) by decide)] at H; exact H
            clear H
            have H := H1
            clear H1
            have H' := Aside0.mk H
            clear H
            go_wp2
            go_meet
            case rel => exact ⟨_, (x4_3), (by first | rfl | (simp; done) | (simp [*]; done)), H', ⟨by have := HJ2.out; have := HJ6.out; have := HK3.out; have := HJ11.out; first | omega | exact Nat.le_refl _⟩, ⟨by repeat (first | (with_reducible first | exact HB.out | apply below_alloc | apply pw_below_drewN | apply below_drew1) | exact HB.out)⟩⟩
      case rest =>
       clear HC11
       try clear c1
       try clear p1
       try clear q1
       try clear hx1
       try clear p2
       try clear c4
       try clear c4b0
       try clear c5
       try clear c5b0
       try clear p6
       try clear q6
       try clear hx6
       try clear c8
       try clear c9
       try clear c10
       try clear c10b0
       try clear c10b1
       try clear c11
       try clear c13
       try clear c13b0
       try clear c14
       try clear c14b0
       try clear p15
       try clear q15
       try clear hx15
       try clear c16
       try clear c18
       try clear c18b0
       try clear c18b1
       try clear p1
       try clear p15
       try clear p2
       try clear p6
       try clear q1
       try clear q15
       try clear q6
       obtain ⟨kq, x4_10, rfl, HA, HJ10, HB⟩ := hcut
       cases kq with
       | zero => exact absurd HA.out (by simp [version_zzVersion.j4])
       | succ kj10 =>
        have H := HA.out
        clear HA
        simp only [version_zzVersion.j4] at H
        have H' := Aside0.mk H
        clear H
        go_wp2
        go_loopg [6] kj10 (fun kq v6 w' => ∃ (x6_4 : Int), v6 = .int .i64 x6_4 ∧ Aside0 (version_zzVersion.l1 kq a0 x3_6 x4_10 x6_4 = some r) ∧ Aside0 (kq ≤ kj10) ∧ Aside0 (Below w.heap.size w w'))
        case atStart => exact ⟨(x4_10), (by first | rfl | (simp; done) | (simp [*]; done)), H', ⟨Nat.le_refl _⟩, ⟨by repeat (first | (with_reducible first | exact HB.out | apply below_alloc | apply pw_below_drewN | apply below_drew1) | exact HB.out)⟩⟩
        case round =>
         clear H'
         try clear c1
         try clear p1
         try clear q1
         try clear hx1
         try clear p2
         try clear c4
         try clear c4b0
         try clear c5
         try clear c5b0
         try clear p6
         try clear q6
         try clear hx6
         try clear c8
         try clear c9
         try clear c10
         try clear c10b0
         try clear c10b1
         try clear c11
         try clear c13
         try clear c13b0
         try clear c14
         try clear c14b0
         try clear p15
         try clear q15
         try clear hx15
         try clear c16
         try clear c18
         try clear c18b0
         try clear c18b1
         try clear p1
         try clear p15
         try clear p2
         try clear p6
         try clear q1
         try clear q15
         try clear q6
         obtain ⟨x6_4, rfl, HA, HK4, HB⟩ := hrel
         cases gk with
         | zero => exact absurd HA.out (by simp [version_zzVersion.l1])
         | succ k4 =>
          have H := HA.out
          clear HA
          simp only [version_zzVersion.l1] at H
          by_cases c19 : x6_4 < (a0.size : Int)
          ·
           rw [if_pos c19] at H
           have c19b0 : decide (x6_4 < (a0.size : Int)) = true := decide_eq_true c19
           clear c19
           by_cases c20 : 0 ≤ x6_4
           ·
            rw [if_pos c20] at H
            have c20b0 : decide (0 ≤ x6_4) = true := decide_eq_true c20
            clear c20
            by_cases c22 : (bt a0 x6_4) = 10
            ·
             rw [if_pos c22] at H
             have c22b0 : ((bt a0 x6_4) == 10) = true := beq_iff_eq.mpr c22
             have c22b1 : ((bt a0 x6_4) != 10) = false := bne_eq_false_iff_eq.mpr c22
             clear c22
             obtain rfl := Option.some.inj H
             have p21 : 0 ≤ (x6_4 : Int) := of_decide_eq_true (by first | (with_reducible assumption) | assumption)
             have q21 : x6_4 < (a0.size : Int) := of_decide_eq_true (by first | (with_reducible assumption) | assumption)
             have hx21 := bt_at a0 x6_4
             replace p21 := eq_true p21
             replace q21 := eq_true q21
             go_wp2
             go_ret
             exact ⟨_, by first | rfl | (simp [errW_none, errW_some] <;> rfl) | (simp [*, errW_none, errW_some] <;> rfl), by first | exact Kd.R_nil _ _ _ _ _ | exact Kd.N_nil _ _ _ _ _ | exact Kd.V_nil _ _ _ _ _ | exact Kd.Q_nil _ _ _ _ _ | exact Kd.S_nil _ _ _ _ _, by repeat (first | (with_reducible first | exact HB.out | apply below_alloc | apply pw_below_drewN | apply below_drew1) | exact HB.out), (by first | rfl | (simp; done) | (intro e; subst e; exact absurd H.out (by simp)))⟩
            ·
             rw [if_neg c22] at H
             have c22b0 : ((bt a0 x6_4) == 10) = false := beq_eq_false_iff_ne.mpr c22
             have c22b1 : ((bt a0 x6_4) != 10) = true := bne_iff_ne.mpr c22
             have H' := Aside0.mk H
             clear H
             have p21 : 0 ≤ (x6_4 : Int) := of_decide_eq_true (by first | (with_reducible assumption) | assumption)
             have q21 : x6_4 < (a0.size : Int) := of_decide_eq_true (by first | (with_reducible assumption) | assumption)
             have hx21 := bt_at a0 x6_4
             replace p21 := eq_true p21
             replace q21 := eq_true q21
             go_wp2
             go_roundg k4
             case measure => have := HJ2.out; have := HJ6.out; have := HJ10.out; have := HK4.out; omega
             case rel => exact ⟨(wrap64 (x6_4 + 1)), (by first | rfl | (simp; done) | (simp [*]; done)), H', ⟨by have := HJ2.out; have := HJ6.out; have := HJ10.out; have := HK4.out; omega⟩, ⟨by repeat (first | (with_reducible first | exact HB.out | apply below_alloc | apply pw_below_drewN | apply below_drew1) | exact HB.out)⟩⟩
           ·
            rw [if_neg c20] at H
            exact absurd H (by simp)
          ·
           rw [if_neg c19] at H
           have c19b0 : decide (x6_4 < (a0.size : Int)) = false := decide_eq_false c19
           clear c19
           by_cases c23 : 0 ≤ x3_6
           ·
            rw [if_pos c23] at H
            have c23b0 := eq_true c23
            have c23b1 : decide (0 ≤ x3_6) = true := decide_eq_true c23
            clear c23
            by_cases c24 : x3_6 ≤ x4_10
            ·
             rw [if_pos c24] at H
             have c24b0 := eq_true c24
             have c24b1 : decide (x3_6 ≤ x4_10) = true := decide_eq_true c24
             clear c24
             by_cases c25 : x4_10 ≤ (a0.size : Int)
             ·
              rw [if_pos c25] at H
              have c25b0 := eq_true c25
              have c25b1 : decide (x4_10 ≤ (a0.size : Int)) = true := decide_eq_true c25
              clear c25
              by_cases c26 : 0 ≤ x4_10
              ·
               rw [if_pos c26] at H
               have c26b0 := eq_true c26
               have c26b1 : decide (0 ≤ x4_10) = true := decide_eq_true c26
               clear c26
               have c27b0 := eq_true (of_decide_eq_true (by first | (with_reducible assumption) | assumption) : x4_10 ≤ (a0.size : Int))
               obtain ⟨y104, hy104⟩ : ∃ y_ : List ByteArray, y_ = (([a0, a0.extract (x3_6 : Int).toNat (x4_10 : Int).toNat, a0.extract (x4_10 : Int).toNat a0.size] : List ByteArray)) := ⟨_, rfl⟩
               replace H : (some y104) = some r := by first | (rw [hy104]; with_reducible exact H) | (have H2_ := (Option.bind_some _ _).symm.trans H; rw [hy104]; with_reducible exact H2_) | (have H2_ := (Option.bind_some _ _).symm.trans H; with_reducible exact H2_) | with_reducible exact H | (rw [hy104]; exact H) | exact H
               have Ny104 := Aside0.mk hy104
               clear hy104
               obtain rfl := Option.some.inj H
               try go_wp2
               have n0_ := Aside0.mk (below_drew1 HB.out)
               clear HB
               have HB := n0_
               clear n0_
               refine start_ (n := 10) (S := fun w' => True) (ds := []) #[false, false, false, false, false, false, false, false, false, false] (by kernel_rfl) rfl rfl trivial (fun hHeld => ?_); refine with_tabW version_zzVersion.tab16 version_zzVersion.bits16 (fun HT_ HW_ => ?_)
               generalize wr.drew = w28 at HB hHeld ⊢
               refine pure_ (i := 0) (N := some 57) (v := ?_) (a' := ?_) #[true, false, false, false, false, false, false, false, false, false] rfl rfl (any_of HT_.out (by kernel_rfl)) (fun _ _ _ h => h) (Or.inl ⟨by rfl, ?_⟩) ?_ ?_
               rotate_left
               ·
                intro w'
                go_simp
                with_reducible rfl
               rotate_left
               ·
                simp only [Act.put, List.setIfInBounds_toArray, List.set_cons_zero, List.set_cons_succ, i64_w, i32_w]
                rfl
               refine pure_ (i := 1) (N := some 58) (v := ?_) (a' := ?_) #[true, true, false, false, false, false, false, false, false, false] rfl rfl (any_of HT_.out (by kernel_rfl)) (fun _ _ _ h => h) (Or.inl ⟨by rfl, ?_⟩) ?_ ?_
               rotate_left
               ·
                intro w'
                go_simp
                with_reducible rfl
               rotate_left
               ·
                simp only [Act.put, List.setIfInBounds_toArray, List.set_cons_zero, List.set_cons_succ, i64_w, i32_w]
                rfl
               refine pure_ (i := 2) (N := some 59) (v := ?_) (a' := ?_) #[true, true, true, false, false, false, false, false, false, false] rfl rfl (any_of HT_.out (by kernel_rfl)) (fun _ _ _ h => h) (Or.inl ⟨by rfl, ?_⟩) ?_ ?_
               rotate_left
               ·
                intro w'
                go_simp
                with_reducible rfl
               rotate_left
               ·
                simp only [Act.put, List.setIfInBounds_toArray, List.set_cons_zero, List.set_cons_succ, i64_w, i32_w]
                rfl
               refine pure_ (i := 3) (N := some 60) (v := ?_) (a' := ?_) #[true, true, true, true, false, false, false, false, false, false] rfl rfl (any_of HT_.out (by kernel_rfl)) (fun _ _ _ h => h) (Or.inl ⟨by rfl, ?_⟩) ?_ ?_
               rotate_left
               ·
                intro w'
                go_simp
                with_reducible rfl
               rotate_left
               ·
                simp only [Act.put, List.setIfInBounds_toArray, List.set_cons_zero, List.set_cons_succ, i64_w, i32_w]
                rfl
               refine pure_ (i := 4) (N := some 61) (v := ?_) (a' := ?_) #[true, true, true, true, true, false, false, false, false, false] rfl rfl (any_of HT_.out (by kernel_rfl)) (fun _ _ _ h => h) (Or.inl ⟨by rfl, ?_⟩) ?_ ?_
               rotate_left
               ·
                intro w'
                go_simp
                with_reducible rfl
               rotate_left
               ·
                simp only [Act.put, List.setIfInBounds_toArray, List.set_cons_zero, List.set_cons_succ, i64_w, i32_w]
                rfl
               refine pure_ (i := 5) (N := some 62) (v := ?_) (a' := ?_) #[true, true, true, true, true, true, false, false, false, false] rfl rfl (any_of HT_.out (by kernel_rfl)) (fun _ _ _ h => h) (Or.inl ⟨by rfl, ?_⟩) ?_ ?_
               rotate_left
               ·
                intro w'
                go_simp
                with_reducible rfl
               rotate_left
               ·
                simp only [Act.put, List.setIfInBounds_toArray, List.set_cons_zero, List.set_cons_succ, i64_w, i32_w]
                rfl
               refine pure_ (i := 6) (N := some 63) (v := ?_) (a' := ?_) #[true, true, true, true, true, true, true, false, false, false] rfl rfl (any_of HT_.out (by kernel_rfl)) (fun _ _ _ h => h) (Or.inl ⟨by rfl, ?_⟩) ?_ ?_
               rotate_left
               ·
                intro w'
                go_simp
                with_reducible rfl
               rotate_left
               ·
                simp only [Act.put, List.setIfInBounds_toArray, List.set_cons_zero, List.set_cons_succ, i64_w, i32_w]
                rfl
               refine pure_ (i := 7) (N := some 64) (v := ?_) (a' := ?_) #[true, true, true, true, true, true, true, true, false, false] rfl rfl (any_of HT_.out (by kernel_rfl)) (fun _ _ _ h => h) (Or.inl ⟨by rfl, ?_⟩) ?_ ?_
               rotate_left
               ·
                intro w'
                go_simp
                with_reducible rfl
               rotate_left
               ·
                simp only [Act.put, List.setIfInBounds_toArray, List.set_cons_zero, List.set_cons_succ, i64_w, i32_w]
                rfl
               refine one_ (i := 8) (N := some 65) #[true, true, true, true, true, true, true, true, true, false] rfl rfl (one_of HT_.out (by kernel_rfl)) (by decide) (fun K hK => ?_)
               refine Kd.R_lit_step Kd.string _ 9 ?hg (N := 65) ?hd (xs := ([a0, a0.extract (x3_6 : Int).toNat (x4_10 : Int).toNat, a0.extract (x4_10 : Int).toNat a0.size] : List ByteArray)) (inner := [.string a0, .string (a0.extract (x3_6 : Int).toNat (x4_10 : Int).toNat), .string (a0.extract (x4_10 : Int).toNat a0.size)]) (ok := fun _ => True) (okp := fun _ => True) ?hr ?hp (fun _ hk => hk) trivial (Below.refl _ _) (Nat.le_refl _) (by simp) ?_; (case hd => rfl); (case hg => rfl); (case hr => first | (go_simp; done) | (go_simp; rfl)); (case hp => exact (Reps.one (show Kd.M Kd.string _ _ _ a0 [.string a0] from rfl) (Reps.one (show Kd.M Kd.string _ _ _ (a0.extract (x3_6 : Int).toNat (x4_10 : Int).toNat) [.string (a0.extract (x3_6 : Int).toNat (x4_10 : Int).toNat)] from rfl) (Reps.one (show Kd.M Kd.string _ _ _ (a0.extract (x4_10 : Int).toNat a0.size) [.string (a0.extract (x4_10 : Int).toNat a0.size)] from rfl) (Reps.none _ _)))))
               intro v105 w29 ho30 hb hg_ hnew_
               clear hg_ hnew_
               (first | rw [← Ny104.out] at ho30 | (simp only [Int.reduceToNat] at ho30; rw [← Ny104.out] at ho30))
               have n0_ := Aside0.mk (Kd.R_lower ho30 (below_size (by repeat (first | (with_reducible first | exact HB.out | apply below_alloc | apply pw_below_drewN | apply below_drew1) | exact HB.out))))
               have n1_ := Aside0.mk (below_step (by repeat (first | (with_reducible first | exact HB.out | apply below_alloc | apply pw_below_drewN | apply below_drew1) | exact HB.out)) hb)
               clear HB
               have HO106 := n0_
               have HB := n1_
               clear n0_ n1_
               clear hb ho30
               refine hK.out _ _ trivial (fun hHeld => ?_)
               clear hK K
               refine norm_ (a' := ?_) ?_ ?_
               rotate_left
               ·
                show Act.put _ (some 65) _ = _
                simp only [Act.put, List.setIfInBounds_toArray, List.set_cons_zero, List.set_cons_succ, i64_w, i32_w]
                rfl
               refine pure_ (i := 9) (N := some 2) (v := ?_) (a' := ?_) #[true, true, true, true, true, true, true, true, true, true] rfl rfl (any_of HT_.out (by kernel_rfl)) (fun _ _ _ h => h) (Or.inl ⟨by rfl, ?_⟩) ?_ ?_
               rotate_left
               ·
                intro w'
                go_simp
                with_reducible rfl
               rotate_left
               ·
                simp only [Act.put, List.setIfInBounds_toArray, List.set_cons_zero, List.set_cons_succ, i64_w, i32_w]
                rfl
               refine done_ (done_of HT_.out (by kernel_rfl)) ?_
               try go_wp2
               go_ret
               exact ⟨_, by first | rfl | (simp [errW_none, errW_some] <;> rfl) | (simp [*, errW_none, errW_some] <;> rfl), by (with_reducible repeat (first | apply Kd.R_alloc | apply Kd.R_drewN | apply Kd.R_drew)); exact HO106.out, by repeat (first | (with_reducible first | exact HB.out | apply below_alloc | apply pw_below_drewN | apply below_drew1) | exact HB.out), (by first | rfl | (simp; done) | (intro e; subst e; exact absurd Ny104.out (by simp)))⟩
              ·
               rw [if_neg c26] at H
               exact absurd H (by simp)
             ·
              rw [if_neg c25] at H
              exact absurd H (by simp)
            ·
             rw [if_neg c24] at H
             exact absurd H (by simp)
           ·
            rw [if_neg c23] at H
            exact absurd H (by simp)

/-! ### version_zzIndex: function 113 -/
def version_zzIndex.l0 : Nat → ByteArray → ByteArray → Int → Option (Int)
 | 0, _, _, _ => none
 | k + 1, x0, x1, x5 => if (wrap64 (x5 + (x1.size : Int))) ≤ (x0.size : Int) then (if 0 ≤ x5 then (if x5 ≤ (wrap64 (x5 + (x1.size : Int))) then (if (x0.extract (x5 : Int).toNat ((wrap64 (x5 + (x1.size : Int))) : Int).toNat).toList = x1.toList then (some x5) else (version_zzIndex.l0 k x0 x1 (wrap64 (x5 + 1)))) else (none)) else (none)) else (some (-1))
def version_zzIndex.f (k : Nat) (a0 : ByteArray) (a1 : ByteArray) : Option (Int) := version_zzIndex.l0 k a0 a1 0
set_option maxHeartbeats 8000000 in
set_option maxRecDepth 100000 in
theorem version_zzIndex.calls (k : Nat) (a0 : ByteArray) (a1 : ByteArray) (r : Int) (w : World) (h : version_zzIndex.f k a0 a1 = some r) :
  Calls Tryd.prog 113 #[.string a0, .string a1] w fun e w' => e = .returned (.int .i64 r) ∧ Drawn0 w w' := by
 have H : (version_zzIndex.l0 k a0 a1 0) = some r := h
 clear h
 have H' := Aside0.mk H
 clear H
 go_enter Tryd.func113, Tryd.ntmps113
 go_wp2
 go_loopg [5] k (fun kq v5 w' => ∃ (x5_1 : Int), v5 = .int .i64 x5_1 ∧ Aside0 (version_zzIndex.l0 kq a0 a1 x5_1 = some r) ∧ Aside0 (kq ≤ k) ∧ Drawn0 w w')
 case atStart => exact ⟨(0), (by first | rfl | (simp; done) | (simp [*]; done)), H', ⟨Nat.le_refl _⟩, by repeat (first | exact Drawn0.refl _ | apply Drawn0.step)⟩
 case round =>
  clear H'
  try clear c1
  try clear p2
  obtain ⟨x5_1, rfl, HA, HK1, ⟨m1, rfl⟩⟩ := hrel
  cases gk with
  | zero => exact absurd HA.out (by simp [version_zzIndex.l0])
  | succ k1 =>
   have H := HA.out
   clear HA
   simp only [version_zzIndex.l0] at H
   by_cases c3 : (wrap64 (x5_1 + (a1.size : Int))) ≤ (a0.size : Int)
   ·
    rw [if_pos c3] at H
    have c3b0 : decide ((wrap64 (x5_1 + (a1.size : Int))) ≤ (a0.size : Int)) = true := decide_eq_true c3
    clear c3
    by_cases c4 : 0 ≤ x5_1
    ·
     rw [if_pos c4] at H
     have c4b0 := eq_true c4
     have c4b1 : decide (0 ≤ x5_1) = true := decide_eq_true c4
     clear c4
     by_cases c5 : x5_1 ≤ (wrap64 (x5_1 + (a1.size : Int)))
     ·
      rw [if_pos c5] at H
      have c5b0 := eq_true c5
      have c5b1 : decide (x5_1 ≤ (wrap64 (x5_1 + (a1.size : Int)))) = true := decide_eq_true c5
      have c6b0 := eq_true (of_decide_eq_true (by first | (with_reducible assumption) | assumption) : (wrap64 (x5_1 + (a1.size : Int))) ≤ (a0.size : Int))
      by_cases c7 : (a0.extract (x5_1 : Int).toNat ((wrap64 (x5_1 + (a1.size : Int))) : Int).toNat).toList = a1.toList
      ·
       rw [if_pos c7] at H
       have c7b0 : ((a0.extract (x5_1 : Int).toNat ((wrap64 (x5_1 + (a1.size : Int))) : Int).toNat).toList == a1.toList) = true := beq_iff_eq.mpr c7
       have c7b1 : ((a0.extract (x5_1 : Int).toNat ((wrap64 (x5_1 + (a1.size : Int))) : Int).toNat).toList != a1.toList) = false := bne_eq_false_iff_eq.mpr c7
       clear c7
       obtain rfl := Option.some.inj H
       go_wp2
       go_ret
       exact ⟨by first | rfl | (simp; done) | (simp [*]; done), by repeat (first | exact Drawn0.refl _ | apply Drawn0.step)⟩
      ·
       rw [if_neg c7] at H
       have c7b0 : ((a0.extract (x5_1 : Int).toNat ((wrap64 (x5_1 + (a1.size : Int))) : Int).toNat).toList == a1.toList) = false := beq_eq_false_iff_ne.mpr c7
       have c7b1 : ((a0.extract (x5_1 : Int).toNat ((wrap64 (x5_1 + (a1.size : Int))) : Int).toNat).toList != a1.toList) = true := bne_iff_ne.mpr c7
       have H' := Aside0.mk H
       clear H
       go_wp2
       go_roundg k1
       case measure => have := HK1.out; omega
       case rel => exact ⟨(wrap64 (x5_1 + 1)), (by first | rfl | (simp; done) | (simp [*]; done)), H', ⟨by have := HK1.out; omega⟩, by repeat (first | exact Drawn0.refl _ | apply Drawn0.step)⟩
     ·
      rw [if_neg c5] at H
      exact absurd H (by simp)
    ·
     rw [if_neg c4] at H
     exact absurd H (by simp)
   ·
    rw [if_neg c3] at H
    have c3b0 : decide ((wrap64 (x5_1 + (a1.size : Int))) ≤ (a0.size : Int)) = false := decide_eq_false c3
    clear c3
    obtain rfl := Option.some.inj H
    go_wp2
    go_ret
    exact ⟨by first | rfl | (simp; done) | (simp [*]; done), by repeat (first | exact Drawn0.refl _ | apply Drawn0.step)⟩

end Go.Proofs.YtomoefldmgfaoaaDoor.PvH
