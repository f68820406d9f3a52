/- Functions of the program as plain Lean functions, and that the machine's calls do what these say: written for this claim by wip/myprint.py over the kit's print.py. -/
import Derived.Test.YtomoefldmgfaoaaDoorPvHx0
import Derived.Test.YtomoefldmgfaoaaDoorPvHx1
import Derived.Test.YtomoefldmgfaoaaDoorPvHx4
namespace Go.Proofs.YtomoefldmgfaoaaDoor.PvH
open Go.RowKit Go.Proofs.YtomoefldmgfaoaaDoorW.PrintWords Go.Proofs.YtomoefldmgfaoaaDoorW.PrintLast Go.Proofs.YtomoefldmgfaoaaDoorW.PrintMore
attribute [local go_sem] max2_int min2_int max_two min_two max_three min_three max_four min_four   -- for this text's walks alone
set_option linter.unusedVariables false
set_option linter.unusedSimpArgs false

/-! ### version_zzExtra: function 98 -/
mutual
def version_zzExtra.j0 : Nat → ByteArray → Int → ByteArray → ByteArray → Bool → Option (List ByteArray)
 | 0, _, _, _, _, _ => none
 | k + 1, x0, x3, x4, x5, x17 => if x17 = true then ((version_zzWords.f k x0 (wrap64 (x3 + 1))).bind fun t108 => (if t108 > (wrap64 (x3 + 1)) then (if 0 ≤ (wrap64 (x3 + 1)) then (if (wrap64 (x3 + 1)) ≤ t108 then (if t108 ≤ (x0.size : Int) then (version_zzExtra.j1 k x0 t108 (x0.extract ((wrap64 (x3 + 1)) : Int).toNat (t108 : Int).toNat) x5) else (none)) else (none)) else (none)) else (version_zzExtra.j1 k x0 x3 x4 x5))) else (version_zzExtra.j1 k x0 x3 x4 x5)
def version_zzExtra.j1 : Nat → ByteArray → Int → ByteArray → ByteArray → Option (List ByteArray)
 | 0, _, _, _, _ => none
 | k + 1, x0, x3, x4, x5 => if x3 < (x0.size : Int) then (if 0 ≤ x3 then (version_zzExtra.j2 k x0 x3 x4 x5 ((bt x0 x3) == 43)) else (none)) else (version_zzExtra.j2 k x0 x3 x4 x5 false)
def version_zzExtra.j2 : Nat → ByteArray → Int → ByteArray → ByteArray → Bool → Option (List ByteArray)
 | 0, _, _, _, _, _ => none
 | k + 1, x0, x3, x4, x5, x41 => if x41 = true then ((version_zzWords.f k x0 (wrap64 (x3 + 1))).bind fun t109 => (if t109 > (wrap64 (x3 + 1)) then (if 0 ≤ (wrap64 (x3 + 1)) then (if (wrap64 (x3 + 1)) ≤ t109 then (if t109 ≤ (x0.size : Int) then ((version_zzBlanks.f k x0 t109).bind fun t110 => (if t110 < (x0.size : Int) then (some ([] : List ByteArray)) else (some (([x0, x4, x0.extract ((wrap64 (x3 + 1)) : Int).toNat (t109 : Int).toNat] : List ByteArray))))) else (none)) else (none)) else (none)) else ((version_zzBlanks.f k x0 x3).bind fun t114 => (if t114 < (x0.size : Int) then (some ([] : List ByteArray)) else (some (([x0, x4, x5] : List ByteArray))))))) else ((version_zzBlanks.f k x0 x3).bind fun t118 => (if t118 < (x0.size : Int) then (some ([] : List ByteArray)) else (some (([x0, x4, x5] : List ByteArray)))))
end
def version_zzExtra.f (k : Nat) (a0 : ByteArray) : Option (List ByteArray) := if 0 < (a0.size : Int) then (version_zzExtra.j0 k a0 0 (⟨#[]⟩ : ByteArray) (⟨#[]⟩ : ByteArray) ((bt a0 0) == 45)) else (version_zzExtra.j0 k a0 0 (⟨#[]⟩ : ByteArray) (⟨#[]⟩ : ByteArray) false)
set_option maxHeartbeats 8000000 in
set_option maxRecDepth 100000 in
theorem version_zzExtra.calls (k : Nat) (a0 : ByteArray) (r : List ByteArray) (w : World) (h : version_zzExtra.f k a0 = some r) :
  Calls Tryd.prog 98 #[.string a0] w fun e w' => ∃ v0_ : Value, e = .returned (v0_) ∧ Kd.R Kd.string 9 w' w.heap.size (fun _ => True) v0_ r ∧ Below w.heap.size w w' ∧ (r = [] → v0_ = .slice none 0 0) := by
 have HB := Aside0.mk (Below.refl w.heap.size w)
 have H : (if 0 < (a0.size : Int) then (version_zzExtra.j0 k a0 0 (⟨#[]⟩ : ByteArray) (⟨#[]⟩ : ByteArray) ((bt a0 0) == 45)) else (version_zzExtra.j0 k a0 0 (⟨#[]⟩ : ByteArray) (⟨#[]⟩ : ByteArray) false)) = some r := h
 clear h
 have HC2 := Aside0.mk H
 clear H
 go_enter Tryd.func98, Tryd.ntmps98
 go_upto_region 2 with (fail)
 go_cut [17] (fun v17 wc => ∃ (kq : Nat) (x17_1 : Bool), v17 = .bool x17_1 ∧ Aside0 (version_zzExtra.j0 kq a0 0 (⟨#[]⟩ : ByteArray) (⟨#[]⟩ : ByteArray) x17_1 = some r) ∧ Aside0 (kq ≤ k) ∧ Aside0 (Below w.heap.size w wc))
 case first =>
  have H := HC2.out
  clear HC2
  by_cases c3 : 0 < (a0.size : Int)
  ·
   rw [if_pos c3] at H
   have c3b0 : decide (0 < (a0.size : Int)) = true := decide_eq_true c3
   have c3b1 : decide (0 < a0.size) = true := decide_eq_true (by omega)
   clear c3
   (first | rw [c3b0] | (simp only [i64_w, i32_w]; rw [c3b0]) | skip)
   have H' := Aside0.mk H
   clear H
   have p4 : 0 ≤ (0 : Int) := (by omega)
   have q4 : 0 < a0.size := (by have : (0 : Int) < (a0.size : Int) := of_decide_eq_true (by first | (with_reducible assumption) | assumption); omega)
   have hx4 : ∀ h : 0 < a0.size, ((a0[0]'h).toNat : Int) = bt a0 0 := bt_at a0 0
   clear p4
   have qi4 : (0 < (a0.size : Int)) = True := eq_true (of_decide_eq_true (by first | (with_reducible assumption) | assumption))
   replace q4 := eq_true q4
   go_wp2
   go_meet
   case rel => exact ⟨_, (((bt a0 0) == 45)), (by first | rfl | (simp; done) | (simp [*]; done)), H', ⟨by first | omega | exact Nat.le_refl _⟩, ⟨by repeat (first | (with_reducible first | exact HB.out | apply below_alloc | apply pw_below_drewN | apply below_drew1) | exact HB.out)⟩⟩
  ·
   rw [if_neg c3] at H
   have c3b0 : decide (0 < (a0.size : Int)) = false := decide_eq_false c3
   have c3b1 : decide (0 < a0.size) = false := decide_eq_false (by omega)
   clear c3
   (first | rw [c3b0] | (simp only [i64_w, i32_w]; rw [c3b0]) | skip)
   have H' := Aside0.mk H
   clear H
   go_wp2
   go_meet
   case rel => exact ⟨_, (false), (by first | rfl | (simp; done) | (simp [*]; done)), H', ⟨by first | omega | exact Nat.le_refl _⟩, ⟨by repeat (first | (with_reducible first | exact HB.out | apply below_alloc | apply pw_below_drewN | apply below_drew1) | exact HB.out)⟩⟩
 case rest =>
  clear HC2
  try clear p2
  try clear c3
  try clear c3b0
  try clear c3b1
  try clear p4
  try clear q4
  try clear hx4
  try clear qi4
  try clear p4
  try clear q4
  obtain ⟨kq, x17_1, rfl, HA, HJ1, HB⟩ := hcut
  cases kq with
  | zero => exact absurd HA.out (by simp [version_zzExtra.j0])
  | succ kj1 =>
   have H := HA.out
   clear HA
   simp only [version_zzExtra.j0] at H
   have HC5 := Aside0.mk H
   clear H
   go_upto_if 17 with (fail)
   go_cut [3, 4] (fun v3 v4 wc => ∃ (kq : Nat) (x3_4 : Int) (x4_4 : ByteArray), v3 = .int .i64 x3_4 ∧ v4 = .string x4_4 ∧ Aside0 (version_zzExtra.j1 kq a0 x3_4 x4_4 (⟨#[]⟩ : ByteArray) = some r) ∧ Aside0 (kq ≤ kj1) ∧ Aside0 (Below w.heap.size w wc))
   case first =>
    have H := HC5.out
    clear HC5
    by_cases c6 : x17_1 = true
    ·
     subst c6
     have H1 : ((version_zzWords.f kj1 a0 (wrap64 (0 + 1))).bind fun t108 => (if t108 > (wrap64 (0 + 1)) then (if 0 ≤ (wrap64 (0 + 1)) then (if (wrap64 (0 + 1)) ≤ t108 then (if t108 ≤ (a0.size : Int) then (version_zzExtra.j1 kj1 a0 t108 (a0.extract ((wrap64 (0 + 1)) : Int).toNat (t108 : Int).toNat) (⟨#[]⟩ : ByteArray)) else (none)) else (none)) else (none)) else (version_zzExtra.j1 kj1 a0 0 (⟨#[]⟩ : ByteArray) (⟨#[]⟩ : ByteArray)))) = some r := by rw [if_pos rfl] at H; exact H
     clear H
     have H := H1
     clear H1
     replace H := Option.bind_eq_some_iff.mp H
     obtain ⟨t108, A70, H⟩ := H
     replace H : (if t108 > (wrap64 (0 + 1)) then (if 0 ≤ (wrap64 (0 + 1)) then (if (wrap64 (0 + 1)) ≤ t108 then (if t108 ≤ (a0.size : Int) then (version_zzExtra.j1 kj1 a0 t108 (a0.extract ((wrap64 (0 + 1)) : Int).toNat (t108 : Int).toNat) (⟨#[]⟩ : ByteArray)) else (none)) else (none)) else (none)) else (version_zzExtra.j1 kj1 a0 0 (⟨#[]⟩ : ByteArray) (⟨#[]⟩ : ByteArray))) = some r := H
     have hw1_ : wrap64 (0 + 1) = (1 : Int) := IntWalk.wrap64_in _ ⟨by omega, by omega⟩
     simp only [hw1_] at A70 H
     have A7 := Aside0.mk A70
     clear A70
     by_cases c8 : t108 > (1 : Int)
     ·
      rw [if_pos c8] at H
      have c8b0 : decide ((1 : Int) < t108) = true := decide_eq_true c8
      clear c8
      (first | rw [c8b0] | (simp only [i64_w, i32_w]; rw [c8b0]) | skip)
      skip
      skip
      by_cases c10 : 0 ≤ ((1 : Int))
      ·
       rw [if_pos c10] at H
       have c10b0 := eq_true c10
       have c10b1 : decide (0 ≤ ((1 : Int))) = true := decide_eq_true c10
       clear c10
       by_cases c11 : ((1 : Int)) ≤ t108
       ·
        rw [if_pos c11] at H
        have c11b0 := eq_true c11
        have c11b1 : decide (((1 : Int)) ≤ t108) = true := decide_eq_true c11
        clear c11
        by_cases c12 : t108 ≤ (a0.size : Int)
        ·
         rw [if_pos c12] at H
         have c12b0 := eq_true c12
         have c12b1 : decide (t108 ≤ (a0.size : Int)) = true := decide_eq_true c12
         clear c12
         have H' := Aside0.mk H
         clear H
         go_wp2_with (first | ((with_reducible refine gate_callee (f := 116) rfl ?_); refine goesL_ (some 21) rfl rfl Tryd.func116 (by kernel_rfl) rfl #[.string a0, .int .i64 (1 : Int)] rfl (by (try simp only [List.map_toArray, List.map_cons, List.map_nil]); first | done | rfl | (simp only [List.length_drop, List.length_take]; rfl)) ?_; (with_reducible refine (version_zzWords.calls kj1 a0 (1 : Int) t108 _ A7.out).mono ?_); rintro e w' ⟨rfl, ⟨nd, rfl⟩⟩; refine ⟨_, rfl, ?_⟩))
         go_meet
         case rel => exact ⟨_, (t108), (a0.extract (((1 : Int)) : Int).toNat (t108 : Int).toNat), (by first | rfl | (simp; done) | (simp [*]; done)), (by first | rfl | (simp; done) | (simp [*]; done)), H', ⟨by have := HJ1.out; first | omega | exact Nat.le_refl _⟩, ⟨by repeat (first | (with_reducible first | exact HB.out | apply below_alloc | apply pw_below_drewN | apply below_drew1) | exact HB.out)⟩⟩
        ·
         rw [if_neg c12] at H
         exact absurd H (by simp)
       ·
        rw [if_neg c11] at H
        exact absurd H (by simp)
      ·
       rw [if_neg c10] at H
       exact absurd H (by simp)
     ·
      rw [if_neg c8] at H
      have c8b0 : decide ((1 : Int) < t108) = false := decide_eq_false c8
      clear c8
      (first | rw [c8b0] | (simp only [i64_w, i32_w]; rw [c8b0]) | skip)
      have H' := Aside0.mk H
      clear H
      go_wp2_with (first | ((with_reducible refine gate_callee (f := 116) rfl ?_); refine goesL_ (some 21) rfl rfl Tryd.func116 (by kernel_rfl) rfl #[.string a0, .int .i64 (1 : Int)] rfl (by (try simp only [List.map_toArray, List.map_cons, List.map_nil]); first | done | rfl | (simp only [List.length_drop, List.length_take]; rfl)) ?_; (with_reducible refine (version_zzWords.calls kj1 a0 (1 : Int) t108 _ A7.out).mono ?_); rintro e w' ⟨rfl, ⟨nd, rfl⟩⟩; refine ⟨_, rfl, ?_⟩))
      go_meet
      case rel => exact ⟨_, (0), ((⟨#[]⟩ : ByteArray)), (by first | rfl | (simp; done) | (simp [*]; done)), (by first | rfl | (simp; done) | (simp [*]; done)), H', ⟨by have := HJ1.out; first | omega | exact Nat.le_refl _⟩, ⟨by repeat (first | (with_reducible first | exact HB.out | apply below_alloc | apply pw_below_drewN | apply below_drew1) | exact HB.out)⟩⟩
    ·
     replace c6 := Bool.eq_false_iff.mpr c6
     subst c6
     have H1 : (version_zzExtra.j1 kj1 a0 0 (⟨#[]⟩ : ByteArray) (⟨#[]⟩ : ByteArray)) = some r := by rw [if_neg (show ¬ (false = true) by decide)] at H; exact H
     clear H
     have H := H1
     clear H1
     have H' := Aside0.mk H
     clear H
     go_wp2
     go_meet
     case rel => exact ⟨_, (0), ((⟨#[]⟩ : ByteArray)), (by first | rfl | (simp; done) | (simp [*]; done)), (by first | rfl | (simp; done) | (simp [*]; done)), H', ⟨by have := HJ1.out; first | omega | exact Nat.le_refl _⟩, ⟨by repeat (first | (with_reducible first | exact HB.out | apply below_alloc | apply pw_below_drewN | apply below_drew1) | exact HB.out)⟩⟩
   case rest =>
    clear HC5
    try clear c1
    try clear p2
    try clear c3
    try clear c3b0
    try clear c3b1
    try clear p4
    try clear q4
    try clear hx4
    try clear qi4
    try clear c6
    try clear p6
    try clear c8
    try clear c8b0
    try clear c9
    try clear c10
    try clear c10b0
    try clear c10b1
    try clear c11
    try clear c11b0
    try clear c11b1
    try clear c12
    try clear c12b0
    try clear c12b1
    try clear p2
    try clear p4
    try clear q4
    obtain ⟨kq, x3_4, x4_4, rfl, rfl, HA, HJ4, HB⟩ := hcut
    cases kq with
    | zero => exact absurd HA.out (by simp [version_zzExtra.j1])
    | succ kj4 =>
     have H := HA.out
     clear HA
     simp only [version_zzExtra.j1] at H
     have HC13 := Aside0.mk H
     clear H
     go_upto_region 6 with (fail)
     go_cut [41] (fun v41 wc => ∃ (kq : Nat) (x41_12 : Bool), v41 = .bool x41_12 ∧ Aside0 (version_zzExtra.j2 kq a0 x3_4 x4_4 (⟨#[]⟩ : ByteArray) x41_12 = some r) ∧ Aside0 (kq ≤ kj4) ∧ Aside0 (Below w.heap.size w wc))
     case first =>
      have H := HC13.out
      clear HC13
      by_cases c14 : x3_4 < (a0.size : Int)
      ·
       rw [if_pos c14] at H
       have c14b0 : decide (x3_4 < (a0.size : Int)) = true := decide_eq_true c14
       clear c14
       (first | rw [c14b0] | (simp only [i64_w, i32_w]; rw [c14b0]) | skip)
       by_cases c15 : 0 ≤ x3_4
       ·
        rw [if_pos c15] at H
        have c15b0 : decide (0 ≤ x3_4) = true := decide_eq_true c15
        clear c15
        have H' := Aside0.mk H
        clear H
        have p16 : 0 ≤ (x3_4 : Int) := of_decide_eq_true (by first | (with_reducible assumption) | assumption)
        have q16 : x3_4 < (a0.size : Int) := of_decide_eq_true (by first | (with_reducible assumption) | assumption)
        have hx16 := bt_at a0 x3_4
        replace p16 := eq_true p16
        replace q16 := eq_true q16
        go_wp2
        go_meet
        case rel => exact ⟨_, (((bt a0 x3_4) == 43)), (by first | rfl | (simp; done) | (simp [*]; done)), H', ⟨by have := HJ1.out; have := HJ4.out; first | omega | exact Nat.le_refl _⟩, ⟨by repeat (first | (with_reducible first | exact HB.out | apply below_alloc | apply pw_below_drewN | apply below_drew1) | exact HB.out)⟩⟩
       ·
        rw [if_neg c15] at H
        exact absurd H (by simp)
      ·
       rw [if_neg c14] at H
       have c14b0 : decide (x3_4 < (a0.size : Int)) = false := decide_eq_false c14
       clear c14
       (first | rw [c14b0] | (simp only [i64_w, i32_w]; rw [c14b0]) | skip)
       have H' := Aside0.mk H
       clear H
       go_wp2
       go_meet
       case rel => exact ⟨_, (false), (by first | rfl | (simp; done) | (simp [*]; done)), H', ⟨by have := HJ1.out; have := HJ4.out; first | omega | exact Nat.le_refl _⟩, ⟨by repeat (first | (with_reducible first | exact HB.out | apply below_alloc | apply pw_below_drewN | apply below_drew1) | exact HB.out)⟩⟩
     case rest =>
      clear HC13
      try clear c1
      try clear p1
      try clear q1
      try clear hx1
      try clear p2
      try clear c3
      try clear c3b0
      try clear c3b1
      try clear p4
      try clear q4
      try clear hx4
      try clear qi4
      try clear c6
      try clear p6
      try clear c8
      try clear c8b0
      try clear c9
      try clear c10
      try clear c10b0
      try clear c10b1
      try clear c11
      try clear c11b0
      try clear c11b1
      try clear c12
      try clear c12b0
      try clear c12b1
      try clear c14
      try clear c14b0
      try clear c15
      try clear c15b0
      try clear p16
      try clear q16
      try clear hx16
      try clear p16
      try clear p2
      try clear p4
      try clear p6
      try clear q16
      try clear q4
      obtain ⟨kq, x41_12, rfl, HA, HJ12, HB⟩ := hcut
      cases kq with
      | zero => exact absurd HA.out (by simp [version_zzExtra.j2])
      | succ kj12 =>
       have H := HA.out
       clear HA
       simp only [version_zzExtra.j2] at H
       by_cases c17 : x41_12 = true
       ·
        subst c17
        have H1 : ((version_zzWords.f kj12 a0 (wrap64 (x3_4 + 1))).bind fun t109 => (if t109 > (wrap64 (x3_4 + 1)) then (if 0 ≤ (wrap64 (x3_4 + 1)) then (if (wrap64 (x3_4 + 1)) ≤ t109 then (if t109 ≤ (a0.size : Int) then ((version_zzBlanks.f kj12 a0 t109).bind fun t110 => (if t110 < (a0.size : Int) then (some ([] : List ByteArray)) else (some (([a0, x4_4, a0.extract ((wrap64 (x3_4 + 1)) : Int).toNat (t109 : Int).toNat] : List ByteArray))))) else (none)) else (none)) else (none)) else ((version_zzBlanks.f kj12 a0 x3_4).bind fun t114 => (if t114 < (a0.size : Int) then (some ([] : List ByteArray)) else (some (([a0, x4_4, (⟨#[]⟩ : ByteArray)] : List ByteArray))))))) = some r := by rw [if_pos rfl] at H; exact H
        clear H
        have H := H1
        clear H1
        replace H := Option.bind_eq_some_iff.mp H
        obtain ⟨t109, A180, H⟩ := H
        replace H : (if t109 > (wrap64 (x3_4 + 1)) then (if 0 ≤ (wrap64 (x3_4 + 1)) then (if (wrap64 (x3_4 + 1)) ≤ t109 then (if t109 ≤ (a0.size : Int) then ((version_zzBlanks.f kj12 a0 t109).bind fun t110 => (if t110 < (a0.size : Int) then (some ([] : List ByteArray)) else (some (([a0, x4_4, a0.extract ((wrap64 (x3_4 + 1)) : Int).toNat (t109 : Int).toNat] : List ByteArray))))) else (none)) else (none)) else (none)) else ((version_zzBlanks.f kj12 a0 x3_4).bind fun t114 => (if t114 < (a0.size : Int) then (some ([] : List ByteArray)) else (some (([a0, x4_4, (⟨#[]⟩ : ByteArray)] : List ByteArray)))))) = some r := H
        have A18 := Aside0.mk A180
        clear A180
        by_cases c19 : t109 > (wrap64 (x3_4 + 1))
        ·
         rw [if_pos c19] at H
         have c19b0 : decide ((wrap64 (x3_4 + 1)) < t109) = true := decide_eq_true c19
         clear c19
         obtain ⟨ji20, hji20⟩ : ∃ j_ : Int, (wrap64 (x3_4 + 1)) = j_ := ⟨_, rfl⟩
         replace H : (if 0 ≤ (ji20) then (if (ji20) ≤ t109 then (if t109 ≤ (a0.size : Int) then ((version_zzBlanks.f kj12 a0 t109).bind fun t110 => (if t110 < (a0.size : Int) then (some ([] : List ByteArray)) else (some (([a0, x4_4, a0.extract ((ji20) : Int).toNat (t109 : Int).toNat] : List ByteArray))))) else (none)) else (none)) else (none)) = some r := by first | (rw [hji20] at H; exact H) | (simp only [hji20] at H ⊢; exact H)
         (try rw [hji20] at c19b0)
         (try rw [hji20] at A18)
         have hji20w : (IntKind.i64.wrap (x3_4 + 1)) = ji20 := (i64_w _).trans hji20
         by_cases c21 : 0 ≤ (ji20)
         ·
          rw [if_pos c21] at H
          have c21b0 := eq_true c21
          have c21b1 : decide (0 ≤ (ji20)) = true := decide_eq_true c21
          clear c21
          by_cases c22 : (ji20) ≤ t109
          ·
           rw [if_pos c22] at H
           have c22b0 := eq_true c22
           have c22b1 : decide ((ji20) ≤ t109) = true := decide_eq_true c22
           clear c22
           by_cases c23 : t109 ≤ (a0.size : Int)
           ·
            rw [if_pos c23] at H
            have c23b0 := eq_true c23
            have c23b1 : decide (t109 ≤ (a0.size : Int)) = true := decide_eq_true c23
            clear c23
            replace H := Option.bind_eq_some_iff.mp H
            obtain ⟨t110, A240, H⟩ := H
            replace H : (if t110 < (a0.size : Int) then (some ([] : List ByteArray)) else (some (([a0, x4_4, a0.extract ((ji20) : Int).toNat (t109 : Int).toNat] : List ByteArray)))) = some r := H
            have A24 := Aside0.mk A240
            clear A240
            by_cases c25 : t110 < (a0.size : Int)
            ·
             rw [if_pos c25] at H
             have c25b0 : decide (t110 < (a0.size : Int)) = true := decide_eq_true c25
             clear c25
             obtain rfl := Option.some.inj H
             go_wp2_with (first | ((with_reducible refine gate_callee (f := 116) rfl ?_); refine goesL_ (some 45) rfl rfl Tryd.func116 (by kernel_rfl) rfl #[.string a0, .int .i64 ji20] rfl (by (try simp only [List.map_toArray, List.map_cons, List.map_nil]); first | done | (simp only [hji20]; rfl) | rfl | (simp only [List.length_drop, List.length_take]; rfl)) ?_; (with_reducible refine (version_zzWords.calls kj12 a0 ji20 t109 _ A18.out).mono ?_); rintro e w' ⟨rfl, ⟨nd, rfl⟩⟩; refine ⟨_, rfl, ?_⟩) | ((with_reducible refine gate_callee (f := 111) rfl ?_); refine goesL_ (some 58) rfl rfl Tryd.func111 (by kernel_rfl) rfl #[.string a0, .int .i64 t109] rfl (by (try simp only [List.map_toArray, List.map_cons, List.map_nil]); first | done | rfl | (simp only [List.length_drop, List.length_take]; rfl)) ?_; (with_reducible refine (version_zzBlanks.calls kj12 a0 t109 t110 _ A24.out).mono ?_); rintro e w' ⟨rfl, ⟨nd, rfl⟩⟩; refine ⟨_, rfl, ?_⟩))
             go_ret
             exact ⟨_, by first | rfl | (simp [errW_none, errW_some] <;> rfl) | (simp only [← hji20]; first | rfl | (simp [errW_none, errW_some] <;> rfl)) | (simp [*, errW_none, errW_some] <;> rfl), by first | exact Kd.R_nil _ _ _ _ _ | exact Kd.N_nil _ _ _ _ _ | exact Kd.V_nil _ _ _ _ _ | exact Kd.Q_nil _ _ _ _ _ | exact Kd.S_nil _ _ _ _ _, by repeat (first | (with_reducible first | exact HB.out | apply below_alloc | apply pw_below_drewN | apply below_drew1) | exact HB.out), (by first | rfl | (simp; done) | (intro e; subst e; exact absurd H.out (by simp)))⟩
            ·
             rw [if_neg c25] at H
             have c25b0 : decide (t110 < (a0.size : Int)) = false := decide_eq_false c25
             clear c25
             obtain ⟨y111, hy111⟩ : ∃ y_ : List ByteArray, y_ = (([a0, x4_4, a0.extract ((ji20) : Int).toNat (t109 : Int).toNat] : List ByteArray)) := ⟨_, rfl⟩
             replace H : (some y111) = some r := by first | (rw [hy111]; with_reducible exact H) | (have H2_ := (Option.bind_some _ _).symm.trans H; rw [hy111]; with_reducible exact H2_) | (have H2_ := (Option.bind_some _ _).symm.trans H; with_reducible exact H2_) | with_reducible exact H | (rw [hy111]; exact H) | exact H
             have Ny111 := Aside0.mk hy111
             clear hy111
             obtain rfl := Option.some.inj H
             go_wp2_with (first | ((with_reducible refine gate_callee (f := 116) rfl ?_); refine goesL_ (some 45) rfl rfl Tryd.func116 (by kernel_rfl) rfl #[.string a0, .int .i64 ji20] rfl (by (try simp only [List.map_toArray, List.map_cons, List.map_nil]); first | done | (simp only [hji20]; rfl) | rfl | (simp only [List.length_drop, List.length_take]; rfl)) ?_; (with_reducible refine (version_zzWords.calls kj12 a0 ji20 t109 _ A18.out).mono ?_); rintro e w' ⟨rfl, ⟨nd, rfl⟩⟩; refine ⟨_, rfl, ?_⟩) | ((with_reducible refine gate_callee (f := 111) rfl ?_); refine goesL_ (some 58) rfl rfl Tryd.func111 (by kernel_rfl) rfl #[.string a0, .int .i64 t109] rfl (by (try simp only [List.map_toArray, List.map_cons, List.map_nil]); first | done | rfl | (simp only [List.length_drop, List.length_take]; rfl)) ?_; (with_reducible refine (version_zzBlanks.calls kj12 a0 t109 t110 _ A24.out).mono ?_); rintro e w' ⟨rfl, ⟨nd, rfl⟩⟩; refine ⟨_, rfl, ?_⟩) | ((with_reducible refine gate_dst (N := 65) rfl ?_); refine Kd.R_lit Kd.string _ 9 ?hg (N := 65) ?hd (xs := ([a0, x4_4, a0.extract ((ji20) : Int).toNat (t109 : Int).toNat] : List ByteArray)) (inner := [.string a0, .string x4_4, .string (a0.extract ((ji20) : Int).toNat (t109 : Int).toNat)]) (ok := fun _ => True) (okp := fun _ => True) ?hr ?hp (fun _ hk => hk) trivial (Below.refl _ _) (Nat.le_refl _) (by simp) ?_; (case hd => rfl); (case hg => rfl); (case hr => first | (go_simp; done) | (go_simp; rfl)); (case hp => exact (Reps.one (show Kd.M Kd.string _ _ _ a0 [.string a0] from rfl) (Reps.one (show Kd.M Kd.string _ _ _ x4_4 [.string x4_4] from rfl) (Reps.one (show Kd.M Kd.string _ _ _ (a0.extract ((ji20) : Int).toNat (t109 : Int).toNat) [.string (a0.extract ((ji20) : Int).toNat (t109 : Int).toNat)] from rfl) (Reps.none _ _))))); intro v112 w26 ho27 hb hg_ hnew_; clear hg_ hnew_; (first | rw [← Ny111.out] at ho27 | (simp only [Int.reduceToNat] at ho27; rw [← Ny111.out] at ho27)); have n0_ := Aside0.mk (Kd.R_lower ho27 (below_size (by repeat (first | (with_reducible first | exact HB.out | apply below_alloc | apply pw_below_drewN | apply below_drew1) | exact HB.out)))); have n1_ := Aside0.mk (below_step (by repeat (first | (with_reducible first | exact HB.out | apply below_alloc | apply pw_below_drewN | apply below_drew1) | exact HB.out)) hb); clear HB; have HO113 := n0_; have HB := n1_; clear n0_ n1_; clear hb ho27))
             go_ret
             exact ⟨_, by first | rfl | (simp [errW_none, errW_some] <;> rfl) | (simp only [← hji20]; first | rfl | (simp [errW_none, errW_some] <;> rfl)) | (simp [*, errW_none, errW_some] <;> rfl), by (with_reducible repeat (first | apply Kd.R_alloc | apply Kd.R_drewN | apply Kd.R_drew)); exact HO113.out, by repeat (first | (with_reducible first | exact HB.out | apply below_alloc | apply pw_below_drewN | apply below_drew1) | exact HB.out), (by first | rfl | (simp; done) | (intro e; subst e; exact absurd Ny111.out (by simp)))⟩
           ·
            rw [if_neg c23] at H
            exact absurd H (by simp)
          ·
           rw [if_neg c22] at H
           exact absurd H (by simp)
         ·
          rw [if_neg c21] at H
          exact absurd H (by simp)
        ·
         rw [if_neg c19] at H
         have c19b0 : decide ((wrap64 (x3_4 + 1)) < t109) = false := decide_eq_false c19
         clear c19
         replace H := Option.bind_eq_some_iff.mp H
         obtain ⟨t114, A280, H⟩ := H
         replace H : (if t114 < (a0.size : Int) then (some ([] : List ByteArray)) else (some (([a0, x4_4, (⟨#[]⟩ : ByteArray)] : List ByteArray)))) = some r := H
         have A28 := Aside0.mk A280
         clear A280
         by_cases c29 : t114 < (a0.size : Int)
         ·
          rw [if_pos c29] at H
          have c29b0 : decide (t114 < (a0.size : Int)) = true := decide_eq_true c29
          clear c29
          obtain rfl := Option.some.inj H
          go_wp2_with (first | ((with_reducible refine gate_callee (f := 116) rfl ?_); refine goesL_ (some 45) rfl rfl Tryd.func116 (by kernel_rfl) rfl #[.string a0, .int .i64 (wrap64 (x3_4 + 1))] rfl (by (try simp only [List.map_toArray, List.map_cons, List.map_nil]); first | done | rfl | (simp only [List.length_drop, List.length_take]; rfl)) ?_; (with_reducible refine (version_zzWords.calls kj12 a0 (wrap64 (x3_4 + 1)) t109 _ A18.out).mono ?_); rintro e w' ⟨rfl, ⟨nd, rfl⟩⟩; refine ⟨_, rfl, ?_⟩) | ((with_reducible refine gate_callee (f := 111) rfl ?_); refine goesL_ (some 58) rfl rfl Tryd.func111 (by kernel_rfl) rfl #[.string a0, .int .i64 x3_4] rfl (by (try simp only [List.map_toArray, List.map_cons, List.map_nil]); first | done | rfl | (simp only [List.length_drop, List.length_take]; rfl)) ?_; (with_reducible refine (version_zzBlanks.calls kj12 a0 x3_4 t114 _ A28.out).mono ?_); rintro e w' ⟨rfl, ⟨nd, rfl⟩⟩; refine ⟨_, rfl, ?_⟩))
          go_ret
          exact ⟨_, by first | rfl | (simp [errW_none, errW_some] <;> rfl) | (simp [*, errW_none, errW_some] <;> rfl), by first | exact Kd.R_nil _ _ _ _ _ | exact Kd.N_nil _ _ _ _ _ | exact Kd.V_nil _ _ _ _ _ | exact Kd.Q_nil _ _ _ _ _ | exact Kd.S_nil _ _ _ _ _, by repeat (first | (with_reducible first | exact HB.out | apply below_alloc | apply pw_below_drewN | apply below_drew1) | exact HB.out), (by first | rfl | (simp; done) | (intro e; subst e; exact absurd Ny111.out (by simp)))⟩
         ·
          rw [if_neg c29] at H
          have c29b0 : decide (t114 < (a0.size : Int)) = false := decide_eq_false c29
          clear c29
          obtain ⟨y115, hy115⟩ : ∃ y_ : List ByteArray, y_ = (([a0, x4_4, (⟨#[]⟩ : ByteArray)] : List ByteArray)) := ⟨_, rfl⟩
          replace H : (some y115) = some r := by first | (rw [hy115]; with_reducible exact H) | (have H2_ := (Option.bind_some _ _).symm.trans H; rw [hy115]; with_reducible exact H2_) | (have H2_ := (Option.bind_some _ _).symm.trans H; with_reducible exact H2_) | with_reducible exact H | (rw [hy115]; exact H) | exact H
          have Ny115 := Aside0.mk hy115
          clear hy115
          obtain rfl := Option.some.inj H
          go_wp2_with (first | ((with_reducible refine gate_callee (f := 116) rfl ?_); refine goesL_ (some 45) rfl rfl Tryd.func116 (by kernel_rfl) rfl #[.string a0, .int .i64 (wrap64 (x3_4 + 1))] rfl (by (try simp only [List.map_toArray, List.map_cons, List.map_nil]); first | done | rfl | (simp only [List.length_drop, List.length_take]; rfl)) ?_; (with_reducible refine (version_zzWords.calls kj12 a0 (wrap64 (x3_4 + 1)) t109 _ A18.out).mono ?_); rintro e w' ⟨rfl, ⟨nd, rfl⟩⟩; refine ⟨_, rfl, ?_⟩) | ((with_reducible refine gate_callee (f := 111) rfl ?_); refine goesL_ (some 58) rfl rfl Tryd.func111 (by kernel_rfl) rfl #[.string a0, .int .i64 x3_4] rfl (by (try simp only [List.map_toArray, List.map_cons, List.map_nil]); first | done | rfl | (simp only [List.length_drop, List.length_take]; rfl)) ?_; (with_reducible refine (version_zzBlanks.calls kj12 a0 x3_4 t114 _ A28.out).mono ?_); rintro e w' ⟨rfl, ⟨nd, rfl⟩⟩; refine ⟨_, rfl, ?_⟩) | ((with_reducible refine gate_dst (N := 65) rfl ?_); refine Kd.R_lit Kd.string _ 9 ?hg (N := 65) ?hd (xs := ([a0, x4_4, (⟨#[]⟩ : ByteArray)] : List ByteArray)) (inner := [.string a0, .string x4_4, .string (⟨#[]⟩ : ByteArray)]) (ok := fun _ => True) (okp := fun _ => True) ?hr ?hp (fun _ hk => hk) trivial (Below.refl _ _) (Nat.le_refl _) (by simp) ?_; (case hd => rfl); (case hg => rfl); (case hr => first | (go_simp; done) | (go_simp; rfl)); (case hp => exact (Reps.one (show Kd.M Kd.string _ _ _ a0 [.string a0] from rfl) (Reps.one (show Kd.M Kd.string _ _ _ x4_4 [.string x4_4] from rfl) (Reps.one (show Kd.M Kd.string _ _ _ (⟨#[]⟩ : ByteArray) [.string (⟨#[]⟩ : ByteArray)] from rfl) (Reps.none _ _))))); intro v116 w30 ho31 hb hg_ hnew_; clear hg_ hnew_; (first | rw [← Ny115.out] at ho31 | (simp only [Int.reduceToNat] at ho31; rw [← Ny115.out] at ho31)); have n0_ := Aside0.mk (Kd.R_lower ho31 (below_size (by repeat (first | (with_reducible first | exact HB.out | apply below_alloc | apply pw_below_drewN | apply below_drew1) | exact HB.out)))); have n1_ := Aside0.mk (below_step (by repeat (first | (with_reducible first | exact HB.out | apply below_alloc | apply pw_below_drewN | apply below_drew1) | exact HB.out)) hb); clear HB; have HO117 := n0_; have HB := n1_; clear n0_ n1_; clear hb ho31))
          go_ret
          exact ⟨_, by first | rfl | (simp [errW_none, errW_some] <;> rfl) | (simp [*, errW_none, errW_some] <;> rfl), by (with_reducible repeat (first | apply Kd.R_alloc | apply Kd.R_drewN | apply Kd.R_drew)); exact HO117.out, by repeat (first | (with_reducible first | exact HB.out | apply below_alloc | apply pw_below_drewN | apply below_drew1) | exact HB.out), (by first | rfl | (simp; done) | (intro e; subst e; exact absurd Ny115.out (by simp)))⟩
       ·
        replace c17 := Bool.eq_false_iff.mpr c17
        subst c17
        have H1 : ((version_zzBlanks.f kj12 a0 x3_4).bind fun t118 => (if t118 < (a0.size : Int) then (some ([] : List ByteArray)) else (some (([a0, x4_4, (⟨#[]⟩ : ByteArray)] : List ByteArray))))) = some r := by rw [if_neg (show ¬ (false = true) by decide)] at H; exact H
        clear H
        have H := H1
        clear H1
        replace H := Option.bind_eq_some_iff.mp H
        obtain ⟨t118, A320, H⟩ := H
        replace H : (if t118 < (a0.size : Int) then (some ([] : List ByteArray)) else (some (([a0, x4_4, (⟨#[]⟩ : ByteArray)] : List ByteArray)))) = some r := H
        have A32 := Aside0.mk A320
        clear A320
        by_cases c33 : t118 < (a0.size : Int)
        ·
         rw [if_pos c33] at H
         have c33b0 : decide (t118 < (a0.size : Int)) = true := decide_eq_true c33
         clear c33
         obtain rfl := Option.some.inj H
         go_wp2_with (first | ((with_reducible refine gate_callee (f := 111) rfl ?_); refine goesL_ (some 58) rfl rfl Tryd.func111 (by kernel_rfl) rfl #[.string a0, .int .i64 x3_4] rfl (by (try simp only [List.map_toArray, List.map_cons, List.map_nil]); first | done | rfl | (simp only [List.length_drop, List.length_take]; rfl)) ?_; (with_reducible refine (version_zzBlanks.calls kj12 a0 x3_4 t118 _ A32.out).mono ?_); rintro e w' ⟨rfl, ⟨nd, rfl⟩⟩; refine ⟨_, rfl, ?_⟩))
         go_ret
         exact ⟨_, by first | rfl | (simp [errW_none, errW_some] <;> rfl) | (simp [*, errW_none, errW_some] <;> rfl), by first | exact Kd.R_nil _ _ _ _ _ | exact Kd.N_nil _ _ _ _ _ | exact Kd.V_nil _ _ _ _ _ | exact Kd.Q_nil _ _ _ _ _ | exact Kd.S_nil _ _ _ _ _, by repeat (first | (with_reducible first | exact HB.out | apply below_alloc | apply pw_below_drewN | apply below_drew1) | exact HB.out), (by first | rfl | (simp; done) | (intro e; subst e; exact absurd Ny115.out (by simp)))⟩
        ·
         rw [if_neg c33] at H
         have c33b0 : decide (t118 < (a0.size : Int)) = false := decide_eq_false c33
         clear c33
         obtain ⟨y119, hy119⟩ : ∃ y_ : List ByteArray, y_ = (([a0, x4_4, (⟨#[]⟩ : ByteArray)] : List ByteArray)) := ⟨_, rfl⟩
         replace H : (some y119) = some r := by first | (rw [hy119]; with_reducible exact H) | (have H2_ := (Option.bind_some _ _).symm.trans H; rw [hy119]; with_reducible exact H2_) | (have H2_ := (Option.bind_some _ _).symm.trans H; with_reducible exact H2_) | with_reducible exact H | (rw [hy119]; exact H) | exact H
         have Ny119 := Aside0.mk hy119
         clear hy119
         obtain rfl := Option.some.inj H
         go_wp2_with (first | ((with_reducible refine gate_callee (f := 111) rfl ?_); refine goesL_ (some 58) rfl rfl Tryd.func111 (by kernel_rfl) rfl #[.string a0, .int .i64 x3_4] rfl (by (try simp only [List.map_toArray, List.map_cons, List.map_nil]); first | done | rfl | (simp only [List.length_drop, List.length_take]; rfl)) ?_; (with_reducible refine (version_zzBlanks.calls kj12 a0 x3_4 t118 _ A32.out).mono ?_); rintro e w' ⟨rfl, ⟨nd, rfl⟩⟩; refine ⟨_, rfl, ?_⟩) | ((with_reducible refine gate_dst (N := 65) rfl ?_); refine Kd.R_lit Kd.string _ 9 ?hg (N := 65) ?hd (xs := ([a0, x4_4, (⟨#[]⟩ : ByteArray)] : List ByteArray)) (inner := [.string a0, .string x4_4, .string (⟨#[]⟩ : ByteArray)]) (ok := fun _ => True) (okp := fun _ => True) ?hr ?hp (fun _ hk => hk) trivial (Below.refl _ _) (Nat.le_refl _) (by simp) ?_; (case hd => rfl); (case hg => rfl); (case hr => first | (go_simp; done) | (go_simp; rfl)); (case hp => exact (Reps.one (show Kd.M Kd.string _ _ _ a0 [.string a0] from rfl) (Reps.one (show Kd.M Kd.string _ _ _ x4_4 [.string x4_4] from rfl) (Reps.one (show Kd.M Kd.string _ _ _ (⟨#[]⟩ : ByteArray) [.string (⟨#[]⟩ : ByteArray)] from rfl) (Reps.none _ _))))); intro v120 w34 ho35 hb hg_ hnew_; clear hg_ hnew_; (first | rw [← Ny119.out] at ho35 | (simp only [Int.reduceToNat] at ho35; rw [← Ny119.out] at ho35)); have n0_ := Aside0.mk (Kd.R_lower ho35 (below_size (by repeat (first | (with_reducible first | exact HB.out | apply below_alloc | apply pw_below_drewN | apply below_drew1) | exact HB.out)))); have n1_ := Aside0.mk (below_step (by repeat (first | (with_reducible first | exact HB.out | apply below_alloc | apply pw_below_drewN | apply below_drew1) | exact HB.out)) hb); clear HB; have HO121 := n0_; have HB := n1_; clear n0_ n1_; clear hb ho35))
         go_ret
         exact ⟨_, by first | rfl | (simp [errW_none, errW_some] <;> rfl) | (simp [*, errW_none, errW_some] <;> rfl), by (with_reducible repeat (first | apply Kd.R_alloc | apply Kd.R_drewN | apply Kd.R_drew)); exact HO121.out, by repeat (first | (with_reducible first | exact HB.out | apply below_alloc | apply pw_below_drewN | apply below_drew1) | exact HB.out), (by first | rfl | (simp; done) | (intro e; subst e; exact absurd Ny119.out (by simp)))⟩

-- NOT PRINTED: function 86 (version_parse)

-- NOT PRINTED: function 66 (version_ParseGeneric)

-- NOT PRINTED: function 67 (version_ParseSemantic)

-- NOT PRINTED: function 30 (version_MajorMinor)

-- NOT PRINTED: function 68 (version_ParseMajorMinor)

-- NOT PRINTED: function 69 (version_Parse)

-- NOT PRINTED: function 36 (impl_parsed)

-- NOT PRINTED: function 14 (impl_VersionParse)

-- NOT PRINTED: function 15 (laws_verKind)

-- NOT PRINTED: function 32 (spec_verDigit)

-- NOT PRINTED: function 12 (spec_VerLong)

-- NOT PRINTED: function 37 (spec_verFields)

-- NOT PRINTED: function 70 (spec_verWhite)

-- NOT PRINTED: function 38 (spec_verAhead)

-- NOT PRINTED: function 39 (spec_verPlace)

-- NOT PRINTED: function 31 (spec_VerSplit)

-- NOT PRINTED: function 33 (spec_VerNumeric)

-- NOT PRINTED: function 34 (spec_VerPlainly)

-- NOT PRINTED: function 11 (spec_VerIdentifiers)

-- NOT PRINTED: function 71 (spec_VerUint)

-- NOT PRINTED: function 40 (spec_VerSemantic)

-- NOT PRINTED: function 41 (spec_VerGeneric)

-- NOT PRINTED: function 16 (spec_VerParsed)

-- NOT PRINTED: function 5 (laws_FnVersionParse)

end Go.Proofs.YtomoefldmgfaoaaDoor.PvH
