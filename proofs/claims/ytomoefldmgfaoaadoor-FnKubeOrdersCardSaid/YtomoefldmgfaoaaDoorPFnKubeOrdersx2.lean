/- Functions of the program as plain Lean functions, and that the machine's calls do what these say: written for this claim by wip/myprint.py over the kit's print.py. -/
import Derived.Sort.Walk0
import Derived.Test.YtomoefldmgfaoaaDoorPFnKubeOrdersx0
import Derived.Test.YtomoefldmgfaoaaDoorPFnKubeOrdersx1
namespace Go.Proofs.YtomoefldmgfaoaaDoor.PFnKubeOrders
open Go.RowKit Go.Proofs.YtomoefldmgfaoaaDoorW.PrintWords Go.Proofs.YtomoefldmgfaoaaDoorW.PrintLast Go.Proofs.YtomoefldmgfaoaaDoorW.PrintMore
attribute [local go_sem] max2_int min2_int max_two min_two max_three min_three max_four min_four   -- for this text's walks alone
set_option linter.unusedVariables false
set_option linter.unusedSimpArgs false

theorem bl_gt (x y : List UInt8) : (!(Op.bytesLess x y || x == y)) = Op.bytesLess y x := by
  rw [Go.Proofs.bytesLess_eq, Go.Proofs.bytesLess_eq]
  by_cases h : x < y
  · rw [decide_eq_true h, Bool.true_or, decide_eq_false (List.lt_asymm h)]; rfl
  · rw [decide_eq_false h, Bool.false_or]
    by_cases e : x = y
    · subst e; rw [beq_self_eq_true, decide_eq_false (List.lt_irrefl x)]; rfl
    · rw [beq_eq_false_iff_ne.2 e]
      have : y < x := by
        rcases List.le_iff_lt_or_eq.1 (List.not_lt.1 h) with q | q
        · exact q
        · exact absurd q.symm e
      rw [decide_eq_true this]; rfl
/-! ### spec_verNumber: function 56 -/
mutual
def spec_verNumber.j1 : Nat → ByteArray → ByteArray → Option (Int)
 | 0, _, _ => none
 | k + 1, x0, x1 => spec_verNumber.l1 k x0 x1
def spec_verNumber.l1 : Nat → ByteArray → ByteArray → Option (Int)
 | 0, _, _ => none
 | k + 1, x0, x1 => if (x1.size : Int) > 0 then (if 0 < (x1.size : Int) then (if (bt x1 0) = 48 then (if 1 ≤ (x1.size : Int) then (spec_verNumber.l1 k x0 (x1.extract 1 x1.size)) else (none)) else ((spec_NumOrder.f k x0 x1).bind fun t110 => (some t110))) else (none)) else ((spec_NumOrder.f k x0 x1).bind fun t111 => (some t111))
def spec_verNumber.l0 : Nat → ByteArray → ByteArray → Option (Int)
 | 0, _, _ => none
 | k + 1, x0, x1 => if (x0.size : Int) > 0 then (if 0 < (x0.size : Int) then (if (bt x0 0) = 48 then (if 1 ≤ (x0.size : Int) then (spec_verNumber.l0 k (x0.extract 1 x0.size) x1) else (none)) else (spec_verNumber.j1 k x0 x1)) else (none)) else (spec_verNumber.j1 k x0 x1)
end
def spec_verNumber.f (k : Nat) (a0 : ByteArray) (a1 : ByteArray) : Option (Int) := spec_verNumber.l0 k a0 a1
theorem spec_verNumber.mono_l : ∀ k, (∀ y0 y1, LeO (spec_verNumber.j1 k y0 y1) (spec_verNumber.j1 (k + 1) y0 y1)) ∧ (∀ y0 y1, LeO (spec_verNumber.l1 k y0 y1) (spec_verNumber.l1 (k + 1) y0 y1)) ∧ (∀ y0 y1, LeO (spec_verNumber.l0 k y0 y1) (spec_verNumber.l0 (k + 1) y0 y1))
 | 0 => ⟨fun _ _ r h => by simp [spec_verNumber.j1] at h, fun _ _ r h => by simp [spec_verNumber.l1] at h, fun _ _ r h => by simp [spec_verNumber.l0] at h⟩
 | k + 1 => by
  obtain ⟨ih0, ih1, ih2⟩ := spec_verNumber.mono_l k
  refine ⟨?_, ?_, ?_⟩
  ·
   intro y0 y1
   unfold spec_verNumber.j1
   repeat' first
   | (with_reducible exact ih0 _ _)
   | (with_reducible exact ih1 _ _)
   | (with_reducible exact ih2 _ _)
   | (with_reducible exact spec_NumOrder.mono _ _ _)
   | (with_reducible exact LeO.refl _)
   | (with_reducible exact LeO.none _)
   | (with_reducible refine LeO.ite ?_ ?_)
   | (with_reducible refine LeO.bind ?_ (fun _ => ?_))
   | exact ih0 _ _
   | exact ih1 _ _
   | exact ih2 _ _
   | exact spec_NumOrder.mono _ _ _
   | exact LeO.none _
   | refine LeO.ite ?_ ?_
   | refine LeO.bind ?_ (fun _ => ?_)
  ·
   intro y0 y1
   unfold spec_verNumber.l1
   repeat' first
   | (with_reducible exact ih0 _ _)
   | (with_reducible exact ih1 _ _)
   | (with_reducible exact ih2 _ _)
   | (with_reducible exact spec_NumOrder.mono _ _ _)
   | (with_reducible exact LeO.refl _)
   | (with_reducible exact LeO.none _)
   | (with_reducible refine LeO.ite ?_ ?_)
   | (with_reducible refine LeO.bind ?_ (fun _ => ?_))
   | exact ih0 _ _
   | exact ih1 _ _
   | exact ih2 _ _
   | exact spec_NumOrder.mono _ _ _
   | exact LeO.none _
   | refine LeO.ite ?_ ?_
   | refine LeO.bind ?_ (fun _ => ?_)
  ·
   intro y0 y1
   unfold spec_verNumber.l0
   repeat' first
   | (with_reducible exact ih0 _ _)
   | (with_reducible exact ih1 _ _)
   | (with_reducible exact ih2 _ _)
   | (with_reducible exact spec_NumOrder.mono _ _ _)
   | (with_reducible exact LeO.refl _)
   | (with_reducible exact LeO.none _)
   | (with_reducible refine LeO.ite ?_ ?_)
   | (with_reducible refine LeO.bind ?_ (fun _ => ?_))
   | exact ih0 _ _
   | exact ih1 _ _
   | exact ih2 _ _
   | exact spec_NumOrder.mono _ _ _
   | exact LeO.none _
   | refine LeO.ite ?_ ?_
   | refine LeO.bind ?_ (fun _ => ?_)
theorem spec_verNumber.mono : ∀ a0 a1 k, LeO (spec_verNumber.f k a0 a1) (spec_verNumber.f (k + 1) a0 a1) := by
 intro a0 a1 k
 obtain ⟨ih0, ih1, ih2⟩ := spec_verNumber.mono_l k
 unfold spec_verNumber.f
 repeat' first
   | (with_reducible exact ih0 _ _)
   | (with_reducible exact ih1 _ _)
   | (with_reducible exact ih2 _ _)
   | (with_reducible exact spec_NumOrder.mono _ _ _)
   | (with_reducible exact LeO.refl _)
   | (with_reducible exact LeO.none _)
   | (with_reducible refine LeO.ite ?_ ?_)
   | (with_reducible refine LeO.bind ?_ (fun _ => ?_))
   | exact ih0 _ _
   | exact ih1 _ _
   | exact ih2 _ _
   | exact spec_NumOrder.mono _ _ _
   | exact LeO.none _
   | refine LeO.ite ?_ ?_
   | refine LeO.bind ?_ (fun _ => ?_)
set_option maxHeartbeats 8000000 in
set_option maxRecDepth 100000 in
theorem spec_verNumber.calls (k : Nat) (a0 : ByteArray) (a1 : ByteArray) (r : Int) (w : World) (h : spec_verNumber.f k a0 a1 = some r) :
  Calls Tryd.prog 56 #[.string a0, .string a1] w fun e w' => e = .returned (.int .i64 r) ∧ Drawn0 w w' := by
 have H : (spec_verNumber.l0 k a0 a1) = some r := h
 clear h
 have HC3 := aM_ H
 clear H
 go_enter Tryd.func56, Tryd.ntmps56
 go_upto_block 0 with (fail)
 go_cut [0] (fun v0 wc => ∃ (kq : Nat) (x0_2 : ByteArray), v0 = .string x0_2 ∧ Aside0 (spec_verNumber.j1 kq x0_2 a1 = some r) ∧ Aside0 (kq ≤ k) ∧ Drawn0 w wc)
 case first =>
  have H := HC3.out
  clear HC3
  have H' := aM_ H
  clear H
  go_wp2
  go_loopg [0] k (fun kq v0 w' => ∃ (x0_1 : ByteArray), v0 = .string x0_1 ∧ Aside0 (spec_verNumber.l0 kq x0_1 a1 = some r) ∧ Aside0 (kq ≤ k) ∧ Drawn0 w w')
  case atStart => exact ⟨(a0), (by first | rfl | (simp; done) | (simp [*]; done)), H', ⟨Nat.le_refl _⟩, by repeat (first | exact Drawn0.refl _ | apply Drawn0.step)⟩
  case round =>
   clear H'
   try clear p2
   obtain ⟨x0_1, rfl, HA, HK1, ⟨m1, rfl⟩⟩ := hrel
   cases gk with
   | zero => exact absurd HA.out (by simp [spec_verNumber.l0])
   | succ k1 =>
    have H := HA.out
    clear HA
    simp only [spec_verNumber.l0] at H
    by_cases c4 : (x0_1.size : Int) > 0
    ·
     rw [if_pos c4] at H
     have c4b0 : decide (0 < (x0_1.size : Int)) = true := decide_eq_true c4
     have c4b1 : decide (0 < x0_1.size) = true := decide_eq_true (by omega)
     clear c4
     (first | rw [c4b0] | (simp only [i64_w, i32_w]; rw [c4b0]) | skip)
     by_cases c5 : 0 < (x0_1.size : Int)
     ·
      rw [if_pos c5] at H
      have c5b0 : decide (0 < (x0_1.size : Int)) = true := decide_eq_true c5
      have c5b1 : decide (0 < x0_1.size) = true := decide_eq_true (by omega)
      clear c5
      by_cases c7 : (bt x0_1 0) = 48
      ·
       rw [if_pos c7] at H
       have c7b0 : ((bt x0_1 0) == 48) = true := beq_iff_eq.mpr c7
       have c7b1 : ((bt x0_1 0) != 48) = false := bne_eq_false_iff_eq.mpr c7
       clear c7
       by_cases c8 : 1 ≤ (x0_1.size : Int)
       ·
        rw [if_pos c8] at H
        have c8b0 := eq_true c8
        have c8b1 : decide (1 ≤ (x0_1.size : Int)) = true := decide_eq_true c8
        clear c8
        have H' := aM_ H
        clear H
        have p6 : 0 ≤ (0 : Int) := (by omega)
        have q6 : 0 < x0_1.size := (by have : (0 : Int) < (x0_1.size : Int) := of_decide_eq_true (by first | (with_reducible assumption) | assumption); omega)
        have hx6 : ∀ h : 0 < x0_1.size, ((x0_1[0]'h).toNat : Int) = bt x0_1 0 := bt_at x0_1 0
        clear p6
        have qi6 : (0 < (x0_1.size : Int)) = True := eq_true (of_decide_eq_true (by first | (with_reducible assumption) | assumption))
        replace q6 := eq_true q6
        go_wp2
        go_roundg k1
        case measure => have := HK1.out; omega
        case rel => exact ⟨(x0_1.extract 1 x0_1.size), (by first | rfl | (simp; done) | (simp [*]; done)), H', ⟨by have := HK1.out; omega⟩, by repeat (first | exact Drawn0.refl _ | apply Drawn0.step)⟩
       ·
        rw [if_neg c8] at H
        exact absurd H (by simp)
      ·
       rw [if_neg c7] at H
       have c7b0 : ((bt x0_1 0) == 48) = false := beq_eq_false_iff_ne.mpr c7
       have c7b1 : ((bt x0_1 0) != 48) = true := bne_iff_ne.mpr c7
       have H' := aM_ H
       clear H
       have p6 : 0 ≤ (0 : Int) := (by omega)
       have q6 : 0 < x0_1.size := (by have : (0 : Int) < (x0_1.size : Int) := of_decide_eq_true (by first | (with_reducible assumption) | assumption); omega)
       have hx6 : ∀ h : 0 < x0_1.size, ((x0_1[0]'h).toNat : Int) = bt x0_1 0 := bt_at x0_1 0
       clear p6
       have qi6 : (0 < (x0_1.size : Int)) = True := eq_true (of_decide_eq_true (by first | (with_reducible assumption) | assumption))
       replace q6 := eq_true q6
       go_wp2
       go_meet
       case rel => exact ⟨_, (x0_1), (by first | rfl | (simp; done) | (simp [*]; done)), H', ⟨by have := HK1.out; first | omega | exact Nat.le_refl _⟩, by repeat (first | exact Drawn0.refl _ | apply Drawn0.step)⟩
     ·
      rw [if_neg c5] at H
      exact absurd H (by simp)
    ·
     rw [if_neg c4] at H
     have c4b0 : decide (0 < (x0_1.size : Int)) = false := decide_eq_false c4
     have c4b1 : decide (0 < x0_1.size) = false := decide_eq_false (by omega)
     clear c4
     (first | rw [c4b0] | (simp only [i64_w, i32_w]; rw [c4b0]) | skip)
     have H' := aM_ H
     clear H
     go_wp2
     go_meet
     case rel => exact ⟨_, (x0_1), (by first | rfl | (simp; done) | (simp [*]; done)), H', ⟨by have := HK1.out; first | omega | exact Nat.le_refl _⟩, by repeat (first | exact Drawn0.refl _ | apply Drawn0.step)⟩
 case rest =>
  clear HC3
  try clear p2
  try clear c4
  try clear c4b0
  try clear c4b1
  try clear c5
  try clear c5b0
  try clear c5b1
  try clear p6
  try clear q6
  try clear hx6
  try clear qi6
  try clear c7
  try clear c7b0
  try clear c7b1
  try clear c8
  try clear c8b0
  try clear c8b1
  try clear p2
  try clear p6
  try clear q6
  obtain ⟨kq, x0_2, rfl, HA, HJ2, ⟨mc2, rfl⟩⟩ := hcut
  cases kq with
  | zero => exact absurd HA.out (by simp [spec_verNumber.j1])
  | succ kj2 =>
   have H := HA.out
   clear HA
   simp only [spec_verNumber.j1] at H
   have H' := aM_ H
   clear H
   go_wp2
   go_loopg [1] kj2 (fun kq v1 w' => ∃ (x1_2 : ByteArray), v1 = .string x1_2 ∧ Aside0 (spec_verNumber.l1 kq x0_2 x1_2 = some r) ∧ Aside0 (kq ≤ kj2) ∧ Drawn0 w w')
   case atStart => exact ⟨(a1), (by first | rfl | (simp; done) | (simp [*]; done)), H', ⟨Nat.le_refl _⟩, by repeat (first | exact Drawn0.refl _ | apply Drawn0.step)⟩
   case round =>
    clear H'
    try clear c2
    try clear p2
    try clear c4
    try clear c4b0
    try clear c4b1
    try clear c5
    try clear c5b0
    try clear c5b1
    try clear p6
    try clear q6
    try clear hx6
    try clear qi6
    try clear c7
    try clear c7b0
    try clear c7b1
    try clear c8
    try clear c8b0
    try clear c8b1
    try clear p2
    try clear p6
    try clear q6
    obtain ⟨x1_2, rfl, HA, HK2, ⟨m2, rfl⟩⟩ := hrel
    cases gk with
    | zero => exact absurd HA.out (by simp [spec_verNumber.l1])
    | succ k2 =>
     have H := HA.out
     clear HA
     simp only [spec_verNumber.l1] at H
     by_cases c9 : (x1_2.size : Int) > 0
     ·
      rw [if_pos c9] at H
      have c9b0 : decide (0 < (x1_2.size : Int)) = true := decide_eq_true c9
      have c9b1 : decide (0 < x1_2.size) = true := decide_eq_true (by omega)
      clear c9
      by_cases c10 : 0 < (x1_2.size : Int)
      ·
       rw [if_pos c10] at H
       have c10b0 : decide (0 < (x1_2.size : Int)) = true := decide_eq_true c10
       have c10b1 : decide (0 < x1_2.size) = true := decide_eq_true (by omega)
       clear c10
       by_cases c12 : (bt x1_2 0) = 48
       ·
        rw [if_pos c12] at H
        have c12b0 : ((bt x1_2 0) == 48) = true := beq_iff_eq.mpr c12
        have c12b1 : ((bt x1_2 0) != 48) = false := bne_eq_false_iff_eq.mpr c12
        clear c12
        by_cases c13 : 1 ≤ (x1_2.size : Int)
        ·
         rw [if_pos c13] at H
         have c13b0 := eq_true c13
         have c13b1 : decide (1 ≤ (x1_2.size : Int)) = true := decide_eq_true c13
         clear c13
         have H' := aM_ H
         clear H
         have p11 : 0 ≤ (0 : Int) := (by omega)
         have q11 : 0 < x1_2.size := (by have : (0 : Int) < (x1_2.size : Int) := of_decide_eq_true (by first | (with_reducible assumption) | assumption); omega)
         have hx11 : ∀ h : 0 < x1_2.size, ((x1_2[0]'h).toNat : Int) = bt x1_2 0 := bt_at x1_2 0
         clear p11
         have qi11 : (0 < (x1_2.size : Int)) = True := eq_true (of_decide_eq_true (by first | (with_reducible assumption) | assumption))
         replace q11 := eq_true q11
         go_wp2
         go_roundg k2
         case measure => have := HJ2.out; have := HK2.out; omega
         case rel => exact ⟨(x1_2.extract 1 x1_2.size), (by first | rfl | (simp; done) | (simp [*]; done)), H', ⟨by have := HJ2.out; have := HK2.out; omega⟩, by repeat (first | exact Drawn0.refl _ | apply Drawn0.step)⟩
        ·
         rw [if_neg c13] at H
         exact absurd H (by simp)
       ·
        rw [if_neg c12] at H
        have c12b0 : ((bt x1_2 0) == 48) = false := beq_eq_false_iff_ne.mpr c12
        have c12b1 : ((bt x1_2 0) != 48) = true := bne_iff_ne.mpr c12
        replace H := Option.bind_eq_some_iff.mp H
        obtain ⟨t110, A140, H⟩ := H
        replace H : (some t110) = some r := H
        have A14 := aM_ A140
        clear A140
        obtain rfl := Option.some.inj H
        have p11 : 0 ≤ (0 : Int) := (by omega)
        have q11 : 0 < x1_2.size := (by have : (0 : Int) < (x1_2.size : Int) := of_decide_eq_true (by first | (with_reducible assumption) | assumption); omega)
        have hx11 : ∀ h : 0 < x1_2.size, ((x1_2[0]'h).toNat : Int) = bt x1_2 0 := bt_at x1_2 0
        clear p11
        have qi11 : (0 < (x1_2.size : Int)) = True := eq_true (of_decide_eq_true (by first | (with_reducible assumption) | assumption))
        replace q11 := eq_true q11
        go_wp2_with (first | ((with_reducible refine gate_callee (f := 77) rfl ?_); refine goesL_ (some 27) rfl rfl Tryd.func77 (by kernel_rfl) rfl #[.string x0_2, .string x1_2] rfl (by (try simp only [List.map_toArray, List.map_cons, List.map_nil]); first | done | rfl | (simp only [List.length_drop, List.length_take]; rfl)) ?_; (with_reducible refine (spec_NumOrder.calls k2 x0_2 x1_2 t110 _ A14.out).mono ?_); rintro e w' ⟨rfl, ⟨nd, rfl⟩⟩; refine ⟨_, rfl, ?_⟩))
        go_ret
        exact ⟨by first | rfl | (simp; done) | (simp [*]; done), by repeat (first | exact Drawn0.refl _ | apply Drawn0.step)⟩
      ·
       rw [if_neg c10] at H
       exact absurd H (by simp)
     ·
      rw [if_neg c9] at H
      have c9b0 : decide (0 < (x1_2.size : Int)) = false := decide_eq_false c9
      have c9b1 : decide (0 < x1_2.size) = false := decide_eq_false (by omega)
      clear c9
      replace H := Option.bind_eq_some_iff.mp H
      obtain ⟨t111, A150, H⟩ := H
      replace H : (some t111) = some r := H
      have A15 := aM_ A150
      clear A150
      obtain rfl := Option.some.inj H
      go_wp2_with (first | ((with_reducible refine gate_callee (f := 77) rfl ?_); refine goesL_ (some 27) rfl rfl Tryd.func77 (by kernel_rfl) rfl #[.string x0_2, .string x1_2] rfl (by (try simp only [List.map_toArray, List.map_cons, List.map_nil]); first | done | rfl | (simp only [List.length_drop, List.length_take]; rfl)) ?_; (with_reducible refine (spec_NumOrder.calls k2 x0_2 x1_2 t111 _ A15.out).mono ?_); rintro e w' ⟨rfl, ⟨nd, rfl⟩⟩; refine ⟨_, rfl, ?_⟩))
      go_ret
      exact ⟨by first | rfl | (simp; done) | (simp [*]; done), by repeat (first | exact Drawn0.refl _ | apply Drawn0.step)⟩

/-! ### spec_KubeOrder: function 24 -/
mutual
def spec_KubeOrder.j0 : Nat → ByteArray → ByteArray → Int → ByteArray → ByteArray → Bool → Int → ByteArray → ByteArray → Bool → Bool → Option (Int × Bool)
 | 0, _, _, _, _, _, _, _, _, _, _, _ => none
 | k + 1, x0, x1, x6, x7, x8, x9, x11, x12, x13, x14, x33 => if x33 = true then (some (0, false)) else (if x9 = true then (spec_KubeOrder.j1 k x0 x1 x6 x7 x8 x9 x11 x12 x13 x14 (!x14)) else (spec_KubeOrder.j1 k x0 x1 x6 x7 x8 x9 x11 x12 x13 x14 false))
def spec_KubeOrder.j1 : Nat → ByteArray → ByteArray → Int → ByteArray → ByteArray → Bool → Int → ByteArray → ByteArray → Bool → Bool → Option (Int × Bool)
 | 0, _, _, _, _, _, _, _, _, _, _, _ => none
 | k + 1, x0, x1, x6, x7, x8, x9, x11, x12, x13, x14, x40 => if x40 = true then (some (1, true)) else (if x9 = true then (spec_KubeOrder.j2 k x0 x1 x6 x7 x8 x9 x11 x12 x13 false) else (spec_KubeOrder.j2 k x0 x1 x6 x7 x8 x9 x11 x12 x13 x14))
def spec_KubeOrder.j2 : Nat → ByteArray → ByteArray → Int → ByteArray → ByteArray → Bool → Int → ByteArray → ByteArray → Bool → Option (Int × Bool)
 | 0, _, _, _, _, _, _, _, _, _, _ => none
 | k + 1, x0, x1, x6, x7, x8, x9, x11, x12, x13, x46 => if x46 = true then (some ((-1), true)) else (if x9 = true then (spec_KubeOrder.j3 k x0 x1 x6 x7 x8 x9 x11 x12 x13 false) else (spec_KubeOrder.j3 k x0 x1 x6 x7 x8 x9 x11 x12 x13 (Op.bytesLess x0.toList x1.toList)))
def spec_KubeOrder.j3 : Nat → ByteArray → ByteArray → Int → ByteArray → ByteArray → Bool → Int → ByteArray → ByteArray → Bool → Option (Int × Bool)
 | 0, _, _, _, _, _, _, _, _, _, _ => none
 | k + 1, x0, x1, x6, x7, x8, x9, x11, x12, x13, x52 => if x52 = true then (some (1, true)) else (if x9 = true then (spec_KubeOrder.j4 k x6 x7 x8 x9 x11 x12 x13 false) else (spec_KubeOrder.j4 k x6 x7 x8 x9 x11 x12 x13 (Op.bytesLess x1.toList x0.toList)))
def spec_KubeOrder.j4 : Nat → Int → ByteArray → ByteArray → Bool → Int → ByteArray → ByteArray → Bool → Option (Int × Bool)
 | 0, _, _, _, _, _, _, _, _ => none
 | k + 1, x6, x7, x8, x9, x11, x12, x13, x60 => if x60 = true then (some ((-1), true)) else (if x9 = true then (if x6 = x11 then ((spec_verNumber.f k x7 x12).bind fun t123 => (if t123 = 0 then ((spec_verNumber.f k x8 x13).bind fun t124 => (some (t124, true))) else (some (t123, true)))) else ((spec_verSign.f (wrap64 (x6 - x11))).bind fun t122 => (some (t122, true)))) else (some (0, true)))
end
def spec_KubeOrder.f (k : Nat) (a0 : ByteArray) (a1 : ByteArray) : Option (Int × Bool) := (spec_Kube.f k a0).bind fun bt112 => ((spec_Kube.f k a1).bind fun bt117 => (if bt112.2.2.2.2 = true then (spec_KubeOrder.j0 k a0 a1 bt112.1 bt112.2.1 bt112.2.2.1 bt112.2.2.2.1 bt117.1 bt117.2.1 bt117.2.2.1 bt117.2.2.2.1 (!bt117.2.2.2.2)) else (spec_KubeOrder.j0 k a0 a1 bt112.1 bt112.2.1 bt112.2.2.1 bt112.2.2.2.1 bt117.1 bt117.2.1 bt117.2.2.1 bt117.2.2.2.1 true)))
theorem spec_KubeOrder.mono_l : ∀ k, (∀ y0 y1 y2 y3 y4 y5 y6 y7 y8 y9 y10, LeO (spec_KubeOrder.j0 k y0 y1 y2 y3 y4 y5 y6 y7 y8 y9 y10) (spec_KubeOrder.j0 (k + 1) y0 y1 y2 y3 y4 y5 y6 y7 y8 y9 y10)) ∧ (∀ y0 y1 y2 y3 y4 y5 y6 y7 y8 y9 y10, LeO (spec_KubeOrder.j1 k y0 y1 y2 y3 y4 y5 y6 y7 y8 y9 y10) (spec_KubeOrder.j1 (k + 1) y0 y1 y2 y3 y4 y5 y6 y7 y8 y9 y10)) ∧ (∀ y0 y1 y2 y3 y4 y5 y6 y7 y8 y9, LeO (spec_KubeOrder.j2 k y0 y1 y2 y3 y4 y5 y6 y7 y8 y9) (spec_KubeOrder.j2 (k + 1) y0 y1 y2 y3 y4 y5 y6 y7 y8 y9)) ∧ (∀ y0 y1 y2 y3 y4 y5 y6 y7 y8 y9, LeO (spec_KubeOrder.j3 k y0 y1 y2 y3 y4 y5 y6 y7 y8 y9) (spec_KubeOrder.j3 (k + 1) y0 y1 y2 y3 y4 y5 y6 y7 y8 y9)) ∧ (∀ y0 y1 y2 y3 y4 y5 y6 y7, LeO (spec_KubeOrder.j4 k y0 y1 y2 y3 y4 y5 y6 y7) (spec_KubeOrder.j4 (k + 1) y0 y1 y2 y3 y4 y5 y6 y7))
 | 0 => ⟨fun _ _ _ _ _ _ _ _ _ _ _ r h => by simp [spec_KubeOrder.j0] at h, fun _ _ _ _ _ _ _ _ _ _ _ r h => by simp [spec_KubeOrder.j1] at h, fun _ _ _ _ _ _ _ _ _ _ r h => by simp [spec_KubeOrder.j2] at h, fun _ _ _ _ _ _ _ _ _ _ r h => by simp [spec_KubeOrder.j3] at h, fun _ _ _ _ _ _ _ _ r h => by simp [spec_KubeOrder.j4] at h⟩
 | k + 1 => by
  obtain ⟨ih0, ih1, ih2, ih3, ih4⟩ := spec_KubeOrder.mono_l k
  refine ⟨?_, ?_, ?_, ?_, ?_⟩
  ·
   intro y0 y1 y2 y3 y4 y5 y6 y7 y8 y9 y10
   unfold spec_KubeOrder.j0
   repeat' first
   | (with_reducible exact ih0 _ _ _ _ _ _ _ _ _ _ _)
   | (with_reducible exact ih1 _ _ _ _ _ _ _ _ _ _ _)
   | (with_reducible exact ih2 _ _ _ _ _ _ _ _ _ _)
   | (with_reducible exact ih3 _ _ _ _ _ _ _ _ _ _)
   | (with_reducible exact ih4 _ _ _ _ _ _ _ _)
   | (with_reducible exact spec_Kube.mono _ _)
   | (with_reducible exact spec_verNumber.mono _ _ _)
   | (with_reducible exact LeO.refl _)
   | (with_reducible exact LeO.none _)
   | (with_reducible refine LeO.ite ?_ ?_)
   | (with_reducible refine LeO.bind ?_ (fun _ => ?_))
   | exact ih0 _ _ _ _ _ _ _ _ _ _ _
   | exact ih1 _ _ _ _ _ _ _ _ _ _ _
   | exact ih2 _ _ _ _ _ _ _ _ _ _
   | exact ih3 _ _ _ _ _ _ _ _ _ _
   | exact ih4 _ _ _ _ _ _ _ _
   | exact spec_Kube.mono _ _
   | exact spec_verNumber.mono _ _ _
   | exact LeO.none _
   | refine LeO.ite ?_ ?_
   | refine LeO.bind ?_ (fun _ => ?_)
  ·
   intro y0 y1 y2 y3 y4 y5 y6 y7 y8 y9 y10
   unfold spec_KubeOrder.j1
   repeat' first
   | (with_reducible exact ih0 _ _ _ _ _ _ _ _ _ _ _)
   | (with_reducible exact ih1 _ _ _ _ _ _ _ _ _ _ _)
   | (with_reducible exact ih2 _ _ _ _ _ _ _ _ _ _)
   | (with_reducible exact ih3 _ _ _ _ _ _ _ _ _ _)
   | (with_reducible exact ih4 _ _ _ _ _ _ _ _)
   | (with_reducible exact spec_Kube.mono _ _)
   | (with_reducible exact spec_verNumber.mono _ _ _)
   | (with_reducible exact LeO.refl _)
   | (with_reducible exact LeO.none _)
   | (with_reducible refine LeO.ite ?_ ?_)
   | (with_reducible refine LeO.bind ?_ (fun _ => ?_))
   | exact ih0 _ _ _ _ _ _ _ _ _ _ _
   | exact ih1 _ _ _ _ _ _ _ _ _ _ _
   | exact ih2 _ _ _ _ _ _ _ _ _ _
   | exact ih3 _ _ _ _ _ _ _ _ _ _
   | exact ih4 _ _ _ _ _ _ _ _
   | exact spec_Kube.mono _ _
   | exact spec_verNumber.mono _ _ _
   | exact LeO.none _
   | refine LeO.ite ?_ ?_
   | refine LeO.bind ?_ (fun _ => ?_)
  ·
   intro y0 y1 y2 y3 y4 y5 y6 y7 y8 y9
   unfold spec_KubeOrder.j2
   repeat' first
   | (with_reducible exact ih0 _ _ _ _ _ _ _ _ _ _ _)
   | (with_reducible exact ih1 _ _ _ _ _ _ _ _ _ _ _)
   | (with_reducible exact ih2 _ _ _ _ _ _ _ _ _ _)
   | (with_reducible exact ih3 _ _ _ _ _ _ _ _ _ _)
   | (with_reducible exact ih4 _ _ _ _ _ _ _ _)
   | (with_reducible exact spec_Kube.mono _ _)
   | (with_reducible exact spec_verNumber.mono _ _ _)
   | (with_reducible exact LeO.refl _)
   | (with_reducible exact LeO.none _)
   | (with_reducible refine LeO.ite ?_ ?_)
   | (with_reducible refine LeO.bind ?_ (fun _ => ?_))
   | exact ih0 _ _ _ _ _ _ _ _ _ _ _
   | exact ih1 _ _ _ _ _ _ _ _ _ _ _
   | exact ih2 _ _ _ _ _ _ _ _ _ _
   | exact ih3 _ _ _ _ _ _ _ _ _ _
   | exact ih4 _ _ _ _ _ _ _ _
   | exact spec_Kube.mono _ _
   | exact spec_verNumber.mono _ _ _
   | exact LeO.none _
   | refine LeO.ite ?_ ?_
   | refine LeO.bind ?_ (fun _ => ?_)
  ·
   intro y0 y1 y2 y3 y4 y5 y6 y7 y8 y9
   unfold spec_KubeOrder.j3
   repeat' first
   | (with_reducible exact ih0 _ _ _ _ _ _ _ _ _ _ _)
   | (with_reducible exact ih1 _ _ _ _ _ _ _ _ _ _ _)
   | (with_reducible exact ih2 _ _ _ _ _ _ _ _ _ _)
   | (with_reducible exact ih3 _ _ _ _ _ _ _ _ _ _)
   | (with_reducible exact ih4 _ _ _ _ _ _ _ _)
   | (with_reducible exact spec_Kube.mono _ _)
   | (with_reducible exact spec_verNumber.mono _ _ _)
   | (with_reducible exact LeO.refl _)
   | (with_reducible exact LeO.none _)
   | (with_reducible refine LeO.ite ?_ ?_)
   | (with_reducible refine LeO.bind ?_ (fun _ => ?_))
   | exact ih0 _ _ _ _ _ _ _ _ _ _ _
   | exact ih1 _ _ _ _ _ _ _ _ _ _ _
   | exact ih2 _ _ _ _ _ _ _ _ _ _
   | exact ih3 _ _ _ _ _ _ _ _ _ _
   | exact ih4 _ _ _ _ _ _ _ _
   | exact spec_Kube.mono _ _
   | exact spec_verNumber.mono _ _ _
   | exact LeO.none _
   | refine LeO.ite ?_ ?_
   | refine LeO.bind ?_ (fun _ => ?_)
  ·
   intro y0 y1 y2 y3 y4 y5 y6 y7
   unfold spec_KubeOrder.j4
   repeat' first
   | (with_reducible exact ih0 _ _ _ _ _ _ _ _ _ _ _)
   | (with_reducible exact ih1 _ _ _ _ _ _ _ _ _ _ _)
   | (with_reducible exact ih2 _ _ _ _ _ _ _ _ _ _)
   | (with_reducible exact ih3 _ _ _ _ _ _ _ _ _ _)
   | (with_reducible exact ih4 _ _ _ _ _ _ _ _)
   | (with_reducible exact spec_Kube.mono _ _)
   | (with_reducible exact spec_verNumber.mono _ _ _)
   | (with_reducible exact LeO.refl _)
   | (with_reducible exact LeO.none _)
   | (with_reducible refine LeO.ite ?_ ?_)
   | (with_reducible refine LeO.bind ?_ (fun _ => ?_))
   | exact ih0 _ _ _ _ _ _ _ _ _ _ _
   | exact ih1 _ _ _ _ _ _ _ _ _ _ _
   | exact ih2 _ _ _ _ _ _ _ _ _ _
   | exact ih3 _ _ _ _ _ _ _ _ _ _
   | exact ih4 _ _ _ _ _ _ _ _
   | exact spec_Kube.mono _ _
   | exact spec_verNumber.mono _ _ _
   | exact LeO.none _
   | refine LeO.ite ?_ ?_
   | refine LeO.bind ?_ (fun _ => ?_)
theorem spec_KubeOrder.mono : ∀ a0 a1 k, LeO (spec_KubeOrder.f k a0 a1) (spec_KubeOrder.f (k + 1) a0 a1) := by
 intro a0 a1 k
 obtain ⟨ih0, ih1, ih2, ih3, ih4⟩ := spec_KubeOrder.mono_l k
 unfold spec_KubeOrder.f
 repeat' first
   | (with_reducible exact ih0 _ _ _ _ _ _ _ _ _ _ _)
   | (with_reducible exact ih1 _ _ _ _ _ _ _ _ _ _ _)
   | (with_reducible exact ih2 _ _ _ _ _ _ _ _ _ _)
   | (with_reducible exact ih3 _ _ _ _ _ _ _ _ _ _)
   | (with_reducible exact ih4 _ _ _ _ _ _ _ _)
   | (with_reducible exact spec_Kube.mono _ _)
   | (with_reducible exact spec_verNumber.mono _ _ _)
   | (with_reducible exact LeO.refl _)
   | (with_reducible exact LeO.none _)
   | (with_reducible refine LeO.ite ?_ ?_)
   | (with_reducible refine LeO.bind ?_ (fun _ => ?_))
   | exact ih0 _ _ _ _ _ _ _ _ _ _ _
   | exact ih1 _ _ _ _ _ _ _ _ _ _ _
   | exact ih2 _ _ _ _ _ _ _ _ _ _
   | exact ih3 _ _ _ _ _ _ _ _ _ _
   | exact ih4 _ _ _ _ _ _ _ _
   | exact spec_Kube.mono _ _
   | exact spec_verNumber.mono _ _ _
   | exact LeO.none _
   | refine LeO.ite ?_ ?_
   | refine LeO.bind ?_ (fun _ => ?_)
set_option maxHeartbeats 8000000 in
set_option maxRecDepth 100000 in
theorem spec_KubeOrder.calls (k : Nat) (a0 : ByteArray) (a1 : ByteArray) (r1 : Int) (r2 : Bool) (w : World) (h : spec_KubeOrder.f k a0 a1 = some (r1, r2)) :
  Calls Tryd.prog 24 #[.string a0, .string a1] w fun e w' => e = .returned (.tuple #[.int .i64 r1, .bool r2]) ∧ Drawn0 w w' := by
 have H : ((spec_Kube.f k a0).bind fun bt112 => ((spec_Kube.f k a1).bind fun bt117 => (if bt112.2.2.2.2 = true then (spec_KubeOrder.j0 k a0 a1 bt112.1 bt112.2.1 bt112.2.2.1 bt112.2.2.2.1 bt117.1 bt117.2.1 bt117.2.2.1 bt117.2.2.2.1 (!bt117.2.2.2.2)) else (spec_KubeOrder.j0 k a0 a1 bt112.1 bt112.2.1 bt112.2.2.1 bt112.2.2.2.1 bt117.1 bt117.2.1 bt117.2.2.1 bt117.2.2.2.1 true)))) = some (r1, r2) := h
 clear h
 replace H := Option.bind_eq_some_iff.mp H
 obtain ⟨⟨t112, t113, t114, t115, t116⟩, A30, H⟩ := H
 replace H : ((spec_Kube.f k a1).bind fun bt117 => (if t116 = true then (spec_KubeOrder.j0 k a0 a1 t112 t113 t114 t115 bt117.1 bt117.2.1 bt117.2.2.1 bt117.2.2.2.1 (!bt117.2.2.2.2)) else (spec_KubeOrder.j0 k a0 a1 t112 t113 t114 t115 bt117.1 bt117.2.1 bt117.2.2.1 bt117.2.2.2.1 true))) = some (r1, r2) := H
 have A3 := aM_ A30
 clear A30
 replace H := Option.bind_eq_some_iff.mp H
 obtain ⟨⟨t117, t118, t119, t120, t121⟩, A40, H⟩ := H
 replace H : (if t116 = true then (spec_KubeOrder.j0 k a0 a1 t112 t113 t114 t115 t117 t118 t119 t120 (!t121)) else (spec_KubeOrder.j0 k a0 a1 t112 t113 t114 t115 t117 t118 t119 t120 true)) = some (r1, r2) := H
 have A4 := aM_ A40
 clear A40
 have HC5 := aM_ H
 clear H
 go_enter Tryd.func24, Tryd.ntmps24
 go_upto_region 3 with (first | ((with_reducible refine gate_callee (f := 54) rfl ?_); refine goesL_ (some 19) rfl rfl Tryd.func54 (by kernel_rfl) rfl #[.string a0] rfl (by (try simp only [List.map_toArray, List.map_cons, List.map_nil]); first | done | rfl | (simp only [List.length_drop, List.length_take]; rfl)) ?_; (with_reducible refine (spec_Kube.calls k a0 t112 t113 t114 t115 t116 _ A3.out).mono ?_); rintro e w' ⟨rfl, ⟨nd, rfl⟩⟩; refine ⟨_, rfl, ?_⟩) | ((with_reducible refine gate_callee (f := 54) rfl ?_); refine goesL_ (some 27) rfl rfl Tryd.func54 (by kernel_rfl) rfl #[.string a1] rfl (by (try simp only [List.map_toArray, List.map_cons, List.map_nil]); first | done | rfl | (simp only [List.length_drop, List.length_take]; rfl)) ?_; (with_reducible refine (spec_Kube.calls k a1 t117 t118 t119 t120 t121 _ A4.out).mono ?_); rintro e w' ⟨rfl, ⟨nd, rfl⟩⟩; refine ⟨_, rfl, ?_⟩))
 (try simp only [Act.put, List.setIfInBounds_toArray, List.set_cons_zero, List.set_cons_succ])
 go_cut [33] (fun v33 wc => ∃ (kq : Nat) (x33_4 : Bool), v33 = .bool x33_4 ∧ Aside0 (spec_KubeOrder.j0 kq a0 a1 t112 t113 t114 t115 t117 t118 t119 t120 x33_4 = some (r1, r2)) ∧ Aside0 (kq ≤ k) ∧ Drawn0 w wc)
 case first =>
  have H := HC5.out
  clear HC5
  by_cases c6 : t116 = true
  ·
   subst c6
   have H1 : (spec_KubeOrder.j0 k a0 a1 t112 t113 t114 t115 t117 t118 t119 t120 (!t121)) = some (r1, r2) := by rw [if_pos rfl] at H; exact H
   clear H
   have H := H1
   clear H1
   have H' := aM_ H
   clear H
   go_wp2
   go_meet
   case rel => exact ⟨_, (!t121), (by first | rfl | (simp; done) | (simp [*]; done)), H', ⟨by first | omega | exact Nat.le_refl _⟩, by repeat (first | exact Drawn0.refl _ | apply Drawn0.step)⟩
  ·
   replace c6 := Bool.eq_false_iff.mpr c6
   subst c6
   have H1 : (spec_KubeOrder.j0 k a0 a1 t112 t113 t114 t115 t117 t118 t119 t120 true) = some (r1, r2) := by rw [if_neg (show ¬ (false = true) by decide)] at H; exact H
   clear H
   have H := H1
   clear H1
   have H' := aM_ H
   clear H
   go_wp2
   go_meet
   case rel => exact ⟨_, (true), (by first | rfl | (simp; done) | (simp [*]; done)), H', ⟨by first | omega | exact Nat.le_refl _⟩, by repeat (first | exact Drawn0.refl _ | apply Drawn0.step)⟩
 case rest =>
  clear HC5
  try clear c2
  try clear p2
  try clear c5
  try clear c6
  obtain ⟨kq, x33_4, rfl, HA, HJ4, ⟨mc4, rfl⟩⟩ := hcut
  cases kq with
  | zero => exact absurd HA.out (by simp [spec_KubeOrder.j0])
  | succ kj4 =>
   have H := HA.out
   clear HA
   simp only [spec_KubeOrder.j0] at H
   by_cases c7 : x33_4 = true
   ·
    subst c7
    have H1 : (some (0, false)) = some (r1, r2) := by rw [if_pos rfl] at H; exact H
    clear H
    have H := H1
    clear H1
    simp only [Option.some.injEq, Prod.mk.injEq] at H
    obtain ⟨rfl, rfl⟩ := H
    go_wp2
    go_ret2
    exact ⟨by first | rfl | (simp; done) | (simp [*]; done), by repeat (first | exact Drawn0.refl _ | apply Drawn0.step)⟩
   ·
    replace c7 := Bool.eq_false_iff.mpr c7
    subst c7
    have H1 : (if t115 = true then (spec_KubeOrder.j1 kj4 a0 a1 t112 t113 t114 t115 t117 t118 t119 t120 (!t120)) else (spec_KubeOrder.j1 kj4 a0 a1 t112 t113 t114 t115 t117 t118 t119 t120 false)) = some (r1, r2) := by rw [if_neg (show ¬ (false = true) by decide)] at H; exact H
    clear H
    have H := H1
    clear H1
    have HC8 := aM_ H
    clear H
    go_upto_region 5 with (fail)
    go_cut [40] (fun v40 wc => ∃ (kq : Nat) (x40_7 : Bool), v40 = .bool x40_7 ∧ Aside0 (spec_KubeOrder.j1 kq a0 a1 t112 t113 t114 t115 t117 t118 t119 t120 x40_7 = some (r1, r2)) ∧ Aside0 (kq ≤ kj4) ∧ Drawn0 w wc)
    case first =>
     have H := HC8.out
     clear HC8
     by_cases c9 : t115 = true
     ·
      subst c9
      have H1 : (spec_KubeOrder.j1 kj4 a0 a1 t112 t113 t114 true t117 t118 t119 t120 (!t120)) = some (r1, r2) := by rw [if_pos rfl] at H; exact H
      clear H
      have H := H1
      clear H1
      have H' := aM_ H
      clear H
      go_wp2
      go_meet
      case rel => exact ⟨_, (!t120), (by first | rfl | (simp; done) | (simp [*]; done)), H', ⟨by have := HJ4.out; first | omega | exact Nat.le_refl _⟩, by repeat (first | exact Drawn0.refl _ | apply Drawn0.step)⟩
     ·
      replace c9 := Bool.eq_false_iff.mpr c9
      subst c9
      have H1 : (spec_KubeOrder.j1 kj4 a0 a1 t112 t113 t114 false t117 t118 t119 t120 false) = some (r1, r2) := by rw [if_neg (show ¬ (false = true) by decide)] at H; exact H
      clear H
      have H := H1
      clear H1
      have H' := aM_ H
      clear H
      go_wp2
      go_meet
      case rel => exact ⟨_, (false), (by first | rfl | (simp; done) | (simp [*]; done)), H', ⟨by have := HJ4.out; first | omega | exact Nat.le_refl _⟩, by repeat (first | exact Drawn0.refl _ | apply Drawn0.step)⟩
    case rest =>
     clear HC8
     try clear c2
     try clear p2
     try clear c4
     try clear c5
     try clear c6
     try clear c7
     try clear c9
     try clear p2
     obtain ⟨kq, x40_7, rfl, HA, HJ7, ⟨mc7, rfl⟩⟩ := hcut
     cases kq with
     | zero => exact absurd HA.out (by simp [spec_KubeOrder.j1])
     | succ kj7 =>
      have H := HA.out
      clear HA
      simp only [spec_KubeOrder.j1] at H
      by_cases c10 : x40_7 = true
      ·
       subst c10
       have H1 : (some (1, true)) = some (r1, r2) := by rw [if_pos rfl] at H; exact H
       clear H
       have H := H1
       clear H1
       simp only [Option.some.injEq, Prod.mk.injEq] at H
       obtain ⟨rfl, rfl⟩ := H
       go_wp2
       go_ret2
       exact ⟨by first | rfl | (simp; done) | (simp [*]; done), by repeat (first | exact Drawn0.refl _ | apply Drawn0.step)⟩
      ·
       replace c10 := Bool.eq_false_iff.mpr c10
       subst c10
       have H1 : (if t115 = true then (spec_KubeOrder.j2 kj7 a0 a1 t112 t113 t114 t115 t117 t118 t119 false) else (spec_KubeOrder.j2 kj7 a0 a1 t112 t113 t114 t115 t117 t118 t119 t120)) = some (r1, r2) := by rw [if_neg (show ¬ (false = true) by decide)] at H; exact H
       clear H
       have H := H1
       clear H1
       have HC11 := aM_ H
       clear H
       go_upto_region 7 with (fail)
       go_cut [46] (fun v46 wc => ∃ (kq : Nat) (x46_10 : Bool), v46 = .bool x46_10 ∧ Aside0 (spec_KubeOrder.j2 kq a0 a1 t112 t113 t114 t115 t117 t118 t119 x46_10 = some (r1, r2)) ∧ Aside0 (kq ≤ kj7) ∧ Drawn0 w wc)
       case first =>
        have H := HC11.out
        clear HC11
        by_cases c12 : t115 = true
        ·
         subst c12
         have H1 : (spec_KubeOrder.j2 kj7 a0 a1 t112 t113 t114 true t117 t118 t119 false) = some (r1, r2) := by rw [if_pos rfl] at H; exact H
         clear H
         have H := H1
         clear H1
         have H' := aM_ H
         clear H
         go_wp2
         go_meet
         case rel => exact ⟨_, (false), (by first | rfl | (simp; done) | (simp [*]; done)), H', ⟨by have := HJ4.out; have := HJ7.out; first | omega | exact Nat.le_refl _⟩, by repeat (first | exact Drawn0.refl _ | apply Drawn0.step)⟩
        ·
         replace c12 := Bool.eq_false_iff.mpr c12
         subst c12
         have H1 : (spec_KubeOrder.j2 kj7 a0 a1 t112 t113 t114 false t117 t118 t119 t120) = some (r1, r2) := by rw [if_neg (show ¬ (false = true) by decide)] at H; exact H
         clear H
         have H := H1
         clear H1
         have H' := aM_ H
         clear H
         go_wp2
         go_meet
         case rel => exact ⟨_, (t120), (by first | rfl | (simp; done) | (simp [*]; done)), H', ⟨by have := HJ4.out; have := HJ7.out; first | omega | exact Nat.le_refl _⟩, by repeat (first | exact Drawn0.refl _ | apply Drawn0.step)⟩
       case rest =>
        clear HC11
        try clear c1
        try clear c2
        try clear p2
        try clear c4
        try clear c5
        try clear c6
        try clear c7
        try clear c9
        try clear c10
        try clear c12
        try clear p2
        obtain ⟨kq, x46_10, rfl, HA, HJ10, ⟨mc10, rfl⟩⟩ := hcut
        cases kq with
        | zero => exact absurd HA.out (by simp [spec_KubeOrder.j2])
        | succ kj10 =>
         have H := HA.out
         clear HA
         simp only [spec_KubeOrder.j2] at H
         by_cases c13 : x46_10 = true
         ·
          subst c13
          have H1 : (some ((-1), true)) = some (r1, r2) := by rw [if_pos rfl] at H; exact H
          clear H
          have H := H1
          clear H1
          simp only [Option.some.injEq, Prod.mk.injEq] at H
          obtain ⟨rfl, rfl⟩ := H
          go_wp2
          go_ret2
          exact ⟨by first | rfl | (simp; done) | (simp [*]; done), by repeat (first | exact Drawn0.refl _ | apply Drawn0.step)⟩
         ·
          replace c13 := Bool.eq_false_iff.mpr c13
          subst c13
          have H1 : (if t115 = true then (spec_KubeOrder.j3 kj10 a0 a1 t112 t113 t114 t115 t117 t118 t119 false) else (spec_KubeOrder.j3 kj10 a0 a1 t112 t113 t114 t115 t117 t118 t119 (Op.bytesLess a0.toList a1.toList))) = some (r1, r2) := by rw [if_neg (show ¬ (false = true) by decide)] at H; exact H
          clear H
          have H := H1
          clear H1
          have HC14 := aM_ H
          clear H
          go_upto_region 9 with (fail)
          go_cut [52] (fun v52 wc => ∃ (kq : Nat) (x52_13 : Bool), v52 = .bool x52_13 ∧ Aside0 (spec_KubeOrder.j3 kq a0 a1 t112 t113 t114 t115 t117 t118 t119 x52_13 = some (r1, r2)) ∧ Aside0 (kq ≤ kj10) ∧ Drawn0 w wc)
          case first =>
           have H := HC14.out
           clear HC14
           by_cases c15 : t115 = true
           ·
            subst c15
            have H1 : (spec_KubeOrder.j3 kj10 a0 a1 t112 t113 t114 true t117 t118 t119 false) = some (r1, r2) := by rw [if_pos rfl] at H; exact H
            clear H
            have H := H1
            clear H1
            have H' := aM_ H
            clear H
            go_wp2
            go_meet
            case rel => exact ⟨_, (false), (by first | rfl | (simp; done) | (simp [*]; done)), H', ⟨by have := HJ4.out; have := HJ7.out; have := HJ10.out; first | omega | exact Nat.le_refl _⟩, by repeat (first | exact Drawn0.refl _ | apply Drawn0.step)⟩
           ·
            replace c15 := Bool.eq_false_iff.mpr c15
            subst c15
            have H1 : (spec_KubeOrder.j3 kj10 a0 a1 t112 t113 t114 false t117 t118 t119 (Op.bytesLess a0.toList a1.toList)) = some (r1, r2) := by rw [if_neg (show ¬ (false = true) by decide)] at H; exact H
            clear H
            have H := H1
            clear H1
            have H' := aM_ H
            clear H
            go_wp2
            go_meet
            case rel => exact ⟨_, ((Op.bytesLess a0.toList a1.toList)), (by first | rfl | (simp; done) | (simp [*]; done)), H', ⟨by have := HJ4.out; have := HJ7.out; have := HJ10.out; first | omega | exact Nat.le_refl _⟩, by repeat (first | exact Drawn0.refl _ | apply Drawn0.step)⟩
          case rest =>
           clear HC14
           try clear c1
           try clear c2
           try clear p2
           try clear c4
           try clear c5
           try clear c6
           try clear c7
           try clear c9
           try clear c10
           try clear c12
           try clear c13
           try clear c15
           try clear p2
           obtain ⟨kq, x52_13, rfl, HA, HJ13, ⟨mc13, rfl⟩⟩ := hcut
           cases kq with
           | zero => exact absurd HA.out (by simp [spec_KubeOrder.j3])
           | succ kj13 =>
            have H := HA.out
            clear HA
            simp only [spec_KubeOrder.j3] at H
            by_cases c16 : x52_13 = true
            ·
             subst c16
             have H1 : (some (1, true)) = some (r1, r2) := by rw [if_pos rfl] at H; exact H
             clear H
             have H := H1
             clear H1
             simp only [Option.some.injEq, Prod.mk.injEq] at H
             obtain ⟨rfl, rfl⟩ := H
             go_wp2
             go_ret2
             exact ⟨by first | rfl | (simp; done) | (simp [*]; done), by repeat (first | exact Drawn0.refl _ | apply Drawn0.step)⟩
            ·
             replace c16 := Bool.eq_false_iff.mpr c16
             subst c16
             have H1 : (if t115 = true then (spec_KubeOrder.j4 kj13 t112 t113 t114 t115 t117 t118 t119 false) else (spec_KubeOrder.j4 kj13 t112 t113 t114 t115 t117 t118 t119 (Op.bytesLess a1.toList a0.toList))) = some (r1, r2) := by rw [if_neg (show ¬ (false = true) by decide)] at H; exact H
             clear H
             have H := H1
             clear H1
             have HC17 := aM_ H
             clear H
             go_upto_region 11 with (fail)
             go_cut [60] (fun v60 wc => ∃ (kq : Nat) (x60_16 : Bool), v60 = .bool x60_16 ∧ Aside0 (spec_KubeOrder.j4 kq t112 t113 t114 t115 t117 t118 t119 x60_16 = some (r1, r2)) ∧ Aside0 (kq ≤ kj13) ∧ Drawn0 w wc)
             case first =>
              have H := HC17.out
              clear HC17
              by_cases c18 : t115 = true
              ·
               subst c18
               have H1 : (spec_KubeOrder.j4 kj13 t112 t113 t114 true t117 t118 t119 false) = some (r1, r2) := by rw [if_pos rfl] at H; exact H
               clear H
               have H := H1
               clear H1
               have H' := aM_ H
               clear H
               go_wp2
               go_meet
               case rel => exact ⟨_, (false), (by first | rfl | (simp; done) | (simp [*]; done)), H', ⟨by have := HJ4.out; have := HJ7.out; have := HJ10.out; have := HJ13.out; first | omega | exact Nat.le_refl _⟩, by repeat (first | exact Drawn0.refl _ | apply Drawn0.step)⟩
              ·
               replace c18 := Bool.eq_false_iff.mpr c18
               subst c18
               have H1 : (spec_KubeOrder.j4 kj13 t112 t113 t114 false t117 t118 t119 (Op.bytesLess a1.toList a0.toList)) = some (r1, r2) := by rw [if_neg (show ¬ (false = true) by decide)] at H; exact H
               clear H
               have H := H1
               clear H1
               have H' := aM_ H
               clear H
               have bg : ∀ W, Sem.run Tryd.prog (binOp BinOp.gtr 9 (Value.string a0) (Value.string a1)) W = .ok (Value.bool (Op.bytesLess a1.toList a0.toList)) W := fun W => by rw [← bl_gt]; rfl
               go_wp2
               go_meet
               case rel => exact ⟨_, ((Op.bytesLess a1.toList a0.toList)), (by first | rfl | (simp; done) | (simp [*]; done)), H', ⟨by have := HJ4.out; have := HJ7.out; have := HJ10.out; have := HJ13.out; first | omega | exact Nat.le_refl _⟩, by repeat (first | exact Drawn0.refl _ | apply Drawn0.step)⟩
             case rest =>
              clear HC17
              try clear c1
              try clear c2
              try clear p2
              try clear c4
              try clear c5
              try clear c6
              try clear c7
              try clear c9
              try clear c10
              try clear c12
              try clear c13
              try clear c15
              try clear c16
              try clear c18
              try clear p2
              obtain ⟨kq, x60_16, rfl, HA, HJ16, ⟨mc16, rfl⟩⟩ := hcut
              cases kq with
              | zero => exact absurd HA.out (by simp [spec_KubeOrder.j4])
              | succ kj16 =>
               have H := HA.out
               clear HA
               simp only [spec_KubeOrder.j4] at H
               by_cases c19 : x60_16 = true
               ·
                subst c19
                have H1 : (some ((-1), true)) = some (r1, r2) := by rw [if_pos rfl] at H; exact H
                clear H
                have H := H1
                clear H1
                simp only [Option.some.injEq, Prod.mk.injEq] at H
                obtain ⟨rfl, rfl⟩ := H
                go_wp2
                go_ret2
                exact ⟨by first | rfl | (simp; done) | (simp [*]; done), by repeat (first | exact Drawn0.refl _ | apply Drawn0.step)⟩
               ·
                replace c19 := Bool.eq_false_iff.mpr c19
                subst c19
                have H1 : (if t115 = true then (if t112 = t117 then ((spec_verNumber.f kj16 t113 t118).bind fun t123 => (if t123 = 0 then ((spec_verNumber.f kj16 t114 t119).bind fun t124 => (some (t124, true))) else (some (t123, true)))) else ((spec_verSign.f (wrap64 (t112 - t117))).bind fun t122 => (some (t122, true)))) else (some (0, true))) = some (r1, r2) := by rw [if_neg (show ¬ (false = true) by decide)] at H; exact H
                clear H
                have H := H1
                clear H1
                by_cases c20 : t115 = true
                ·
                 subst c20
                 have H1 : (if t112 = t117 then ((spec_verNumber.f kj16 t113 t118).bind fun t123 => (if t123 = 0 then ((spec_verNumber.f kj16 t114 t119).bind fun t124 => (some (t124, true))) else (some (t123, true)))) else ((spec_verSign.f (wrap64 (t112 - t117))).bind fun t122 => (some (t122, true)))) = some (r1, r2) := by rw [if_pos rfl] at H; exact H
                 clear H
                 have H := H1
                 clear H1
                 by_cases c21 : t112 = t117
                 ·
                  rw [if_pos c21] at H
                  have c21b0 : (t112 == t117) = true := beq_iff_eq.mpr c21
                  have c21b1 : (t112 != t117) = false := bne_eq_false_iff_eq.mpr c21
                  clear c21
                  replace H := Option.bind_eq_some_iff.mp H
                  obtain ⟨t123, A220, H⟩ := H
                  replace H : (if t123 = 0 then ((spec_verNumber.f kj16 t114 t119).bind fun t124 => (some (t124, true))) else (some (t123, true))) = some (r1, r2) := H
                  have A22 := aM_ A220
                  clear A220
                  by_cases c23 : t123 = 0
                  ·
                   rw [if_pos c23] at H
                   have c23b0 : (t123 == 0) = true := beq_iff_eq.mpr c23
                   have c23b1 : (t123 != 0) = false := bne_eq_false_iff_eq.mpr c23
                   clear c23
                   replace H := Option.bind_eq_some_iff.mp H
                   obtain ⟨t124, A240, H⟩ := H
                   replace H : (some (t124, true)) = some (r1, r2) := H
                   have A24 := aM_ A240
                   clear A240
                   simp only [Option.some.injEq, Prod.mk.injEq] at H
                   obtain ⟨rfl, rfl⟩ := H
                   go_wp2_with (first | ((with_reducible refine gate_callee (f := 56) rfl ?_); refine goesL_ (some 81) rfl rfl Tryd.func56 (by kernel_rfl) rfl #[.string t113, .string t118] rfl (by (try simp only [List.map_toArray, List.map_cons, List.map_nil]); first | done | rfl | (simp only [List.length_drop, List.length_take]; rfl)) ?_; (with_reducible refine (spec_verNumber.calls kj16 t113 t118 t123 _ A22.out).mono ?_); rintro e w' ⟨rfl, ⟨nd, rfl⟩⟩; refine ⟨_, rfl, ?_⟩) | ((with_reducible refine gate_callee (f := 56) rfl ?_); refine goesL_ (some 87) rfl rfl Tryd.func56 (by kernel_rfl) rfl #[.string t114, .string t119] rfl (by (try simp only [List.map_toArray, List.map_cons, List.map_nil]); first | done | rfl | (simp only [List.length_drop, List.length_take]; rfl)) ?_; (with_reducible refine (spec_verNumber.calls kj16 t114 t119 t124 _ A24.out).mono ?_); rintro e w' ⟨rfl, ⟨nd, rfl⟩⟩; refine ⟨_, rfl, ?_⟩))
                   go_ret2
                   exact ⟨by first | rfl | (simp; done) | (simp [*]; done), by repeat (first | exact Drawn0.refl _ | apply Drawn0.step)⟩
                  ·
                   rw [if_neg c23] at H
                   have c23b0 : (t123 == 0) = false := beq_eq_false_iff_ne.mpr c23
                   have c23b1 : (t123 != 0) = true := bne_iff_ne.mpr c23
                   simp only [Option.some.injEq, Prod.mk.injEq] at H
                   obtain ⟨rfl, rfl⟩ := H
                   go_wp2_with (first | ((with_reducible refine gate_callee (f := 56) rfl ?_); refine goesL_ (some 81) rfl rfl Tryd.func56 (by kernel_rfl) rfl #[.string t113, .string t118] rfl (by (try simp only [List.map_toArray, List.map_cons, List.map_nil]); first | done | rfl | (simp only [List.length_drop, List.length_take]; rfl)) ?_; (with_reducible refine (spec_verNumber.calls kj16 t113 t118 t123 _ A22.out).mono ?_); rintro e w' ⟨rfl, ⟨nd, rfl⟩⟩; refine ⟨_, rfl, ?_⟩))
                   go_ret2
                   exact ⟨by first | rfl | (simp; done) | (simp [*]; done), by repeat (first | exact Drawn0.refl _ | apply Drawn0.step)⟩
                 ·
                  rw [if_neg c21] at H
                  have c21b0 : (t112 == t117) = false := beq_eq_false_iff_ne.mpr c21
                  have c21b1 : (t112 != t117) = true := bne_iff_ne.mpr c21
                  replace H := Option.bind_eq_some_iff.mp H
                  obtain ⟨t122, A250, H⟩ := H
                  replace H : (some (t122, true)) = some (r1, r2) := H
                  have A25 := aM_ A250
                  clear A250
                  simp only [Option.some.injEq, Prod.mk.injEq] at H
                  obtain ⟨rfl, rfl⟩ := H
                  go_wp2_with (first | ((with_reducible refine gate_callee (f := 55) rfl ?_); refine goesL_ (some 78) rfl rfl Tryd.func55 (by kernel_rfl) rfl #[.int .i64 (wrap64 (t112 - t117))] rfl (by (try simp only [List.map_toArray, List.map_cons, List.map_nil]); first | done | rfl | (simp only [List.length_drop, List.length_take]; rfl)) ?_; (with_reducible refine (spec_verSign.calls (wrap64 (t112 - t117)) t122 _ A25.out).mono ?_); rintro e w' ⟨rfl, ⟨nd, rfl⟩⟩; refine ⟨_, rfl, ?_⟩))
                  go_ret2
                  exact ⟨by first | rfl | (simp; done) | (simp [*]; done), by repeat (first | exact Drawn0.refl _ | apply Drawn0.step)⟩
                ·
                 replace c20 := Bool.eq_false_iff.mpr c20
                 subst c20
                 have H1 : (some (0, true)) = some (r1, r2) := by rw [if_neg (show ¬ (false = true) by decide)] at H; exact H
                 clear H
                 have H := H1
                 clear H1
                 simp only [Option.some.injEq, Prod.mk.injEq] at H
                 obtain ⟨rfl, rfl⟩ := H
                 go_wp2
                 go_ret2
                 exact ⟨by first | rfl | (simp; done) | (simp [*]; done), by repeat (first | exact Drawn0.refl _ | apply Drawn0.step)⟩

end Go.Proofs.YtomoefldmgfaoaaDoor.PFnKubeOrders
