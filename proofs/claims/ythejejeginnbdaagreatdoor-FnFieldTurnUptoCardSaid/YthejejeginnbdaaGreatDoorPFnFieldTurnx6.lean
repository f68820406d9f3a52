/- Functions of the program as plain Lean functions, and that the machine's calls do what these say: written for this claim by wip/myprint.py over the kit's print.py. -/
import Derived.Test.YthejejeginnbdaaGreatDoorPFnFieldTurnx0
namespace Go.Proofs.YthejejeginnbdaaGreatDoor.PFnFieldTurn
open Go.RowKit Go.Proofs.YthejejeginnbdaaGreatDoorW.PrintWords Go.Proofs.YthejejeginnbdaaGreatDoorW.PrintLast Go.Proofs.YthejejeginnbdaaGreatDoorW.PrintMore
attribute [local go_sem] max2_int min2_int max_two min_two max_three min_three max_four min_four   -- for this text's walks alone
set_option linter.unusedVariables false
set_option linter.unusedSimpArgs false

/-! ### stringslite_HasPrefix: function 45 -/
def stringslite_HasPrefix.f (a0 : ByteArray) (a1 : ByteArray) : Option (Bool) := if (a0.size : Int) ≥ (a1.size : Int) then (if 0 ≤ (a1.size : Int) then (if (a1.size : Int) ≤ (a0.size : Int) then (some ((a0.extract 0 ((a1.size : Int) : Int).toNat).toList == a1.toList)) else (none)) else (none)) else (some false)
set_option maxHeartbeats 8000000 in
set_option maxRecDepth 100000 in
theorem stringslite_HasPrefix.calls (a0 : ByteArray) (a1 : ByteArray) (r : Bool) (w : World) (h : stringslite_HasPrefix.f a0 a1 = some r) :
    Calls Tryz.prog 45 #[.string a0, .string a1] w fun e w' => e = .returned (.bool r) ∧ Drawn0 w w' := by
  have H : (if (a0.size : Int) ≥ (a1.size : Int) then (if 0 ≤ (a1.size : Int) then (if (a1.size : Int) ≤ (a0.size : Int) then (some ((a0.extract 0 ((a1.size : Int) : Int).toNat).toList == a1.toList)) else (none)) else (none)) else (some false)) = some r := h
  clear h
  by_cases c3 : (a0.size : Int) ≥ (a1.size : Int)
  · rw [if_pos c3] at H
    have c3b0 : decide ((a1.size : Int) ≤ (a0.size : Int)) = true := decide_eq_true c3
    have c3b1 : decide (a1.size ≤ a0.size) = true := decide_eq_true (Int.ofNat_le.mp c3)
    clear c3
    by_cases c4 : 0 ≤ (a1.size : Int)
    · rw [if_pos c4] at H
      have c4b0 := eq_true c4
      have c4b1 : decide (0 ≤ (a1.size : Int)) = true := decide_eq_true c4
      clear c4
      by_cases c5 : (a1.size : Int) ≤ (a0.size : Int)
      · rw [if_pos c5] at H
        have c5b0 := eq_true c5
        have c5b1 : decide ((a1.size : Int) ≤ (a0.size : Int)) = true := decide_eq_true c5
        clear c5
        obtain rfl := Option.some.inj H
        go_enter Tryz.func45, Tryz.ntmps45
        go_wp2
        go_ret
        exact ⟨by first | rfl | (simp; done) | (simp [*]; done), by repeat (first | exact Drawn0.refl _ | apply Drawn0.step)⟩
      · rw [if_neg c5] at H
        exact absurd H (by simp)
    · rw [if_neg c4] at H
      exact absurd H (by simp)
  · rw [if_neg c3] at H
    have c3b0 : decide ((a1.size : Int) ≤ (a0.size : Int)) = false := decide_eq_false c3
    have c3b1 : decide (a1.size ≤ a0.size) = false := decide_eq_false (fun h => c3 (Int.ofNat_le.mpr h))
    clear c3
    obtain rfl := Option.some.inj H
    go_enter Tryz.func45, Tryz.ntmps45
    go_wp2
    go_ret
    exact ⟨by first | rfl | (simp; done) | (simp [*]; done), by repeat (first | exact Drawn0.refl _ | apply Drawn0.step)⟩

/-! ### strings_HasPrefix: function 38 -/
def strings_HasPrefix.f (a0 : ByteArray) (a1 : ByteArray) : Option (Bool) := (stringslite_HasPrefix.f a0 a1).bind fun t205 => (some t205)
set_option maxHeartbeats 8000000 in
set_option maxRecDepth 100000 in
theorem strings_HasPrefix.calls (a0 : ByteArray) (a1 : ByteArray) (r : Bool) (w : World) (h : strings_HasPrefix.f a0 a1 = some r) :
    Calls Tryz.prog 38 #[.string a0, .string a1] w fun e w' => e = .returned (.bool r) ∧ Drawn0 w w' := by
  have H : ((stringslite_HasPrefix.f a0 a1).bind fun t205 => (some t205)) = some r := h
  clear h
  replace H := Option.bind_eq_some_iff.mp H
  obtain ⟨t205, A30, H⟩ := H
  replace H : (some t205) = some r := H
  have A3 := Aside0.mk A30
  clear A30
  obtain rfl := Option.some.inj H
  go_enter Tryz.func38, Tryz.ntmps38
  go_wp2_with (first | ((with_reducible refine gate_callee (f := 45) rfl ?_); refine goesL_ (some 7) rfl rfl Tryz.func45 (by kernel_rfl) rfl #[.string a0, .string a1] rfl (by (try simp only [List.map_toArray, List.map_cons, List.map_nil]); first | done | rfl | (simp only [List.length_drop, List.length_take]; rfl)) ?_; (with_reducible refine (stringslite_HasPrefix.calls a0 a1 t205 _ A3.out).mono ?_); rintro e w' ⟨rfl, ⟨nd, rfl⟩⟩; refine ⟨_, rfl, ?_⟩))
  go_ret
  exact ⟨by first | rfl | (simp; done) | (simp [*]; done), by repeat (first | exact Drawn0.refl _ | apply Drawn0.step)⟩

-- NOT PRINTED: function 34 (fields_splitTerm)

-- NOT PRINTED: function 46 (fields_zzIndexAny)

-- NOT PRINTED: function 39 (fields_zzContainsAny)

-- NOT PRINTED: function 40 (bytes_NewBuffer)

-- NOT PRINTED: function 48 (bytes_Buffer_tryGrowByReslice)

-- NOT PRINTED: function 61 (bytes_Buffer_Len)

-- NOT PRINTED: function 62 (bytes_Buffer_Reset)

-- NOT PRINTED: function 63 (bytes_growSlice)

-- NOT PRINTED: function 49 (bytes_Buffer_grow)

-- NOT PRINTED: function 47 (bytes_Buffer_WriteByte)

-- NOT PRINTED: function 64 (utf8_appendRuneNonASCII)

-- NOT PRINTED: function 50 (utf8_AppendRune)

-- NOT PRINTED: function 41 (bytes_Buffer_WriteRune)

-- NOT PRINTED: function 42 (bytes_Buffer_String)

-- NOT PRINTED: function 35 (fields_UnescapeValue)

-- NOT PRINTED: function 36 (fields_andTerm_Transform)

-- NOT PRINTED: function 30 (fields_parseSelector)

-- NOT PRINTED: function 24 (fields_ParseSelector)

-- NOT PRINTED: function 14 (impl_FieldTurn)

/-! ### spec_Find: function 22 -/
def spec_Find.l0 : Nat → List (S43) → ByteArray → Int → Option (ByteArray × Bool)
  | 0, _, _, _ => none
  | k + 1, x0, x1, x6 => if x6 ≥ 0 then (if 0 ≤ x6 then (if x6 < (x0.length : Int) then (if ((rd_T43 x0 x6).f0).toList = x1.toList then (some ((rd_T43 x0 x6).f1, true)) else (spec_Find.l0 k x0 x1 (wrap64 (x6 - 1)))) else (none)) else (none)) else (some ((⟨#[]⟩ : ByteArray), false))
def spec_Find.f (k : Nat) (l0 : List (S43)) (a1 : ByteArray) : Option (ByteArray × Bool) := spec_Find.l0 k l0 a1 (wrap64 ((l0.length : Int) - 1))
theorem spec_Find.mono_l : ∀ k, (∀ y0 y1 y2, LeO (spec_Find.l0 k y0 y1 y2) (spec_Find.l0 (k + 1) y0 y1 y2))
  | 0 => fun _ _ _ r h => by simp [spec_Find.l0] at h
  | k + 1 => by
    have ih0 := spec_Find.mono_l k
    · intro y0 y1 y2
      unfold spec_Find.l0
      repeat' first
      | (with_reducible exact ih0 _ _ _)
      | (with_reducible exact LeO.refl _)
      | (with_reducible exact LeO.none _)
      | (with_reducible refine LeO.ite ?_ ?_)
      | (with_reducible refine LeO.bind ?_ (fun _ => ?_))
      | exact ih0 _ _ _
      | exact LeO.none _
      | refine LeO.ite ?_ ?_
      | refine LeO.bind ?_ (fun _ => ?_)
theorem spec_Find.mono : ∀ a0 a1 k, LeO (spec_Find.f k a0 a1) (spec_Find.f (k + 1) a0 a1) := by
  intro a0 a1 k
  have ih0 := spec_Find.mono_l k
  unfold spec_Find.f
  repeat' first
      | (with_reducible exact ih0 _ _ _)
      | (with_reducible exact LeO.refl _)
      | (with_reducible exact LeO.none _)
      | (with_reducible refine LeO.ite ?_ ?_)
      | (with_reducible refine LeO.bind ?_ (fun _ => ?_))
      | exact ih0 _ _ _
      | exact LeO.none _
      | refine LeO.ite ?_ ?_
      | refine LeO.bind ?_ (fun _ => ?_)
set_option maxHeartbeats 8000000 in
set_option maxRecDepth 100000 in
theorem spec_Find.calls (k : Nat) (A0 : Option Addr) (c0 : Nat) (l0 : List (S43)) (a1 : ByteArray) (r1 : ByteArray) (r2 : Bool) (w : World) (hr0 : Kd.C k43 w A0 l0.length l0) (hc0 : l0.length ≤ c0) (h : spec_Find.f k l0 a1 = some (r1, r2)) :
    Calls Tryz.prog 22 #[.slice A0 l0.length c0, .string a1] w fun e w' => e = .returned (.tuple #[.string r1, .bool r2]) ∧ Drawn0 w w' := by
  have HR0 := Aside0.mk hr0
  have HC0 := Aside0.mk hc0
  clear hr0 hc0
  have H : (spec_Find.l0 k l0 a1 (wrap64 ((l0.length : Int) - 1))) = some (r1, r2) := h
  clear h
  have H' := Aside0.mk H
  clear H
  go_enter Tryz.func22, Tryz.ntmps22
  go_wp2
  go_loopg [6] k (fun kq v6 w' => ∃ (x6_1 : Int), v6 = .int .i64 x6_1 ∧ Aside0 (spec_Find.l0 kq l0 a1 x6_1 = some (r1, r2)) ∧ Aside0 (kq ≤ k) ∧ Drawn0 w w')
  case atStart => exact ⟨(wrap64 ((l0.length : Int) - 1)), (by first | rfl | (simp; done) | (simp [*]; done)), H', ⟨Nat.le_refl _⟩, by repeat (first | exact Drawn0.refl _ | apply Drawn0.step)⟩
  case round =>
    clear H'
    try clear c2
    try clear p2
    obtain ⟨x6_1, rfl, HA, HK1, ⟨m1, rfl⟩⟩ := hrel
    cases gk with
    | zero => exact absurd HA.out (by simp [spec_Find.l0])
    | succ k1 =>
      have H := HA.out
      clear HA
      simp only [spec_Find.l0] at H
      by_cases c3 : x6_1 ≥ 0
      · rw [if_pos c3] at H
        have c3b0 : decide (0 ≤ x6_1) = true := decide_eq_true c3
        clear c3
        by_cases c4 : 0 ≤ x6_1
        · rw [if_pos c4] at H
          have c4b0 : decide (0 ≤ x6_1) = true := decide_eq_true c4
          clear c4
          by_cases c5 : x6_1 < (l0.length : Int)
          · rw [if_pos c5] at H
            have c5b0 : decide (x6_1 < (l0.length : Int)) = true := decide_eq_true c5
            clear c5
            by_cases c6 : ((rd_T43 l0 x6_1).f0).toList = a1.toList
            · rw [if_pos c6] at H
              have c6b0 : (((rd_T43 l0 x6_1).f0).toList == a1.toList) = true := beq_iff_eq.mpr c6
              have c6b1 : (((rd_T43 l0 x6_1).f0).toList != a1.toList) = false := bne_eq_false_iff_eq.mpr c6
              clear c6
              simp only [Option.some.injEq, Prod.mk.injEq] at H
              obtain ⟨rfl, rfl⟩ := H
              have p206 : 0 ≤ (x6_1 : Int) := of_decide_eq_true (by first | (with_reducible assumption) | assumption)
              have q206 : x6_1 < (l0.length : Int) := of_decide_eq_true (by first | (with_reducible assumption) | assumption)
              obtain ⟨ad206, e206, hx206_0, hx206_1⟩ := at_T43 HR0.out x6_1 p206 q206
              cases e206
              replace p206 := eq_true p206
              replace q206 := eq_true q206
              have p207 : 0 ≤ (x6_1 : Int) := of_decide_eq_true (by first | (with_reducible assumption) | assumption)
              have q207 : x6_1 < (l0.length : Int) := of_decide_eq_true (by first | (with_reducible assumption) | assumption)
              obtain ⟨ad207, e207, hx207_0, hx207_1⟩ := at_T43 HR0.out x6_1 p207 q207
              obtain rfl : ad206 = ad207 := (by injection e207)
              replace p207 := eq_true p207
              replace q207 := eq_true q207
              go_wp2
              go_ret2
              exact ⟨by first | rfl | (simp; done) | (simp [*]; done), by repeat (first | exact Drawn0.refl _ | apply Drawn0.step)⟩
            · rw [if_neg c6] at H
              have c6b0 : (((rd_T43 l0 x6_1).f0).toList == a1.toList) = false := beq_eq_false_iff_ne.mpr c6
              have c6b1 : (((rd_T43 l0 x6_1).f0).toList != a1.toList) = true := bne_iff_ne.mpr c6
              have H' := Aside0.mk H
              clear H
              have p206 : 0 ≤ (x6_1 : Int) := of_decide_eq_true (by first | (with_reducible assumption) | assumption)
              have q206 : x6_1 < (l0.length : Int) := of_decide_eq_true (by first | (with_reducible assumption) | assumption)
              obtain ⟨ad206, e206, hx206_0, hx206_1⟩ := at_T43 HR0.out x6_1 p206 q206
              cases e206
              replace p206 := eq_true p206
              replace q206 := eq_true q206
              go_wp2
              go_roundg k1
              case measure => have := HK1.out; omega
              case rel => exact ⟨(wrap64 (x6_1 - 1)), (by first | rfl | (simp; done) | (simp [*]; done)), H', ⟨by have := HK1.out; omega⟩, by repeat (first | exact Drawn0.refl _ | apply Drawn0.step)⟩
          · rw [if_neg c5] at H
            exact absurd H (by simp)
        · rw [if_neg c4] at H
          exact absurd H (by simp)
      · rw [if_neg c3] at H
        have c3b0 : decide (0 ≤ x6_1) = false := decide_eq_false c3
        clear c3
        simp only [Option.some.injEq, Prod.mk.injEq] at H
        obtain ⟨rfl, rfl⟩ := H
        go_wp2
        go_ret2
        exact ⟨by first | rfl | (simp; done) | (simp [*]; done), by repeat (first | exact Drawn0.refl _ | apply Drawn0.step)⟩

/-! ### spec_FieldTurn: function 15 -/
def spec_FieldTurn.l0 : Nat → List (S26) → List (S43) → ByteArray → ByteArray → List (S26) → Int → Option ((List (S26)) × Bool)
  | 0, _, _, _, _, _, _ => none
  | k + 1, x0, x1, x2, x3, x10, x11 => if x11 < (x0.length : Int) then (if 0 ≤ x11 then (if ((rd_T26 x0 x11).f0).toList = x3.toList then (some (([] : List (S26)), false)) else (if ((rd_T26 x0 x11).f0).toList = x2.toList then (if ([] : List UInt8) = ([] : List UInt8) then (spec_FieldTurn.l0 k x0 x1 x2 x3 x10 (wrap64 (x11 + 1))) else (if x10.length < 2932031007402 then (spec_FieldTurn.l0 k x0 x1 x2 x3 (x10 ++ [(⟨(⟨#[]⟩ : ByteArray), (rd_T26 x0 x11).f1, (⟨#[]⟩ : ByteArray)⟩ : S26)]) (wrap64 (x11 + 1))) else (none))) else ((spec_Find.f k x1 ((rd_T26 x0 x11).f0)).bind fun bt213 => (if bt213.2 = true then (if bt213.1.toList = ([] : List UInt8) then (if ((rd_T26 x0 x11).f2).toList = ([] : List UInt8) then (spec_FieldTurn.l0 k x0 x1 x2 x3 x10 (wrap64 (x11 + 1))) else (if x10.length < 2932031007402 then (spec_FieldTurn.l0 k x0 x1 x2 x3 (x10 ++ [(⟨bt213.1, (rd_T26 x0 x11).f1, (rd_T26 x0 x11).f2⟩ : S26)]) (wrap64 (x11 + 1))) else (none))) else (if x10.length < 2932031007402 then (spec_FieldTurn.l0 k x0 x1 x2 x3 (x10 ++ [(⟨bt213.1, (rd_T26 x0 x11).f1, (rd_T26 x0 x11).f2⟩ : S26)]) (wrap64 (x11 + 1))) else (none))) else (if ((rd_T26 x0 x11).f0).toList = ([] : List UInt8) then (if ((rd_T26 x0 x11).f2).toList = ([] : List UInt8) then (spec_FieldTurn.l0 k x0 x1 x2 x3 x10 (wrap64 (x11 + 1))) else (if x10.length < 2932031007402 then (spec_FieldTurn.l0 k x0 x1 x2 x3 (x10 ++ [(⟨(rd_T26 x0 x11).f0, (rd_T26 x0 x11).f1, (rd_T26 x0 x11).f2⟩ : S26)]) (wrap64 (x11 + 1))) else (none))) else (if x10.length < 2932031007402 then (spec_FieldTurn.l0 k x0 x1 x2 x3 (x10 ++ [(⟨(rd_T26 x0 x11).f0, (rd_T26 x0 x11).f1, (rd_T26 x0 x11).f2⟩ : S26)]) (wrap64 (x11 + 1))) else (none))))))) else (none)) else (some (x10, true))
def spec_FieldTurn.f (k : Nat) (l0 : List (S26)) (l1 : List (S43)) (a2 : ByteArray) (a3 : ByteArray) : Option ((List (S26)) × Bool) := spec_FieldTurn.l0 k l0 l1 a2 a3 ([] : List (S26)) 0
theorem spec_FieldTurn.mono_l : ∀ k, (∀ y0 y1 y2 y3 y4 y5, LeO (spec_FieldTurn.l0 k y0 y1 y2 y3 y4 y5) (spec_FieldTurn.l0 (k + 1) y0 y1 y2 y3 y4 y5))
  | 0 => fun _ _ _ _ _ _ r h => by simp [spec_FieldTurn.l0] at h
  | k + 1 => by
    have ih0 := spec_FieldTurn.mono_l k
    · intro y0 y1 y2 y3 y4 y5
      unfold spec_FieldTurn.l0
      repeat' first
      | (with_reducible exact ih0 _ _ _ _ _ _)
      | (with_reducible exact spec_Find.mono _ _ _)
      | (with_reducible exact LeO.refl _)
      | (with_reducible exact LeO.none _)
      | (with_reducible refine LeO.ite ?_ ?_)
      | (with_reducible refine LeO.bind ?_ (fun _ => ?_))
      | exact ih0 _ _ _ _ _ _
      | exact spec_Find.mono _ _ _
      | exact LeO.none _
      | refine LeO.ite ?_ ?_
      | refine LeO.bind ?_ (fun _ => ?_)
theorem spec_FieldTurn.mono : ∀ a0 a1 a2 a3 k, LeO (spec_FieldTurn.f k a0 a1 a2 a3) (spec_FieldTurn.f (k + 1) a0 a1 a2 a3) := by
  intro a0 a1 a2 a3 k
  have ih0 := spec_FieldTurn.mono_l k
  unfold spec_FieldTurn.f
  repeat' first
      | (with_reducible exact ih0 _ _ _ _ _ _)
      | (with_reducible exact spec_Find.mono _ _ _)
      | (with_reducible exact LeO.refl _)
      | (with_reducible exact LeO.none _)
      | (with_reducible refine LeO.ite ?_ ?_)
      | (with_reducible refine LeO.bind ?_ (fun _ => ?_))
      | exact ih0 _ _ _ _ _ _
      | exact spec_Find.mono _ _ _
      | exact LeO.none _
      | refine LeO.ite ?_ ?_
      | refine LeO.bind ?_ (fun _ => ?_)
set_option maxHeartbeats 8000000 in
set_option maxRecDepth 100000 in
theorem spec_FieldTurn.calls (k : Nat) (A0 : Option Addr) (c0 : Nat) (l0 : List (S26)) (A1 : Option Addr) (c1 : Nat) (l1 : List (S43)) (a2 : ByteArray) (a3 : ByteArray) (r1 : List (S26)) (r2 : Bool) (w : World) (hr0 : Kd.C k26 w A0 l0.length l0) (hc0 : l0.length ≤ c0) (hr1 : Kd.C k43 w A1 l1.length l1) (hc1 : l1.length ≤ c1) (h : spec_FieldTurn.f k l0 l1 a2 a3 = some (r1, r2)) :
    Calls Tryz.prog 15 #[.slice A0 l0.length c0, .slice A1 l1.length c1, .string a2, .string a3] w fun e w' => ∃ v0_ : Value, e = .returned (.tuple #[v0_, .bool r2]) ∧ Kd.R k26 26 w' w.heap.size (fun _ => True) v0_ r1 ∧ Below w.heap.size w w' := by
  have hu26 := Tryz.underlying26
  have HR0 := Aside0.mk hr0
  have HC0 := Aside0.mk hc0
  clear hr0 hc0
  have HR1 := Aside0.mk hr1
  have HC1 := Aside0.mk hc1
  clear hr1 hc1
  have HB := Aside0.mk (Below.refl w.heap.size w)
  have H : (spec_FieldTurn.l0 k l0 l1 a2 a3 ([] : List (S26)) 0) = some (r1, r2) := h
  clear h
  have H' := Aside0.mk H
  clear H
  go_enter Tryz.func15, Tryz.ntmps15
  go_wp2
  go_loopg [10, 11] k (fun kq v10 v11 w' => ∃ (x10_1 : List (S26)) (x11_1 : Int), v11 = .int .i64 x11_1 ∧ Aside0 (spec_FieldTurn.l0 kq l0 l1 a2 a3 x10_1 x11_1 = some (r1, r2)) ∧ Aside0 (kq ≤ k) ∧ Aside0 (Kd.R k26 26 w' w.heap.size (fun _ => True) v10 x10_1) ∧ Aside0 (Below w.heap.size w w'))
  case atStart => exact ⟨(([] : List (S26))), (0), (by first | rfl | (simp; done) | (simp [*]; done)), H', ⟨Nat.le_refl _⟩, ⟨by first | exact Kd.R_nil _ _ _ _ _ | exact Kd.N_nil _ _ _ _ _ | exact Kd.V_nil _ _ _ _ _ | exact Kd.Q_nil _ _ _ _ _ | exact Kd.S_nil _ _ _ _ _⟩, ⟨by repeat (first | (with_reducible first | exact HB.out | apply below_alloc | apply pw_below_drewN | apply below_drew1) | exact HB.out)⟩⟩
  case round =>
    clear H'
    try clear c1
    try clear p2
    obtain ⟨x10_1, x11_1, rfl, HA, HK1, HO_10, HB⟩ := hrel
    cases gk with
    | zero => exact absurd HA.out (by simp [spec_FieldTurn.l0])
    | succ k1 =>
      have H := HA.out
      clear HA
      simp only [spec_FieldTurn.l0] at H
      by_cases c5 : x11_1 < (l0.length : Int)
      · rw [if_pos c5] at H
        have c5b0 : decide (x11_1 < (l0.length : Int)) = true := decide_eq_true c5
        clear c5
        by_cases c6 : 0 ≤ x11_1
        · rw [if_pos c6] at H
          have c6b0 : decide (0 ≤ x11_1) = true := decide_eq_true c6
          clear c6
          by_cases c7 : ((rd_T26 l0 x11_1).f0).toList = a3.toList
          · rw [if_pos c7] at H
            have c7b0 : (((rd_T26 l0 x11_1).f0).toList == a3.toList) = true := beq_iff_eq.mpr c7
            have c7b1 : (((rd_T26 l0 x11_1).f0).toList != a3.toList) = false := bne_eq_false_iff_eq.mpr c7
            clear c7
            simp only [Option.some.injEq, Prod.mk.injEq] at H
            obtain ⟨rfl, rfl⟩ := H
            have p208 : 0 ≤ (x11_1 : Int) := of_decide_eq_true (by first | (with_reducible assumption) | assumption)
            have q208 : x11_1 < (l0.length : Int) := of_decide_eq_true (by first | (with_reducible assumption) | assumption)
            obtain ⟨ad208, e208, hx208_0, hx208_1, hx208_2⟩ := at_T26 HR0.out x11_1 p208 q208
            cases e208
            replace hx208_0 := (HB.out.cell (World.block_lt_of_cell? w _ hx208_0)).trans hx208_0
            replace hx208_1 := (HB.out.cell (World.block_lt_of_cell? w _ hx208_1)).trans hx208_1
            replace hx208_2 := (HB.out.cell (World.block_lt_of_cell? w _ hx208_2)).trans hx208_2
            replace p208 := eq_true p208
            replace q208 := eq_true q208
            go_wp2_with (first | ((with_reducible refine gate_dst (N := 12) rfl ?_); refine box_event ?hg (N := 12) ?hd (cs := #[.string (⟨#[]⟩ : ByteArray), .string (⟨#[]⟩ : ByteArray), .string (⟨#[]⟩ : ByteArray)]) (t := 26) ?hr ?_; (case hd => rfl); (case hg => rfl); (case hr => first | (go_simp; done) | (go_simp; rfl)); intro gb209 hg w8 hbox hb; have n0_ := Aside0.mk (Kd.R_below (Kd.R_elderB (by (with_reducible repeat (first | apply Kd.R_alloc | apply Kd.R_drewN | apply Kd.R_drew)); exact HO_10.out) gb209 (Nat.le_of_eq hg.symm)) hb); have n1_ := Aside0.mk (below_step (by repeat (first | (with_reducible first | exact HB.out | apply below_alloc | apply pw_below_drewN | apply below_drew1) | exact HB.out)) hb); have n2_ := Aside0.mk (hbox); have n3_ := Aside0.mk ((by rw [hg]; exact (below_size (by repeat (first | (with_reducible first | exact HB.out | apply below_alloc | apply pw_below_drewN | apply below_drew1) | exact HB.out))) : w.heap.size ≤ gb209)); have n4_ := Aside0.mk ((by rw [hg]; exact (below_size (by repeat (first | (with_reducible first | exact HB.out | apply below_alloc | apply pw_below_drewN | apply below_drew1) | exact HB.out))) : w.heap.size ≤ gb209)); clear HO_10; clear HB; have HO_10 := n0_; have HB := n1_; have BK209 := n2_; have GW209 := n3_; have GE209 := n4_; clear n0_ n1_ n2_ n3_ n4_; clear hb hbox hg; have hcz9_0 : w8.cell? ⟨gb209, 0, none⟩ = some (.string (⟨#[]⟩ : ByteArray)) := (blk_cell BK209.out 0).trans rfl; have hcz9_1 : w8.cell? ⟨gb209, 1, none⟩ = some (.string (⟨#[]⟩ : ByteArray)) := (blk_cell BK209.out 1).trans rfl; have hcz9_2 : w8.cell? ⟨gb209, 2, none⟩ = some (.string (⟨#[]⟩ : ByteArray)) := (blk_cell BK209.out 2).trans rfl; have hfz9_0 := blk_frozen BK209.out 0; have hfz9_1 := blk_frozen BK209.out 1; have hfz9_2 := blk_frozen BK209.out 2))
            go_ret2
            exact ⟨_, by first | rfl | (simp [errW_none, errW_some] <;> rfl) | (simp [*, errW_none, errW_some] <;> rfl), by first | exact Kd.R_nil _ _ _ _ _ | exact Kd.N_nil _ _ _ _ _ | exact Kd.V_nil _ _ _ _ _ | exact Kd.Q_nil _ _ _ _ _ | exact Kd.S_nil _ _ _ _ _, by repeat (first | (with_reducible first | exact HB.out | apply below_alloc | apply pw_below_drewN | apply below_drew1 | refine below_set ?_ GE209.out) | exact HB.out)⟩
          · rw [if_neg c7] at H
            have c7b0 : (((rd_T26 l0 x11_1).f0).toList == a3.toList) = false := beq_eq_false_iff_ne.mpr c7
            have c7b1 : (((rd_T26 l0 x11_1).f0).toList != a3.toList) = true := bne_iff_ne.mpr c7
            by_cases c10 : ((rd_T26 l0 x11_1).f0).toList = a2.toList
            · rw [if_pos c10] at H
              have c10b0 : (((rd_T26 l0 x11_1).f0).toList == a2.toList) = true := beq_iff_eq.mpr c10
              have c10b1 : (((rd_T26 l0 x11_1).f0).toList != a2.toList) = false := bne_eq_false_iff_eq.mpr c10
              clear c10
              by_cases c11 : ([] : List UInt8) = ([] : List UInt8)
              · rw [if_pos trivial] at H
                have c11b0 : (([] : List UInt8) == ([] : List UInt8)) = true := beq_iff_eq.mpr c11
                have c11b1 : (([] : List UInt8) != ([] : List UInt8)) = false := bne_eq_false_iff_eq.mpr c11
                clear c11
                have H' := Aside0.mk H
                clear H
                have p208 : 0 ≤ (x11_1 : Int) := of_decide_eq_true (by first | (with_reducible assumption) | assumption)
                have q208 : x11_1 < (l0.length : Int) := of_decide_eq_true (by first | (with_reducible assumption) | assumption)
                obtain ⟨ad208, e208, hx208_0, hx208_1, hx208_2⟩ := at_T26 HR0.out x11_1 p208 q208
                cases e208
                replace hx208_0 := (HB.out.cell (World.block_lt_of_cell? w _ hx208_0)).trans hx208_0
                replace hx208_1 := (HB.out.cell (World.block_lt_of_cell? w _ hx208_1)).trans hx208_1
                replace hx208_2 := (HB.out.cell (World.block_lt_of_cell? w _ hx208_2)).trans hx208_2
                replace p208 := eq_true p208
                replace q208 := eq_true q208
                go_wp2_with (first | ((with_reducible refine gate_dst (N := 12) rfl ?_); refine box_event ?hg (N := 12) ?hd (cs := #[.string (⟨#[]⟩ : ByteArray), .string (⟨#[]⟩ : ByteArray), .string (⟨#[]⟩ : ByteArray)]) (t := 26) ?hr ?_; (case hd => rfl); (case hg => rfl); (case hr => first | (go_simp; done) | (go_simp; rfl)); intro gb209 hg w12 hbox hb; have n0_ := Aside0.mk (Kd.R_below (Kd.R_elderB (by (with_reducible repeat (first | apply Kd.R_alloc | apply Kd.R_drewN | apply Kd.R_drew)); exact HO_10.out) gb209 (Nat.le_of_eq hg.symm)) hb); have n1_ := Aside0.mk (below_step (by repeat (first | (with_reducible first | exact HB.out | apply below_alloc | apply pw_below_drewN | apply below_drew1) | exact HB.out)) hb); have n2_ := Aside0.mk (hbox); have n3_ := Aside0.mk ((by rw [hg]; exact (below_size (by repeat (first | (with_reducible first | exact HB.out | apply below_alloc | apply pw_below_drewN | apply below_drew1) | exact HB.out))) : w.heap.size ≤ gb209)); have n4_ := Aside0.mk ((by rw [hg]; exact (below_size (by repeat (first | (with_reducible first | exact HB.out | apply below_alloc | apply pw_below_drewN | apply below_drew1) | exact HB.out))) : w.heap.size ≤ gb209)); clear HO_10; clear HB; have HO_10 := n0_; have HB := n1_; have BK209 := n2_; have GW209 := n3_; have GE209 := n4_; clear n0_ n1_ n2_ n3_ n4_; clear hb hbox hg; have hcz13_0 : w12.cell? ⟨gb209, 0, none⟩ = some (.string (⟨#[]⟩ : ByteArray)) := (blk_cell BK209.out 0).trans rfl; have hcz13_1 : w12.cell? ⟨gb209, 1, none⟩ = some (.string (⟨#[]⟩ : ByteArray)) := (blk_cell BK209.out 1).trans rfl; have hcz13_2 : w12.cell? ⟨gb209, 2, none⟩ = some (.string (⟨#[]⟩ : ByteArray)) := (blk_cell BK209.out 2).trans rfl; have hfz13_0 := blk_frozen BK209.out 0; have hfz13_1 := blk_frozen BK209.out 1; have hfz13_2 := blk_frozen BK209.out 2; have hE := blk_put (blk_put (blk_put (blk_put (blk_put BK209.out 0 (.string ((rd_T26 l0 x11_1).f0)) rfl) 1 (.string ((rd_T26 l0 x11_1).f1)) rfl) 2 (.string ((rd_T26 l0 x11_1).f2)) rfl) 0 (.string (⟨#[]⟩ : ByteArray)) rfl) 2 (.string (⟨#[]⟩ : ByteArray)) rfl; have hE0 : _ = some (Value.string (⟨#[]⟩ : ByteArray)) := (blk_cell hE 0).trans rfl; have hE2 : _ = some (Value.string (⟨#[]⟩ : ByteArray)) := (blk_cell hE 2).trans rfl; clear hE))
                go_roundg k1
                case measure => have := HK1.out; omega
                case rel => exact ⟨(x10_1), (wrap64 (x11_1 + 1)), (by first | rfl | (simp; done) | (simp [*]; done)), H', ⟨by have := HK1.out; omega⟩, ⟨by (with_reducible repeat (first | apply Kd.R_alloc | apply Kd.R_drewN | apply Kd.R_drew)); exact Kd.R_mono (Kd.R_far (p := ⟨gb209, 2, none⟩) (Kd.R_far (p := ⟨gb209, 0, none⟩) (Kd.R_far (p := ⟨gb209, 2, none⟩) (Kd.R_far (p := ⟨gb209, 1, none⟩) (Kd.R_far (p := ⟨gb209, 0, none⟩) (Kd.R_mono HO_10.out (fun k_ hk => (⟨hk, hk.2⟩ : _ ∧ k_ ≠ gb209))) (fun _ hk => hk.2) (.string ((rd_T26 l0 x11_1).f0))) (fun _ hk => hk.2) (.string ((rd_T26 l0 x11_1).f1))) (fun _ hk => hk.2) (.string ((rd_T26 l0 x11_1).f2))) (fun _ hk => hk.2) (.string (⟨#[]⟩ : ByteArray))) (fun _ hk => hk.2) (.string (⟨#[]⟩ : ByteArray))) (fun _ hk => trivial)⟩, ⟨by repeat (first | (with_reducible first | exact HB.out | apply below_alloc | apply pw_below_drewN | apply below_drew1 | refine below_set ?_ GE209.out) | exact HB.out)⟩⟩
              · exact absurd rfl c11
            · rw [if_neg c10] at H
              have c10b0 : (((rd_T26 l0 x11_1).f0).toList == a2.toList) = false := beq_eq_false_iff_ne.mpr c10
              have c10b1 : (((rd_T26 l0 x11_1).f0).toList != a2.toList) = true := bne_iff_ne.mpr c10
              replace H := Option.bind_eq_some_iff.mp H
              obtain ⟨⟨t213, t214⟩, A180, H⟩ := H
              replace H : (if t214 = true then (if t213.toList = ([] : List UInt8) then (if ((rd_T26 l0 x11_1).f2).toList = ([] : List UInt8) then (spec_FieldTurn.l0 k1 l0 l1 a2 a3 x10_1 (wrap64 (x11_1 + 1))) else (if x10_1.length < 2932031007402 then (spec_FieldTurn.l0 k1 l0 l1 a2 a3 (x10_1 ++ [(⟨t213, (rd_T26 l0 x11_1).f1, (rd_T26 l0 x11_1).f2⟩ : S26)]) (wrap64 (x11_1 + 1))) else (none))) else (if x10_1.length < 2932031007402 then (spec_FieldTurn.l0 k1 l0 l1 a2 a3 (x10_1 ++ [(⟨t213, (rd_T26 l0 x11_1).f1, (rd_T26 l0 x11_1).f2⟩ : S26)]) (wrap64 (x11_1 + 1))) else (none))) else (if ((rd_T26 l0 x11_1).f0).toList = ([] : List UInt8) then (if ((rd_T26 l0 x11_1).f2).toList = ([] : List UInt8) then (spec_FieldTurn.l0 k1 l0 l1 a2 a3 x10_1 (wrap64 (x11_1 + 1))) else (if x10_1.length < 2932031007402 then (spec_FieldTurn.l0 k1 l0 l1 a2 a3 (x10_1 ++ [(⟨(rd_T26 l0 x11_1).f0, (rd_T26 l0 x11_1).f1, (rd_T26 l0 x11_1).f2⟩ : S26)]) (wrap64 (x11_1 + 1))) else (none))) else (if x10_1.length < 2932031007402 then (spec_FieldTurn.l0 k1 l0 l1 a2 a3 (x10_1 ++ [(⟨(rd_T26 l0 x11_1).f0, (rd_T26 l0 x11_1).f1, (rd_T26 l0 x11_1).f2⟩ : S26)]) (wrap64 (x11_1 + 1))) else (none)))) = some (r1, r2) := H
              have A18 := Aside0.mk A180
              clear A180
              by_cases c19 : t214 = true
              · subst c19
                have H1 : (if t213.toList = ([] : List UInt8) then (if ((rd_T26 l0 x11_1).f2).toList = ([] : List UInt8) then (spec_FieldTurn.l0 k1 l0 l1 a2 a3 x10_1 (wrap64 (x11_1 + 1))) else (if x10_1.length < 2932031007402 then (spec_FieldTurn.l0 k1 l0 l1 a2 a3 (x10_1 ++ [(⟨t213, (rd_T26 l0 x11_1).f1, (rd_T26 l0 x11_1).f2⟩ : S26)]) (wrap64 (x11_1 + 1))) else (none))) else (if x10_1.length < 2932031007402 then (spec_FieldTurn.l0 k1 l0 l1 a2 a3 (x10_1 ++ [(⟨t213, (rd_T26 l0 x11_1).f1, (rd_T26 l0 x11_1).f2⟩ : S26)]) (wrap64 (x11_1 + 1))) else (none))) = some (r1, r2) := by rw [if_pos rfl] at H; exact H
                clear H
                have H := H1
                clear H1
                by_cases c20 : t213.toList = ([] : List UInt8)
                · rw [if_pos c20] at H
                  have c20b0 : (t213.toList == ([] : List UInt8)) = true := beq_iff_eq.mpr c20
                  have c20b1 : (t213.toList != ([] : List UInt8)) = false := bne_eq_false_iff_eq.mpr c20
                  clear c20
                  by_cases c21 : ((rd_T26 l0 x11_1).f2).toList = ([] : List UInt8)
                  · rw [if_pos c21] at H
                    have c21b0 : (((rd_T26 l0 x11_1).f2).toList == ([] : List UInt8)) = true := beq_iff_eq.mpr c21
                    have c21b1 : (((rd_T26 l0 x11_1).f2).toList != ([] : List UInt8)) = false := bne_eq_false_iff_eq.mpr c21
                    clear c21
                    have H' := Aside0.mk H
                    clear H
                    have p208 : 0 ≤ (x11_1 : Int) := of_decide_eq_true (by first | (with_reducible assumption) | assumption)
                    have q208 : x11_1 < (l0.length : Int) := of_decide_eq_true (by first | (with_reducible assumption) | assumption)
                    obtain ⟨ad208, e208, hx208_0, hx208_1, hx208_2⟩ := at_T26 HR0.out x11_1 p208 q208
                    cases e208
                    replace hx208_0 := (HB.out.cell (World.block_lt_of_cell? w _ hx208_0)).trans hx208_0
                    replace hx208_1 := (HB.out.cell (World.block_lt_of_cell? w _ hx208_1)).trans hx208_1
                    replace hx208_2 := (HB.out.cell (World.block_lt_of_cell? w _ hx208_2)).trans hx208_2
                    replace p208 := eq_true p208
                    replace q208 := eq_true q208
                    go_wp2_with (first | ((with_reducible refine gate_dst (N := 12) rfl ?_); refine box_event ?hg (N := 12) ?hd (cs := #[.string (⟨#[]⟩ : ByteArray), .string (⟨#[]⟩ : ByteArray), .string (⟨#[]⟩ : ByteArray)]) (t := 26) ?hr ?_; (case hd => rfl); (case hg => rfl); (case hr => first | (go_simp; done) | (go_simp; rfl)); intro gb209 hg w22 hbox hb; have n0_ := Aside0.mk (Kd.R_below (Kd.R_elderB (by (with_reducible repeat (first | apply Kd.R_alloc | apply Kd.R_drewN | apply Kd.R_drew)); exact HO_10.out) gb209 (Nat.le_of_eq hg.symm)) hb); have n1_ := Aside0.mk (below_step (by repeat (first | (with_reducible first | exact HB.out | apply below_alloc | apply pw_below_drewN | apply below_drew1) | exact HB.out)) hb); have n2_ := Aside0.mk (hbox); have n3_ := Aside0.mk ((by rw [hg]; exact (below_size (by repeat (first | (with_reducible first | exact HB.out | apply below_alloc | apply pw_below_drewN | apply below_drew1) | exact HB.out))) : w.heap.size ≤ gb209)); have n4_ := Aside0.mk ((by rw [hg]; exact (below_size (by repeat (first | (with_reducible first | exact HB.out | apply below_alloc | apply pw_below_drewN | apply below_drew1) | exact HB.out))) : w.heap.size ≤ gb209)); clear HO_10; clear HB; have HO_10 := n0_; have HB := n1_; have BK209 := n2_; have GW209 := n3_; have GE209 := n4_; clear n0_ n1_ n2_ n3_ n4_; clear hb hbox hg; have hcz23_0 : w22.cell? ⟨gb209, 0, none⟩ = some (.string (⟨#[]⟩ : ByteArray)) := (blk_cell BK209.out 0).trans rfl; have hcz23_1 : w22.cell? ⟨gb209, 1, none⟩ = some (.string (⟨#[]⟩ : ByteArray)) := (blk_cell BK209.out 1).trans rfl; have hcz23_2 : w22.cell? ⟨gb209, 2, none⟩ = some (.string (⟨#[]⟩ : ByteArray)) := (blk_cell BK209.out 2).trans rfl; have hfz23_0 := blk_frozen BK209.out 0; have hfz23_1 := blk_frozen BK209.out 1; have hfz23_2 := blk_frozen BK209.out 2) | ((with_reducible refine gate_callee (f := 22) rfl ?_); refine goesL_ (some 39) rfl rfl Tryz.func22 (by kernel_rfl) rfl #[.slice A1 l1.length c1, .string ((rd_T26 l0 x11_1).f0)] rfl (by (try simp only [List.map_toArray, List.map_cons, List.map_nil]); first | done | rfl | (simp only [List.length_drop, List.length_take]; rfl)) ?_; (with_reducible refine (spec_Find.calls k1 _ _ l1 ((rd_T26 l0 x11_1).f0) t213 true _ ?side1 ?side2 A18.out).mono ?_); (case side1 => exact Kd.C_below HR1.out (by repeat (first | (with_reducible first | exact HB.out | apply below_alloc | apply pw_below_drewN | apply below_drew1 | refine below_set ?_ GE209.out) | exact HB.out))); (case side2 => exact HC1.out); rintro e w' ⟨rfl, ⟨nd, rfl⟩⟩; refine ⟨_, rfl, ?_⟩))
                    go_roundg k1
                    case measure => have := HK1.out; omega
                    case rel => exact ⟨(x10_1), (wrap64 (x11_1 + 1)), (by first | rfl | (simp; done) | (simp [*]; done)), H', ⟨by have := HK1.out; omega⟩, ⟨by (with_reducible repeat (first | apply Kd.R_alloc | apply Kd.R_drewN | apply Kd.R_drew)); exact Kd.R_mono (Kd.R_far (p := ⟨gb209, 0, none⟩) (Kd.R_far (p := ⟨gb209, 2, none⟩) (Kd.R_far (p := ⟨gb209, 1, none⟩) (Kd.R_far (p := ⟨gb209, 0, none⟩) (Kd.R_mono HO_10.out (fun k_ hk => (⟨hk, hk.2⟩ : _ ∧ k_ ≠ gb209))) (fun _ hk => hk.2) (.string ((rd_T26 l0 x11_1).f0))) (fun _ hk => hk.2) (.string ((rd_T26 l0 x11_1).f1))) (fun _ hk => hk.2) (.string ((rd_T26 l0 x11_1).f2))) (fun _ hk => hk.2) (.string t213)) (fun _ hk => trivial)⟩, ⟨by repeat (first | (with_reducible first | exact HB.out | apply below_alloc | apply pw_below_drewN | apply below_drew1 | refine below_set ?_ GE209.out) | exact HB.out)⟩⟩
                  · rw [if_neg c21] at H
                    have c21b0 : (((rd_T26 l0 x11_1).f2).toList == ([] : List UInt8)) = false := beq_eq_false_iff_ne.mpr c21
                    have c21b1 : (((rd_T26 l0 x11_1).f2).toList != ([] : List UInt8)) = true := bne_iff_ne.mpr c21
                    by_cases c24 : x10_1.length < 2932031007402
                    · rw [if_pos c24] at H
                      have LMc24 := Aside0.mk c24
                      clear c24
                      obtain ⟨y215, hy215⟩ : ∃ y_ : List (S26), y_ = (x10_1 ++ [(⟨t213, (rd_T26 l0 x11_1).f1, (rd_T26 l0 x11_1).f2⟩ : S26)]) := ⟨_, rfl⟩
                      replace H : (spec_FieldTurn.l0 k1 l0 l1 a2 a3 y215 (wrap64 (x11_1 + 1))) = some (r1, r2) := by first | (rw [hy215]; with_reducible exact H) | (have H2_ := (Option.bind_some _ _).symm.trans H; rw [hy215]; with_reducible exact H2_) | (have H2_ := (Option.bind_some _ _).symm.trans H; with_reducible exact H2_) | with_reducible exact H | (rw [hy215]; exact H) | exact H
                      have Ny215 := Aside0.mk hy215
                      clear hy215
                      have H' := Aside0.mk H
                      clear H
                      have p208 : 0 ≤ (x11_1 : Int) := of_decide_eq_true (by first | (with_reducible assumption) | assumption)
                      have q208 : x11_1 < (l0.length : Int) := of_decide_eq_true (by first | (with_reducible assumption) | assumption)
                      obtain ⟨ad208, e208, hx208_0, hx208_1, hx208_2⟩ := at_T26 HR0.out x11_1 p208 q208
                      cases e208
                      replace hx208_0 := (HB.out.cell (World.block_lt_of_cell? w _ hx208_0)).trans hx208_0
                      replace hx208_1 := (HB.out.cell (World.block_lt_of_cell? w _ hx208_1)).trans hx208_1
                      replace hx208_2 := (HB.out.cell (World.block_lt_of_cell? w _ hx208_2)).trans hx208_2
                      replace p208 := eq_true p208
                      replace q208 := eq_true q208
                      go_wp2_with (first | ((with_reducible refine gate_dst (N := 12) rfl ?_); refine box_event ?hg (N := 12) ?hd (cs := #[.string (⟨#[]⟩ : ByteArray), .string (⟨#[]⟩ : ByteArray), .string (⟨#[]⟩ : ByteArray)]) (t := 26) ?hr ?_; (case hd => rfl); (case hg => rfl); (case hr => first | (go_simp; done) | (go_simp; rfl)); intro gb209 hg w25 hbox hb; have n0_ := Aside0.mk (Kd.R_below (Kd.R_elderB (by (with_reducible repeat (first | apply Kd.R_alloc | apply Kd.R_drewN | apply Kd.R_drew)); exact HO_10.out) gb209 (Nat.le_of_eq hg.symm)) hb); have n1_ := Aside0.mk (below_step (by repeat (first | (with_reducible first | exact HB.out | apply below_alloc | apply pw_below_drewN | apply below_drew1) | exact HB.out)) hb); have n2_ := Aside0.mk (hbox); have n3_ := Aside0.mk ((by rw [hg]; exact (below_size (by repeat (first | (with_reducible first | exact HB.out | apply below_alloc | apply pw_below_drewN | apply below_drew1) | exact HB.out))) : w.heap.size ≤ gb209)); have n4_ := Aside0.mk ((by rw [hg]; exact (below_size (by repeat (first | (with_reducible first | exact HB.out | apply below_alloc | apply pw_below_drewN | apply below_drew1) | exact HB.out))) : w.heap.size ≤ gb209)); clear HO_10; clear HB; have HO_10 := n0_; have HB := n1_; have BK209 := n2_; have GW209 := n3_; have GE209 := n4_; clear n0_ n1_ n2_ n3_ n4_; clear hb hbox hg; have hcz26_0 : w25.cell? ⟨gb209, 0, none⟩ = some (.string (⟨#[]⟩ : ByteArray)) := (blk_cell BK209.out 0).trans rfl; have hcz26_1 : w25.cell? ⟨gb209, 1, none⟩ = some (.string (⟨#[]⟩ : ByteArray)) := (blk_cell BK209.out 1).trans rfl; have hcz26_2 : w25.cell? ⟨gb209, 2, none⟩ = some (.string (⟨#[]⟩ : ByteArray)) := (blk_cell BK209.out 2).trans rfl; have hfz26_0 := blk_frozen BK209.out 0; have hfz26_1 := blk_frozen BK209.out 1; have hfz26_2 := blk_frozen BK209.out 2) | ((with_reducible refine gate_callee (f := 22) rfl ?_); refine goesL_ (some 39) rfl rfl Tryz.func22 (by kernel_rfl) rfl #[.slice A1 l1.length c1, .string ((rd_T26 l0 x11_1).f0)] rfl (by (try simp only [List.map_toArray, List.map_cons, List.map_nil]); first | done | rfl | (simp only [List.length_drop, List.length_take]; rfl)) ?_; (with_reducible refine (spec_Find.calls k1 _ _ l1 ((rd_T26 l0 x11_1).f0) t213 true _ ?side1 ?side2 A18.out).mono ?_); (case side1 => exact Kd.C_below HR1.out (by repeat (first | (with_reducible first | exact HB.out | apply below_alloc | apply pw_below_drewN | apply below_drew1 | refine below_set ?_ GE209.out) | exact HB.out))); (case side2 => exact HC1.out); rintro e w' ⟨rfl, ⟨nd, rfl⟩⟩; refine ⟨_, rfl, ?_⟩) | ((with_reducible refine gate_builtin (b := .append) (xs := #[.tmp 53, .tmp 55]) rfl ?_); at_builtin; refine Kd.R_append k26 (w0 := w) w.heap.size rfl (.tmp 53) (.tmp 55) 27 26 (.agg #[(.string ⟨#[]⟩), (.string ⟨#[]⟩), (.string ⟨#[]⟩)]) 48 rfl Tryz.underlying27 info26 rfl (by decide) (by omega) u10 x10_1 (⟨t213, (rd_T26 l0 x11_1).f1, (rd_T26 l0 x11_1).f2⟩ : S26) [.string t213, .string ((rd_T26 l0 x11_1).f1), .string ((rd_T26 l0 x11_1).f2)] (fun k_ => k_ ≠ gb209) (fun _ => False) rfl (by first | (go_simp; done) | (go_simp; rfl)) ?aP (fun _ hk => hk.elim) ?aF ?aO ?aB ?aS ?aL ?_; (case aP => exact k26_mkM _ _ _ (⟨t213, (rd_T26 l0 x11_1).f1, (rd_T26 l0 x11_1).f2⟩ : S26)); (case aB => exact (by repeat (first | (with_reducible first | exact HB.out | apply below_alloc | apply pw_below_drewN | apply below_drew1 | refine below_set ?_ GE209.out) | exact HB.out))); (case aF => exact (fun k_ hk => Kd.freshB (g := gb209) (o := .cells #[.string t213, .string ((rd_T26 l0 x11_1).f1), .string ((rd_T26 l0 x11_1).f2)] 26 (0, 0)) (by (with_reducible repeat (first | refine blk_drewN ?_ _ | refine blk_drew ?_ | refine blk_alloc ?_ _)); refine blk_put (cs := #[.string ((rd_T26 l0 x11_1).f0), .string ((rd_T26 l0 x11_1).f1), .string ((rd_T26 l0 x11_1).f2)]) ?_ 0 _ rfl; (with_reducible repeat (first | refine blk_drewN ?_ _ | refine blk_drew ?_ | refine blk_alloc ?_ _)); refine blk_put (cs := #[.string ((rd_T26 l0 x11_1).f0), .string ((rd_T26 l0 x11_1).f1), .string (⟨#[]⟩ : ByteArray)]) ?_ 2 _ rfl; (with_reducible repeat (first | refine blk_drewN ?_ _ | refine blk_drew ?_ | refine blk_alloc ?_ _)); refine blk_put (cs := #[.string ((rd_T26 l0 x11_1).f0), .string (⟨#[]⟩ : ByteArray), .string (⟨#[]⟩ : ByteArray)]) ?_ 1 _ rfl; (with_reducible repeat (first | refine blk_drewN ?_ _ | refine blk_drew ?_ | refine blk_alloc ?_ _)); refine blk_put (cs := #[.string (⟨#[]⟩ : ByteArray), .string (⟨#[]⟩ : ByteArray), .string (⟨#[]⟩ : ByteArray)]) ?_ 0 _ rfl; (with_reducible repeat (first | refine blk_drewN ?_ _ | refine blk_drew ?_ | refine blk_alloc ?_ _)); exact BK209.out) k_ hk)); (case aO => exact (by (with_reducible repeat (first | apply Kd.R_alloc | apply Kd.R_drewN | apply Kd.R_drew)); exact Kd.R_mono (Kd.R_far (p := ⟨gb209, 0, none⟩) (Kd.R_far (p := ⟨gb209, 2, none⟩) (Kd.R_far (p := ⟨gb209, 1, none⟩) (Kd.R_far (p := ⟨gb209, 0, none⟩) (Kd.R_mono HO_10.out (fun k_ hk => (⟨hk, hk.2⟩ : _ ∧ k_ ≠ gb209))) (fun _ hk => hk.2) (.string ((rd_T26 l0 x11_1).f0))) (fun _ hk => hk.2) (.string ((rd_T26 l0 x11_1).f1))) (fun _ hk => hk.2) (.string ((rd_T26 l0 x11_1).f2))) (fun _ hk => hk.2) (.string t213)) (fun _ hk => hk.1.2))); (case aS => exact (below_size (by repeat (first | (with_reducible first | exact HB.out | apply below_alloc | apply pw_below_drewN | apply below_drew1 | refine below_set ?_ GE209.out) | exact HB.out)))); (case aL => have := LMc24.out; omega); intro v216 w27 ho hb hg hat; rw [← Ny215.out] at ho; have n0_ := Aside0.mk (blk_grown (g := gb209) (o := .cells #[.string t213, .string ((rd_T26 l0 x11_1).f1), .string ((rd_T26 l0 x11_1).f2)] 26 (0, 0)) (by (with_reducible repeat (first | refine blk_drewN ?_ _ | refine blk_drew ?_ | refine blk_alloc ?_ _)); refine blk_put (cs := #[.string ((rd_T26 l0 x11_1).f0), .string ((rd_T26 l0 x11_1).f1), .string ((rd_T26 l0 x11_1).f2)]) ?_ 0 _ rfl; (with_reducible repeat (first | refine blk_drewN ?_ _ | refine blk_drew ?_ | refine blk_alloc ?_ _)); refine blk_put (cs := #[.string ((rd_T26 l0 x11_1).f0), .string ((rd_T26 l0 x11_1).f1), .string (⟨#[]⟩ : ByteArray)]) ?_ 2 _ rfl; (with_reducible repeat (first | refine blk_drewN ?_ _ | refine blk_drew ?_ | refine blk_alloc ?_ _)); refine blk_put (cs := #[.string ((rd_T26 l0 x11_1).f0), .string (⟨#[]⟩ : ByteArray), .string (⟨#[]⟩ : ByteArray)]) ?_ 1 _ rfl; (with_reducible repeat (first | refine blk_drewN ?_ _ | refine blk_drew ?_ | refine blk_alloc ?_ _)); refine blk_put (cs := #[.string (⟨#[]⟩ : ByteArray), .string (⟨#[]⟩ : ByteArray), .string (⟨#[]⟩ : ByteArray)]) ?_ 0 _ rfl; (with_reducible repeat (first | refine blk_drewN ?_ _ | refine blk_drew ?_ | refine blk_alloc ?_ _)); exact BK209.out) hg (Kd.R_away HO_10.out (fun _ hk => hk.2))); have n1_ := Aside0.mk (hb); have n2_ := Aside0.mk (ho); clear BK209; clear HB; clear HO_10; have BK209 := n0_; have HB := n1_; have HO217 := n2_; clear n0_ n1_ n2_; clear ho hb hg hat))
                      go_roundg k1
                      case measure => have := HK1.out; omega
                      case rel => exact ⟨(y215), (wrap64 (x11_1 + 1)), (by first | rfl | (simp; done) | (simp [*]; done)), H', ⟨by have := HK1.out; omega⟩, ⟨by (with_reducible repeat (first | apply Kd.R_alloc | apply Kd.R_drewN | apply Kd.R_drew)); exact Kd.R_mono HO217.out (fun _ hk => trivial)⟩, ⟨by repeat (first | (with_reducible first | exact HB.out | apply below_alloc | apply pw_below_drewN | apply below_drew1 | refine below_set ?_ GE209.out) | exact HB.out)⟩⟩
                    · rw [if_neg c24] at H
                      exact absurd H (by simp)
                · rw [if_neg c20] at H
                  have c20b0 : (t213.toList == ([] : List UInt8)) = false := beq_eq_false_iff_ne.mpr c20
                  have c20b1 : (t213.toList != ([] : List UInt8)) = true := bne_iff_ne.mpr c20
                  by_cases c28 : x10_1.length < 2932031007402
                  · rw [if_pos c28] at H
                    have LMc28 := Aside0.mk c28
                    clear c28
                    obtain ⟨y218, hy218⟩ : ∃ y_ : List (S26), y_ = (x10_1 ++ [(⟨t213, (rd_T26 l0 x11_1).f1, (rd_T26 l0 x11_1).f2⟩ : S26)]) := ⟨_, rfl⟩
                    replace H : (spec_FieldTurn.l0 k1 l0 l1 a2 a3 y218 (wrap64 (x11_1 + 1))) = some (r1, r2) := by first | (rw [hy218]; with_reducible exact H) | (have H2_ := (Option.bind_some _ _).symm.trans H; rw [hy218]; with_reducible exact H2_) | (have H2_ := (Option.bind_some _ _).symm.trans H; with_reducible exact H2_) | with_reducible exact H | (rw [hy218]; exact H) | exact H
                    have Ny218 := Aside0.mk hy218
                    clear hy218
                    have H' := Aside0.mk H
                    clear H
                    have p208 : 0 ≤ (x11_1 : Int) := of_decide_eq_true (by first | (with_reducible assumption) | assumption)
                    have q208 : x11_1 < (l0.length : Int) := of_decide_eq_true (by first | (with_reducible assumption) | assumption)
                    obtain ⟨ad208, e208, hx208_0, hx208_1, hx208_2⟩ := at_T26 HR0.out x11_1 p208 q208
                    cases e208
                    replace hx208_0 := (HB.out.cell (World.block_lt_of_cell? w _ hx208_0)).trans hx208_0
                    replace hx208_1 := (HB.out.cell (World.block_lt_of_cell? w _ hx208_1)).trans hx208_1
                    replace hx208_2 := (HB.out.cell (World.block_lt_of_cell? w _ hx208_2)).trans hx208_2
                    replace p208 := eq_true p208
                    replace q208 := eq_true q208
                    go_wp2_with (first | ((with_reducible refine gate_dst (N := 12) rfl ?_); refine box_event ?hg (N := 12) ?hd (cs := #[.string (⟨#[]⟩ : ByteArray), .string (⟨#[]⟩ : ByteArray), .string (⟨#[]⟩ : ByteArray)]) (t := 26) ?hr ?_; (case hd => rfl); (case hg => rfl); (case hr => first | (go_simp; done) | (go_simp; rfl)); intro gb209 hg w29 hbox hb; have n0_ := Aside0.mk (Kd.R_below (Kd.R_elderB (by (with_reducible repeat (first | apply Kd.R_alloc | apply Kd.R_drewN | apply Kd.R_drew)); exact HO_10.out) gb209 (Nat.le_of_eq hg.symm)) hb); have n1_ := Aside0.mk (below_step (by repeat (first | (with_reducible first | exact HB.out | apply below_alloc | apply pw_below_drewN | apply below_drew1) | exact HB.out)) hb); have n2_ := Aside0.mk (hbox); have n3_ := Aside0.mk ((by rw [hg]; exact (below_size (by repeat (first | (with_reducible first | exact HB.out | apply below_alloc | apply pw_below_drewN | apply below_drew1) | exact HB.out))) : w.heap.size ≤ gb209)); have n4_ := Aside0.mk ((by rw [hg]; exact (below_size (by repeat (first | (with_reducible first | exact HB.out | apply below_alloc | apply pw_below_drewN | apply below_drew1) | exact HB.out))) : w.heap.size ≤ gb209)); clear HO_10; clear HB; have HO_10 := n0_; have HB := n1_; have BK209 := n2_; have GW209 := n3_; have GE209 := n4_; clear n0_ n1_ n2_ n3_ n4_; clear hb hbox hg; have hcz30_0 : w29.cell? ⟨gb209, 0, none⟩ = some (.string (⟨#[]⟩ : ByteArray)) := (blk_cell BK209.out 0).trans rfl; have hcz30_1 : w29.cell? ⟨gb209, 1, none⟩ = some (.string (⟨#[]⟩ : ByteArray)) := (blk_cell BK209.out 1).trans rfl; have hcz30_2 : w29.cell? ⟨gb209, 2, none⟩ = some (.string (⟨#[]⟩ : ByteArray)) := (blk_cell BK209.out 2).trans rfl; have hfz30_0 := blk_frozen BK209.out 0; have hfz30_1 := blk_frozen BK209.out 1; have hfz30_2 := blk_frozen BK209.out 2) | ((with_reducible refine gate_callee (f := 22) rfl ?_); refine goesL_ (some 39) rfl rfl Tryz.func22 (by kernel_rfl) rfl #[.slice A1 l1.length c1, .string ((rd_T26 l0 x11_1).f0)] rfl (by (try simp only [List.map_toArray, List.map_cons, List.map_nil]); first | done | rfl | (simp only [List.length_drop, List.length_take]; rfl)) ?_; (with_reducible refine (spec_Find.calls k1 _ _ l1 ((rd_T26 l0 x11_1).f0) t213 true _ ?side1 ?side2 A18.out).mono ?_); (case side1 => exact Kd.C_below HR1.out (by repeat (first | (with_reducible first | exact HB.out | apply below_alloc | apply pw_below_drewN | apply below_drew1 | refine below_set ?_ GE209.out) | exact HB.out))); (case side2 => exact HC1.out); rintro e w' ⟨rfl, ⟨nd, rfl⟩⟩; refine ⟨_, rfl, ?_⟩) | ((with_reducible refine gate_builtin (b := .append) (xs := #[.tmp 53, .tmp 55]) rfl ?_); at_builtin; refine Kd.R_append k26 (w0 := w) w.heap.size rfl (.tmp 53) (.tmp 55) 27 26 (.agg #[(.string ⟨#[]⟩), (.string ⟨#[]⟩), (.string ⟨#[]⟩)]) 48 rfl Tryz.underlying27 info26 rfl (by decide) (by omega) u10 x10_1 (⟨t213, (rd_T26 l0 x11_1).f1, (rd_T26 l0 x11_1).f2⟩ : S26) [.string t213, .string ((rd_T26 l0 x11_1).f1), .string ((rd_T26 l0 x11_1).f2)] (fun k_ => k_ ≠ gb209) (fun _ => False) rfl (by first | (go_simp; done) | (go_simp; rfl)) ?aP (fun _ hk => hk.elim) ?aF ?aO ?aB ?aS ?aL ?_; (case aP => exact k26_mkM _ _ _ (⟨t213, (rd_T26 l0 x11_1).f1, (rd_T26 l0 x11_1).f2⟩ : S26)); (case aB => exact (by repeat (first | (with_reducible first | exact HB.out | apply below_alloc | apply pw_below_drewN | apply below_drew1 | refine below_set ?_ GE209.out) | exact HB.out))); (case aF => exact (fun k_ hk => Kd.freshB (g := gb209) (o := .cells #[.string t213, .string ((rd_T26 l0 x11_1).f1), .string ((rd_T26 l0 x11_1).f2)] 26 (0, 0)) (by (with_reducible repeat (first | refine blk_drewN ?_ _ | refine blk_drew ?_ | refine blk_alloc ?_ _)); refine blk_put (cs := #[.string ((rd_T26 l0 x11_1).f0), .string ((rd_T26 l0 x11_1).f1), .string ((rd_T26 l0 x11_1).f2)]) ?_ 0 _ rfl; (with_reducible repeat (first | refine blk_drewN ?_ _ | refine blk_drew ?_ | refine blk_alloc ?_ _)); refine blk_put (cs := #[.string ((rd_T26 l0 x11_1).f0), .string ((rd_T26 l0 x11_1).f1), .string (⟨#[]⟩ : ByteArray)]) ?_ 2 _ rfl; (with_reducible repeat (first | refine blk_drewN ?_ _ | refine blk_drew ?_ | refine blk_alloc ?_ _)); refine blk_put (cs := #[.string ((rd_T26 l0 x11_1).f0), .string (⟨#[]⟩ : ByteArray), .string (⟨#[]⟩ : ByteArray)]) ?_ 1 _ rfl; (with_reducible repeat (first | refine blk_drewN ?_ _ | refine blk_drew ?_ | refine blk_alloc ?_ _)); refine blk_put (cs := #[.string (⟨#[]⟩ : ByteArray), .string (⟨#[]⟩ : ByteArray), .string (⟨#[]⟩ : ByteArray)]) ?_ 0 _ rfl; (with_reducible repeat (first | refine blk_drewN ?_ _ | refine blk_drew ?_ | refine blk_alloc ?_ _)); exact BK209.out) k_ hk)); (case aO => exact (by (with_reducible repeat (first | apply Kd.R_alloc | apply Kd.R_drewN | apply Kd.R_drew)); exact Kd.R_mono (Kd.R_far (p := ⟨gb209, 0, none⟩) (Kd.R_far (p := ⟨gb209, 2, none⟩) (Kd.R_far (p := ⟨gb209, 1, none⟩) (Kd.R_far (p := ⟨gb209, 0, none⟩) (Kd.R_mono HO_10.out (fun k_ hk => (⟨hk, hk.2⟩ : _ ∧ k_ ≠ gb209))) (fun _ hk => hk.2) (.string ((rd_T26 l0 x11_1).f0))) (fun _ hk => hk.2) (.string ((rd_T26 l0 x11_1).f1))) (fun _ hk => hk.2) (.string ((rd_T26 l0 x11_1).f2))) (fun _ hk => hk.2) (.string t213)) (fun _ hk => hk.1.2))); (case aS => exact (below_size (by repeat (first | (with_reducible first | exact HB.out | apply below_alloc | apply pw_below_drewN | apply below_drew1 | refine below_set ?_ GE209.out) | exact HB.out)))); (case aL => have := LMc28.out; omega); intro v219 w31 ho hb hg hat; rw [← Ny218.out] at ho; have n0_ := Aside0.mk (blk_grown (g := gb209) (o := .cells #[.string t213, .string ((rd_T26 l0 x11_1).f1), .string ((rd_T26 l0 x11_1).f2)] 26 (0, 0)) (by (with_reducible repeat (first | refine blk_drewN ?_ _ | refine blk_drew ?_ | refine blk_alloc ?_ _)); refine blk_put (cs := #[.string ((rd_T26 l0 x11_1).f0), .string ((rd_T26 l0 x11_1).f1), .string ((rd_T26 l0 x11_1).f2)]) ?_ 0 _ rfl; (with_reducible repeat (first | refine blk_drewN ?_ _ | refine blk_drew ?_ | refine blk_alloc ?_ _)); refine blk_put (cs := #[.string ((rd_T26 l0 x11_1).f0), .string ((rd_T26 l0 x11_1).f1), .string (⟨#[]⟩ : ByteArray)]) ?_ 2 _ rfl; (with_reducible repeat (first | refine blk_drewN ?_ _ | refine blk_drew ?_ | refine blk_alloc ?_ _)); refine blk_put (cs := #[.string ((rd_T26 l0 x11_1).f0), .string (⟨#[]⟩ : ByteArray), .string (⟨#[]⟩ : ByteArray)]) ?_ 1 _ rfl; (with_reducible repeat (first | refine blk_drewN ?_ _ | refine blk_drew ?_ | refine blk_alloc ?_ _)); refine blk_put (cs := #[.string (⟨#[]⟩ : ByteArray), .string (⟨#[]⟩ : ByteArray), .string (⟨#[]⟩ : ByteArray)]) ?_ 0 _ rfl; (with_reducible repeat (first | refine blk_drewN ?_ _ | refine blk_drew ?_ | refine blk_alloc ?_ _)); exact BK209.out) hg (Kd.R_away HO_10.out (fun _ hk => hk.2))); have n1_ := Aside0.mk (hb); have n2_ := Aside0.mk (ho); clear BK209; clear HB; clear HO_10; have BK209 := n0_; have HB := n1_; have HO220 := n2_; clear n0_ n1_ n2_; clear ho hb hg hat))
                    go_roundg k1
                    case measure => have := HK1.out; omega
                    case rel => exact ⟨(y218), (wrap64 (x11_1 + 1)), (by first | rfl | (simp; done) | (simp [*]; done)), H', ⟨by have := HK1.out; omega⟩, ⟨by (with_reducible repeat (first | apply Kd.R_alloc | apply Kd.R_drewN | apply Kd.R_drew)); exact Kd.R_mono HO220.out (fun _ hk => trivial)⟩, ⟨by repeat (first | (with_reducible first | exact HB.out | apply below_alloc | apply pw_below_drewN | apply below_drew1 | refine below_set ?_ GE209.out) | exact HB.out)⟩⟩
                  · rw [if_neg c28] at H
                    exact absurd H (by simp)
              · replace c19 := Bool.eq_false_iff.mpr c19
                subst c19
                have H1 : (if ((rd_T26 l0 x11_1).f0).toList = ([] : List UInt8) then (if ((rd_T26 l0 x11_1).f2).toList = ([] : List UInt8) then (spec_FieldTurn.l0 k1 l0 l1 a2 a3 x10_1 (wrap64 (x11_1 + 1))) else (if x10_1.length < 2932031007402 then (spec_FieldTurn.l0 k1 l0 l1 a2 a3 (x10_1 ++ [(⟨(rd_T26 l0 x11_1).f0, (rd_T26 l0 x11_1).f1, (rd_T26 l0 x11_1).f2⟩ : S26)]) (wrap64 (x11_1 + 1))) else (none))) else (if x10_1.length < 2932031007402 then (spec_FieldTurn.l0 k1 l0 l1 a2 a3 (x10_1 ++ [(⟨(rd_T26 l0 x11_1).f0, (rd_T26 l0 x11_1).f1, (rd_T26 l0 x11_1).f2⟩ : S26)]) (wrap64 (x11_1 + 1))) else (none))) = some (r1, r2) := by rw [if_neg (show ¬ (false = true) by decide)] at H; exact H
                clear H
                have H := H1
                clear H1
                by_cases c32 : ((rd_T26 l0 x11_1).f0).toList = ([] : List UInt8)
                · rw [if_pos c32] at H
                  have c32b0 : (((rd_T26 l0 x11_1).f0).toList == ([] : List UInt8)) = true := beq_iff_eq.mpr c32
                  have c32b1 : (((rd_T26 l0 x11_1).f0).toList != ([] : List UInt8)) = false := bne_eq_false_iff_eq.mpr c32
                  clear c32
                  by_cases c33 : ((rd_T26 l0 x11_1).f2).toList = ([] : List UInt8)
                  · rw [if_pos c33] at H
                    have c33b0 : (((rd_T26 l0 x11_1).f2).toList == ([] : List UInt8)) = true := beq_iff_eq.mpr c33
                    have c33b1 : (((rd_T26 l0 x11_1).f2).toList != ([] : List UInt8)) = false := bne_eq_false_iff_eq.mpr c33
                    clear c33
                    have H' := Aside0.mk H
                    clear H
                    have p208 : 0 ≤ (x11_1 : Int) := of_decide_eq_true (by first | (with_reducible assumption) | assumption)
                    have q208 : x11_1 < (l0.length : Int) := of_decide_eq_true (by first | (with_reducible assumption) | assumption)
                    obtain ⟨ad208, e208, hx208_0, hx208_1, hx208_2⟩ := at_T26 HR0.out x11_1 p208 q208
                    cases e208
                    replace hx208_0 := (HB.out.cell (World.block_lt_of_cell? w _ hx208_0)).trans hx208_0
                    replace hx208_1 := (HB.out.cell (World.block_lt_of_cell? w _ hx208_1)).trans hx208_1
                    replace hx208_2 := (HB.out.cell (World.block_lt_of_cell? w _ hx208_2)).trans hx208_2
                    replace p208 := eq_true p208
                    replace q208 := eq_true q208
                    go_wp2_with (first | ((with_reducible refine gate_dst (N := 12) rfl ?_); refine box_event ?hg (N := 12) ?hd (cs := #[.string (⟨#[]⟩ : ByteArray), .string (⟨#[]⟩ : ByteArray), .string (⟨#[]⟩ : ByteArray)]) (t := 26) ?hr ?_; (case hd => rfl); (case hg => rfl); (case hr => first | (go_simp; done) | (go_simp; rfl)); intro gb209 hg w34 hbox hb; have n0_ := Aside0.mk (Kd.R_below (Kd.R_elderB (by (with_reducible repeat (first | apply Kd.R_alloc | apply Kd.R_drewN | apply Kd.R_drew)); exact HO_10.out) gb209 (Nat.le_of_eq hg.symm)) hb); have n1_ := Aside0.mk (below_step (by repeat (first | (with_reducible first | exact HB.out | apply below_alloc | apply pw_below_drewN | apply below_drew1) | exact HB.out)) hb); have n2_ := Aside0.mk (hbox); have n3_ := Aside0.mk ((by rw [hg]; exact (below_size (by repeat (first | (with_reducible first | exact HB.out | apply below_alloc | apply pw_below_drewN | apply below_drew1) | exact HB.out))) : w.heap.size ≤ gb209)); have n4_ := Aside0.mk ((by rw [hg]; exact (below_size (by repeat (first | (with_reducible first | exact HB.out | apply below_alloc | apply pw_below_drewN | apply below_drew1) | exact HB.out))) : w.heap.size ≤ gb209)); clear HO_10; clear HB; have HO_10 := n0_; have HB := n1_; have BK209 := n2_; have GW209 := n3_; have GE209 := n4_; clear n0_ n1_ n2_ n3_ n4_; clear hb hbox hg; have hcz35_0 : w34.cell? ⟨gb209, 0, none⟩ = some (.string (⟨#[]⟩ : ByteArray)) := (blk_cell BK209.out 0).trans rfl; have hcz35_1 : w34.cell? ⟨gb209, 1, none⟩ = some (.string (⟨#[]⟩ : ByteArray)) := (blk_cell BK209.out 1).trans rfl; have hcz35_2 : w34.cell? ⟨gb209, 2, none⟩ = some (.string (⟨#[]⟩ : ByteArray)) := (blk_cell BK209.out 2).trans rfl; have hfz35_0 := blk_frozen BK209.out 0; have hfz35_1 := blk_frozen BK209.out 1; have hfz35_2 := blk_frozen BK209.out 2) | ((with_reducible refine gate_callee (f := 22) rfl ?_); refine goesL_ (some 39) rfl rfl Tryz.func22 (by kernel_rfl) rfl #[.slice A1 l1.length c1, .string ((rd_T26 l0 x11_1).f0)] rfl (by (try simp only [List.map_toArray, List.map_cons, List.map_nil]); first | done | rfl | (simp only [List.length_drop, List.length_take]; rfl)) ?_; (with_reducible refine (spec_Find.calls k1 _ _ l1 ((rd_T26 l0 x11_1).f0) t213 false _ ?side1 ?side2 A18.out).mono ?_); (case side1 => exact Kd.C_below HR1.out (by repeat (first | (with_reducible first | exact HB.out | apply below_alloc | apply pw_below_drewN | apply below_drew1 | refine below_set ?_ GE209.out) | exact HB.out))); (case side2 => exact HC1.out); rintro e w' ⟨rfl, ⟨nd, rfl⟩⟩; refine ⟨_, rfl, ?_⟩))
                    go_roundg k1
                    case measure => have := HK1.out; omega
                    case rel => exact ⟨(x10_1), (wrap64 (x11_1 + 1)), (by first | rfl | (simp; done) | (simp [*]; done)), H', ⟨by have := HK1.out; omega⟩, ⟨by (with_reducible repeat (first | apply Kd.R_alloc | apply Kd.R_drewN | apply Kd.R_drew)); exact Kd.R_mono (Kd.R_far (p := ⟨gb209, 2, none⟩) (Kd.R_far (p := ⟨gb209, 1, none⟩) (Kd.R_far (p := ⟨gb209, 0, none⟩) (Kd.R_mono HO_10.out (fun k_ hk => (⟨hk, hk.2⟩ : _ ∧ k_ ≠ gb209))) (fun _ hk => hk.2) (.string ((rd_T26 l0 x11_1).f0))) (fun _ hk => hk.2) (.string ((rd_T26 l0 x11_1).f1))) (fun _ hk => hk.2) (.string ((rd_T26 l0 x11_1).f2))) (fun _ hk => trivial)⟩, ⟨by repeat (first | (with_reducible first | exact HB.out | apply below_alloc | apply pw_below_drewN | apply below_drew1 | refine below_set ?_ GE209.out) | exact HB.out)⟩⟩
                  · rw [if_neg c33] at H
                    have c33b0 : (((rd_T26 l0 x11_1).f2).toList == ([] : List UInt8)) = false := beq_eq_false_iff_ne.mpr c33
                    have c33b1 : (((rd_T26 l0 x11_1).f2).toList != ([] : List UInt8)) = true := bne_iff_ne.mpr c33
                    by_cases c36 : x10_1.length < 2932031007402
                    · rw [if_pos c36] at H
                      have LMc36 := Aside0.mk c36
                      clear c36
                      obtain ⟨y221, hy221⟩ : ∃ y_ : List (S26), y_ = (x10_1 ++ [(⟨(rd_T26 l0 x11_1).f0, (rd_T26 l0 x11_1).f1, (rd_T26 l0 x11_1).f2⟩ : S26)]) := ⟨_, rfl⟩
                      replace H : (spec_FieldTurn.l0 k1 l0 l1 a2 a3 y221 (wrap64 (x11_1 + 1))) = some (r1, r2) := by first | (rw [hy221]; with_reducible exact H) | (have H2_ := (Option.bind_some _ _).symm.trans H; rw [hy221]; with_reducible exact H2_) | (have H2_ := (Option.bind_some _ _).symm.trans H; with_reducible exact H2_) | with_reducible exact H | (rw [hy221]; exact H) | exact H
                      have Ny221 := Aside0.mk hy221
                      clear hy221
                      have H' := Aside0.mk H
                      clear H
                      have p208 : 0 ≤ (x11_1 : Int) := of_decide_eq_true (by first | (with_reducible assumption) | assumption)
                      have q208 : x11_1 < (l0.length : Int) := of_decide_eq_true (by first | (with_reducible assumption) | assumption)
                      obtain ⟨ad208, e208, hx208_0, hx208_1, hx208_2⟩ := at_T26 HR0.out x11_1 p208 q208
                      cases e208
                      replace hx208_0 := (HB.out.cell (World.block_lt_of_cell? w _ hx208_0)).trans hx208_0
                      replace hx208_1 := (HB.out.cell (World.block_lt_of_cell? w _ hx208_1)).trans hx208_1
                      replace hx208_2 := (HB.out.cell (World.block_lt_of_cell? w _ hx208_2)).trans hx208_2
                      replace p208 := eq_true p208
                      replace q208 := eq_true q208
                      go_wp2_with (first | ((with_reducible refine gate_dst (N := 12) rfl ?_); refine box_event ?hg (N := 12) ?hd (cs := #[.string (⟨#[]⟩ : ByteArray), .string (⟨#[]⟩ : ByteArray), .string (⟨#[]⟩ : ByteArray)]) (t := 26) ?hr ?_; (case hd => rfl); (case hg => rfl); (case hr => first | (go_simp; done) | (go_simp; rfl)); intro gb209 hg w37 hbox hb; have n0_ := Aside0.mk (Kd.R_below (Kd.R_elderB (by (with_reducible repeat (first | apply Kd.R_alloc | apply Kd.R_drewN | apply Kd.R_drew)); exact HO_10.out) gb209 (Nat.le_of_eq hg.symm)) hb); have n1_ := Aside0.mk (below_step (by repeat (first | (with_reducible first | exact HB.out | apply below_alloc | apply pw_below_drewN | apply below_drew1) | exact HB.out)) hb); have n2_ := Aside0.mk (hbox); have n3_ := Aside0.mk ((by rw [hg]; exact (below_size (by repeat (first | (with_reducible first | exact HB.out | apply below_alloc | apply pw_below_drewN | apply below_drew1) | exact HB.out))) : w.heap.size ≤ gb209)); have n4_ := Aside0.mk ((by rw [hg]; exact (below_size (by repeat (first | (with_reducible first | exact HB.out | apply below_alloc | apply pw_below_drewN | apply below_drew1) | exact HB.out))) : w.heap.size ≤ gb209)); clear HO_10; clear HB; have HO_10 := n0_; have HB := n1_; have BK209 := n2_; have GW209 := n3_; have GE209 := n4_; clear n0_ n1_ n2_ n3_ n4_; clear hb hbox hg; have hcz38_0 : w37.cell? ⟨gb209, 0, none⟩ = some (.string (⟨#[]⟩ : ByteArray)) := (blk_cell BK209.out 0).trans rfl; have hcz38_1 : w37.cell? ⟨gb209, 1, none⟩ = some (.string (⟨#[]⟩ : ByteArray)) := (blk_cell BK209.out 1).trans rfl; have hcz38_2 : w37.cell? ⟨gb209, 2, none⟩ = some (.string (⟨#[]⟩ : ByteArray)) := (blk_cell BK209.out 2).trans rfl; have hfz38_0 := blk_frozen BK209.out 0; have hfz38_1 := blk_frozen BK209.out 1; have hfz38_2 := blk_frozen BK209.out 2) | ((with_reducible refine gate_callee (f := 22) rfl ?_); refine goesL_ (some 39) rfl rfl Tryz.func22 (by kernel_rfl) rfl #[.slice A1 l1.length c1, .string ((rd_T26 l0 x11_1).f0)] rfl (by (try simp only [List.map_toArray, List.map_cons, List.map_nil]); first | done | rfl | (simp only [List.length_drop, List.length_take]; rfl)) ?_; (with_reducible refine (spec_Find.calls k1 _ _ l1 ((rd_T26 l0 x11_1).f0) t213 false _ ?side1 ?side2 A18.out).mono ?_); (case side1 => exact Kd.C_below HR1.out (by repeat (first | (with_reducible first | exact HB.out | apply below_alloc | apply pw_below_drewN | apply below_drew1 | refine below_set ?_ GE209.out) | exact HB.out))); (case side2 => exact HC1.out); rintro e w' ⟨rfl, ⟨nd, rfl⟩⟩; refine ⟨_, rfl, ?_⟩) | ((with_reducible refine gate_builtin (b := .append) (xs := #[.tmp 53, .tmp 55]) rfl ?_); at_builtin; refine Kd.R_append k26 (w0 := w) w.heap.size rfl (.tmp 53) (.tmp 55) 27 26 (.agg #[(.string ⟨#[]⟩), (.string ⟨#[]⟩), (.string ⟨#[]⟩)]) 48 rfl Tryz.underlying27 info26 rfl (by decide) (by omega) u10 x10_1 (⟨(rd_T26 l0 x11_1).f0, (rd_T26 l0 x11_1).f1, (rd_T26 l0 x11_1).f2⟩ : S26) [.string ((rd_T26 l0 x11_1).f0), .string ((rd_T26 l0 x11_1).f1), .string ((rd_T26 l0 x11_1).f2)] (fun k_ => k_ ≠ gb209) (fun _ => False) rfl (by first | (go_simp; done) | (go_simp; rfl)) ?aP (fun _ hk => hk.elim) ?aF ?aO ?aB ?aS ?aL ?_; (case aP => exact k26_mkM _ _ _ (⟨(rd_T26 l0 x11_1).f0, (rd_T26 l0 x11_1).f1, (rd_T26 l0 x11_1).f2⟩ : S26)); (case aB => exact (by repeat (first | (with_reducible first | exact HB.out | apply below_alloc | apply pw_below_drewN | apply below_drew1 | refine below_set ?_ GE209.out) | exact HB.out))); (case aF => exact (fun k_ hk => Kd.freshB (g := gb209) (o := .cells #[.string ((rd_T26 l0 x11_1).f0), .string ((rd_T26 l0 x11_1).f1), .string ((rd_T26 l0 x11_1).f2)] 26 (0, 0)) (by (with_reducible repeat (first | refine blk_drewN ?_ _ | refine blk_drew ?_ | refine blk_alloc ?_ _)); refine blk_put (cs := #[.string ((rd_T26 l0 x11_1).f0), .string ((rd_T26 l0 x11_1).f1), .string (⟨#[]⟩ : ByteArray)]) ?_ 2 _ rfl; (with_reducible repeat (first | refine blk_drewN ?_ _ | refine blk_drew ?_ | refine blk_alloc ?_ _)); refine blk_put (cs := #[.string ((rd_T26 l0 x11_1).f0), .string (⟨#[]⟩ : ByteArray), .string (⟨#[]⟩ : ByteArray)]) ?_ 1 _ rfl; (with_reducible repeat (first | refine blk_drewN ?_ _ | refine blk_drew ?_ | refine blk_alloc ?_ _)); refine blk_put (cs := #[.string (⟨#[]⟩ : ByteArray), .string (⟨#[]⟩ : ByteArray), .string (⟨#[]⟩ : ByteArray)]) ?_ 0 _ rfl; (with_reducible repeat (first | refine blk_drewN ?_ _ | refine blk_drew ?_ | refine blk_alloc ?_ _)); exact BK209.out) k_ hk)); (case aO => exact (by (with_reducible repeat (first | apply Kd.R_alloc | apply Kd.R_drewN | apply Kd.R_drew)); exact Kd.R_mono (Kd.R_far (p := ⟨gb209, 2, none⟩) (Kd.R_far (p := ⟨gb209, 1, none⟩) (Kd.R_far (p := ⟨gb209, 0, none⟩) (Kd.R_mono HO_10.out (fun k_ hk => (⟨hk, hk.2⟩ : _ ∧ k_ ≠ gb209))) (fun _ hk => hk.2) (.string ((rd_T26 l0 x11_1).f0))) (fun _ hk => hk.2) (.string ((rd_T26 l0 x11_1).f1))) (fun _ hk => hk.2) (.string ((rd_T26 l0 x11_1).f2))) (fun _ hk => hk.1.2))); (case aS => exact (below_size (by repeat (first | (with_reducible first | exact HB.out | apply below_alloc | apply pw_below_drewN | apply below_drew1 | refine below_set ?_ GE209.out) | exact HB.out)))); (case aL => have := LMc36.out; omega); intro v222 w39 ho hb hg hat; rw [← Ny221.out] at ho; have n0_ := Aside0.mk (blk_grown (g := gb209) (o := .cells #[.string ((rd_T26 l0 x11_1).f0), .string ((rd_T26 l0 x11_1).f1), .string ((rd_T26 l0 x11_1).f2)] 26 (0, 0)) (by (with_reducible repeat (first | refine blk_drewN ?_ _ | refine blk_drew ?_ | refine blk_alloc ?_ _)); refine blk_put (cs := #[.string ((rd_T26 l0 x11_1).f0), .string ((rd_T26 l0 x11_1).f1), .string (⟨#[]⟩ : ByteArray)]) ?_ 2 _ rfl; (with_reducible repeat (first | refine blk_drewN ?_ _ | refine blk_drew ?_ | refine blk_alloc ?_ _)); refine blk_put (cs := #[.string ((rd_T26 l0 x11_1).f0), .string (⟨#[]⟩ : ByteArray), .string (⟨#[]⟩ : ByteArray)]) ?_ 1 _ rfl; (with_reducible repeat (first | refine blk_drewN ?_ _ | refine blk_drew ?_ | refine blk_alloc ?_ _)); refine blk_put (cs := #[.string (⟨#[]⟩ : ByteArray), .string (⟨#[]⟩ : ByteArray), .string (⟨#[]⟩ : ByteArray)]) ?_ 0 _ rfl; (with_reducible repeat (first | refine blk_drewN ?_ _ | refine blk_drew ?_ | refine blk_alloc ?_ _)); exact BK209.out) hg (Kd.R_away HO_10.out (fun _ hk => hk.2))); have n1_ := Aside0.mk (hb); have n2_ := Aside0.mk (ho); clear BK209; clear HB; clear HO_10; have BK209 := n0_; have HB := n1_; have HO223 := n2_; clear n0_ n1_ n2_; clear ho hb hg hat))
                      go_roundg k1
                      case measure => have := HK1.out; omega
                      case rel => exact ⟨(y221), (wrap64 (x11_1 + 1)), (by first | rfl | (simp; done) | (simp [*]; done)), H', ⟨by have := HK1.out; omega⟩, ⟨by (with_reducible repeat (first | apply Kd.R_alloc | apply Kd.R_drewN | apply Kd.R_drew)); exact Kd.R_mono HO223.out (fun _ hk => trivial)⟩, ⟨by repeat (first | (with_reducible first | exact HB.out | apply below_alloc | apply pw_below_drewN | apply below_drew1 | refine below_set ?_ GE209.out) | exact HB.out)⟩⟩
                    · rw [if_neg c36] at H
                      exact absurd H (by simp)
                · rw [if_neg c32] at H
                  have c32b0 : (((rd_T26 l0 x11_1).f0).toList == ([] : List UInt8)) = false := beq_eq_false_iff_ne.mpr c32
                  have c32b1 : (((rd_T26 l0 x11_1).f0).toList != ([] : List UInt8)) = true := bne_iff_ne.mpr c32
                  by_cases c40 : x10_1.length < 2932031007402
                  · rw [if_pos c40] at H
                    have LMc40 := Aside0.mk c40
                    clear c40
                    obtain ⟨y224, hy224⟩ : ∃ y_ : List (S26), y_ = (x10_1 ++ [(⟨(rd_T26 l0 x11_1).f0, (rd_T26 l0 x11_1).f1, (rd_T26 l0 x11_1).f2⟩ : S26)]) := ⟨_, rfl⟩
                    replace H : (spec_FieldTurn.l0 k1 l0 l1 a2 a3 y224 (wrap64 (x11_1 + 1))) = some (r1, r2) := by first | (rw [hy224]; with_reducible exact H) | (have H2_ := (Option.bind_some _ _).symm.trans H; rw [hy224]; with_reducible exact H2_) | (have H2_ := (Option.bind_some _ _).symm.trans H; with_reducible exact H2_) | with_reducible exact H | (rw [hy224]; exact H) | exact H
                    have Ny224 := Aside0.mk hy224
                    clear hy224
                    have H' := Aside0.mk H
                    clear H
                    have p208 : 0 ≤ (x11_1 : Int) := of_decide_eq_true (by first | (with_reducible assumption) | assumption)
                    have q208 : x11_1 < (l0.length : Int) := of_decide_eq_true (by first | (with_reducible assumption) | assumption)
                    obtain ⟨ad208, e208, hx208_0, hx208_1, hx208_2⟩ := at_T26 HR0.out x11_1 p208 q208
                    cases e208
                    replace hx208_0 := (HB.out.cell (World.block_lt_of_cell? w _ hx208_0)).trans hx208_0
                    replace hx208_1 := (HB.out.cell (World.block_lt_of_cell? w _ hx208_1)).trans hx208_1
                    replace hx208_2 := (HB.out.cell (World.block_lt_of_cell? w _ hx208_2)).trans hx208_2
                    replace p208 := eq_true p208
                    replace q208 := eq_true q208
                    go_wp2_with (first | ((with_reducible refine gate_dst (N := 12) rfl ?_); refine box_event ?hg (N := 12) ?hd (cs := #[.string (⟨#[]⟩ : ByteArray), .string (⟨#[]⟩ : ByteArray), .string (⟨#[]⟩ : ByteArray)]) (t := 26) ?hr ?_; (case hd => rfl); (case hg => rfl); (case hr => first | (go_simp; done) | (go_simp; rfl)); intro gb209 hg w41 hbox hb; have n0_ := Aside0.mk (Kd.R_below (Kd.R_elderB (by (with_reducible repeat (first | apply Kd.R_alloc | apply Kd.R_drewN | apply Kd.R_drew)); exact HO_10.out) gb209 (Nat.le_of_eq hg.symm)) hb); have n1_ := Aside0.mk (below_step (by repeat (first | (with_reducible first | exact HB.out | apply below_alloc | apply pw_below_drewN | apply below_drew1) | exact HB.out)) hb); have n2_ := Aside0.mk (hbox); have n3_ := Aside0.mk ((by rw [hg]; exact (below_size (by repeat (first | (with_reducible first | exact HB.out | apply below_alloc | apply pw_below_drewN | apply below_drew1) | exact HB.out))) : w.heap.size ≤ gb209)); have n4_ := Aside0.mk ((by rw [hg]; exact (below_size (by repeat (first | (with_reducible first | exact HB.out | apply below_alloc | apply pw_below_drewN | apply below_drew1) | exact HB.out))) : w.heap.size ≤ gb209)); clear HO_10; clear HB; have HO_10 := n0_; have HB := n1_; have BK209 := n2_; have GW209 := n3_; have GE209 := n4_; clear n0_ n1_ n2_ n3_ n4_; clear hb hbox hg; have hcz42_0 : w41.cell? ⟨gb209, 0, none⟩ = some (.string (⟨#[]⟩ : ByteArray)) := (blk_cell BK209.out 0).trans rfl; have hcz42_1 : w41.cell? ⟨gb209, 1, none⟩ = some (.string (⟨#[]⟩ : ByteArray)) := (blk_cell BK209.out 1).trans rfl; have hcz42_2 : w41.cell? ⟨gb209, 2, none⟩ = some (.string (⟨#[]⟩ : ByteArray)) := (blk_cell BK209.out 2).trans rfl; have hfz42_0 := blk_frozen BK209.out 0; have hfz42_1 := blk_frozen BK209.out 1; have hfz42_2 := blk_frozen BK209.out 2) | ((with_reducible refine gate_callee (f := 22) rfl ?_); refine goesL_ (some 39) rfl rfl Tryz.func22 (by kernel_rfl) rfl #[.slice A1 l1.length c1, .string ((rd_T26 l0 x11_1).f0)] rfl (by (try simp only [List.map_toArray, List.map_cons, List.map_nil]); first | done | rfl | (simp only [List.length_drop, List.length_take]; rfl)) ?_; (with_reducible refine (spec_Find.calls k1 _ _ l1 ((rd_T26 l0 x11_1).f0) t213 false _ ?side1 ?side2 A18.out).mono ?_); (case side1 => exact Kd.C_below HR1.out (by repeat (first | (with_reducible first | exact HB.out | apply below_alloc | apply pw_below_drewN | apply below_drew1 | refine below_set ?_ GE209.out) | exact HB.out))); (case side2 => exact HC1.out); rintro e w' ⟨rfl, ⟨nd, rfl⟩⟩; refine ⟨_, rfl, ?_⟩) | ((with_reducible refine gate_builtin (b := .append) (xs := #[.tmp 53, .tmp 55]) rfl ?_); at_builtin; refine Kd.R_append k26 (w0 := w) w.heap.size rfl (.tmp 53) (.tmp 55) 27 26 (.agg #[(.string ⟨#[]⟩), (.string ⟨#[]⟩), (.string ⟨#[]⟩)]) 48 rfl Tryz.underlying27 info26 rfl (by decide) (by omega) u10 x10_1 (⟨(rd_T26 l0 x11_1).f0, (rd_T26 l0 x11_1).f1, (rd_T26 l0 x11_1).f2⟩ : S26) [.string ((rd_T26 l0 x11_1).f0), .string ((rd_T26 l0 x11_1).f1), .string ((rd_T26 l0 x11_1).f2)] (fun k_ => k_ ≠ gb209) (fun _ => False) rfl (by first | (go_simp; done) | (go_simp; rfl)) ?aP (fun _ hk => hk.elim) ?aF ?aO ?aB ?aS ?aL ?_; (case aP => exact k26_mkM _ _ _ (⟨(rd_T26 l0 x11_1).f0, (rd_T26 l0 x11_1).f1, (rd_T26 l0 x11_1).f2⟩ : S26)); (case aB => exact (by repeat (first | (with_reducible first | exact HB.out | apply below_alloc | apply pw_below_drewN | apply below_drew1 | refine below_set ?_ GE209.out) | exact HB.out))); (case aF => exact (fun k_ hk => Kd.freshB (g := gb209) (o := .cells #[.string ((rd_T26 l0 x11_1).f0), .string ((rd_T26 l0 x11_1).f1), .string ((rd_T26 l0 x11_1).f2)] 26 (0, 0)) (by (with_reducible repeat (first | refine blk_drewN ?_ _ | refine blk_drew ?_ | refine blk_alloc ?_ _)); refine blk_put (cs := #[.string ((rd_T26 l0 x11_1).f0), .string ((rd_T26 l0 x11_1).f1), .string (⟨#[]⟩ : ByteArray)]) ?_ 2 _ rfl; (with_reducible repeat (first | refine blk_drewN ?_ _ | refine blk_drew ?_ | refine blk_alloc ?_ _)); refine blk_put (cs := #[.string ((rd_T26 l0 x11_1).f0), .string (⟨#[]⟩ : ByteArray), .string (⟨#[]⟩ : ByteArray)]) ?_ 1 _ rfl; (with_reducible repeat (first | refine blk_drewN ?_ _ | refine blk_drew ?_ | refine blk_alloc ?_ _)); refine blk_put (cs := #[.string (⟨#[]⟩ : ByteArray), .string (⟨#[]⟩ : ByteArray), .string (⟨#[]⟩ : ByteArray)]) ?_ 0 _ rfl; (with_reducible repeat (first | refine blk_drewN ?_ _ | refine blk_drew ?_ | refine blk_alloc ?_ _)); exact BK209.out) k_ hk)); (case aO => exact (by (with_reducible repeat (first | apply Kd.R_alloc | apply Kd.R_drewN | apply Kd.R_drew)); exact Kd.R_mono (Kd.R_far (p := ⟨gb209, 2, none⟩) (Kd.R_far (p := ⟨gb209, 1, none⟩) (Kd.R_far (p := ⟨gb209, 0, none⟩) (Kd.R_mono HO_10.out (fun k_ hk => (⟨hk, hk.2⟩ : _ ∧ k_ ≠ gb209))) (fun _ hk => hk.2) (.string ((rd_T26 l0 x11_1).f0))) (fun _ hk => hk.2) (.string ((rd_T26 l0 x11_1).f1))) (fun _ hk => hk.2) (.string ((rd_T26 l0 x11_1).f2))) (fun _ hk => hk.1.2))); (case aS => exact (below_size (by repeat (first | (with_reducible first | exact HB.out | apply below_alloc | apply pw_below_drewN | apply below_drew1 | refine below_set ?_ GE209.out) | exact HB.out)))); (case aL => have := LMc40.out; omega); intro v225 w43 ho hb hg hat; rw [← Ny224.out] at ho; have n0_ := Aside0.mk (blk_grown (g := gb209) (o := .cells #[.string ((rd_T26 l0 x11_1).f0), .string ((rd_T26 l0 x11_1).f1), .string ((rd_T26 l0 x11_1).f2)] 26 (0, 0)) (by (with_reducible repeat (first | refine blk_drewN ?_ _ | refine blk_drew ?_ | refine blk_alloc ?_ _)); refine blk_put (cs := #[.string ((rd_T26 l0 x11_1).f0), .string ((rd_T26 l0 x11_1).f1), .string (⟨#[]⟩ : ByteArray)]) ?_ 2 _ rfl; (with_reducible repeat (first | refine blk_drewN ?_ _ | refine blk_drew ?_ | refine blk_alloc ?_ _)); refine blk_put (cs := #[.string ((rd_T26 l0 x11_1).f0), .string (⟨#[]⟩ : ByteArray), .string (⟨#[]⟩ : ByteArray)]) ?_ 1 _ rfl; (with_reducible repeat (first | refine blk_drewN ?_ _ | refine blk_drew ?_ | refine blk_alloc ?_ _)); refine blk_put (cs := #[.string (⟨#[]⟩ : ByteArray), .string (⟨#[]⟩ : ByteArray), .string (⟨#[]⟩ : ByteArray)]) ?_ 0 _ rfl; (with_reducible repeat (first | refine blk_drewN ?_ _ | refine blk_drew ?_ | refine blk_alloc ?_ _)); exact BK209.out) hg (Kd.R_away HO_10.out (fun _ hk => hk.2))); have n1_ := Aside0.mk (hb); have n2_ := Aside0.mk (ho); clear BK209; clear HB; clear HO_10; have BK209 := n0_; have HB := n1_; have HO226 := n2_; clear n0_ n1_ n2_; clear ho hb hg hat))
                    go_roundg k1
                    case measure => have := HK1.out; omega
                    case rel => exact ⟨(y224), (wrap64 (x11_1 + 1)), (by first | rfl | (simp; done) | (simp [*]; done)), H', ⟨by have := HK1.out; omega⟩, ⟨by (with_reducible repeat (first | apply Kd.R_alloc | apply Kd.R_drewN | apply Kd.R_drew)); exact Kd.R_mono HO226.out (fun _ hk => trivial)⟩, ⟨by repeat (first | (with_reducible first | exact HB.out | apply below_alloc | apply pw_below_drewN | apply below_drew1 | refine below_set ?_ GE209.out) | exact HB.out)⟩⟩
                  · rw [if_neg c40] at H
                    exact absurd H (by simp)
        · rw [if_neg c6] at H
          exact absurd H (by simp)
      · rw [if_neg c5] at H
        have c5b0 : decide (x11_1 < (l0.length : Int)) = false := decide_eq_false c5
        clear c5
        simp only [Option.some.injEq, Prod.mk.injEq] at H
        obtain ⟨rfl, rfl⟩ := H
        go_wp2
        go_ret2
        exact ⟨_, by first | rfl | (simp [errW_none, errW_some] <;> rfl) | (simp [*, errW_none, errW_some] <;> rfl), by (with_reducible repeat (first | apply Kd.R_alloc | apply Kd.R_drewN | apply Kd.R_drew)); exact HO_10.out, by repeat (first | (with_reducible first | exact HB.out | apply below_alloc | apply pw_below_drewN | apply below_drew1) | exact HB.out)⟩

-- NOT PRINTED: function 4 (laws_FnFieldTurn)

end Go.Proofs.YthejejeginnbdaaGreatDoor.PFnFieldTurn
