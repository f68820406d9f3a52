/- Functions of the program as plain Lean functions, and that the machine's calls do what these say: written for this claim by wip/myprint.py over the kit's print.py. -/
import Derived.Test.YtomoefldmgfaoaaDoorPFnVersionMadex0
import Derived.Test.YtomoefldmgfaoaaDoorPFnVersionMadex3
namespace Go.Proofs.YtomoefldmgfaoaaDoor.PFnVersionMade
open Go.RowKit Go.Proofs.YtomoefldmgfaoaaDoorW.PrintWords Go.Proofs.YtomoefldmgfaoaaDoorW.PrintLast Go.Proofs.YtomoefldmgfaoaaDoorW.PrintMore
attribute [local go_sem] max2_int min2_int max_two min_two max_three min_three max_four min_four   -- for this text's walks alone
set_option linter.unusedVariables false
set_option linter.unusedSimpArgs false

/-! ### spec_VerIdentifiers: function 11 -/
mutual
def spec_VerIdentifiers.l0 : Nat → Bool → List ByteArray → Int → Option (Bool)
 | 0, _, _, _ => none
 | k + 1, x1, x5, x6 => if x6 < (x5.length : Int) then (spec_VerIdentifiers.l1 k x1 x5 x6 0) else (some true)
def spec_VerIdentifiers.l1 : Nat → Bool → List ByteArray → Int → Int → Option (Bool)
 | 0, _, _, _, _ => none
 | k + 1, x1, x5, x6, x7 => if 0 ≤ x6 then (if x6 < (x5.length : Int) then (if x7 < ((rdOf ByteArray.empty x5 x6).size : Int) then (if 0 ≤ x7 then ((spec_verDigit.f (bt (rdOf ByteArray.empty x5 x6) x7)).bind fun t140 => (if t140 = true then (spec_VerIdentifiers.l1 k x1 x5 x6 (wrap64 (x7 + 1))) else (if (bt (rdOf ByteArray.empty x5 x6) x7) = 45 then (spec_VerIdentifiers.l1 k x1 x5 x6 (wrap64 (x7 + 1))) else (if (bt (rdOf ByteArray.empty x5 x6) x7) < 97 then (if (bt (rdOf ByteArray.empty x5 x6) x7) < 65 then (some false) else (if (bt (rdOf ByteArray.empty x5 x6) x7) > 90 then (some false) else (spec_VerIdentifiers.l1 k x1 x5 x6 (wrap64 (x7 + 1))))) else (if (bt (rdOf ByteArray.empty x5 x6) x7) > 122 then (if (bt (rdOf ByteArray.empty x5 x6) x7) < 65 then (some false) else (if (bt (rdOf ByteArray.empty x5 x6) x7) > 90 then (some false) else (spec_VerIdentifiers.l1 k x1 x5 x6 (wrap64 (x7 + 1))))) else (spec_VerIdentifiers.l1 k x1 x5 x6 (wrap64 (x7 + 1)))))))) else (none)) else (if (rdOf ByteArray.empty x5 x6).toList = ([] : List UInt8) then (some false) else (if x1 = true then ((spec_VerNumeric.f k (rdOf ByteArray.empty x5 x6)).bind fun t143 => (if t143 = true then ((spec_VerPlainly.f (rdOf ByteArray.empty x5 x6)).bind fun t145 => (if t145 = true then (spec_VerIdentifiers.l0 k x1 x5 (wrap64 (x6 + 1))) else (some false))) else (spec_VerIdentifiers.l0 k x1 x5 (wrap64 (x6 + 1))))) else (spec_VerIdentifiers.l0 k x1 x5 (wrap64 (x6 + 1)))))) else (none)) else (none)
end
def spec_VerIdentifiers.f (k : Nat) (a0 : ByteArray) (a1 : Bool) : Option (Bool) := (spec_VerSplit.f k a0).bind fun t135 => (spec_VerIdentifiers.l0 k a1 t135 0)
theorem spec_VerIdentifiers.mono_l : ∀ k, (∀ y0 y1 y2, LeO (spec_VerIdentifiers.l0 k y0 y1 y2) (spec_VerIdentifiers.l0 (k + 1) y0 y1 y2)) ∧ (∀ y0 y1 y2 y3, LeO (spec_VerIdentifiers.l1 k y0 y1 y2 y3) (spec_VerIdentifiers.l1 (k + 1) y0 y1 y2 y3))
 | 0 => ⟨fun _ _ _ r h => by simp [spec_VerIdentifiers.l0] at h, fun _ _ _ _ r h => by simp [spec_VerIdentifiers.l1] at h⟩
 | k + 1 => by
  obtain ⟨ih0, ih1⟩ := spec_VerIdentifiers.mono_l k
  refine ⟨?_, ?_⟩
  ·
   intro y0 y1 y2
   unfold spec_VerIdentifiers.l0
   repeat' first
   | (with_reducible exact ih0 _ _ _)
   | (with_reducible exact ih1 _ _ _ _)
   | (with_reducible exact spec_VerNumeric.mono _ _)
   | (with_reducible exact spec_VerSplit.mono _ _)
   | (with_reducible exact LeO.refl _)
   | (with_reducible exact LeO.none _)
   | (with_reducible refine LeO.ite ?_ ?_)
   | (with_reducible refine LeO.bind ?_ (fun _ => ?_))
   | exact ih0 _ _ _
   | exact ih1 _ _ _ _
   | exact spec_VerNumeric.mono _ _
   | exact spec_VerSplit.mono _ _
   | exact LeO.none _
   | refine LeO.ite ?_ ?_
   | refine LeO.bind ?_ (fun _ => ?_)
  ·
   intro y0 y1 y2 y3
   unfold spec_VerIdentifiers.l1
   repeat' first
   | (with_reducible exact ih0 _ _ _)
   | (with_reducible exact ih1 _ _ _ _)
   | (with_reducible exact spec_VerNumeric.mono _ _)
   | (with_reducible exact spec_VerSplit.mono _ _)
   | (with_reducible exact LeO.refl _)
   | (with_reducible exact LeO.none _)
   | (with_reducible refine LeO.ite ?_ ?_)
   | (with_reducible refine LeO.bind ?_ (fun _ => ?_))
   | exact ih0 _ _ _
   | exact ih1 _ _ _ _
   | exact spec_VerNumeric.mono _ _
   | exact spec_VerSplit.mono _ _
   | exact LeO.none _
   | refine LeO.ite ?_ ?_
   | refine LeO.bind ?_ (fun _ => ?_)
theorem spec_VerIdentifiers.mono : ∀ a0 a1 k, LeO (spec_VerIdentifiers.f k a0 a1) (spec_VerIdentifiers.f (k + 1) a0 a1) := by
 intro a0 a1 k
 obtain ⟨ih0, ih1⟩ := spec_VerIdentifiers.mono_l k
 unfold spec_VerIdentifiers.f
 repeat' first
   | (with_reducible exact ih0 _ _ _)
   | (with_reducible exact ih1 _ _ _ _)
   | (with_reducible exact spec_VerNumeric.mono _ _)
   | (with_reducible exact spec_VerSplit.mono _ _)
   | (with_reducible exact LeO.refl _)
   | (with_reducible exact LeO.none _)
   | (with_reducible refine LeO.ite ?_ ?_)
   | (with_reducible refine LeO.bind ?_ (fun _ => ?_))
   | exact ih0 _ _ _
   | exact ih1 _ _ _ _
   | exact spec_VerNumeric.mono _ _
   | exact spec_VerSplit.mono _ _
   | exact LeO.none _
   | refine LeO.ite ?_ ?_
   | refine LeO.bind ?_ (fun _ => ?_)
set_option maxHeartbeats 8000000 in
set_option maxRecDepth 100000 in
theorem spec_VerIdentifiers.calls (k : Nat) (a0 : ByteArray) (a1 : Bool) (r : Bool) (w : World) (h : spec_VerIdentifiers.f k a0 a1 = some r) :
  Calls Tryd.prog 11 #[.string a0, .bool a1] w fun e w' => e = .returned (.bool r) ∧ Below w.heap.size w w' := by
 have HB := aM_ (Below.refl w.heap.size w)
 have H : ((spec_VerSplit.f k a0).bind fun t135 => (spec_VerIdentifiers.l0 k a1 t135 0)) = some r := h
 clear h
 replace H := Option.bind_eq_some_iff.mp H
 obtain ⟨t135, A30, H⟩ := H
 replace H : (spec_VerIdentifiers.l0 k a1 t135 0) = some r := H
 have A3 := aM_ A30
 clear A30
 have H' := aM_ H
 clear H
 go_enter Tryd.func11, Tryd.ntmps11
 go_wp2_with (first | ((with_reducible refine gate_callee (f := 31) rfl ?_); refine goesL_ (some 10) rfl rfl Tryd.func31 (by kernel_rfl) rfl #[.string a0] rfl (by (try simp only [List.map_toArray, List.map_cons, List.map_nil]); first | done | rfl | (simp only [List.length_drop, List.length_take]; rfl)) ?_; (with_reducible refine (spec_VerSplit.calls k a0 t135 _ A3.out).mono ?_); rintro e w4 ⟨v136, rfl, ho0, hb⟩; refine ⟨_, rfl, ?_⟩; have n0_ := aM_ (Kd.R_lower ho0 (below_size (by repeat (first | (with_reducible first | exact HB.out | apply bB_ | apply wN_ | apply bE_) | exact HB.out)))); have n1_ := aM_ (below_step (by repeat (first | (with_reducible first | exact HB.out | apply bB_ | apply wN_ | apply bE_) | exact HB.out)) hb); clear HB; have HO137 := n0_; have HB := n1_; clear n0_ n1_; (try clear hb); (try clear hb2); (try clear hk); (try clear hi); (try clear ho0)))
 go_loopg [6] k (fun kq v6 w' => ∃ (x6_1 : Int), v6 = .int .i64 x6_1 ∧ Aside0 (spec_VerIdentifiers.l0 kq a1 t135 x6_1 = some r) ∧ Aside0 (kq ≤ k) ∧ Aside0 (Kd.R Kd.string 9 w' w.heap.size (fun _ => True) v136 t135) ∧ Aside0 (Below w.heap.size w w'))
 case atStart => exact ⟨(0), (by first | rfl | (simp; done) | (simp [*]; done)), H', ⟨Nat.le_refl _⟩, ⟨by (with_reducible repeat (first | apply kA_ | apply kN_ | apply kD_)); exact HO137.out⟩, ⟨by repeat (first | (with_reducible first | exact HB.out | apply bB_ | apply wN_ | apply bE_) | exact HB.out)⟩⟩
 case round =>
  clear H'
  try clear c1
  try clear p2
  try clear c3
  obtain ⟨x6_1, rfl, HA, HK1, HO_5, HB⟩ := hrel
  cases gk with
  | zero => exact absurd HA.out (by simp [spec_VerIdentifiers.l0])
  | succ k1 =>
   have H := HA.out
   clear HA
   simp only [spec_VerIdentifiers.l0] at H
   by_cases c5 : x6_1 < (t135.length : Int)
   ·
    rw [if_pos c5] at H
    have c5b0 : decide (x6_1 < (t135.length : Int)) = true := decide_eq_true c5
    clear c5
    have H' := aM_ H
    clear H
    obtain ⟨Ao6, co6, eo6⟩ := Kd.R_slice HO_5.out
    subst eo6
    go_wp2
    go_loopg [7] k1 (fun kq v7 w' => ∃ (x7_2 : Int), v7 = .int .i64 x7_2 ∧ Aside0 (spec_VerIdentifiers.l1 kq a1 t135 x6_1 x7_2 = some r) ∧ Aside0 (kq ≤ k1) ∧ Aside0 (Kd.R Kd.string 9 w' w.heap.size (fun _ => True) (.slice Ao6 t135.length co6) t135) ∧ Aside0 (Below w.heap.size w w'))
    case atStart => exact ⟨(0), (by first | rfl | (simp; done) | (simp [*]; done)), H', ⟨Nat.le_refl _⟩, ⟨by (with_reducible repeat (first | apply kA_ | apply kN_ | apply kD_)); exact HO_5.out⟩, ⟨by repeat (first | (with_reducible first | exact HB.out | apply bB_ | apply wN_ | apply bE_) | exact HB.out)⟩⟩
    case round =>
     clear H'
     try clear c1
     try clear p2
     try clear c3
     try clear c5
     try clear c5b0
     try clear p2
     obtain ⟨x7_2, rfl, HA, HK2, HO_5, HB⟩ := hrel
     cases gk with
     | zero => exact absurd HA.out (by simp [spec_VerIdentifiers.l1])
     | succ k2 =>
      have H := HA.out
      clear HA
      simp only [spec_VerIdentifiers.l1] at H
      by_cases c7 : 0 ≤ x6_1
      ·
       rw [if_pos c7] at H
       have c7b0 : decide (0 ≤ x6_1) = true := decide_eq_true c7
       clear c7
       by_cases c8 : x6_1 < (t135.length : Int)
       ·
        rw [if_pos c8] at H
        have c8b0 : decide (x6_1 < (t135.length : Int)) = true := decide_eq_true c8
        clear c8
        by_cases c9 : x7_2 < ((rdOf ByteArray.empty t135 x6_1).size : Int)
        ·
         rw [if_pos c9] at H
         have c9b0 : decide (x7_2 < ((rdOf ByteArray.empty t135 x6_1).size : Int)) = true := decide_eq_true c9
         clear c9
         by_cases c10 : 0 ≤ x7_2
         ·
          rw [if_pos c10] at H
          have c10b0 : decide (0 ≤ x7_2) = true := decide_eq_true c10
          clear c10
          replace H := Option.bind_eq_some_iff.mp H
          obtain ⟨t140, A120, H⟩ := H
          replace H : (if t140 = true then (spec_VerIdentifiers.l1 k2 a1 t135 x6_1 (wrap64 (x7_2 + 1))) else (if (bt (rdOf ByteArray.empty t135 x6_1) x7_2) = 45 then (spec_VerIdentifiers.l1 k2 a1 t135 x6_1 (wrap64 (x7_2 + 1))) else (if (bt (rdOf ByteArray.empty t135 x6_1) x7_2) < 97 then (if (bt (rdOf ByteArray.empty t135 x6_1) x7_2) < 65 then (some false) else (if (bt (rdOf ByteArray.empty t135 x6_1) x7_2) > 90 then (some false) else (spec_VerIdentifiers.l1 k2 a1 t135 x6_1 (wrap64 (x7_2 + 1))))) else (if (bt (rdOf ByteArray.empty t135 x6_1) x7_2) > 122 then (if (bt (rdOf ByteArray.empty t135 x6_1) x7_2) < 65 then (some false) else (if (bt (rdOf ByteArray.empty t135 x6_1) x7_2) > 90 then (some false) else (spec_VerIdentifiers.l1 k2 a1 t135 x6_1 (wrap64 (x7_2 + 1))))) else (spec_VerIdentifiers.l1 k2 a1 t135 x6_1 (wrap64 (x7_2 + 1))))))) = some r := H
          have A12 := aM_ A120
          clear A120
          by_cases c13 : t140 = true
          ·
           subst c13
           have H1 : (spec_VerIdentifiers.l1 k2 a1 t135 x6_1 (wrap64 (x7_2 + 1))) = some r := by rw [if_pos rfl] at H; exact H
           clear H
           have H := H1
           clear H1
           have H' := aM_ H
           clear H
           have p138 : 0 ≤ (x6_1 : Int) := of_decide_eq_true (by first | (with_reducible assumption) | assumption)
           have q138 : x6_1 < (t135.length : Int) := of_decide_eq_true (by first | (with_reducible assumption) | assumption)
           obtain ⟨ad138, e138, hx138_0⟩ := Kd.at_string (Kd.R_reads' HO_5.out).2.2 x6_1 p138 q138
           cases e138
           replace p138 := eq_true p138
           replace q138 := eq_true q138
           have p139 : 0 ≤ (x6_1 : Int) := of_decide_eq_true (by first | (with_reducible assumption) | assumption)
           have q139 : x6_1 < (t135.length : Int) := of_decide_eq_true (by first | (with_reducible assumption) | assumption)
           obtain ⟨ad139, e139, hx139_0⟩ := Kd.at_string (Kd.R_reads' HO_5.out).2.2 x6_1 p139 q139
           obtain rfl : ad138 = ad139 := (by injection e139)
           replace p139 := eq_true p139
           replace q139 := eq_true q139
           have p11 : 0 ≤ (x7_2 : Int) := of_decide_eq_true (by first | (with_reducible assumption) | assumption)
           have q11 : x7_2 < ((rdOf ByteArray.empty t135 x6_1).size : Int) := of_decide_eq_true (by first | (with_reducible assumption) | assumption)
           have hx11 := bt_at (rdOf ByteArray.empty t135 x6_1) x7_2
           replace p11 := eq_true p11
           replace q11 := eq_true q11
           go_wp2_with (first | ((with_reducible refine gate_callee (f := 32) rfl ?_); refine goesL_ (some 33) rfl rfl Tryd.func32 (by kernel_rfl) rfl #[.int .u8 (bt (rdOf ByteArray.empty t135 x6_1) x7_2)] rfl (by (try simp only [List.map_toArray, List.map_cons, List.map_nil]); first | done | rfl | (simp only [List.length_drop, List.length_take]; rfl)) ?_; (with_reducible refine (spec_verDigit.calls (bt (rdOf ByteArray.empty t135 x6_1) x7_2) true _ A12.out).mono ?_); rintro e w' ⟨rfl, ⟨nd, rfl⟩⟩; refine ⟨_, rfl, ?_⟩))
           go_roundg k2
           case measure => have := HK1.out; have := HK2.out; omega
           case rel => exact ⟨(wrap64 (x7_2 + 1)), (by first | rfl | (simp; done) | (simp [*]; done)), H', ⟨by have := HK1.out; have := HK2.out; omega⟩, ⟨by (with_reducible repeat (first | apply kA_ | apply kN_ | apply kD_)); exact HO_5.out⟩, ⟨by repeat (first | (with_reducible first | exact HB.out | apply bB_ | apply wN_ | apply bE_) | exact HB.out)⟩⟩
          ·
           replace c13 := Bool.eq_false_iff.mpr c13
           subst c13
           have H1 : (if (bt (rdOf ByteArray.empty t135 x6_1) x7_2) = 45 then (spec_VerIdentifiers.l1 k2 a1 t135 x6_1 (wrap64 (x7_2 + 1))) else (if (bt (rdOf ByteArray.empty t135 x6_1) x7_2) < 97 then (if (bt (rdOf ByteArray.empty t135 x6_1) x7_2) < 65 then (some false) else (if (bt (rdOf ByteArray.empty t135 x6_1) x7_2) > 90 then (some false) else (spec_VerIdentifiers.l1 k2 a1 t135 x6_1 (wrap64 (x7_2 + 1))))) else (if (bt (rdOf ByteArray.empty t135 x6_1) x7_2) > 122 then (if (bt (rdOf ByteArray.empty t135 x6_1) x7_2) < 65 then (some false) else (if (bt (rdOf ByteArray.empty t135 x6_1) x7_2) > 90 then (some false) else (spec_VerIdentifiers.l1 k2 a1 t135 x6_1 (wrap64 (x7_2 + 1))))) else (spec_VerIdentifiers.l1 k2 a1 t135 x6_1 (wrap64 (x7_2 + 1)))))) = some r := by rw [if_neg (show ¬ (false = true) by decide)] at H; exact H
           clear H
           have H := H1
           clear H1
           by_cases c14 : (bt (rdOf ByteArray.empty t135 x6_1) x7_2) = 45
           ·
            rw [if_pos c14] at H
            have c14b0 : ((bt (rdOf ByteArray.empty t135 x6_1) x7_2) == 45) = true := beq_iff_eq.mpr c14
            have c14b1 : ((bt (rdOf ByteArray.empty t135 x6_1) x7_2) != 45) = false := bne_eq_false_iff_eq.mpr c14
            clear c14
            have H' := aM_ H
            clear H
            have p138 : 0 ≤ (x6_1 : Int) := of_decide_eq_true (by first | (with_reducible assumption) | assumption)
            have q138 : x6_1 < (t135.length : Int) := of_decide_eq_true (by first | (with_reducible assumption) | assumption)
            obtain ⟨ad138, e138, hx138_0⟩ := Kd.at_string (Kd.R_reads' HO_5.out).2.2 x6_1 p138 q138
            cases e138
            replace p138 := eq_true p138
            replace q138 := eq_true q138
            have p139 : 0 ≤ (x6_1 : Int) := of_decide_eq_true (by first | (with_reducible assumption) | assumption)
            have q139 : x6_1 < (t135.length : Int) := of_decide_eq_true (by first | (with_reducible assumption) | assumption)
            obtain ⟨ad139, e139, hx139_0⟩ := Kd.at_string (Kd.R_reads' HO_5.out).2.2 x6_1 p139 q139
            obtain rfl : ad138 = ad139 := (by injection e139)
            replace p139 := eq_true p139
            replace q139 := eq_true q139
            have p11 : 0 ≤ (x7_2 : Int) := of_decide_eq_true (by first | (with_reducible assumption) | assumption)
            have q11 : x7_2 < ((rdOf ByteArray.empty t135 x6_1).size : Int) := of_decide_eq_true (by first | (with_reducible assumption) | assumption)
            have hx11 := bt_at (rdOf ByteArray.empty t135 x6_1) x7_2
            replace p11 := eq_true p11
            replace q11 := eq_true q11
            go_wp2_with (first | ((with_reducible refine gate_callee (f := 32) rfl ?_); refine goesL_ (some 33) rfl rfl Tryd.func32 (by kernel_rfl) rfl #[.int .u8 (bt (rdOf ByteArray.empty t135 x6_1) x7_2)] rfl (by (try simp only [List.map_toArray, List.map_cons, List.map_nil]); first | done | rfl | (simp only [List.length_drop, List.length_take]; rfl)) ?_; (with_reducible refine (spec_verDigit.calls (bt (rdOf ByteArray.empty t135 x6_1) x7_2) false _ A12.out).mono ?_); rintro e w' ⟨rfl, ⟨nd, rfl⟩⟩; refine ⟨_, rfl, ?_⟩))
            go_roundg k2
            case measure => have := HK1.out; have := HK2.out; omega
            case rel => exact ⟨(wrap64 (x7_2 + 1)), (by first | rfl | (simp; done) | (simp [*]; done)), H', ⟨by have := HK1.out; have := HK2.out; omega⟩, ⟨by (with_reducible repeat (first | apply kA_ | apply kN_ | apply kD_)); exact HO_5.out⟩, ⟨by repeat (first | (with_reducible first | exact HB.out | apply bB_ | apply wN_ | apply bE_) | exact HB.out)⟩⟩
           ·
            rw [if_neg c14] at H
            have c14b0 : ((bt (rdOf ByteArray.empty t135 x6_1) x7_2) == 45) = false := beq_eq_false_iff_ne.mpr c14
            have c14b1 : ((bt (rdOf ByteArray.empty t135 x6_1) x7_2) != 45) = true := bne_iff_ne.mpr c14
            by_cases c15 : (bt (rdOf ByteArray.empty t135 x6_1) x7_2) < 97
            ·
             rw [if_pos c15] at H
             have c15b0 : decide ((bt (rdOf ByteArray.empty t135 x6_1) x7_2) < 97) = true := decide_eq_true c15
             clear c15
             by_cases c16 : (bt (rdOf ByteArray.empty t135 x6_1) x7_2) < 65
             ·
              rw [if_pos c16] at H
              have c16b0 : decide ((bt (rdOf ByteArray.empty t135 x6_1) x7_2) < 65) = true := decide_eq_true c16
              clear c16
              obtain rfl := Option.some.inj H
              have p138 : 0 ≤ (x6_1 : Int) := of_decide_eq_true (by first | (with_reducible assumption) | assumption)
              have q138 : x6_1 < (t135.length : Int) := of_decide_eq_true (by first | (with_reducible assumption) | assumption)
              obtain ⟨ad138, e138, hx138_0⟩ := Kd.at_string (Kd.R_reads' HO_5.out).2.2 x6_1 p138 q138
              cases e138
              replace p138 := eq_true p138
              replace q138 := eq_true q138
              have p139 : 0 ≤ (x6_1 : Int) := of_decide_eq_true (by first | (with_reducible assumption) | assumption)
              have q139 : x6_1 < (t135.length : Int) := of_decide_eq_true (by first | (with_reducible assumption) | assumption)
              obtain ⟨ad139, e139, hx139_0⟩ := Kd.at_string (Kd.R_reads' HO_5.out).2.2 x6_1 p139 q139
              obtain rfl : ad138 = ad139 := (by injection e139)
              replace p139 := eq_true p139
              replace q139 := eq_true q139
              have p11 : 0 ≤ (x7_2 : Int) := of_decide_eq_true (by first | (with_reducible assumption) | assumption)
              have q11 : x7_2 < ((rdOf ByteArray.empty t135 x6_1).size : Int) := of_decide_eq_true (by first | (with_reducible assumption) | assumption)
              have hx11 := bt_at (rdOf ByteArray.empty t135 x6_1) x7_2
              replace p11 := eq_true p11
              replace q11 := eq_true q11
              go_wp2_with (first | ((with_reducible refine gate_callee (f := 32) rfl ?_); refine goesL_ (some 33) rfl rfl Tryd.func32 (by kernel_rfl) rfl #[.int .u8 (bt (rdOf ByteArray.empty t135 x6_1) x7_2)] rfl (by (try simp only [List.map_toArray, List.map_cons, List.map_nil]); first | done | rfl | (simp only [List.length_drop, List.length_take]; rfl)) ?_; (with_reducible refine (spec_verDigit.calls (bt (rdOf ByteArray.empty t135 x6_1) x7_2) false _ A12.out).mono ?_); rintro e w' ⟨rfl, ⟨nd, rfl⟩⟩; refine ⟨_, rfl, ?_⟩))
              go_ret
              exact ⟨by first | rfl | (simp [errW_none, errW_some] <;> rfl) | (simp [*, errW_none, errW_some] <;> rfl) | (exfalso; contradiction), by repeat (first | (with_reducible first | exact HB.out | apply bB_ | apply wN_ | apply bE_) | exact HB.out)⟩
             ·
              rw [if_neg c16] at H
              have c16b0 : decide ((bt (rdOf ByteArray.empty t135 x6_1) x7_2) < 65) = false := decide_eq_false c16
              clear c16
              by_cases c17 : (bt (rdOf ByteArray.empty t135 x6_1) x7_2) > 90
              ·
               rw [if_pos c17] at H
               have c17b0 : decide (90 < (bt (rdOf ByteArray.empty t135 x6_1) x7_2)) = true := decide_eq_true c17
               clear c17
               obtain rfl := Option.some.inj H
               have p138 : 0 ≤ (x6_1 : Int) := of_decide_eq_true (by first | (with_reducible assumption) | assumption)
               have q138 : x6_1 < (t135.length : Int) := of_decide_eq_true (by first | (with_reducible assumption) | assumption)
               obtain ⟨ad138, e138, hx138_0⟩ := Kd.at_string (Kd.R_reads' HO_5.out).2.2 x6_1 p138 q138
               cases e138
               replace p138 := eq_true p138
               replace q138 := eq_true q138
               have p139 : 0 ≤ (x6_1 : Int) := of_decide_eq_true (by first | (with_reducible assumption) | assumption)
               have q139 : x6_1 < (t135.length : Int) := of_decide_eq_true (by first | (with_reducible assumption) | assumption)
               obtain ⟨ad139, e139, hx139_0⟩ := Kd.at_string (Kd.R_reads' HO_5.out).2.2 x6_1 p139 q139
               obtain rfl : ad138 = ad139 := (by injection e139)
               replace p139 := eq_true p139
               replace q139 := eq_true q139
               have p11 : 0 ≤ (x7_2 : Int) := of_decide_eq_true (by first | (with_reducible assumption) | assumption)
               have q11 : x7_2 < ((rdOf ByteArray.empty t135 x6_1).size : Int) := of_decide_eq_true (by first | (with_reducible assumption) | assumption)
               have hx11 := bt_at (rdOf ByteArray.empty t135 x6_1) x7_2
               replace p11 := eq_true p11
               replace q11 := eq_true q11
               go_wp2_with (first | ((with_reducible refine gate_callee (f := 32) rfl ?_); refine goesL_ (some 33) rfl rfl Tryd.func32 (by kernel_rfl) rfl #[.int .u8 (bt (rdOf ByteArray.empty t135 x6_1) x7_2)] rfl (by (try simp only [List.map_toArray, List.map_cons, List.map_nil]); first | done | rfl | (simp only [List.length_drop, List.length_take]; rfl)) ?_; (with_reducible refine (spec_verDigit.calls (bt (rdOf ByteArray.empty t135 x6_1) x7_2) false _ A12.out).mono ?_); rintro e w' ⟨rfl, ⟨nd, rfl⟩⟩; refine ⟨_, rfl, ?_⟩))
               go_ret
               exact ⟨by first | rfl | (simp [errW_none, errW_some] <;> rfl) | (simp [*, errW_none, errW_some] <;> rfl) | (exfalso; contradiction), by repeat (first | (with_reducible first | exact HB.out | apply bB_ | apply wN_ | apply bE_) | exact HB.out)⟩
              ·
               rw [if_neg c17] at H
               have c17b0 : decide (90 < (bt (rdOf ByteArray.empty t135 x6_1) x7_2)) = false := decide_eq_false c17
               clear c17
               have H' := aM_ H
               clear H
               have p138 : 0 ≤ (x6_1 : Int) := of_decide_eq_true (by first | (with_reducible assumption) | assumption)
               have q138 : x6_1 < (t135.length : Int) := of_decide_eq_true (by first | (with_reducible assumption) | assumption)
               obtain ⟨ad138, e138, hx138_0⟩ := Kd.at_string (Kd.R_reads' HO_5.out).2.2 x6_1 p138 q138
               cases e138
               replace p138 := eq_true p138
               replace q138 := eq_true q138
               have p139 : 0 ≤ (x6_1 : Int) := of_decide_eq_true (by first | (with_reducible assumption) | assumption)
               have q139 : x6_1 < (t135.length : Int) := of_decide_eq_true (by first | (with_reducible assumption) | assumption)
               obtain ⟨ad139, e139, hx139_0⟩ := Kd.at_string (Kd.R_reads' HO_5.out).2.2 x6_1 p139 q139
               obtain rfl : ad138 = ad139 := (by injection e139)
               replace p139 := eq_true p139
               replace q139 := eq_true q139
               have p11 : 0 ≤ (x7_2 : Int) := of_decide_eq_true (by first | (with_reducible assumption) | assumption)
               have q11 : x7_2 < ((rdOf ByteArray.empty t135 x6_1).size : Int) := of_decide_eq_true (by first | (with_reducible assumption) | assumption)
               have hx11 := bt_at (rdOf ByteArray.empty t135 x6_1) x7_2
               replace p11 := eq_true p11
               replace q11 := eq_true q11
               go_wp2_with (first | ((with_reducible refine gate_callee (f := 32) rfl ?_); refine goesL_ (some 33) rfl rfl Tryd.func32 (by kernel_rfl) rfl #[.int .u8 (bt (rdOf ByteArray.empty t135 x6_1) x7_2)] rfl (by (try simp only [List.map_toArray, List.map_cons, List.map_nil]); first | done | rfl | (simp only [List.length_drop, List.length_take]; rfl)) ?_; (with_reducible refine (spec_verDigit.calls (bt (rdOf ByteArray.empty t135 x6_1) x7_2) false _ A12.out).mono ?_); rintro e w' ⟨rfl, ⟨nd, rfl⟩⟩; refine ⟨_, rfl, ?_⟩))
               go_roundg k2
               case measure => have := HK1.out; have := HK2.out; omega
               case rel => exact ⟨(wrap64 (x7_2 + 1)), (by first | rfl | (simp; done) | (simp [*]; done)), H', ⟨by have := HK1.out; have := HK2.out; omega⟩, ⟨by (with_reducible repeat (first | apply kA_ | apply kN_ | apply kD_)); exact HO_5.out⟩, ⟨by repeat (first | (with_reducible first | exact HB.out | apply bB_ | apply wN_ | apply bE_) | exact HB.out)⟩⟩
            ·
             rw [if_neg c15] at H
             have c15b0 : decide ((bt (rdOf ByteArray.empty t135 x6_1) x7_2) < 97) = false := decide_eq_false c15
             clear c15
             by_cases c18 : (bt (rdOf ByteArray.empty t135 x6_1) x7_2) > 122
             ·
              rw [if_pos c18] at H
              have c18b0 : decide (122 < (bt (rdOf ByteArray.empty t135 x6_1) x7_2)) = true := decide_eq_true c18
              clear c18
              by_cases c19 : (bt (rdOf ByteArray.empty t135 x6_1) x7_2) < 65
              ·
               rw [if_pos c19] at H
               have c19b0 : decide ((bt (rdOf ByteArray.empty t135 x6_1) x7_2) < 65) = true := decide_eq_true c19
               clear c19
               obtain rfl := Option.some.inj H
               have p138 : 0 ≤ (x6_1 : Int) := of_decide_eq_true (by first | (with_reducible assumption) | assumption)
               have q138 : x6_1 < (t135.length : Int) := of_decide_eq_true (by first | (with_reducible assumption) | assumption)
               obtain ⟨ad138, e138, hx138_0⟩ := Kd.at_string (Kd.R_reads' HO_5.out).2.2 x6_1 p138 q138
               cases e138
               replace p138 := eq_true p138
               replace q138 := eq_true q138
               have p139 : 0 ≤ (x6_1 : Int) := of_decide_eq_true (by first | (with_reducible assumption) | assumption)
               have q139 : x6_1 < (t135.length : Int) := of_decide_eq_true (by first | (with_reducible assumption) | assumption)
               obtain ⟨ad139, e139, hx139_0⟩ := Kd.at_string (Kd.R_reads' HO_5.out).2.2 x6_1 p139 q139
               obtain rfl : ad138 = ad139 := (by injection e139)
               replace p139 := eq_true p139
               replace q139 := eq_true q139
               have p11 : 0 ≤ (x7_2 : Int) := of_decide_eq_true (by first | (with_reducible assumption) | assumption)
               have q11 : x7_2 < ((rdOf ByteArray.empty t135 x6_1).size : Int) := of_decide_eq_true (by first | (with_reducible assumption) | assumption)
               have hx11 := bt_at (rdOf ByteArray.empty t135 x6_1) x7_2
               replace p11 := eq_true p11
               replace q11 := eq_true q11
               go_wp2_with (first | ((with_reducible refine gate_callee (f := 32) rfl ?_); refine goesL_ (some 33) rfl rfl Tryd.func32 (by kernel_rfl) rfl #[.int .u8 (bt (rdOf ByteArray.empty t135 x6_1) x7_2)] rfl (by (try simp only [List.map_toArray, List.map_cons, List.map_nil]); first | done | rfl | (simp only [List.length_drop, List.length_take]; rfl)) ?_; (with_reducible refine (spec_verDigit.calls (bt (rdOf ByteArray.empty t135 x6_1) x7_2) false _ A12.out).mono ?_); rintro e w' ⟨rfl, ⟨nd, rfl⟩⟩; refine ⟨_, rfl, ?_⟩))
               go_ret
               exact ⟨by first | rfl | (simp [errW_none, errW_some] <;> rfl) | (simp [*, errW_none, errW_some] <;> rfl) | (exfalso; contradiction), by repeat (first | (with_reducible first | exact HB.out | apply bB_ | apply wN_ | apply bE_) | exact HB.out)⟩
              ·
               rw [if_neg c19] at H
               have c19b0 : decide ((bt (rdOf ByteArray.empty t135 x6_1) x7_2) < 65) = false := decide_eq_false c19
               clear c19
               by_cases c20 : (bt (rdOf ByteArray.empty t135 x6_1) x7_2) > 90
               ·
                rw [if_pos c20] at H
                have c20b0 : decide (90 < (bt (rdOf ByteArray.empty t135 x6_1) x7_2)) = true := decide_eq_true c20
                clear c20
                obtain rfl := Option.some.inj H
                have p138 : 0 ≤ (x6_1 : Int) := of_decide_eq_true (by first | (with_reducible assumption) | assumption)
                have q138 : x6_1 < (t135.length : Int) := of_decide_eq_true (by first | (with_reducible assumption) | assumption)
                obtain ⟨ad138, e138, hx138_0⟩ := Kd.at_string (Kd.R_reads' HO_5.out).2.2 x6_1 p138 q138
                cases e138
                replace p138 := eq_true p138
                replace q138 := eq_true q138
                have p139 : 0 ≤ (x6_1 : Int) := of_decide_eq_true (by first | (with_reducible assumption) | assumption)
                have q139 : x6_1 < (t135.length : Int) := of_decide_eq_true (by first | (with_reducible assumption) | assumption)
                obtain ⟨ad139, e139, hx139_0⟩ := Kd.at_string (Kd.R_reads' HO_5.out).2.2 x6_1 p139 q139
                obtain rfl : ad138 = ad139 := (by injection e139)
                replace p139 := eq_true p139
                replace q139 := eq_true q139
                have p11 : 0 ≤ (x7_2 : Int) := of_decide_eq_true (by first | (with_reducible assumption) | assumption)
                have q11 : x7_2 < ((rdOf ByteArray.empty t135 x6_1).size : Int) := of_decide_eq_true (by first | (with_reducible assumption) | assumption)
                have hx11 := bt_at (rdOf ByteArray.empty t135 x6_1) x7_2
                replace p11 := eq_true p11
                replace q11 := eq_true q11
                go_wp2_with (first | ((with_reducible refine gate_callee (f := 32) rfl ?_); refine goesL_ (some 33) rfl rfl Tryd.func32 (by kernel_rfl) rfl #[.int .u8 (bt (rdOf ByteArray.empty t135 x6_1) x7_2)] rfl (by (try simp only [List.map_toArray, List.map_cons, List.map_nil]); first | done | rfl | (simp only [List.length_drop, List.length_take]; rfl)) ?_; (with_reducible refine (spec_verDigit.calls (bt (rdOf ByteArray.empty t135 x6_1) x7_2) false _ A12.out).mono ?_); rintro e w' ⟨rfl, ⟨nd, rfl⟩⟩; refine ⟨_, rfl, ?_⟩))
                go_ret
                exact ⟨by first | rfl | (simp [errW_none, errW_some] <;> rfl) | (simp [*, errW_none, errW_some] <;> rfl) | (exfalso; contradiction), by repeat (first | (with_reducible first | exact HB.out | apply bB_ | apply wN_ | apply bE_) | exact HB.out)⟩
               ·
                rw [if_neg c20] at H
                have c20b0 : decide (90 < (bt (rdOf ByteArray.empty t135 x6_1) x7_2)) = false := decide_eq_false c20
                clear c20
                have H' := aM_ H
                clear H
                have p138 : 0 ≤ (x6_1 : Int) := of_decide_eq_true (by first | (with_reducible assumption) | assumption)
                have q138 : x6_1 < (t135.length : Int) := of_decide_eq_true (by first | (with_reducible assumption) | assumption)
                obtain ⟨ad138, e138, hx138_0⟩ := Kd.at_string (Kd.R_reads' HO_5.out).2.2 x6_1 p138 q138
                cases e138
                replace p138 := eq_true p138
                replace q138 := eq_true q138
                have p139 : 0 ≤ (x6_1 : Int) := of_decide_eq_true (by first | (with_reducible assumption) | assumption)
                have q139 : x6_1 < (t135.length : Int) := of_decide_eq_true (by first | (with_reducible assumption) | assumption)
                obtain ⟨ad139, e139, hx139_0⟩ := Kd.at_string (Kd.R_reads' HO_5.out).2.2 x6_1 p139 q139
                obtain rfl : ad138 = ad139 := (by injection e139)
                replace p139 := eq_true p139
                replace q139 := eq_true q139
                have p11 : 0 ≤ (x7_2 : Int) := of_decide_eq_true (by first | (with_reducible assumption) | assumption)
                have q11 : x7_2 < ((rdOf ByteArray.empty t135 x6_1).size : Int) := of_decide_eq_true (by first | (with_reducible assumption) | assumption)
                have hx11 := bt_at (rdOf ByteArray.empty t135 x6_1) x7_2
                replace p11 := eq_true p11
                replace q11 := eq_true q11
                go_wp2_with (first | ((with_reducible refine gate_callee (f := 32) rfl ?_); refine goesL_ (some 33) rfl rfl Tryd.func32 (by kernel_rfl) rfl #[.int .u8 (bt (rdOf ByteArray.empty t135 x6_1) x7_2)] rfl (by (try simp only [List.map_toArray, List.map_cons, List.map_nil]); first | done | rfl | (simp only [List.length_drop, List.length_take]; rfl)) ?_; (with_reducible refine (spec_verDigit.calls (bt (rdOf ByteArray.empty t135 x6_1) x7_2) false _ A12.out).mono ?_); rintro e w' ⟨rfl, ⟨nd, rfl⟩⟩; refine ⟨_, rfl, ?_⟩))
                go_roundg k2
                case measure => have := HK1.out; have := HK2.out; omega
                case rel => exact ⟨(wrap64 (x7_2 + 1)), (by first | rfl | (simp; done) | (simp [*]; done)), H', ⟨by have := HK1.out; have := HK2.out; omega⟩, ⟨by (with_reducible repeat (first | apply kA_ | apply kN_ | apply kD_)); exact HO_5.out⟩, ⟨by repeat (first | (with_reducible first | exact HB.out | apply bB_ | apply wN_ | apply bE_) | exact HB.out)⟩⟩
             ·
              rw [if_neg c18] at H
              have c18b0 : decide (122 < (bt (rdOf ByteArray.empty t135 x6_1) x7_2)) = false := decide_eq_false c18
              clear c18
              have H' := aM_ H
              clear H
              have p138 : 0 ≤ (x6_1 : Int) := of_decide_eq_true (by first | (with_reducible assumption) | assumption)
              have q138 : x6_1 < (t135.length : Int) := of_decide_eq_true (by first | (with_reducible assumption) | assumption)
              obtain ⟨ad138, e138, hx138_0⟩ := Kd.at_string (Kd.R_reads' HO_5.out).2.2 x6_1 p138 q138
              cases e138
              replace p138 := eq_true p138
              replace q138 := eq_true q138
              have p139 : 0 ≤ (x6_1 : Int) := of_decide_eq_true (by first | (with_reducible assumption) | assumption)
              have q139 : x6_1 < (t135.length : Int) := of_decide_eq_true (by first | (with_reducible assumption) | assumption)
              obtain ⟨ad139, e139, hx139_0⟩ := Kd.at_string (Kd.R_reads' HO_5.out).2.2 x6_1 p139 q139
              obtain rfl : ad138 = ad139 := (by injection e139)
              replace p139 := eq_true p139
              replace q139 := eq_true q139
              have p11 : 0 ≤ (x7_2 : Int) := of_decide_eq_true (by first | (with_reducible assumption) | assumption)
              have q11 : x7_2 < ((rdOf ByteArray.empty t135 x6_1).size : Int) := of_decide_eq_true (by first | (with_reducible assumption) | assumption)
              have hx11 := bt_at (rdOf ByteArray.empty t135 x6_1) x7_2
              replace p11 := eq_true p11
              replace q11 := eq_true q11
              go_wp2_with (first | ((with_reducible refine gate_callee (f := 32) rfl ?_); refine goesL_ (some 33) rfl rfl Tryd.func32 (by kernel_rfl) rfl #[.int .u8 (bt (rdOf ByteArray.empty t135 x6_1) x7_2)] rfl (by (try simp only [List.map_toArray, List.map_cons, List.map_nil]); first | done | rfl | (simp only [List.length_drop, List.length_take]; rfl)) ?_; (with_reducible refine (spec_verDigit.calls (bt (rdOf ByteArray.empty t135 x6_1) x7_2) false _ A12.out).mono ?_); rintro e w' ⟨rfl, ⟨nd, rfl⟩⟩; refine ⟨_, rfl, ?_⟩))
              go_roundg k2
              case measure => have := HK1.out; have := HK2.out; omega
              case rel => exact ⟨(wrap64 (x7_2 + 1)), (by first | rfl | (simp; done) | (simp [*]; done)), H', ⟨by have := HK1.out; have := HK2.out; omega⟩, ⟨by (with_reducible repeat (first | apply kA_ | apply kN_ | apply kD_)); exact HO_5.out⟩, ⟨by repeat (first | (with_reducible first | exact HB.out | apply bB_ | apply wN_ | apply bE_) | exact HB.out)⟩⟩
         ·
          rw [if_neg c10] at H
          exact absurd H (by simp)
        ·
         rw [if_neg c9] at H
         have c9b0 : decide (x7_2 < ((rdOf ByteArray.empty t135 x6_1).size : Int)) = false := decide_eq_false c9
         clear c9
         by_cases c21 : (rdOf ByteArray.empty t135 x6_1).toList = ([] : List UInt8)
         ·
          rw [if_pos c21] at H
          have c21b0 : ((rdOf ByteArray.empty t135 x6_1).toList == ([] : List UInt8)) = true := beq_iff_eq.mpr c21
          have c21b1 : ((rdOf ByteArray.empty t135 x6_1).toList != ([] : List UInt8)) = false := bne_eq_false_iff_eq.mpr c21
          clear c21
          obtain rfl := Option.some.inj H
          have p138 : 0 ≤ (x6_1 : Int) := of_decide_eq_true (by first | (with_reducible assumption) | assumption)
          have q138 : x6_1 < (t135.length : Int) := of_decide_eq_true (by first | (with_reducible assumption) | assumption)
          obtain ⟨ad138, e138, hx138_0⟩ := Kd.at_string (Kd.R_reads' HO_5.out).2.2 x6_1 p138 q138
          cases e138
          replace p138 := eq_true p138
          replace q138 := eq_true q138
          have p141 : 0 ≤ (x6_1 : Int) := of_decide_eq_true (by first | (with_reducible assumption) | assumption)
          have q141 : x6_1 < (t135.length : Int) := of_decide_eq_true (by first | (with_reducible assumption) | assumption)
          obtain ⟨ad141, e141, hx141_0⟩ := Kd.at_string (Kd.R_reads' HO_5.out).2.2 x6_1 p141 q141
          obtain rfl : ad138 = ad141 := (by injection e141)
          replace p141 := eq_true p141
          replace q141 := eq_true q141
          go_wp2
          go_ret
          exact ⟨by first | rfl | (simp [errW_none, errW_some] <;> rfl) | (simp [*, errW_none, errW_some] <;> rfl) | (exfalso; contradiction), by repeat (first | (with_reducible first | exact HB.out | apply bB_ | apply wN_ | apply bE_) | exact HB.out)⟩
         ·
          rw [if_neg c21] at H
          have c21b0 : ((rdOf ByteArray.empty t135 x6_1).toList == ([] : List UInt8)) = false := beq_eq_false_iff_ne.mpr c21
          have c21b1 : ((rdOf ByteArray.empty t135 x6_1).toList != ([] : List UInt8)) = true := bne_iff_ne.mpr c21
          by_cases c22 : a1 = true
          ·
           subst c22
           have H1 : ((spec_VerNumeric.f k2 (rdOf ByteArray.empty t135 x6_1)).bind fun t143 => (if t143 = true then ((spec_VerPlainly.f (rdOf ByteArray.empty t135 x6_1)).bind fun t145 => (if t145 = true then (spec_VerIdentifiers.l0 k2 true t135 (wrap64 (x6_1 + 1))) else (some false))) else (spec_VerIdentifiers.l0 k2 true t135 (wrap64 (x6_1 + 1))))) = some r := by rw [if_pos rfl] at H; exact H
           clear H
           have H := H1
           clear H1
           replace H := Option.bind_eq_some_iff.mp H
           obtain ⟨t143, A230, H⟩ := H
           replace H : (if t143 = true then ((spec_VerPlainly.f (rdOf ByteArray.empty t135 x6_1)).bind fun t145 => (if t145 = true then (spec_VerIdentifiers.l0 k2 true t135 (wrap64 (x6_1 + 1))) else (some false))) else (spec_VerIdentifiers.l0 k2 true t135 (wrap64 (x6_1 + 1)))) = some r := H
           have A23 := aM_ A230
           clear A230
           by_cases c24 : t143 = true
           ·
            subst c24
            have H1 : ((spec_VerPlainly.f (rdOf ByteArray.empty t135 x6_1)).bind fun t145 => (if t145 = true then (spec_VerIdentifiers.l0 k2 true t135 (wrap64 (x6_1 + 1))) else (some false))) = some r := by rw [if_pos rfl] at H; exact H
            clear H
            have H := H1
            clear H1
            replace H := Option.bind_eq_some_iff.mp H
            obtain ⟨t145, A250, H⟩ := H
            replace H : (if t145 = true then (spec_VerIdentifiers.l0 k2 true t135 (wrap64 (x6_1 + 1))) else (some false)) = some r := H
            have A25 := aM_ A250
            clear A250
            by_cases c26 : t145 = true
            ·
             subst c26
             have H1 : (spec_VerIdentifiers.l0 k2 true t135 (wrap64 (x6_1 + 1))) = some r := by rw [if_pos rfl] at H; exact H
             clear H
             have H := H1
             clear H1
             have H' := aM_ H
             clear H
             have p138 : 0 ≤ (x6_1 : Int) := of_decide_eq_true (by first | (with_reducible assumption) | assumption)
             have q138 : x6_1 < (t135.length : Int) := of_decide_eq_true (by first | (with_reducible assumption) | assumption)
             obtain ⟨ad138, e138, hx138_0⟩ := Kd.at_string (Kd.R_reads' HO_5.out).2.2 x6_1 p138 q138
             cases e138
             replace p138 := eq_true p138
             replace q138 := eq_true q138
             have p141 : 0 ≤ (x6_1 : Int) := of_decide_eq_true (by first | (with_reducible assumption) | assumption)
             have q141 : x6_1 < (t135.length : Int) := of_decide_eq_true (by first | (with_reducible assumption) | assumption)
             obtain ⟨ad141, e141, hx141_0⟩ := Kd.at_string (Kd.R_reads' HO_5.out).2.2 x6_1 p141 q141
             obtain rfl : ad138 = ad141 := (by injection e141)
             replace p141 := eq_true p141
             replace q141 := eq_true q141
             have p142 : 0 ≤ (x6_1 : Int) := of_decide_eq_true (by first | (with_reducible assumption) | assumption)
             have q142 : x6_1 < (t135.length : Int) := of_decide_eq_true (by first | (with_reducible assumption) | assumption)
             obtain ⟨ad142, e142, hx142_0⟩ := Kd.at_string (Kd.R_reads' HO_5.out).2.2 x6_1 p142 q142
             obtain rfl : ad138 = ad142 := (by injection e142)
             replace p142 := eq_true p142
             replace q142 := eq_true q142
             go_wp2_with (first | (go_at_call 33; (with_reducible refine (spec_VerNumeric.calls k2 (rdOf ByteArray.empty t135 x6_1) true _ A23.out).mono ?_); rintro e w' ⟨rfl, ⟨nd, rfl⟩⟩; have p144 : 0 ≤ (x6_1 : Int) := of_decide_eq_true (by first | (with_reducible assumption) | assumption); have q144 : x6_1 < (t135.length : Int) := of_decide_eq_true (by first | (with_reducible assumption) | assumption); obtain ⟨ad144, e144, hx144_0⟩ := Kd.at_string (Kd.R_reads' HO_5.out).2.2 x6_1 p144 q144; obtain rfl : ad138 = ad144 := (by injection e144); replace p144 := eq_true p144; replace q144 := eq_true q144) | (go_at_call 34; (with_reducible refine (spec_VerPlainly.calls (rdOf ByteArray.empty t135 x6_1) true _ A25.out).mono ?_); rintro e w' ⟨rfl, ⟨nd, rfl⟩⟩))
             go_roundg k2
             case measure => have := HK1.out; have := HK2.out; omega
             case rel => exact ⟨(wrap64 (x6_1 + 1)), (by first | rfl | (simp; done) | (simp [*]; done)), H', ⟨by have := HK1.out; have := HK2.out; omega⟩, ⟨by (with_reducible repeat (first | apply kA_ | apply kN_ | apply kD_)); exact HO_5.out⟩, ⟨by repeat (first | (with_reducible first | exact HB.out | apply bB_ | apply wN_ | apply bE_) | exact HB.out)⟩⟩
            ·
             replace c26 := Bool.eq_false_iff.mpr c26
             subst c26
             have H1 : (some false) = some r := by rw [if_neg (show ¬ (false = true) by decide)] at H; exact H
             clear H
             have H := H1
             clear H1
             obtain rfl := Option.some.inj H
             have p138 : 0 ≤ (x6_1 : Int) := of_decide_eq_true (by first | (with_reducible assumption) | assumption)
             have q138 : x6_1 < (t135.length : Int) := of_decide_eq_true (by first | (with_reducible assumption) | assumption)
             obtain ⟨ad138, e138, hx138_0⟩ := Kd.at_string (Kd.R_reads' HO_5.out).2.2 x6_1 p138 q138
             cases e138
             replace p138 := eq_true p138
             replace q138 := eq_true q138
             have p141 : 0 ≤ (x6_1 : Int) := of_decide_eq_true (by first | (with_reducible assumption) | assumption)
             have q141 : x6_1 < (t135.length : Int) := of_decide_eq_true (by first | (with_reducible assumption) | assumption)
             obtain ⟨ad141, e141, hx141_0⟩ := Kd.at_string (Kd.R_reads' HO_5.out).2.2 x6_1 p141 q141
             obtain rfl : ad138 = ad141 := (by injection e141)
             replace p141 := eq_true p141
             replace q141 := eq_true q141
             have p142 : 0 ≤ (x6_1 : Int) := of_decide_eq_true (by first | (with_reducible assumption) | assumption)
             have q142 : x6_1 < (t135.length : Int) := of_decide_eq_true (by first | (with_reducible assumption) | assumption)
             obtain ⟨ad142, e142, hx142_0⟩ := Kd.at_string (Kd.R_reads' HO_5.out).2.2 x6_1 p142 q142
             obtain rfl : ad138 = ad142 := (by injection e142)
             replace p142 := eq_true p142
             replace q142 := eq_true q142
             go_wp2_with (first | (go_at_call 33; (with_reducible refine (spec_VerNumeric.calls k2 (rdOf ByteArray.empty t135 x6_1) true _ A23.out).mono ?_); rintro e w' ⟨rfl, ⟨nd, rfl⟩⟩; have p144 : 0 ≤ (x6_1 : Int) := of_decide_eq_true (by first | (with_reducible assumption) | assumption); have q144 : x6_1 < (t135.length : Int) := of_decide_eq_true (by first | (with_reducible assumption) | assumption); obtain ⟨ad144, e144, hx144_0⟩ := Kd.at_string (Kd.R_reads' HO_5.out).2.2 x6_1 p144 q144; obtain rfl : ad138 = ad144 := (by injection e144); replace p144 := eq_true p144; replace q144 := eq_true q144) | (go_at_call 34; (with_reducible refine (spec_VerPlainly.calls (rdOf ByteArray.empty t135 x6_1) false _ A25.out).mono ?_); rintro e w' ⟨rfl, ⟨nd, rfl⟩⟩))
             go_ret
             exact ⟨by first | rfl | (simp [errW_none, errW_some] <;> rfl) | (simp [*, errW_none, errW_some] <;> rfl) | (exfalso; contradiction), by repeat (first | (with_reducible first | exact HB.out | apply bB_ | apply wN_ | apply bE_) | exact HB.out)⟩
           ·
            replace c24 := Bool.eq_false_iff.mpr c24
            subst c24
            have H1 : (spec_VerIdentifiers.l0 k2 true t135 (wrap64 (x6_1 + 1))) = some r := by rw [if_neg (show ¬ (false = true) by decide)] at H; exact H
            clear H
            have H := H1
            clear H1
            have H' := aM_ H
            clear H
            have p138 : 0 ≤ (x6_1 : Int) := of_decide_eq_true (by first | (with_reducible assumption) | assumption)
            have q138 : x6_1 < (t135.length : Int) := of_decide_eq_true (by first | (with_reducible assumption) | assumption)
            obtain ⟨ad138, e138, hx138_0⟩ := Kd.at_string (Kd.R_reads' HO_5.out).2.2 x6_1 p138 q138
            cases e138
            replace p138 := eq_true p138
            replace q138 := eq_true q138
            have p141 : 0 ≤ (x6_1 : Int) := of_decide_eq_true (by first | (with_reducible assumption) | assumption)
            have q141 : x6_1 < (t135.length : Int) := of_decide_eq_true (by first | (with_reducible assumption) | assumption)
            obtain ⟨ad141, e141, hx141_0⟩ := Kd.at_string (Kd.R_reads' HO_5.out).2.2 x6_1 p141 q141
            obtain rfl : ad138 = ad141 := (by injection e141)
            replace p141 := eq_true p141
            replace q141 := eq_true q141
            have p142 : 0 ≤ (x6_1 : Int) := of_decide_eq_true (by first | (with_reducible assumption) | assumption)
            have q142 : x6_1 < (t135.length : Int) := of_decide_eq_true (by first | (with_reducible assumption) | assumption)
            obtain ⟨ad142, e142, hx142_0⟩ := Kd.at_string (Kd.R_reads' HO_5.out).2.2 x6_1 p142 q142
            obtain rfl : ad138 = ad142 := (by injection e142)
            replace p142 := eq_true p142
            replace q142 := eq_true q142
            go_wp2_with (first | (go_at_call 33; (with_reducible refine (spec_VerNumeric.calls k2 (rdOf ByteArray.empty t135 x6_1) false _ A23.out).mono ?_); rintro e w' ⟨rfl, ⟨nd, rfl⟩⟩))
            go_roundg k2
            case measure => have := HK1.out; have := HK2.out; omega
            case rel => exact ⟨(wrap64 (x6_1 + 1)), (by first | rfl | (simp; done) | (simp [*]; done)), H', ⟨by have := HK1.out; have := HK2.out; omega⟩, ⟨by (with_reducible repeat (first | apply kA_ | apply kN_ | apply kD_)); exact HO_5.out⟩, ⟨by repeat (first | (with_reducible first | exact HB.out | apply bB_ | apply wN_ | apply bE_) | exact HB.out)⟩⟩
          ·
           replace c22 := Bool.eq_false_iff.mpr c22
           subst c22
           have H1 : (spec_VerIdentifiers.l0 k2 false t135 (wrap64 (x6_1 + 1))) = some r := by rw [if_neg (show ¬ (false = true) by decide)] at H; exact H
           clear H
           have H := H1
           clear H1
           have H' := aM_ H
           clear H
           have p138 : 0 ≤ (x6_1 : Int) := of_decide_eq_true (by first | (with_reducible assumption) | assumption)
           have q138 : x6_1 < (t135.length : Int) := of_decide_eq_true (by first | (with_reducible assumption) | assumption)
           obtain ⟨ad138, e138, hx138_0⟩ := Kd.at_string (Kd.R_reads' HO_5.out).2.2 x6_1 p138 q138
           cases e138
           replace p138 := eq_true p138
           replace q138 := eq_true q138
           have p141 : 0 ≤ (x6_1 : Int) := of_decide_eq_true (by first | (with_reducible assumption) | assumption)
           have q141 : x6_1 < (t135.length : Int) := of_decide_eq_true (by first | (with_reducible assumption) | assumption)
           obtain ⟨ad141, e141, hx141_0⟩ := Kd.at_string (Kd.R_reads' HO_5.out).2.2 x6_1 p141 q141
           obtain rfl : ad138 = ad141 := (by injection e141)
           replace p141 := eq_true p141
           replace q141 := eq_true q141
           go_wp2
           go_roundg k2
           case measure => have := HK1.out; have := HK2.out; omega
           case rel => exact ⟨(wrap64 (x6_1 + 1)), (by first | rfl | (simp; done) | (simp [*]; done)), H', ⟨by have := HK1.out; have := HK2.out; omega⟩, ⟨by (with_reducible repeat (first | apply kA_ | apply kN_ | apply kD_)); exact HO_5.out⟩, ⟨by repeat (first | (with_reducible first | exact HB.out | apply bB_ | apply wN_ | apply bE_) | exact HB.out)⟩⟩
       ·
        rw [if_neg c8] at H
        exact absurd H (by simp)
      ·
       rw [if_neg c7] at H
       exact absurd H (by simp)
   ·
    rw [if_neg c5] at H
    have c5b0 : decide (x6_1 < (t135.length : Int)) = false := decide_eq_false c5
    clear c5
    obtain rfl := Option.some.inj H
    obtain ⟨Ao27, co27, eo27⟩ := Kd.R_slice HO_5.out
    subst eo27
    go_wp2
    go_ret
    exact ⟨by first | rfl | (simp [errW_none, errW_some] <;> rfl) | (simp [*, errW_none, errW_some] <;> rfl) | (exfalso; contradiction), by repeat (first | (with_reducible first | exact HB.out | apply bB_ | apply wN_ | apply bE_) | exact HB.out)⟩

/-! ### spec_VerLong: function 12 -/
def spec_VerLong.l0 : Nat → ByteArray → Int → Int → Option (Bool)
 | 0, _, _, _ => none
 | k + 1, x0, x3, x4 => if x4 < (x0.size : Int) then (if 0 ≤ x4 then ((spec_verDigit.f (bt x0 x4)).bind fun t146 => (if t146 = true then (if (wrap64 (x3 + 1)) ≥ 20 then (some true) else (spec_VerLong.l0 k x0 (wrap64 (x3 + 1)) (wrap64 (x4 + 1)))) else (if 0 ≥ 20 then (some true) else (spec_VerLong.l0 k x0 0 (wrap64 (x4 + 1)))))) else (none)) else (some false)
def spec_VerLong.f (k : Nat) (a0 : ByteArray) : Option (Bool) := spec_VerLong.l0 k a0 0 0
theorem spec_VerLong.mono_l : ∀ k, (∀ y0 y1 y2, LeO (spec_VerLong.l0 k y0 y1 y2) (spec_VerLong.l0 (k + 1) y0 y1 y2))
 | 0 => fun _ _ _ r h => by simp [spec_VerLong.l0] at h
 | k + 1 => by
  have ih0 := spec_VerLong.mono_l k
  ·
   intro y0 y1 y2
   unfold spec_VerLong.l0
   repeat' first
   | (with_reducible exact ih0 _ _ _)
   | (with_reducible exact LeO.refl _)
   | (with_reducible exact LeO.none _)
   | (with_reducible refine LeO.ite ?_ ?_)
   | (with_reducible refine LeO.bind ?_ (fun _ => ?_))
   | exact ih0 _ _ _
   | exact LeO.none _
   | refine LeO.ite ?_ ?_
   | refine LeO.bind ?_ (fun _ => ?_)
theorem spec_VerLong.mono : ∀ a0 k, LeO (spec_VerLong.f k a0) (spec_VerLong.f (k + 1) a0) := by
 intro a0 k
 have ih0 := spec_VerLong.mono_l k
 unfold spec_VerLong.f
 repeat' first
   | (with_reducible exact ih0 _ _ _)
   | (with_reducible exact LeO.refl _)
   | (with_reducible exact LeO.none _)
   | (with_reducible refine LeO.ite ?_ ?_)
   | (with_reducible refine LeO.bind ?_ (fun _ => ?_))
   | exact ih0 _ _ _
   | exact LeO.none _
   | refine LeO.ite ?_ ?_
   | refine LeO.bind ?_ (fun _ => ?_)
set_option maxHeartbeats 8000000 in
set_option maxRecDepth 100000 in
theorem spec_VerLong.calls (k : Nat) (a0 : ByteArray) (r : Bool) (w : World) (h : spec_VerLong.f k a0 = some r) :
  Calls Tryd.prog 12 #[.string a0] w fun e w' => e = .returned (.bool r) ∧ Drawn0 w w' := by
 have H : (spec_VerLong.l0 k a0 0 0) = some r := h
 clear h
 have H' := aM_ H
 clear H
 go_enter Tryd.func12, Tryd.ntmps12
 go_wp2
 go_loopg [3, 4] k (fun kq v3 v4 w' => ∃ (x3_1 : Int) (x4_1 : Int), v3 = .int .i64 x3_1 ∧ v4 = .int .i64 x4_1 ∧ Aside0 (spec_VerLong.l0 kq a0 x3_1 x4_1 = some r) ∧ Aside0 (kq ≤ k) ∧ Drawn0 w w')
 case atStart => exact ⟨(0), (0), (by first | rfl | (simp; done) | (simp [*]; done)), (by first | rfl | (simp; done) | (simp [*]; done)), H', ⟨Nat.le_refl _⟩, by repeat (first | exact Drawn0.refl _ | apply Drawn0.step)⟩
 case round =>
  clear H'
  try clear c1
  obtain ⟨x3_1, x4_1, rfl, rfl, HA, HK1, ⟨m1, rfl⟩⟩ := hrel
  cases gk with
  | zero => exact absurd HA.out (by simp [spec_VerLong.l0])
  | succ k1 =>
   have H := HA.out
   clear HA
   simp only [spec_VerLong.l0] at H
   by_cases c2 : x4_1 < (a0.size : Int)
   ·
    rw [if_pos c2] at H
    have c2b0 : decide (x4_1 < (a0.size : Int)) = true := decide_eq_true c2
    clear c2
    by_cases c3 : 0 ≤ x4_1
    ·
     rw [if_pos c3] at H
     have c3b0 : decide (0 ≤ x4_1) = true := decide_eq_true c3
     clear c3
     replace H := Option.bind_eq_some_iff.mp H
     obtain ⟨t146, A50, H⟩ := H
     replace H : (if t146 = true then (if (wrap64 (x3_1 + 1)) ≥ 20 then (some true) else (spec_VerLong.l0 k1 a0 (wrap64 (x3_1 + 1)) (wrap64 (x4_1 + 1)))) else (if 0 ≥ 20 then (some true) else (spec_VerLong.l0 k1 a0 0 (wrap64 (x4_1 + 1))))) = some r := H
     have A5 := aM_ A50
     clear A50
     by_cases c6 : t146 = true
     ·
      subst c6
      have H1 : (if (wrap64 (x3_1 + 1)) ≥ 20 then (some true) else (spec_VerLong.l0 k1 a0 (wrap64 (x3_1 + 1)) (wrap64 (x4_1 + 1)))) = some r := by rw [if_pos rfl] at H; exact H
      clear H
      have H := H1
      clear H1
      by_cases c7 : (wrap64 (x3_1 + 1)) ≥ 20
      ·
       rw [if_pos c7] at H
       have c7b0 : decide (20 ≤ (wrap64 (x3_1 + 1))) = true := decide_eq_true c7
       clear c7
       obtain rfl := Option.some.inj H
       have p4 : 0 ≤ (x4_1 : Int) := of_decide_eq_true (by first | (with_reducible assumption) | assumption)
       have q4 : x4_1 < (a0.size : Int) := of_decide_eq_true (by first | (with_reducible assumption) | assumption)
       have hx4 := bt_at a0 x4_1
       replace p4 := eq_true p4
       replace q4 := eq_true q4
       go_wp2_with (first | ((with_reducible refine gate_callee (f := 32) rfl ?_); refine goesL_ (some 16) rfl rfl Tryd.func32 (by kernel_rfl) rfl #[.int .u8 (bt a0 x4_1)] rfl (by (try simp only [List.map_toArray, List.map_cons, List.map_nil]); first | done | rfl | (simp only [List.length_drop, List.length_take]; rfl)) ?_; (with_reducible refine (spec_verDigit.calls (bt a0 x4_1) true _ A5.out).mono ?_); rintro e w' ⟨rfl, ⟨nd, rfl⟩⟩; refine ⟨_, rfl, ?_⟩))
       go_ret
       exact ⟨by first | rfl | (simp; done) | (simp [*]; done), by repeat (first | exact Drawn0.refl _ | apply Drawn0.step)⟩
      ·
       rw [if_neg c7] at H
       have c7b0 : decide (20 ≤ (wrap64 (x3_1 + 1))) = false := decide_eq_false c7
       clear c7
       have H' := aM_ H
       clear H
       have p4 : 0 ≤ (x4_1 : Int) := of_decide_eq_true (by first | (with_reducible assumption) | assumption)
       have q4 : x4_1 < (a0.size : Int) := of_decide_eq_true (by first | (with_reducible assumption) | assumption)
       have hx4 := bt_at a0 x4_1
       replace p4 := eq_true p4
       replace q4 := eq_true q4
       go_wp2_with (first | ((with_reducible refine gate_callee (f := 32) rfl ?_); refine goesL_ (some 16) rfl rfl Tryd.func32 (by kernel_rfl) rfl #[.int .u8 (bt a0 x4_1)] rfl (by (try simp only [List.map_toArray, List.map_cons, List.map_nil]); first | done | rfl | (simp only [List.length_drop, List.length_take]; rfl)) ?_; (with_reducible refine (spec_verDigit.calls (bt a0 x4_1) true _ A5.out).mono ?_); rintro e w' ⟨rfl, ⟨nd, rfl⟩⟩; refine ⟨_, rfl, ?_⟩))
       go_roundg k1
       case measure => have := HK1.out; omega
       case rel => exact ⟨(wrap64 (x3_1 + 1)), (wrap64 (x4_1 + 1)), (by first | rfl | (simp; done) | (simp [*]; done)), (by first | rfl | (simp; done) | (simp [*]; done)), H', ⟨by have := HK1.out; omega⟩, by repeat (first | exact Drawn0.refl _ | apply Drawn0.step)⟩
     ·
      replace c6 := Bool.eq_false_iff.mpr c6
      subst c6
      have H1 : (if 0 ≥ 20 then (some true) else (spec_VerLong.l0 k1 a0 0 (wrap64 (x4_1 + 1)))) = some r := by rw [if_neg (show ¬ (false = true) by decide)] at H; exact H
      clear H
      have H := H1
      clear H1
      by_cases c8 : 0 ≥ 20
      · exact absurd c8 (by decide)
      ·
       rw [if_neg c8] at H
       have c8b0 : decide (20 ≤ 0) = false := decide_eq_false c8
       clear c8
       have H' := aM_ H
       clear H
       have p4 : 0 ≤ (x4_1 : Int) := of_decide_eq_true (by first | (with_reducible assumption) | assumption)
       have q4 : x4_1 < (a0.size : Int) := of_decide_eq_true (by first | (with_reducible assumption) | assumption)
       have hx4 := bt_at a0 x4_1
       replace p4 := eq_true p4
       replace q4 := eq_true q4
       go_wp2_with (first | ((with_reducible refine gate_callee (f := 32) rfl ?_); refine goesL_ (some 16) rfl rfl Tryd.func32 (by kernel_rfl) rfl #[.int .u8 (bt a0 x4_1)] rfl (by (try simp only [List.map_toArray, List.map_cons, List.map_nil]); first | done | rfl | (simp only [List.length_drop, List.length_take]; rfl)) ?_; (with_reducible refine (spec_verDigit.calls (bt a0 x4_1) false _ A5.out).mono ?_); rintro e w' ⟨rfl, ⟨nd, rfl⟩⟩; refine ⟨_, rfl, ?_⟩))
       go_roundg k1
       case measure => have := HK1.out; omega
       case rel => exact ⟨(0), (wrap64 (x4_1 + 1)), (by first | rfl | (simp; done) | (simp [*]; done)), (by first | rfl | (simp; done) | (simp [*]; done)), H', ⟨by have := HK1.out; omega⟩, by repeat (first | exact Drawn0.refl _ | apply Drawn0.step)⟩
    ·
     rw [if_neg c3] at H
     exact absurd H (by simp)
   ·
    rw [if_neg c2] at H
    have c2b0 : decide (x4_1 < (a0.size : Int)) = false := decide_eq_false c2
    clear c2
    obtain rfl := Option.some.inj H
    go_wp2
    go_ret
    exact ⟨by first | rfl | (simp; done) | (simp [*]; done), by repeat (first | exact Drawn0.refl _ | apply Drawn0.step)⟩

-- NOT PRINTED: function 59 (version_Version_Components)

-- NOT PRINTED: function 60 (version_Version_PreRelease)

-- NOT PRINTED: function 61 (version_Version_BuildMetadata)

-- NOT PRINTED: function 91 (bytes_Buffer_tryGrowByReslice)

-- NOT PRINTED: function 104 (bytes_Buffer_Len)

-- NOT PRINTED: function 105 (bytes_Buffer_Reset)

-- NOT PRINTED: function 106 (bytes_growSlice)

-- NOT PRINTED: function 92 (bytes_Buffer_grow)

-- NOT PRINTED: function 83 (bytes_Buffer_WriteString)

-- NOT PRINTED: function 107 (strconv_small)

-- NOT PRINTED: function 123 (strconv_log10Pow2)

-- NOT PRINTED: function 124 (bits_Len64)

-- NOT PRINTED: function 125 (strconv_bool2_int)

-- NOT PRINTED: function 108 (strconv_numDigits)

-- NOT PRINTED: function 109 (strconv_formatBase10)

-- NOT PRINTED: function 126 (strconv_isPowerOfTwo)

-- NOT PRINTED: function 132 (bits_TrailingZeros32)

-- NOT PRINTED: function 133 (bits_TrailingZeros64)

-- NOT PRINTED: function 127 (bits_TrailingZeros)

-- NOT PRINTED: function 110 (strconv_formatBits)

-- NOT PRINTED: function 93 (strconv_FormatUint_93)

-- NOT PRINTED: function 84 (strconv_FormatUint_84)

-- NOT PRINTED: function 85 (bytes_Buffer_String)

-- NOT PRINTED: function 62 (version_Version_String)

-- NOT PRINTED: function 63 (version_Version_Major)

-- NOT PRINTED: function 64 (version_Version_Minor)

-- NOT PRINTED: function 65 (version_Version_Patch)

-- NOT PRINTED: function 29 (impl_ver)

-- NOT PRINTED: function 72 (errors_New)

-- NOT PRINTED: function 111 (version_zzBlanks)

-- NOT PRINTED: function 112 (version_zzDigits)

-- NOT PRINTED: function 94 (version_zzVersion)

-- NOT PRINTED: function 113 (version_zzIndex)

-- NOT PRINTED: function 95 (version_zzSplit)

-- NOT PRINTED: function 114 (stringslite_HasPrefix)

-- NOT PRINTED: function 96 (strings_HasPrefix)

-- NOT PRINTED: function 130 (stringslite_Clone)

-- NOT PRINTED: function 118 (strconv_syntaxError)

-- NOT PRINTED: function 119 (strconv_rangeError)

-- NOT PRINTED: function 135 (strconv_FormatInt)

-- NOT PRINTED: function 134 (strconv_Itoa_134)

-- NOT PRINTED: function 131 (strconv_Itoa_131)

-- NOT PRINTED: function 120 (strconv_baseError)

-- NOT PRINTED: function 121 (strconv_bitSizeError)

-- NOT PRINTED: function 102 (strconv_toError)

-- NOT PRINTED: function 128 (strconv_lower)

-- NOT PRINTED: function 129 (strconv_underscoreOK)

-- NOT PRINTED: function 115 (strconv_ParseUint_115)

-- NOT PRINTED: function 97 (strconv_ParseUint_97)

-- NOT PRINTED: function 116 (version_zzWords)

-- NOT PRINTED: function 98 (version_zzExtra)

-- NOT PRINTED: function 86 (version_parse)

-- NOT PRINTED: function 66 (version_ParseGeneric)

-- NOT PRINTED: function 67 (version_ParseSemantic)

-- NOT PRINTED: function 30 (version_MajorMinor)

-- NOT PRINTED: function 68 (version_ParseMajorMinor)

-- NOT PRINTED: function 69 (version_Parse)

-- NOT PRINTED: function 36 (impl_parsed)

/-! ### impl_VersionParse: function 14 -/
def impl_VersionParse.f (a0 : Int) (a1 : ByteArray) : Option (Bool × List Int × ByteArray × ByteArray × ByteArray × Int × Int × Int) :=
 if a1.size ≤ 549755813888 then
  match Pv.pkind a0 (Pv.Lb a1) with
  | none => some (false, [], ⟨#[]⟩, ⟨#[]⟩, ⟨#[]⟩, 0, 0, 0)
  | some q => some (true, Pv.zs q.2.1, Pv.mk q.2.2.1, Pv.mk q.2.2.2, Pv.mk (Pv.vtxt q.2.1 q.2.2.1 q.2.2.2), (Pv.pt q.2.1 0 : Int), (Pv.pt q.2.1 1 : Int), (Pv.pt q.2.1 2 : Int))
 else none
theorem impl_VersionParse.calls (a0 : Int) (a1 : ByteArray) (r1 : Bool) (r2 : List Int) (r3 r4 r5 : ByteArray) (r6 r7 r8 : Int) (w : World) (h : impl_VersionParse.f a0 a1 = some (r1, r2, r3, r4, r5, r6, r7, r8)) (hg : Pv.Good w) :
  Calls Tryd.prog 14 #[.int .i64 a0, .string a1] w fun e w' => ∃ v0_ : Value, e = .returned (.agg #[.bool r1, v0_, .string r3, .string r4, .string r5, .int .u64 r6, .int .u64 r7, .int .u64 r8]) ∧ Kd.R (Kd.int .u64) 22 w' w.heap.size (fun _ => True) v0_ r2 ∧ Below w.heap.size w w' := by
 unfold impl_VersionParse.f at h
 by_cases hs : a1.size ≤ 549755813888
 ·
  rw [if_pos hs] at h
  refine (Pv.vparse_calls a0 a1 hs w hg).mono ?_
  rintro e w' ⟨ht, hb⟩
  cases hk : Pv.pkind a0 (Pv.Lb a1) with
  | none =>
   rw [hk] at h ht
   simp only [Option.some.injEq, Prod.mk.injEq] at h
   obtain ⟨rfl, rfl, rfl, rfl, rfl, rfl, rfl, rfl⟩ := h
   exact ⟨_, ht, Kd.R_nil _ _ _ _ _, hb⟩
  | some q =>
   rw [hk] at h ht
   simp only [Option.some.injEq, Prod.mk.injEq] at h
   obtain ⟨rfl, rfl, rfl, rfl, rfl, rfl, rfl, rfl⟩ := h
   obtain ⟨v0, h1, h2⟩ := ht
   exact ⟨v0, h1, h2, hb⟩
 ·
  rw [if_neg hs] at h; cases h
end Go.Proofs.YtomoefldmgfaoaaDoor.PFnVersionMade
