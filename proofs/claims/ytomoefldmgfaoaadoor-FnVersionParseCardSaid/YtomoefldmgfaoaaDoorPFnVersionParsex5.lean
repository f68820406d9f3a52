/- Functions of the program as plain Lean functions, and that the machine's calls do what these say: written for this claim by wip/myprint.py over the kit's print.py. -/
import Derived.Test.YtomoefldmgfaoaaDoorPFnVersionParsex0
import Derived.Test.YtomoefldmgfaoaaDoorPFnVersionParsex3
import Derived.Test.YtomoefldmgfaoaaDoorPFnVersionParsex4
namespace Go.Proofs.YtomoefldmgfaoaaDoor.PFnVersionParse
open Go.RowKit Go.Proofs.YtomoefldmgfaoaaDoorW.PrintWords Go.Proofs.YtomoefldmgfaoaaDoorW.PrintLast Go.Proofs.YtomoefldmgfaoaaDoorW.PrintMore
attribute [local go_sem] max2_int min2_int max_two min_two max_three min_three max_four min_four   -- for this text's walks alone
set_option linter.unusedVariables false
set_option linter.unusedSimpArgs false

/-! ### spec_VerIdentifiers: function 11 -/
mutual
def spec_VerIdentifiers.l0 : Nat → Bool → List ByteArray → Int → Option (Bool)
 | 0, _, _, _ => none
 | k + 1, x1, x5, x6 => if x6 < (x5.length : Int) then (spec_VerIdentifiers.l1 k x1 x5 x6 0) else (some true)
def spec_VerIdentifiers.l1 : Nat → Bool → List ByteArray → Int → Int → Option (Bool)
 | 0, _, _, _, _ => none
 | k + 1, x1, x5, x6, x7 => if 0 ≤ x6 then (if x6 < (x5.length : Int) then (if x7 < ((rdOf ByteArray.empty x5 x6).size : Int) then (if 0 ≤ x7 then ((spec_verDigit.f (bt (rdOf ByteArray.empty x5 x6) x7)).bind fun t147 => (if t147 = true then (spec_VerIdentifiers.l1 k x1 x5 x6 (wrap64 (x7 + 1))) else (if (bt (rdOf ByteArray.empty x5 x6) x7) = 45 then (spec_VerIdentifiers.l1 k x1 x5 x6 (wrap64 (x7 + 1))) else (if (bt (rdOf ByteArray.empty x5 x6) x7) < 97 then (if (bt (rdOf ByteArray.empty x5 x6) x7) < 65 then (some false) else (if (bt (rdOf ByteArray.empty x5 x6) x7) > 90 then (some false) else (spec_VerIdentifiers.l1 k x1 x5 x6 (wrap64 (x7 + 1))))) else (if (bt (rdOf ByteArray.empty x5 x6) x7) > 122 then (if (bt (rdOf ByteArray.empty x5 x6) x7) < 65 then (some false) else (if (bt (rdOf ByteArray.empty x5 x6) x7) > 90 then (some false) else (spec_VerIdentifiers.l1 k x1 x5 x6 (wrap64 (x7 + 1))))) else (spec_VerIdentifiers.l1 k x1 x5 x6 (wrap64 (x7 + 1)))))))) else (none)) else (if (rdOf ByteArray.empty x5 x6).toList = ([] : List UInt8) then (some false) else (if x1 = true then ((spec_VerNumeric.f k (rdOf ByteArray.empty x5 x6)).bind fun t150 => (if t150 = true then ((spec_VerPlainly.f (rdOf ByteArray.empty x5 x6)).bind fun t152 => (if t152 = true then (spec_VerIdentifiers.l0 k x1 x5 (wrap64 (x6 + 1))) else (some false))) else (spec_VerIdentifiers.l0 k x1 x5 (wrap64 (x6 + 1))))) else (spec_VerIdentifiers.l0 k x1 x5 (wrap64 (x6 + 1)))))) else (none)) else (none)
end
def spec_VerIdentifiers.f (k : Nat) (a0 : ByteArray) (a1 : Bool) : Option (Bool) := (spec_VerSplit.f k a0).bind fun t142 => (spec_VerIdentifiers.l0 k a1 t142 0)
theorem spec_VerIdentifiers.mono_l : ∀ k, (∀ y0 y1 y2, LeO (spec_VerIdentifiers.l0 k y0 y1 y2) (spec_VerIdentifiers.l0 (k + 1) y0 y1 y2)) ∧ (∀ y0 y1 y2 y3, LeO (spec_VerIdentifiers.l1 k y0 y1 y2 y3) (spec_VerIdentifiers.l1 (k + 1) y0 y1 y2 y3))
 | 0 => ⟨fun _ _ _ r h => by simp [spec_VerIdentifiers.l0] at h, fun _ _ _ _ r h => by simp [spec_VerIdentifiers.l1] at h⟩
 | k + 1 => by
  obtain ⟨ih0, ih1⟩ := spec_VerIdentifiers.mono_l k
  refine ⟨?_, ?_⟩
  ·
   intro y0 y1 y2
   unfold spec_VerIdentifiers.l0
   repeat' first
   | (with_reducible exact ih0 _ _ _)
   | (with_reducible exact ih1 _ _ _ _)
   | (with_reducible exact spec_VerNumeric.mono _ _)
   | (with_reducible exact spec_VerSplit.mono _ _)
   | (with_reducible exact LeO.refl _)
   | (with_reducible exact LeO.none _)
   | (with_reducible refine LeO.ite ?_ ?_)
   | (with_reducible refine LeO.bind ?_ (fun _ => ?_))
   | exact ih0 _ _ _
   | exact ih1 _ _ _ _
   | exact spec_VerNumeric.mono _ _
   | exact spec_VerSplit.mono _ _
   | exact LeO.none _
   | refine LeO.ite ?_ ?_
   | refine LeO.bind ?_ (fun _ => ?_)
  ·
   intro y0 y1 y2 y3
   unfold spec_VerIdentifiers.l1
   repeat' first
   | (with_reducible exact ih0 _ _ _)
   | (with_reducible exact ih1 _ _ _ _)
   | (with_reducible exact spec_VerNumeric.mono _ _)
   | (with_reducible exact spec_VerSplit.mono _ _)
   | (with_reducible exact LeO.refl _)
   | (with_reducible exact LeO.none _)
   | (with_reducible refine LeO.ite ?_ ?_)
   | (with_reducible refine LeO.bind ?_ (fun _ => ?_))
   | exact ih0 _ _ _
   | exact ih1 _ _ _ _
   | exact spec_VerNumeric.mono _ _
   | exact spec_VerSplit.mono _ _
   | exact LeO.none _
   | refine LeO.ite ?_ ?_
   | refine LeO.bind ?_ (fun _ => ?_)
theorem spec_VerIdentifiers.mono : ∀ a0 a1 k, LeO (spec_VerIdentifiers.f k a0 a1) (spec_VerIdentifiers.f (k + 1) a0 a1) := by
 intro a0 a1 k
 obtain ⟨ih0, ih1⟩ := spec_VerIdentifiers.mono_l k
 unfold spec_VerIdentifiers.f
 repeat' first
   | (with_reducible exact ih0 _ _ _)
   | (with_reducible exact ih1 _ _ _ _)
   | (with_reducible exact spec_VerNumeric.mono _ _)
   | (with_reducible exact spec_VerSplit.mono _ _)
   | (with_reducible exact LeO.refl _)
   | (with_reducible exact LeO.none _)
   | (with_reducible refine LeO.ite ?_ ?_)
   | (with_reducible refine LeO.bind ?_ (fun _ => ?_))
   | exact ih0 _ _ _
   | exact ih1 _ _ _ _
   | exact spec_VerNumeric.mono _ _
   | exact spec_VerSplit.mono _ _
   | exact LeO.none _
   | refine LeO.ite ?_ ?_
   | refine LeO.bind ?_ (fun _ => ?_)
set_option maxHeartbeats 8000000 in
set_option maxRecDepth 100000 in
theorem spec_VerIdentifiers.calls (k : Nat) (a0 : ByteArray) (a1 : Bool) (r : Bool) (w : World) (h : spec_VerIdentifiers.f k a0 a1 = some r) :
  Calls Tryd.prog 11 #[.string a0, .bool a1] w fun e w' => e = .returned (.bool r) ∧ Below w.heap.size w w' := by
 have HB := aM_ (Below.refl w.heap.size w)
 have H : ((spec_VerSplit.f k a0).bind fun t142 => (spec_VerIdentifiers.l0 k a1 t142 0)) = some r := h
 clear h
 replace H := Option.bind_eq_some_iff.mp H
 obtain ⟨t142, A30, H⟩ := H
 replace H : (spec_VerIdentifiers.l0 k a1 t142 0) = some r := H
 have A3 := aM_ A30
 clear A30
 have H' := aM_ H
 clear H
 go_enter Tryd.func11, Tryd.ntmps11
 go_wp2_with (first | ((with_reducible refine gate_callee (f := 31) rfl ?_); refine goesL_ (some 10) rfl rfl Tryd.func31 (by kernel_rfl) rfl #[.string a0] rfl (by (try simp only [List.map_toArray, List.map_cons, List.map_nil]); first | done | rfl | (simp only [List.length_drop, List.length_take]; rfl)) ?_; (with_reducible refine (spec_VerSplit.calls k a0 t142 _ A3.out).mono ?_); rintro e w4 ⟨v143, rfl, ho0, hb⟩; refine ⟨_, rfl, ?_⟩; have n0_ := aM_ (Kd.R_lower ho0 (below_size (by repeat (first | (with_reducible first | exact HB.out | apply bB_ | apply wN_ | apply bE_) | exact HB.out)))); have n1_ := aM_ (below_step (by repeat (first | (with_reducible first | exact HB.out | apply bB_ | apply wN_ | apply bE_) | exact HB.out)) hb); clear HB; have HO144 := n0_; have HB := n1_; clear n0_ n1_; (try clear hb); (try clear hb2); (try clear hk); (try clear hi); (try clear ho0)))
 go_loopg [6] k (fun kq v6 w' => ∃ (x6_1 : Int), v6 = .int .i64 x6_1 ∧ Aside0 (spec_VerIdentifiers.l0 kq a1 t142 x6_1 = some r) ∧ Aside0 (kq ≤ k) ∧ Aside0 (Kd.R Kd.string 9 w' w.heap.size (fun _ => True) v143 t142) ∧ Aside0 (Below w.heap.size w w'))
 case atStart => exact ⟨(0), (by first | rfl | (simp; done) | (simp [*]; done)), H', ⟨Nat.le_refl _⟩, ⟨by (with_reducible repeat (first | apply kA_ | apply kN_ | apply kD_)); exact HO144.out⟩, ⟨by repeat (first | (with_reducible first | exact HB.out | apply bB_ | apply wN_ | apply bE_) | exact HB.out)⟩⟩
 case round =>
  clear H'
  try clear c1
  try clear p2
  try clear c3
  obtain ⟨x6_1, rfl, HA, HK1, HO_5, HB⟩ := hrel
  cases gk with
  | zero => exact absurd HA.out (by simp [spec_VerIdentifiers.l0])
  | succ k1 =>
   have H := HA.out
   clear HA
   simp only [spec_VerIdentifiers.l0] at H
   by_cases c5 : x6_1 < (t142.length : Int)
   ·
    rw [if_pos c5] at H
    have c5b0 : decide (x6_1 < (t142.length : Int)) = true := decide_eq_true c5
    clear c5
    have H' := aM_ H
    clear H
    obtain ⟨Ao6, co6, eo6⟩ := Kd.R_slice HO_5.out
    subst eo6
    go_wp2
    go_loopg [7] k1 (fun kq v7 w' => ∃ (x7_2 : Int), v7 = .int .i64 x7_2 ∧ Aside0 (spec_VerIdentifiers.l1 kq a1 t142 x6_1 x7_2 = some r) ∧ Aside0 (kq ≤ k1) ∧ Aside0 (Kd.R Kd.string 9 w' w.heap.size (fun _ => True) (.slice Ao6 t142.length co6) t142) ∧ Aside0 (Below w.heap.size w w'))
    case atStart => exact ⟨(0), (by first | rfl | (simp; done) | (simp [*]; done)), H', ⟨Nat.le_refl _⟩, ⟨by (with_reducible repeat (first | apply kA_ | apply kN_ | apply kD_)); exact HO_5.out⟩, ⟨by repeat (first | (with_reducible first | exact HB.out | apply bB_ | apply wN_ | apply bE_) | exact HB.out)⟩⟩
    case round =>
     clear H'
     try clear c1
     try clear p2
     try clear c3
     try clear c5
     try clear c5b0
     try clear p2
     obtain ⟨x7_2, rfl, HA, HK2, HO_5, HB⟩ := hrel
     cases gk with
     | zero => exact absurd HA.out (by simp [spec_VerIdentifiers.l1])
     | succ k2 =>
      have H := HA.out
      clear HA
      simp only [spec_VerIdentifiers.l1] at H
      by_cases c7 : 0 ≤ x6_1
      ·
       rw [if_pos c7] at H
       have c7b0 : decide (0 ≤ x6_1) = true := decide_eq_true c7
       clear c7
       by_cases c8 : x6_1 < (t142.length : Int)
       ·
        rw [if_pos c8] at H
        have c8b0 : decide (x6_1 < (t142.length : Int)) = true := decide_eq_true c8
        clear c8
        by_cases c9 : x7_2 < ((rdOf ByteArray.empty t142 x6_1).size : Int)
        ·
         rw [if_pos c9] at H
         have c9b0 : decide (x7_2 < ((rdOf ByteArray.empty t142 x6_1).size : Int)) = true := decide_eq_true c9
         clear c9
         by_cases c10 : 0 ≤ x7_2
         ·
          rw [if_pos c10] at H
          have c10b0 : decide (0 ≤ x7_2) = true := decide_eq_true c10
          clear c10
          replace H := Option.bind_eq_some_iff.mp H
          obtain ⟨t147, A120, H⟩ := H
          replace H : (if t147 = true then (spec_VerIdentifiers.l1 k2 a1 t142 x6_1 (wrap64 (x7_2 + 1))) else (if (bt (rdOf ByteArray.empty t142 x6_1) x7_2) = 45 then (spec_VerIdentifiers.l1 k2 a1 t142 x6_1 (wrap64 (x7_2 + 1))) else (if (bt (rdOf ByteArray.empty t142 x6_1) x7_2) < 97 then (if (bt (rdOf ByteArray.empty t142 x6_1) x7_2) < 65 then (some false) else (if (bt (rdOf ByteArray.empty t142 x6_1) x7_2) > 90 then (some false) else (spec_VerIdentifiers.l1 k2 a1 t142 x6_1 (wrap64 (x7_2 + 1))))) else (if (bt (rdOf ByteArray.empty t142 x6_1) x7_2) > 122 then (if (bt (rdOf ByteArray.empty t142 x6_1) x7_2) < 65 then (some false) else (if (bt (rdOf ByteArray.empty t142 x6_1) x7_2) > 90 then (some false) else (spec_VerIdentifiers.l1 k2 a1 t142 x6_1 (wrap64 (x7_2 + 1))))) else (spec_VerIdentifiers.l1 k2 a1 t142 x6_1 (wrap64 (x7_2 + 1))))))) = some r := H
          have A12 := aM_ A120
          clear A120
          by_cases c13 : t147 = true
          ·
           subst c13
           have H1 : (spec_VerIdentifiers.l1 k2 a1 t142 x6_1 (wrap64 (x7_2 + 1))) = some r := by rw [if_pos rfl] at H; exact H
           clear H
           have H := H1
           clear H1
           have H' := aM_ H
           clear H
           have p145 : 0 ≤ (x6_1 : Int) := of_decide_eq_true (by first | (with_reducible assumption) | assumption)
           have q145 : x6_1 < (t142.length : Int) := of_decide_eq_true (by first | (with_reducible assumption) | assumption)
           obtain ⟨ad145, e145, hx145_0⟩ := Kd.at_string (Kd.R_reads' HO_5.out).2.2 x6_1 p145 q145
           cases e145
           replace p145 := eq_true p145
           replace q145 := eq_true q145
           have p146 : 0 ≤ (x6_1 : Int) := of_decide_eq_true (by first | (with_reducible assumption) | assumption)
           have q146 : x6_1 < (t142.length : Int) := of_decide_eq_true (by first | (with_reducible assumption) | assumption)
           obtain ⟨ad146, e146, hx146_0⟩ := Kd.at_string (Kd.R_reads' HO_5.out).2.2 x6_1 p146 q146
           obtain rfl : ad145 = ad146 := (by injection e146)
           replace p146 := eq_true p146
           replace q146 := eq_true q146
           have p11 : 0 ≤ (x7_2 : Int) := of_decide_eq_true (by first | (with_reducible assumption) | assumption)
           have q11 : x7_2 < ((rdOf ByteArray.empty t142 x6_1).size : Int) := of_decide_eq_true (by first | (with_reducible assumption) | assumption)
           have hx11 := bt_at (rdOf ByteArray.empty t142 x6_1) x7_2
           replace p11 := eq_true p11
           replace q11 := eq_true q11
           go_wp2_with (first | ((with_reducible refine gate_callee (f := 32) rfl ?_); refine goesL_ (some 33) rfl rfl Tryd.func32 (by kernel_rfl) rfl #[.int .u8 (bt (rdOf ByteArray.empty t142 x6_1) x7_2)] rfl (by (try simp only [List.map_toArray, List.map_cons, List.map_nil]); first | done | rfl | (simp only [List.length_drop, List.length_take]; rfl)) ?_; (with_reducible refine (spec_verDigit.calls (bt (rdOf ByteArray.empty t142 x6_1) x7_2) true _ A12.out).mono ?_); rintro e w' ⟨rfl, ⟨nd, rfl⟩⟩; refine ⟨_, rfl, ?_⟩))
           go_roundg k2
           case measure => have := HK1.out; have := HK2.out; omega
           case rel => exact ⟨(wrap64 (x7_2 + 1)), (by first | rfl | (simp; done) | (simp [*]; done)), H', ⟨by have := HK1.out; have := HK2.out; omega⟩, ⟨by (with_reducible repeat (first | apply kA_ | apply kN_ | apply kD_)); exact HO_5.out⟩, ⟨by repeat (first | (with_reducible first | exact HB.out | apply bB_ | apply wN_ | apply bE_) | exact HB.out)⟩⟩
          ·
           replace c13 := Bool.eq_false_iff.mpr c13
           subst c13
           have H1 : (if (bt (rdOf ByteArray.empty t142 x6_1) x7_2) = 45 then (spec_VerIdentifiers.l1 k2 a1 t142 x6_1 (wrap64 (x7_2 + 1))) else (if (bt (rdOf ByteArray.empty t142 x6_1) x7_2) < 97 then (if (bt (rdOf ByteArray.empty t142 x6_1) x7_2) < 65 then (some false) else (if (bt (rdOf ByteArray.empty t142 x6_1) x7_2) > 90 then (some false) else (spec_VerIdentifiers.l1 k2 a1 t142 x6_1 (wrap64 (x7_2 + 1))))) else (if (bt (rdOf ByteArray.empty t142 x6_1) x7_2) > 122 then (if (bt (rdOf ByteArray.empty t142 x6_1) x7_2) < 65 then (some false) else (if (bt (rdOf ByteArray.empty t142 x6_1) x7_2) > 90 then (some false) else (spec_VerIdentifiers.l1 k2 a1 t142 x6_1 (wrap64 (x7_2 + 1))))) else (spec_VerIdentifiers.l1 k2 a1 t142 x6_1 (wrap64 (x7_2 + 1)))))) = some r := by rw [if_neg (show ¬ (false = true) by decide)] at H; exact H
           clear H
           have H := H1
           clear H1
           by_cases c14 : (bt (rdOf ByteArray.empty t142 x6_1) x7_2) = 45
           ·
            rw [if_pos c14] at H
            have c14b0 : ((bt (rdOf ByteArray.empty t142 x6_1) x7_2) == 45) = true := beq_iff_eq.mpr c14
            have c14b1 : ((bt (rdOf ByteArray.empty t142 x6_1) x7_2) != 45) = false := bne_eq_false_iff_eq.mpr c14
            clear c14
            have H' := aM_ H
            clear H
            have p145 : 0 ≤ (x6_1 : Int) := of_decide_eq_true (by first | (with_reducible assumption) | assumption)
            have q145 : x6_1 < (t142.length : Int) := of_decide_eq_true (by first | (with_reducible assumption) | assumption)
            obtain ⟨ad145, e145, hx145_0⟩ := Kd.at_string (Kd.R_reads' HO_5.out).2.2 x6_1 p145 q145
            cases e145
            replace p145 := eq_true p145
            replace q145 := eq_true q145
            have p146 : 0 ≤ (x6_1 : Int) := of_decide_eq_true (by first | (with_reducible assumption) | assumption)
            have q146 : x6_1 < (t142.length : Int) := of_decide_eq_true (by first | (with_reducible assumption) | assumption)
            obtain ⟨ad146, e146, hx146_0⟩ := Kd.at_string (Kd.R_reads' HO_5.out).2.2 x6_1 p146 q146
            obtain rfl : ad145 = ad146 := (by injection e146)
            replace p146 := eq_true p146
            replace q146 := eq_true q146
            have p11 : 0 ≤ (x7_2 : Int) := of_decide_eq_true (by first | (with_reducible assumption) | assumption)
            have q11 : x7_2 < ((rdOf ByteArray.empty t142 x6_1).size : Int) := of_decide_eq_true (by first | (with_reducible assumption) | assumption)
            have hx11 := bt_at (rdOf ByteArray.empty t142 x6_1) x7_2
            replace p11 := eq_true p11
            replace q11 := eq_true q11
            go_wp2_with (first | ((with_reducible refine gate_callee (f := 32) rfl ?_); refine goesL_ (some 33) rfl rfl Tryd.func32 (by kernel_rfl) rfl #[.int .u8 (bt (rdOf ByteArray.empty t142 x6_1) x7_2)] rfl (by (try simp only [List.map_toArray, List.map_cons, List.map_nil]); first | done | rfl | (simp only [List.length_drop, List.length_take]; rfl)) ?_; (with_reducible refine (spec_verDigit.calls (bt (rdOf ByteArray.empty t142 x6_1) x7_2) false _ A12.out).mono ?_); rintro e w' ⟨rfl, ⟨nd, rfl⟩⟩; refine ⟨_, rfl, ?_⟩))
            go_roundg k2
            case measure => have := HK1.out; have := HK2.out; omega
            case rel => exact ⟨(wrap64 (x7_2 + 1)), (by first | rfl | (simp; done) | (simp [*]; done)), H', ⟨by have := HK1.out; have := HK2.out; omega⟩, ⟨by (with_reducible repeat (first | apply kA_ | apply kN_ | apply kD_)); exact HO_5.out⟩, ⟨by repeat (first | (with_reducible first | exact HB.out | apply bB_ | apply wN_ | apply bE_) | exact HB.out)⟩⟩
           ·
            rw [if_neg c14] at H
            have c14b0 : ((bt (rdOf ByteArray.empty t142 x6_1) x7_2) == 45) = false := beq_eq_false_iff_ne.mpr c14
            have c14b1 : ((bt (rdOf ByteArray.empty t142 x6_1) x7_2) != 45) = true := bne_iff_ne.mpr c14
            by_cases c15 : (bt (rdOf ByteArray.empty t142 x6_1) x7_2) < 97
            ·
             rw [if_pos c15] at H
             have c15b0 : decide ((bt (rdOf ByteArray.empty t142 x6_1) x7_2) < 97) = true := decide_eq_true c15
             clear c15
             by_cases c16 : (bt (rdOf ByteArray.empty t142 x6_1) x7_2) < 65
             ·
              rw [if_pos c16] at H
              have c16b0 : decide ((bt (rdOf ByteArray.empty t142 x6_1) x7_2) < 65) = true := decide_eq_true c16
              clear c16
              obtain rfl := Option.some.inj H
              have p145 : 0 ≤ (x6_1 : Int) := of_decide_eq_true (by first | (with_reducible assumption) | assumption)
              have q145 : x6_1 < (t142.length : Int) := of_decide_eq_true (by first | (with_reducible assumption) | assumption)
              obtain ⟨ad145, e145, hx145_0⟩ := Kd.at_string (Kd.R_reads' HO_5.out).2.2 x6_1 p145 q145
              cases e145
              replace p145 := eq_true p145
              replace q145 := eq_true q145
              have p146 : 0 ≤ (x6_1 : Int) := of_decide_eq_true (by first | (with_reducible assumption) | assumption)
              have q146 : x6_1 < (t142.length : Int) := of_decide_eq_true (by first | (with_reducible assumption) | assumption)
              obtain ⟨ad146, e146, hx146_0⟩ := Kd.at_string (Kd.R_reads' HO_5.out).2.2 x6_1 p146 q146
              obtain rfl : ad145 = ad146 := (by injection e146)
              replace p146 := eq_true p146
              replace q146 := eq_true q146
              have p11 : 0 ≤ (x7_2 : Int) := of_decide_eq_true (by first | (with_reducible assumption) | assumption)
              have q11 : x7_2 < ((rdOf ByteArray.empty t142 x6_1).size : Int) := of_decide_eq_true (by first | (with_reducible assumption) | assumption)
              have hx11 := bt_at (rdOf ByteArray.empty t142 x6_1) x7_2
              replace p11 := eq_true p11
              replace q11 := eq_true q11
              go_wp2_with (first | ((with_reducible refine gate_callee (f := 32) rfl ?_); refine goesL_ (some 33) rfl rfl Tryd.func32 (by kernel_rfl) rfl #[.int .u8 (bt (rdOf ByteArray.empty t142 x6_1) x7_2)] rfl (by (try simp only [List.map_toArray, List.map_cons, List.map_nil]); first | done | rfl | (simp only [List.length_drop, List.length_take]; rfl)) ?_; (with_reducible refine (spec_verDigit.calls (bt (rdOf ByteArray.empty t142 x6_1) x7_2) false _ A12.out).mono ?_); rintro e w' ⟨rfl, ⟨nd, rfl⟩⟩; refine ⟨_, rfl, ?_⟩))
              go_ret
              exact ⟨by first | rfl | (simp [errW_none, errW_some] <;> rfl) | (simp [*, errW_none, errW_some] <;> rfl) | (exfalso; contradiction), by repeat (first | (with_reducible first | exact HB.out | apply bB_ | apply wN_ | apply bE_) | exact HB.out)⟩
             ·
              rw [if_neg c16] at H
              have c16b0 : decide ((bt (rdOf ByteArray.empty t142 x6_1) x7_2) < 65) = false := decide_eq_false c16
              clear c16
              by_cases c17 : (bt (rdOf ByteArray.empty t142 x6_1) x7_2) > 90
              ·
               rw [if_pos c17] at H
               have c17b0 : decide (90 < (bt (rdOf ByteArray.empty t142 x6_1) x7_2)) = true := decide_eq_true c17
               clear c17
               obtain rfl := Option.some.inj H
               have p145 : 0 ≤ (x6_1 : Int) := of_decide_eq_true (by first | (with_reducible assumption) | assumption)
               have q145 : x6_1 < (t142.length : Int) := of_decide_eq_true (by first | (with_reducible assumption) | assumption)
               obtain ⟨ad145, e145, hx145_0⟩ := Kd.at_string (Kd.R_reads' HO_5.out).2.2 x6_1 p145 q145
               cases e145
               replace p145 := eq_true p145
               replace q145 := eq_true q145
               have p146 : 0 ≤ (x6_1 : Int) := of_decide_eq_true (by first | (with_reducible assumption) | assumption)
               have q146 : x6_1 < (t142.length : Int) := of_decide_eq_true (by first | (with_reducible assumption) | assumption)
               obtain ⟨ad146, e146, hx146_0⟩ := Kd.at_string (Kd.R_reads' HO_5.out).2.2 x6_1 p146 q146
               obtain rfl : ad145 = ad146 := (by injection e146)
               replace p146 := eq_true p146
               replace q146 := eq_true q146
               have p11 : 0 ≤ (x7_2 : Int) := of_decide_eq_true (by first | (with_reducible assumption) | assumption)
               have q11 : x7_2 < ((rdOf ByteArray.empty t142 x6_1).size : Int) := of_decide_eq_true (by first | (with_reducible assumption) | assumption)
               have hx11 := bt_at (rdOf ByteArray.empty t142 x6_1) x7_2
               replace p11 := eq_true p11
               replace q11 := eq_true q11
               go_wp2_with (first | ((with_reducible refine gate_callee (f := 32) rfl ?_); refine goesL_ (some 33) rfl rfl Tryd.func32 (by kernel_rfl) rfl #[.int .u8 (bt (rdOf ByteArray.empty t142 x6_1) x7_2)] rfl (by (try simp only [List.map_toArray, List.map_cons, List.map_nil]); first | done | rfl | (simp only [List.length_drop, List.length_take]; rfl)) ?_; (with_reducible refine (spec_verDigit.calls (bt (rdOf ByteArray.empty t142 x6_1) x7_2) false _ A12.out).mono ?_); rintro e w' ⟨rfl, ⟨nd, rfl⟩⟩; refine ⟨_, rfl, ?_⟩))
               go_ret
               exact ⟨by first | rfl | (simp [errW_none, errW_some] <;> rfl) | (simp [*, errW_none, errW_some] <;> rfl) | (exfalso; contradiction), by repeat (first | (with_reducible first | exact HB.out | apply bB_ | apply wN_ | apply bE_) | exact HB.out)⟩
              ·
               rw [if_neg c17] at H
               have c17b0 : decide (90 < (bt (rdOf ByteArray.empty t142 x6_1) x7_2)) = false := decide_eq_false c17
               clear c17
               have H' := aM_ H
               clear H
               have p145 : 0 ≤ (x6_1 : Int) := of_decide_eq_true (by first | (with_reducible assumption) | assumption)
               have q145 : x6_1 < (t142.length : Int) := of_decide_eq_true (by first | (with_reducible assumption) | assumption)
               obtain ⟨ad145, e145, hx145_0⟩ := Kd.at_string (Kd.R_reads' HO_5.out).2.2 x6_1 p145 q145
               cases e145
               replace p145 := eq_true p145
               replace q145 := eq_true q145
               have p146 : 0 ≤ (x6_1 : Int) := of_decide_eq_true (by first | (with_reducible assumption) | assumption)
               have q146 : x6_1 < (t142.length : Int) := of_decide_eq_true (by first | (with_reducible assumption) | assumption)
               obtain ⟨ad146, e146, hx146_0⟩ := Kd.at_string (Kd.R_reads' HO_5.out).2.2 x6_1 p146 q146
               obtain rfl : ad145 = ad146 := (by injection e146)
               replace p146 := eq_true p146
               replace q146 := eq_true q146
               have p11 : 0 ≤ (x7_2 : Int) := of_decide_eq_true (by first | (with_reducible assumption) | assumption)
               have q11 : x7_2 < ((rdOf ByteArray.empty t142 x6_1).size : Int) := of_decide_eq_true (by first | (with_reducible assumption) | assumption)
               have hx11 := bt_at (rdOf ByteArray.empty t142 x6_1) x7_2
               replace p11 := eq_true p11
               replace q11 := eq_true q11
               go_wp2_with (first | ((with_reducible refine gate_callee (f := 32) rfl ?_); refine goesL_ (some 33) rfl rfl Tryd.func32 (by kernel_rfl) rfl #[.int .u8 (bt (rdOf ByteArray.empty t142 x6_1) x7_2)] rfl (by (try simp only [List.map_toArray, List.map_cons, List.map_nil]); first | done | rfl | (simp only [List.length_drop, List.length_take]; rfl)) ?_; (with_reducible refine (spec_verDigit.calls (bt (rdOf ByteArray.empty t142 x6_1) x7_2) false _ A12.out).mono ?_); rintro e w' ⟨rfl, ⟨nd, rfl⟩⟩; refine ⟨_, rfl, ?_⟩))
               go_roundg k2
               case measure => have := HK1.out; have := HK2.out; omega
               case rel => exact ⟨(wrap64 (x7_2 + 1)), (by first | rfl | (simp; done) | (simp [*]; done)), H', ⟨by have := HK1.out; have := HK2.out; omega⟩, ⟨by (with_reducible repeat (first | apply kA_ | apply kN_ | apply kD_)); exact HO_5.out⟩, ⟨by repeat (first | (with_reducible first | exact HB.out | apply bB_ | apply wN_ | apply bE_) | exact HB.out)⟩⟩
            ·
             rw [if_neg c15] at H
             have c15b0 : decide ((bt (rdOf ByteArray.empty t142 x6_1) x7_2) < 97) = false := decide_eq_false c15
             clear c15
             by_cases c18 : (bt (rdOf ByteArray.empty t142 x6_1) x7_2) > 122
             ·
              rw [if_pos c18] at H
              have c18b0 : decide (122 < (bt (rdOf ByteArray.empty t142 x6_1) x7_2)) = true := decide_eq_true c18
              clear c18
              by_cases c19 : (bt (rdOf ByteArray.empty t142 x6_1) x7_2) < 65
              ·
               rw [if_pos c19] at H
               have c19b0 : decide ((bt (rdOf ByteArray.empty t142 x6_1) x7_2) < 65) = true := decide_eq_true c19
               clear c19
               obtain rfl := Option.some.inj H
               have p145 : 0 ≤ (x6_1 : Int) := of_decide_eq_true (by first | (with_reducible assumption) | assumption)
               have q145 : x6_1 < (t142.length : Int) := of_decide_eq_true (by first | (with_reducible assumption) | assumption)
               obtain ⟨ad145, e145, hx145_0⟩ := Kd.at_string (Kd.R_reads' HO_5.out).2.2 x6_1 p145 q145
               cases e145
               replace p145 := eq_true p145
               replace q145 := eq_true q145
               have p146 : 0 ≤ (x6_1 : Int) := of_decide_eq_true (by first | (with_reducible assumption) | assumption)
               have q146 : x6_1 < (t142.length : Int) := of_decide_eq_true (by first | (with_reducible assumption) | assumption)
               obtain ⟨ad146, e146, hx146_0⟩ := Kd.at_string (Kd.R_reads' HO_5.out).2.2 x6_1 p146 q146
               obtain rfl : ad145 = ad146 := (by injection e146)
               replace p146 := eq_true p146
               replace q146 := eq_true q146
               have p11 : 0 ≤ (x7_2 : Int) := of_decide_eq_true (by first | (with_reducible assumption) | assumption)
               have q11 : x7_2 < ((rdOf ByteArray.empty t142 x6_1).size : Int) := of_decide_eq_true (by first | (with_reducible assumption) | assumption)
               have hx11 := bt_at (rdOf ByteArray.empty t142 x6_1) x7_2
               replace p11 := eq_true p11
               replace q11 := eq_true q11
               go_wp2_with (first | ((with_reducible refine gate_callee (f := 32) rfl ?_); refine goesL_ (some 33) rfl rfl Tryd.func32 (by kernel_rfl) rfl #[.int .u8 (bt (rdOf ByteArray.empty t142 x6_1) x7_2)] rfl (by (try simp only [List.map_toArray, List.map_cons, List.map_nil]); first | done | rfl | (simp only [List.length_drop, List.length_take]; rfl)) ?_; (with_reducible refine (spec_verDigit.calls (bt (rdOf ByteArray.empty t142 x6_1) x7_2) false _ A12.out).mono ?_); rintro e w' ⟨rfl, ⟨nd, rfl⟩⟩; refine ⟨_, rfl, ?_⟩))
               go_ret
               exact ⟨by first | rfl | (simp [errW_none, errW_some] <;> rfl) | (simp [*, errW_none, errW_some] <;> rfl) | (exfalso; contradiction), by repeat (first | (with_reducible first | exact HB.out | apply bB_ | apply wN_ | apply bE_) | exact HB.out)⟩
              ·
               rw [if_neg c19] at H
               have c19b0 : decide ((bt (rdOf ByteArray.empty t142 x6_1) x7_2) < 65) = false := decide_eq_false c19
               clear c19
               by_cases c20 : (bt (rdOf ByteArray.empty t142 x6_1) x7_2) > 90
               ·
                rw [if_pos c20] at H
                have c20b0 : decide (90 < (bt (rdOf ByteArray.empty t142 x6_1) x7_2)) = true := decide_eq_true c20
                clear c20
                obtain rfl := Option.some.inj H
                have p145 : 0 ≤ (x6_1 : Int) := of_decide_eq_true (by first | (with_reducible assumption) | assumption)
                have q145 : x6_1 < (t142.length : Int) := of_decide_eq_true (by first | (with_reducible assumption) | assumption)
                obtain ⟨ad145, e145, hx145_0⟩ := Kd.at_string (Kd.R_reads' HO_5.out).2.2 x6_1 p145 q145
                cases e145
                replace p145 := eq_true p145
                replace q145 := eq_true q145
                have p146 : 0 ≤ (x6_1 : Int) := of_decide_eq_true (by first | (with_reducible assumption) | assumption)
                have q146 : x6_1 < (t142.length : Int) := of_decide_eq_true (by first | (with_reducible assumption) | assumption)
                obtain ⟨ad146, e146, hx146_0⟩ := Kd.at_string (Kd.R_reads' HO_5.out).2.2 x6_1 p146 q146
                obtain rfl : ad145 = ad146 := (by injection e146)
                replace p146 := eq_true p146
                replace q146 := eq_true q146
                have p11 : 0 ≤ (x7_2 : Int) := of_decide_eq_true (by first | (with_reducible assumption) | assumption)
                have q11 : x7_2 < ((rdOf ByteArray.empty t142 x6_1).size : Int) := of_decide_eq_true (by first | (with_reducible assumption) | assumption)
                have hx11 := bt_at (rdOf ByteArray.empty t142 x6_1) x7_2
                replace p11 := eq_true p11
                replace q11 := eq_true q11
                go_wp2_with (first | ((with_reducible refine gate_callee (f := 32) rfl ?_); refine goesL_ (some 33) rfl rfl Tryd.func32 (by kernel_rfl) rfl #[.int .u8 (bt (rdOf ByteArray.empty t142 x6_1) x7_2)] rfl (by (try simp only [List.map_toArray, List.map_cons, List.map_nil]); first | done | rfl | (simp only [List.length_drop, List.length_take]; rfl)) ?_; (with_reducible refine (spec_verDigit.calls (bt (rdOf ByteArray.empty t142 x6_1) x7_2) false _ A12.out).mono ?_); rintro e w' ⟨rfl, ⟨nd, rfl⟩⟩; refine ⟨_, rfl, ?_⟩))
                go_ret
                exact ⟨by first | rfl | (simp [errW_none, errW_some] <;> rfl) | (simp [*, errW_none, errW_some] <;> rfl) | (exfalso; contradiction), by repeat (first | (with_reducible first | exact HB.out | apply bB_ | apply wN_ | apply bE_) | exact HB.out)⟩
               ·
                rw [if_neg c20] at H
                have c20b0 : decide (90 < (bt (rdOf ByteArray.empty t142 x6_1) x7_2)) = false := decide_eq_false c20
                clear c20
                have H' := aM_ H
                clear H
                have p145 : 0 ≤ (x6_1 : Int) := of_decide_eq_true (by first | (with_reducible assumption) | assumption)
                have q145 : x6_1 < (t142.length : Int) := of_decide_eq_true (by first | (with_reducible assumption) | assumption)
                obtain ⟨ad145, e145, hx145_0⟩ := Kd.at_string (Kd.R_reads' HO_5.out).2.2 x6_1 p145 q145
                cases e145
                replace p145 := eq_true p145
                replace q145 := eq_true q145
                have p146 : 0 ≤ (x6_1 : Int) := of_decide_eq_true (by first | (with_reducible assumption) | assumption)
                have q146 : x6_1 < (t142.length : Int) := of_decide_eq_true (by first | (with_reducible assumption) | assumption)
                obtain ⟨ad146, e146, hx146_0⟩ := Kd.at_string (Kd.R_reads' HO_5.out).2.2 x6_1 p146 q146
                obtain rfl : ad145 = ad146 := (by injection e146)
                replace p146 := eq_true p146
                replace q146 := eq_true q146
                have p11 : 0 ≤ (x7_2 : Int) := of_decide_eq_true (by first | (with_reducible assumption) | assumption)
                have q11 : x7_2 < ((rdOf ByteArray.empty t142 x6_1).size : Int) := of_decide_eq_true (by first | (with_reducible assumption) | assumption)
                have hx11 := bt_at (rdOf ByteArray.empty t142 x6_1) x7_2
                replace p11 := eq_true p11
                replace q11 := eq_true q11
                go_wp2_with (first | ((with_reducible refine gate_callee (f := 32) rfl ?_); refine goesL_ (some 33) rfl rfl Tryd.func32 (by kernel_rfl) rfl #[.int .u8 (bt (rdOf ByteArray.empty t142 x6_1) x7_2)] rfl (by (try simp only [List.map_toArray, List.map_cons, List.map_nil]); first | done | rfl | (simp only [List.length_drop, List.length_take]; rfl)) ?_; (with_reducible refine (spec_verDigit.calls (bt (rdOf ByteArray.empty t142 x6_1) x7_2) false _ A12.out).mono ?_); rintro e w' ⟨rfl, ⟨nd, rfl⟩⟩; refine ⟨_, rfl, ?_⟩))
                go_roundg k2
                case measure => have := HK1.out; have := HK2.out; omega
                case rel => exact ⟨(wrap64 (x7_2 + 1)), (by first | rfl | (simp; done) | (simp [*]; done)), H', ⟨by have := HK1.out; have := HK2.out; omega⟩, ⟨by (with_reducible repeat (first | apply kA_ | apply kN_ | apply kD_)); exact HO_5.out⟩, ⟨by repeat (first | (with_reducible first | exact HB.out | apply bB_ | apply wN_ | apply bE_) | exact HB.out)⟩⟩
             ·
              rw [if_neg c18] at H
              have c18b0 : decide (122 < (bt (rdOf ByteArray.empty t142 x6_1) x7_2)) = false := decide_eq_false c18
              clear c18
              have H' := aM_ H
              clear H
              have p145 : 0 ≤ (x6_1 : Int) := of_decide_eq_true (by first | (with_reducible assumption) | assumption)
              have q145 : x6_1 < (t142.length : Int) := of_decide_eq_true (by first | (with_reducible assumption) | assumption)
              obtain ⟨ad145, e145, hx145_0⟩ := Kd.at_string (Kd.R_reads' HO_5.out).2.2 x6_1 p145 q145
              cases e145
              replace p145 := eq_true p145
              replace q145 := eq_true q145
              have p146 : 0 ≤ (x6_1 : Int) := of_decide_eq_true (by first | (with_reducible assumption) | assumption)
              have q146 : x6_1 < (t142.length : Int) := of_decide_eq_true (by first | (with_reducible assumption) | assumption)
              obtain ⟨ad146, e146, hx146_0⟩ := Kd.at_string (Kd.R_reads' HO_5.out).2.2 x6_1 p146 q146
              obtain rfl : ad145 = ad146 := (by injection e146)
              replace p146 := eq_true p146
              replace q146 := eq_true q146
              have p11 : 0 ≤ (x7_2 : Int) := of_decide_eq_true (by first | (with_reducible assumption) | assumption)
              have q11 : x7_2 < ((rdOf ByteArray.empty t142 x6_1).size : Int) := of_decide_eq_true (by first | (with_reducible assumption) | assumption)
              have hx11 := bt_at (rdOf ByteArray.empty t142 x6_1) x7_2
              replace p11 := eq_true p11
              replace q11 := eq_true q11
              go_wp2_with (first | ((with_reducible refine gate_callee (f := 32) rfl ?_); refine goesL_ (some 33) rfl rfl Tryd.func32 (by kernel_rfl) rfl #[.int .u8 (bt (rdOf ByteArray.empty t142 x6_1) x7_2)] rfl (by (try simp only [List.map_toArray, List.map_cons, List.map_nil]); first | done | rfl | (simp only [List.length_drop, List.length_take]; rfl)) ?_; (with_reducible refine (spec_verDigit.calls (bt (rdOf ByteArray.empty t142 x6_1) x7_2) false _ A12.out).mono ?_); rintro e w' ⟨rfl, ⟨nd, rfl⟩⟩; refine ⟨_, rfl, ?_⟩))
              go_roundg k2
              case measure => have := HK1.out; have := HK2.out; omega
              case rel => exact ⟨(wrap64 (x7_2 + 1)), (by first | rfl | (simp; done) | (simp [*]; done)), H', ⟨by have := HK1.out; have := HK2.out; omega⟩, ⟨by (with_reducible repeat (first | apply kA_ | apply kN_ | apply kD_)); exact HO_5.out⟩, ⟨by repeat (first | (with_reducible first | exact HB.out | apply bB_ | apply wN_ | apply bE_) | exact HB.out)⟩⟩
         ·
          rw [if_neg c10] at H
          exact absurd H (by simp)
        ·
         rw [if_neg c9] at H
         have c9b0 : decide (x7_2 < ((rdOf ByteArray.empty t142 x6_1).size : Int)) = false := decide_eq_false c9
         clear c9
         by_cases c21 : (rdOf ByteArray.empty t142 x6_1).toList = ([] : List UInt8)
         ·
          rw [if_pos c21] at H
          have c21b0 : ((rdOf ByteArray.empty t142 x6_1).toList == ([] : List UInt8)) = true := beq_iff_eq.mpr c21
          have c21b1 : ((rdOf ByteArray.empty t142 x6_1).toList != ([] : List UInt8)) = false := bne_eq_false_iff_eq.mpr c21
          clear c21
          obtain rfl := Option.some.inj H
          have p145 : 0 ≤ (x6_1 : Int) := of_decide_eq_true (by first | (with_reducible assumption) | assumption)
          have q145 : x6_1 < (t142.length : Int) := of_decide_eq_true (by first | (with_reducible assumption) | assumption)
          obtain ⟨ad145, e145, hx145_0⟩ := Kd.at_string (Kd.R_reads' HO_5.out).2.2 x6_1 p145 q145
          cases e145
          replace p145 := eq_true p145
          replace q145 := eq_true q145
          have p148 : 0 ≤ (x6_1 : Int) := of_decide_eq_true (by first | (with_reducible assumption) | assumption)
          have q148 : x6_1 < (t142.length : Int) := of_decide_eq_true (by first | (with_reducible assumption) | assumption)
          obtain ⟨ad148, e148, hx148_0⟩ := Kd.at_string (Kd.R_reads' HO_5.out).2.2 x6_1 p148 q148
          obtain rfl : ad145 = ad148 := (by injection e148)
          replace p148 := eq_true p148
          replace q148 := eq_true q148
          go_wp2
          go_ret
          exact ⟨by first | rfl | (simp [errW_none, errW_some] <;> rfl) | (simp [*, errW_none, errW_some] <;> rfl) | (exfalso; contradiction), by repeat (first | (with_reducible first | exact HB.out | apply bB_ | apply wN_ | apply bE_) | exact HB.out)⟩
         ·
          rw [if_neg c21] at H
          have c21b0 : ((rdOf ByteArray.empty t142 x6_1).toList == ([] : List UInt8)) = false := beq_eq_false_iff_ne.mpr c21
          have c21b1 : ((rdOf ByteArray.empty t142 x6_1).toList != ([] : List UInt8)) = true := bne_iff_ne.mpr c21
          by_cases c22 : a1 = true
          ·
           subst c22
           have H1 : ((spec_VerNumeric.f k2 (rdOf ByteArray.empty t142 x6_1)).bind fun t150 => (if t150 = true then ((spec_VerPlainly.f (rdOf ByteArray.empty t142 x6_1)).bind fun t152 => (if t152 = true then (spec_VerIdentifiers.l0 k2 true t142 (wrap64 (x6_1 + 1))) else (some false))) else (spec_VerIdentifiers.l0 k2 true t142 (wrap64 (x6_1 + 1))))) = some r := by rw [if_pos rfl] at H; exact H
           clear H
           have H := H1
           clear H1
           replace H := Option.bind_eq_some_iff.mp H
           obtain ⟨t150, A230, H⟩ := H
           replace H : (if t150 = true then ((spec_VerPlainly.f (rdOf ByteArray.empty t142 x6_1)).bind fun t152 => (if t152 = true then (spec_VerIdentifiers.l0 k2 true t142 (wrap64 (x6_1 + 1))) else (some false))) else (spec_VerIdentifiers.l0 k2 true t142 (wrap64 (x6_1 + 1)))) = some r := H
           have A23 := aM_ A230
           clear A230
           by_cases c24 : t150 = true
           ·
            subst c24
            have H1 : ((spec_VerPlainly.f (rdOf ByteArray.empty t142 x6_1)).bind fun t152 => (if t152 = true then (spec_VerIdentifiers.l0 k2 true t142 (wrap64 (x6_1 + 1))) else (some false))) = some r := by rw [if_pos rfl] at H; exact H
            clear H
            have H := H1
            clear H1
            replace H := Option.bind_eq_some_iff.mp H
            obtain ⟨t152, A250, H⟩ := H
            replace H : (if t152 = true then (spec_VerIdentifiers.l0 k2 true t142 (wrap64 (x6_1 + 1))) else (some false)) = some r := H
            have A25 := aM_ A250
            clear A250
            by_cases c26 : t152 = true
            ·
             subst c26
             have H1 : (spec_VerIdentifiers.l0 k2 true t142 (wrap64 (x6_1 + 1))) = some r := by rw [if_pos rfl] at H; exact H
             clear H
             have H := H1
             clear H1
             have H' := aM_ H
             clear H
             have p145 : 0 ≤ (x6_1 : Int) := of_decide_eq_true (by first | (with_reducible assumption) | assumption)
             have q145 : x6_1 < (t142.length : Int) := of_decide_eq_true (by first | (with_reducible assumption) | assumption)
             obtain ⟨ad145, e145, hx145_0⟩ := Kd.at_string (Kd.R_reads' HO_5.out).2.2 x6_1 p145 q145
             cases e145
             replace p145 := eq_true p145
             replace q145 := eq_true q145
             have p148 : 0 ≤ (x6_1 : Int) := of_decide_eq_true (by first | (with_reducible assumption) | assumption)
             have q148 : x6_1 < (t142.length : Int) := of_decide_eq_true (by first | (with_reducible assumption) | assumption)
             obtain ⟨ad148, e148, hx148_0⟩ := Kd.at_string (Kd.R_reads' HO_5.out).2.2 x6_1 p148 q148
             obtain rfl : ad145 = ad148 := (by injection e148)
             replace p148 := eq_true p148
             replace q148 := eq_true q148
             have p149 : 0 ≤ (x6_1 : Int) := of_decide_eq_true (by first | (with_reducible assumption) | assumption)
             have q149 : x6_1 < (t142.length : Int) := of_decide_eq_true (by first | (with_reducible assumption) | assumption)
             obtain ⟨ad149, e149, hx149_0⟩ := Kd.at_string (Kd.R_reads' HO_5.out).2.2 x6_1 p149 q149
             obtain rfl : ad145 = ad149 := (by injection e149)
             replace p149 := eq_true p149
             replace q149 := eq_true q149
             go_wp2_with (first | (go_at_call 33; (with_reducible refine (spec_VerNumeric.calls k2 (rdOf ByteArray.empty t142 x6_1) true _ A23.out).mono ?_); rintro e w' ⟨rfl, ⟨nd, rfl⟩⟩; have p151 : 0 ≤ (x6_1 : Int) := of_decide_eq_true (by first | (with_reducible assumption) | assumption); have q151 : x6_1 < (t142.length : Int) := of_decide_eq_true (by first | (with_reducible assumption) | assumption); obtain ⟨ad151, e151, hx151_0⟩ := Kd.at_string (Kd.R_reads' HO_5.out).2.2 x6_1 p151 q151; obtain rfl : ad145 = ad151 := (by injection e151); replace p151 := eq_true p151; replace q151 := eq_true q151) | (go_at_call 34; (with_reducible refine (spec_VerPlainly.calls (rdOf ByteArray.empty t142 x6_1) true _ A25.out).mono ?_); rintro e w' ⟨rfl, ⟨nd, rfl⟩⟩))
             go_roundg k2
             case measure => have := HK1.out; have := HK2.out; omega
             case rel => exact ⟨(wrap64 (x6_1 + 1)), (by first | rfl | (simp; done) | (simp [*]; done)), H', ⟨by have := HK1.out; have := HK2.out; omega⟩, ⟨by (with_reducible repeat (first | apply kA_ | apply kN_ | apply kD_)); exact HO_5.out⟩, ⟨by repeat (first | (with_reducible first | exact HB.out | apply bB_ | apply wN_ | apply bE_) | exact HB.out)⟩⟩
            ·
             replace c26 := Bool.eq_false_iff.mpr c26
             subst c26
             have H1 : (some false) = some r := by rw [if_neg (show ¬ (false = true) by decide)] at H; exact H
             clear H
             have H := H1
             clear H1
             obtain rfl := Option.some.inj H
             have p145 : 0 ≤ (x6_1 : Int) := of_decide_eq_true (by first | (with_reducible assumption) | assumption)
             have q145 : x6_1 < (t142.length : Int) := of_decide_eq_true (by first | (with_reducible assumption) | assumption)
             obtain ⟨ad145, e145, hx145_0⟩ := Kd.at_string (Kd.R_reads' HO_5.out).2.2 x6_1 p145 q145
             cases e145
             replace p145 := eq_true p145
             replace q145 := eq_true q145
             have p148 : 0 ≤ (x6_1 : Int) := of_decide_eq_true (by first | (with_reducible assumption) | assumption)
             have q148 : x6_1 < (t142.length : Int) := of_decide_eq_true (by first | (with_reducible assumption) | assumption)
             obtain ⟨ad148, e148, hx148_0⟩ := Kd.at_string (Kd.R_reads' HO_5.out).2.2 x6_1 p148 q148
             obtain rfl : ad145 = ad148 := (by injection e148)
             replace p148 := eq_true p148
             replace q148 := eq_true q148
             have p149 : 0 ≤ (x6_1 : Int) := of_decide_eq_true (by first | (with_reducible assumption) | assumption)
             have q149 : x6_1 < (t142.length : Int) := of_decide_eq_true (by first | (with_reducible assumption) | assumption)
             obtain ⟨ad149, e149, hx149_0⟩ := Kd.at_string (Kd.R_reads' HO_5.out).2.2 x6_1 p149 q149
             obtain rfl : ad145 = ad149 := (by injection e149)
             replace p149 := eq_true p149
             replace q149 := eq_true q149
             go_wp2_with (first | (go_at_call 33; (with_reducible refine (spec_VerNumeric.calls k2 (rdOf ByteArray.empty t142 x6_1) true _ A23.out).mono ?_); rintro e w' ⟨rfl, ⟨nd, rfl⟩⟩; have p151 : 0 ≤ (x6_1 : Int) := of_decide_eq_true (by first | (with_reducible assumption) | assumption); have q151 : x6_1 < (t142.length : Int) := of_decide_eq_true (by first | (with_reducible assumption) | assumption); obtain ⟨ad151, e151, hx151_0⟩ := Kd.at_string (Kd.R_reads' HO_5.out).2.2 x6_1 p151 q151; obtain rfl : ad145 = ad151 := (by injection e151); replace p151 := eq_true p151; replace q151 := eq_true q151) | (go_at_call 34; (with_reducible refine (spec_VerPlainly.calls (rdOf ByteArray.empty t142 x6_1) false _ A25.out).mono ?_); rintro e w' ⟨rfl, ⟨nd, rfl⟩⟩))
             go_ret
             exact ⟨by first | rfl | (simp [errW_none, errW_some] <;> rfl) | (simp [*, errW_none, errW_some] <;> rfl) | (exfalso; contradiction), by repeat (first | (with_reducible first | exact HB.out | apply bB_ | apply wN_ | apply bE_) | exact HB.out)⟩
           ·
            replace c24 := Bool.eq_false_iff.mpr c24
            subst c24
            have H1 : (spec_VerIdentifiers.l0 k2 true t142 (wrap64 (x6_1 + 1))) = some r := by rw [if_neg (show ¬ (false = true) by decide)] at H; exact H
            clear H
            have H := H1
            clear H1
            have H' := aM_ H
            clear H
            have p145 : 0 ≤ (x6_1 : Int) := of_decide_eq_true (by first | (with_reducible assumption) | assumption)
            have q145 : x6_1 < (t142.length : Int) := of_decide_eq_true (by first | (with_reducible assumption) | assumption)
            obtain ⟨ad145, e145, hx145_0⟩ := Kd.at_string (Kd.R_reads' HO_5.out).2.2 x6_1 p145 q145
            cases e145
            replace p145 := eq_true p145
            replace q145 := eq_true q145
            have p148 : 0 ≤ (x6_1 : Int) := of_decide_eq_true (by first | (with_reducible assumption) | assumption)
            have q148 : x6_1 < (t142.length : Int) := of_decide_eq_true (by first | (with_reducible assumption) | assumption)
            obtain ⟨ad148, e148, hx148_0⟩ := Kd.at_string (Kd.R_reads' HO_5.out).2.2 x6_1 p148 q148
            obtain rfl : ad145 = ad148 := (by injection e148)
            replace p148 := eq_true p148
            replace q148 := eq_true q148
            have p149 : 0 ≤ (x6_1 : Int) := of_decide_eq_true (by first | (with_reducible assumption) | assumption)
            have q149 : x6_1 < (t142.length : Int) := of_decide_eq_true (by first | (with_reducible assumption) | assumption)
            obtain ⟨ad149, e149, hx149_0⟩ := Kd.at_string (Kd.R_reads' HO_5.out).2.2 x6_1 p149 q149
            obtain rfl : ad145 = ad149 := (by injection e149)
            replace p149 := eq_true p149
            replace q149 := eq_true q149
            go_wp2_with (first | (go_at_call 33; (with_reducible refine (spec_VerNumeric.calls k2 (rdOf ByteArray.empty t142 x6_1) false _ A23.out).mono ?_); rintro e w' ⟨rfl, ⟨nd, rfl⟩⟩))
            go_roundg k2
            case measure => have := HK1.out; have := HK2.out; omega
            case rel => exact ⟨(wrap64 (x6_1 + 1)), (by first | rfl | (simp; done) | (simp [*]; done)), H', ⟨by have := HK1.out; have := HK2.out; omega⟩, ⟨by (with_reducible repeat (first | apply kA_ | apply kN_ | apply kD_)); exact HO_5.out⟩, ⟨by repeat (first | (with_reducible first | exact HB.out | apply bB_ | apply wN_ | apply bE_) | exact HB.out)⟩⟩
          ·
           replace c22 := Bool.eq_false_iff.mpr c22
           subst c22
           have H1 : (spec_VerIdentifiers.l0 k2 false t142 (wrap64 (x6_1 + 1))) = some r := by rw [if_neg (show ¬ (false = true) by decide)] at H; exact H
           clear H
           have H := H1
           clear H1
           have H' := aM_ H
           clear H
           have p145 : 0 ≤ (x6_1 : Int) := of_decide_eq_true (by first | (with_reducible assumption) | assumption)
           have q145 : x6_1 < (t142.length : Int) := of_decide_eq_true (by first | (with_reducible assumption) | assumption)
           obtain ⟨ad145, e145, hx145_0⟩ := Kd.at_string (Kd.R_reads' HO_5.out).2.2 x6_1 p145 q145
           cases e145
           replace p145 := eq_true p145
           replace q145 := eq_true q145
           have p148 : 0 ≤ (x6_1 : Int) := of_decide_eq_true (by first | (with_reducible assumption) | assumption)
           have q148 : x6_1 < (t142.length : Int) := of_decide_eq_true (by first | (with_reducible assumption) | assumption)
           obtain ⟨ad148, e148, hx148_0⟩ := Kd.at_string (Kd.R_reads' HO_5.out).2.2 x6_1 p148 q148
           obtain rfl : ad145 = ad148 := (by injection e148)
           replace p148 := eq_true p148
           replace q148 := eq_true q148
           go_wp2
           go_roundg k2
           case measure => have := HK1.out; have := HK2.out; omega
           case rel => exact ⟨(wrap64 (x6_1 + 1)), (by first | rfl | (simp; done) | (simp [*]; done)), H', ⟨by have := HK1.out; have := HK2.out; omega⟩, ⟨by (with_reducible repeat (first | apply kA_ | apply kN_ | apply kD_)); exact HO_5.out⟩, ⟨by repeat (first | (with_reducible first | exact HB.out | apply bB_ | apply wN_ | apply bE_) | exact HB.out)⟩⟩
       ·
        rw [if_neg c8] at H
        exact absurd H (by simp)
      ·
       rw [if_neg c7] at H
       exact absurd H (by simp)
   ·
    rw [if_neg c5] at H
    have c5b0 : decide (x6_1 < (t142.length : Int)) = false := decide_eq_false c5
    clear c5
    obtain rfl := Option.some.inj H
    obtain ⟨Ao27, co27, eo27⟩ := Kd.R_slice HO_5.out
    subst eo27
    go_wp2
    go_ret
    exact ⟨by first | rfl | (simp [errW_none, errW_some] <;> rfl) | (simp [*, errW_none, errW_some] <;> rfl) | (exfalso; contradiction), by repeat (first | (with_reducible first | exact HB.out | apply bB_ | apply wN_ | apply bE_) | exact HB.out)⟩

/-! ### spec_VerUint: function 71 -/
def spec_VerUint.l0 : Nat → ByteArray → Int → Int → Option (Int × Bool)
 | 0, _, _, _ => none
 | k + 1, x0, x4, x5 => if x5 < (x0.size : Int) then (if 0 ≤ x5 then ((spec_verDigit.f (bt x0 x5)).bind fun t153 => (if t153 = true then (if x4 > ((18446744073709551615 - (((bt x0 x5) - 48) % 256)) / 10) then (some (0, false)) else (spec_VerUint.l0 k x0 (IntKind.u64.wrap ((IntKind.u64.wrap (10 * x4)) + (((bt x0 x5) - 48) % 256))) (wrap64 (x5 + 1)))) else (some (0, false)))) else (none)) else (some (x4, (x0.toList != ([] : List UInt8))))
def spec_VerUint.f (k : Nat) (a0 : ByteArray) : Option (Int × Bool) := spec_VerUint.l0 k a0 0 0
theorem spec_VerUint.mono_l : ∀ k, (∀ y0 y1 y2, LeO (spec_VerUint.l0 k y0 y1 y2) (spec_VerUint.l0 (k + 1) y0 y1 y2))
 | 0 => fun _ _ _ r h => by simp [spec_VerUint.l0] at h
 | k + 1 => by
  have ih0 := spec_VerUint.mono_l k
  ·
   intro y0 y1 y2
   unfold spec_VerUint.l0
   repeat' first
   | (with_reducible exact ih0 _ _ _)
   | (with_reducible exact LeO.refl _)
   | (with_reducible exact LeO.none _)
   | (with_reducible refine LeO.ite ?_ ?_)
   | (with_reducible refine LeO.bind ?_ (fun _ => ?_))
   | exact ih0 _ _ _
   | exact LeO.none _
   | refine LeO.ite ?_ ?_
   | refine LeO.bind ?_ (fun _ => ?_)
theorem spec_VerUint.mono : ∀ a0 k, LeO (spec_VerUint.f k a0) (spec_VerUint.f (k + 1) a0) := by
 intro a0 k
 have ih0 := spec_VerUint.mono_l k
 unfold spec_VerUint.f
 repeat' first
   | (with_reducible exact ih0 _ _ _)
   | (with_reducible exact LeO.refl _)
   | (with_reducible exact LeO.none _)
   | (with_reducible refine LeO.ite ?_ ?_)
   | (with_reducible refine LeO.bind ?_ (fun _ => ?_))
   | exact ih0 _ _ _
   | exact LeO.none _
   | refine LeO.ite ?_ ?_
   | refine LeO.bind ?_ (fun _ => ?_)
set_option maxHeartbeats 8000000 in
set_option maxRecDepth 100000 in
theorem spec_VerUint.calls (k : Nat) (a0 : ByteArray) (r1 : Int) (r2 : Bool) (w : World) (h : spec_VerUint.f k a0 = some (r1, r2)) :
  Calls Tryd.prog 71 #[.string a0] w fun e w' => e = .returned (.tuple #[.int .u64 r1, .bool r2]) ∧ Drawn0 w w' := by
 have H : (spec_VerUint.l0 k a0 0 0) = some (r1, r2) := h
 clear h
 have H' := aM_ H
 clear H
 go_enter Tryd.func71, Tryd.ntmps71
 go_wp2
 go_loopg [4, 5] k (fun kq v4 v5 w' => ∃ (x4_1 : Int) (x5_1 : Int), v4 = .int .u64 x4_1 ∧ v5 = .int .i64 x5_1 ∧ Aside0 (spec_VerUint.l0 kq a0 x4_1 x5_1 = some (r1, r2)) ∧ Aside0 (kq ≤ k) ∧ Drawn0 w w')
 case atStart => exact ⟨(0), (0), (by first | rfl | (simp; done) | (simp [*]; done)), (by first | rfl | (simp; done) | (simp [*]; done)), H', ⟨Nat.le_refl _⟩, by repeat (first | exact Drawn0.refl _ | apply Drawn0.step)⟩
 case round =>
  clear H'
  obtain ⟨x4_1, x5_1, rfl, rfl, HA, HK1, ⟨m1, rfl⟩⟩ := hrel
  cases gk with
  | zero => exact absurd HA.out (by simp [spec_VerUint.l0])
  | succ k1 =>
   have H := HA.out
   clear HA
   simp only [spec_VerUint.l0] at H
   by_cases c2 : x5_1 < (a0.size : Int)
   ·
    rw [if_pos c2] at H
    have c2b0 : decide (x5_1 < (a0.size : Int)) = true := decide_eq_true c2
    clear c2
    by_cases c3 : 0 ≤ x5_1
    ·
     rw [if_pos c3] at H
     have c3b0 : decide (0 ≤ x5_1) = true := decide_eq_true c3
     clear c3
     replace H := Option.bind_eq_some_iff.mp H
     obtain ⟨t153, A50, H⟩ := H
     replace H : (if t153 = true then (if x4_1 > ((18446744073709551615 - (((bt a0 x5_1) - 48) % 256)) / 10) then (some (0, false)) else (spec_VerUint.l0 k1 a0 (IntKind.u64.wrap ((IntKind.u64.wrap (10 * x4_1)) + (((bt a0 x5_1) - 48) % 256))) (wrap64 (x5_1 + 1)))) else (some (0, false))) = some (r1, r2) := H
     have A5 := aM_ A50
     clear A50
     by_cases c6 : t153 = true
     ·
      subst c6
      have H1 : (if x4_1 > ((18446744073709551615 - (((bt a0 x5_1) - 48) % 256)) / 10) then (some (0, false)) else (spec_VerUint.l0 k1 a0 (IntKind.u64.wrap ((IntKind.u64.wrap (10 * x4_1)) + (((bt a0 x5_1) - 48) % 256))) (wrap64 (x5_1 + 1)))) = some (r1, r2) := by rw [if_pos rfl] at H; exact H
      clear H
      have H := H1
      clear H1
      by_cases c8 : x4_1 > ((18446744073709551615 - (((bt a0 x5_1) - 48) % 256)) / 10)
      ·
       rw [if_pos c8] at H
       have c8b0 : decide (((18446744073709551615 - (((bt a0 x5_1) - 48) % 256)) / 10) < x4_1) = true := decide_eq_true c8
       clear c8
       simp only [Option.some.injEq, Prod.mk.injEq] at H
       obtain ⟨rfl, rfl⟩ := H
       have p4 : 0 ≤ (x5_1 : Int) := of_decide_eq_true (by first | (with_reducible assumption) | assumption)
       have q4 : x5_1 < (a0.size : Int) := of_decide_eq_true (by first | (with_reducible assumption) | assumption)
       have hx4 := bt_at a0 x5_1
       replace p4 := eq_true p4
       replace q4 := eq_true q4
       go_wp2_with (first | ((with_reducible refine gate_callee (f := 32) rfl ?_); refine goesL_ (some 16) rfl rfl Tryd.func32 (by kernel_rfl) rfl #[.int .u8 (bt a0 x5_1)] rfl (by (try simp only [List.map_toArray, List.map_cons, List.map_nil]); first | done | rfl | (simp only [List.length_drop, List.length_take]; rfl)) ?_; (with_reducible refine (spec_verDigit.calls (bt a0 x5_1) true _ A5.out).mono ?_); rintro e w' ⟨rfl, ⟨nd, rfl⟩⟩; refine ⟨_, rfl, ?_⟩; have p7 : 0 ≤ (x5_1 : Int) := of_decide_eq_true (by first | (with_reducible assumption) | assumption); have q7 : x5_1 < (a0.size : Int) := of_decide_eq_true (by first | (with_reducible assumption) | assumption); have hx7 := bt_at a0 x5_1; replace p7 := eq_true p7; replace q7 := eq_true q7))
       go_ret2
       exact ⟨by first | rfl | (simp; done) | (simp [*]; done) | (simp; cases a0.toList <;> rfl) | (cases a0.toList <;> simp), by repeat (first | exact Drawn0.refl _ | apply Drawn0.step)⟩
      ·
       rw [if_neg c8] at H
       have c8b0 : decide (((18446744073709551615 - (((bt a0 x5_1) - 48) % 256)) / 10) < x4_1) = false := decide_eq_false c8
       clear c8
       have H' := aM_ H
       clear H
       have p4 : 0 ≤ (x5_1 : Int) := of_decide_eq_true (by first | (with_reducible assumption) | assumption)
       have q4 : x5_1 < (a0.size : Int) := of_decide_eq_true (by first | (with_reducible assumption) | assumption)
       have hx4 := bt_at a0 x5_1
       replace p4 := eq_true p4
       replace q4 := eq_true q4
       go_wp2_with (first | ((with_reducible refine gate_callee (f := 32) rfl ?_); refine goesL_ (some 16) rfl rfl Tryd.func32 (by kernel_rfl) rfl #[.int .u8 (bt a0 x5_1)] rfl (by (try simp only [List.map_toArray, List.map_cons, List.map_nil]); first | done | rfl | (simp only [List.length_drop, List.length_take]; rfl)) ?_; (with_reducible refine (spec_verDigit.calls (bt a0 x5_1) true _ A5.out).mono ?_); rintro e w' ⟨rfl, ⟨nd, rfl⟩⟩; refine ⟨_, rfl, ?_⟩; have p7 : 0 ≤ (x5_1 : Int) := of_decide_eq_true (by first | (with_reducible assumption) | assumption); have q7 : x5_1 < (a0.size : Int) := of_decide_eq_true (by first | (with_reducible assumption) | assumption); have hx7 := bt_at a0 x5_1; replace p7 := eq_true p7; replace q7 := eq_true q7))
       go_roundg k1
       case measure => have := HK1.out; omega
       case rel => exact ⟨(IntKind.u64.wrap ((IntKind.u64.wrap (10 * x4_1)) + (((bt a0 x5_1) - 48) % 256))), (wrap64 (x5_1 + 1)), (by first | rfl | (simp; done) | (simp [*]; done)), (by first | rfl | (simp; done) | (simp [*]; done)), H', ⟨by have := HK1.out; omega⟩, by repeat (first | exact Drawn0.refl _ | apply Drawn0.step)⟩
     ·
      replace c6 := Bool.eq_false_iff.mpr c6
      subst c6
      have H1 : (some (0, false)) = some (r1, r2) := by rw [if_neg (show ¬ (false = true) by decide)] at H; exact H
      clear H
      have H := H1
      clear H1
      simp only [Option.some.injEq, Prod.mk.injEq] at H
      obtain ⟨rfl, rfl⟩ := H
      have p4 : 0 ≤ (x5_1 : Int) := of_decide_eq_true (by first | (with_reducible assumption) | assumption)
      have q4 : x5_1 < (a0.size : Int) := of_decide_eq_true (by first | (with_reducible assumption) | assumption)
      have hx4 := bt_at a0 x5_1
      replace p4 := eq_true p4
      replace q4 := eq_true q4
      go_wp2_with (first | ((with_reducible refine gate_callee (f := 32) rfl ?_); refine goesL_ (some 16) rfl rfl Tryd.func32 (by kernel_rfl) rfl #[.int .u8 (bt a0 x5_1)] rfl (by (try simp only [List.map_toArray, List.map_cons, List.map_nil]); first | done | rfl | (simp only [List.length_drop, List.length_take]; rfl)) ?_; (with_reducible refine (spec_verDigit.calls (bt a0 x5_1) false _ A5.out).mono ?_); rintro e w' ⟨rfl, ⟨nd, rfl⟩⟩; refine ⟨_, rfl, ?_⟩))
      go_ret2
      exact ⟨by first | rfl | (simp; done) | (simp [*]; done) | (simp; cases a0.toList <;> rfl) | (cases a0.toList <;> simp), by repeat (first | exact Drawn0.refl _ | apply Drawn0.step)⟩
    ·
     rw [if_neg c3] at H
     exact absurd H (by simp)
   ·
    rw [if_neg c2] at H
    have c2b0 : decide (x5_1 < (a0.size : Int)) = false := decide_eq_false c2
    clear c2
    simp only [Option.some.injEq, Prod.mk.injEq] at H
    obtain ⟨rfl, rfl⟩ := H
    go_wp2
    go_ret2
    exact ⟨by first | rfl | (simp; done) | (simp [*]; done) | (simp; cases a0.toList <;> rfl) | (cases a0.toList <;> simp), by repeat (first | exact Drawn0.refl _ | apply Drawn0.step)⟩

end Go.Proofs.YtomoefldmgfaoaaDoor.PFnVersionParse
