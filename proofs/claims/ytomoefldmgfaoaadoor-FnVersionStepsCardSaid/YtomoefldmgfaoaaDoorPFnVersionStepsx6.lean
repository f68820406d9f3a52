/- Functions of the program as plain Lean functions, and that the machine's calls do what these say: written for this claim by wip/myprint.py over the kit's print.py. -/
import Derived.Deep.RegionHeld3
import Derived.Test.YtomoefldmgfaoaaDoorPFnVersionStepsx0
import Derived.Test.YtomoefldmgfaoaaDoorPFnVersionStepsx5
import Derived.Test.YtomoefldmgfaoaaDoorTxt
namespace Go.Proofs.YtomoefldmgfaoaaDoor.PFnVersionSteps
open Go.RowKit Go.Proofs.YtomoefldmgfaoaaDoorW.PrintWords Go.Proofs.YtomoefldmgfaoaaDoorW.PrintLast Go.Proofs.YtomoefldmgfaoaaDoorW.PrintMore
attribute [local go_sem] max2_int min2_int max_two min_two max_three min_three max_four min_four   -- for this text's walks alone
set_option linter.unusedVariables false
set_option linter.unusedSimpArgs false

theorem mCutL (x : ByteArray) (t : Nat) : (x.extract 0 t).extract 1 t = (x.extract 0 t).extract 1 (x.extract 0 t).size := Txt.ext (by
  have hs := Txt.size_len (x.extract 0 t)
  have hl : (x.extract 0 t).data.toList.length ≤ t := by rw [Txt.data_extract, List.drop_zero, List.length_take]; omega
  rw [Txt.data_extract, Txt.data_extract (x.extract 0 t) 1 (x.extract 0 t).size, List.take_of_length_le (by rw [List.length_drop]; omega), List.take_of_length_le (by rw [List.length_drop]; omega)])
/-! ### spec_VerSemantic: function 40 -/
mutual
def spec_VerSemantic.j1 : Nat → List ByteArray → ByteArray → Option (List Int × Bool × ByteArray × ByteArray × Bool)
 | 0, _, _ => none
 | k + 1, x4, x5 => if (x4.length : Int) = 3 then (spec_VerSemantic.l1 k x4 x5 0 ([] : List Int) true (⟨#[]⟩ : ByteArray) (⟨#[]⟩ : ByteArray)) else (some (([] : List Int), false, (⟨#[]⟩ : ByteArray), (⟨#[]⟩ : ByteArray), false))
def spec_VerSemantic.l1 : Nat → List ByteArray → ByteArray → Int → List Int → Bool → ByteArray → ByteArray → Option (List Int × Bool × ByteArray × ByteArray × Bool)
 | 0, _, _, _, _, _, _, _ => none
 | k + 1, x4, x5, x7, x162000, x162001, x162002, x162003 => if x7 < 3 then (if 0 ≤ x7 then (if x7 < (x4.length : Int) then ((spec_VerUint.f k (rdOf ByteArray.empty x4 x7)).bind fun bt163 => (if bt163.2 = true then ((spec_VerPlainly.f (rdOf ByteArray.empty x4 x7)).bind fun t166 => (if t166 = true then (if x162000.length < 17592186044416 then (spec_VerSemantic.l1 k x4 x5 (wrap64 (x7 + 1)) (x162000 ++ [bt163.1]) x162001 x162002 x162003) else (none)) else (some (([] : List Int), false, (⟨#[]⟩ : ByteArray), (⟨#[]⟩ : ByteArray), false)))) else (some (([] : List Int), false, (⟨#[]⟩ : ByteArray), (⟨#[]⟩ : ByteArray), false)))) else (none)) else (none)) else ((spec_verPlace.f k x5 43).bind fun t170 => (if t170 ≥ 0 then (if 0 ≤ (wrap64 (t170 + 1)) then (if (wrap64 (t170 + 1)) ≤ (x5.size : Int) then (if 0 ≤ t170 then (if t170 ≤ (x5.size : Int) then ((spec_VerIdentifiers.f k (x5.extract ((wrap64 (t170 + 1)) : Int).toNat x5.size) false).bind fun t171 => (if t171 = true then (if (x5.extract 0 (t170 : Int).toNat).toList = ([] : List UInt8) then (some (x162000, x162001, x162002, x5.extract ((wrap64 (t170 + 1)) : Int).toNat x5.size, true)) else (if 1 ≤ ((x5.extract 0 (t170 : Int).toNat).size : Int) then (if 0 < ((x5.extract 0 (t170 : Int).toNat).size : Int) then (if (bt (x5.extract 0 (t170 : Int).toNat) 0) = 45 then ((spec_VerIdentifiers.f k ((x5.extract 0 (t170 : Int).toNat).extract 1 (x5.extract 0 (t170 : Int).toNat).size) true).bind fun t172 => (some (x162000, x162001, (x5.extract 0 (t170 : Int).toNat).extract 1 (x5.extract 0 (t170 : Int).toNat).size, x5.extract ((wrap64 (t170 + 1)) : Int).toNat x5.size, t172))) else (some (x162000, x162001, (x5.extract 0 (t170 : Int).toNat).extract 1 (x5.extract 0 (t170 : Int).toNat).size, x5.extract ((wrap64 (t170 + 1)) : Int).toNat x5.size, false))) else (none)) else (none))) else (some (([] : List Int), false, (⟨#[]⟩ : ByteArray), (⟨#[]⟩ : ByteArray), false)))) else (none)) else (none)) else (none)) else (none)) else (if x5.toList = ([] : List UInt8) then (some (x162000, x162001, x162002, x162003, true)) else (if 1 ≤ (x5.size : Int) then (if 0 < (x5.size : Int) then (if (bt x5 0) = 45 then ((spec_VerIdentifiers.f k (x5.extract 1 x5.size) true).bind fun t173 => (some (x162000, x162001, x5.extract 1 x5.size, x162003, t173))) else (some (x162000, x162001, x5.extract 1 x5.size, x162003, false))) else (none)) else (none)))))
def spec_VerSemantic.l0 : Nat → List ByteArray → ByteArray → Option (List Int × Bool × ByteArray × ByteArray × Bool)
 | 0, _, _ => none
 | k + 1, x4, x5 => if x5.toList = ([] : List UInt8) then (spec_VerSemantic.j1 k x4 x5) else (if 0 ≤ (wrap64 ((x5.size : Int) - 1)) then (if (wrap64 ((x5.size : Int) - 1)) < (x5.size : Int) then ((spec_verWhite.f (bt x5 (wrap64 ((x5.size : Int) - 1)))).bind fun t160 => (if t160 = true then (if (wrap64 ((x5.size : Int) - 1)) ≤ (x5.size : Int) then (spec_VerSemantic.l0 k x4 (x5.extract 0 ((wrap64 ((x5.size : Int) - 1)) : Int).toNat)) else (none)) else (spec_VerSemantic.j1 k x4 x5))) else (none)) else (none))
end
def spec_VerSemantic.f (k : Nat) (a0 : ByteArray) : Option (List Int × Bool × ByteArray × ByteArray × Bool) := (spec_verAhead.f k a0).bind fun t155 => ((spec_verFields.f k t155).bind fun bt156 => (spec_VerSemantic.l0 k bt156.1 bt156.2))
def spec_VerSemantic.T23 : Bool × List (List Nat × List Nat) := (true, [([], []), ([], []), ([1], [1]), ([2], [2]), ([3], [3]), ([4], [4]), ([5, 4], [4, 5]), ([6, 4, 4], [4, 6]), ([4, 7], [4, 7]), ([0, 7, 0], [0]), ([8, 9, 0, 1, 2, 3, 4, 5, 6, 7, 8, 9], [8])])
def spec_VerSemantic.B23 : List Nat := [0, 0, 2, 6, 14, 30, 62, 126, 254, 255, 1023]
theorem spec_VerSemantic.tab23 : rtab .any (opsOf Tryd.f40 23) = spec_VerSemantic.T23 := by kernel_rfl
theorem spec_VerSemantic.bits23 : waitsOk spec_VerSemantic.T23.2 spec_VerSemantic.B23 = true := by kernel_rfl
set_option maxHeartbeats 80000000 in
set_option maxRecDepth 100000 in
theorem spec_VerSemantic.calls (k : Nat) (a0 : ByteArray) (r1 : List Int) (r2 : Bool) (r3 : ByteArray) (r4 : ByteArray) (r5 : Bool) (w : World) (h : spec_VerSemantic.f k a0 = some (r1, r2, r3, r4, r5)) :
  Calls Tryd.prog 40 #[.string a0] w fun e w' => ∃ v0_ : Value, e = .returned (.tuple #[.agg #[v0_, .bool r2, .string r3, .string r4], .bool r5]) ∧ Kd.R (Kd.int .u64) 22 w' w.heap.size (fun _ => True) v0_ r1 ∧ Below w.heap.size w w' := by
 have hu26 := Tryd.underlying26
 have HB := aM_ (Below.refl w.heap.size w)
 have H : ((spec_verAhead.f k a0).bind fun t155 => ((spec_verFields.f k t155).bind fun bt156 => (spec_VerSemantic.l0 k bt156.1 bt156.2))) = some (r1, r2, r3, r4, r5) := h
 clear h
 replace H := Option.bind_eq_some_iff.mp H
 obtain ⟨t155, A20, H⟩ := H
 replace H : ((spec_verFields.f k t155).bind fun bt156 => (spec_VerSemantic.l0 k bt156.1 bt156.2)) = some (r1, r2, r3, r4, r5) := H
 have A2 := aM_ A20
 clear A20
 replace H := Option.bind_eq_some_iff.mp H
 obtain ⟨⟨t156, t157⟩, A30, H⟩ := H
 replace H : (spec_VerSemantic.l0 k t156 t157) = some (r1, r2, r3, r4, r5) := H
 have A3 := aM_ A30
 clear A30
 have HC4 := aM_ H
 clear H
 go_enter Tryd.func40, Tryd.ntmps40
 go_upto_block 0 with (first | ((with_reducible refine gate_dst (N := 2) rfl ?_); (try (refine gate_guard (by rfl) ?_; dsimp only)); refine box_event ?hg (N := 2) ?hd (cs := #[.slice none 0 0, .bool false, .string (⟨#[]⟩ : ByteArray), .string (⟨#[]⟩ : ByteArray)]) (t := 26) ?hr ?_; (case hd => rfl); (case hg => rfl); (case hr => first | (go_simp; done) | (go_simp; rfl)); intro gb154 hg w5 hbox hb; have n0_ := aM_ (below_step (by repeat (first | (with_reducible first | exact HB.out | apply bB_ | apply wN_ | apply bE_) | exact HB.out)) hb); have n1_ := aM_ (hbox); have n2_ := aM_ ((by rw [hg]; exact (below_size (by repeat (first | (with_reducible first | exact HB.out | apply bB_ | apply wN_ | apply bE_) | exact HB.out))) : w.heap.size ≤ gb154)); have n3_ := aM_ ((by rw [hg]; exact (below_size (by repeat (first | (with_reducible first | exact HB.out | apply bB_ | apply wN_ | apply bE_) | exact HB.out))) : w.heap.size ≤ gb154)); clear HB; have HB := n0_; have BK154 := n1_; have GW154 := n2_; have GE154 := n3_; clear n0_ n1_ n2_ n3_; clear hb hbox hg) | ((with_reducible refine gate_callee (f := 38) rfl ?_); refine goesL_ (some 13) rfl rfl Tryd.func38 (by kernel_rfl) rfl #[.string a0] rfl (by (try simp only [List.map_toArray, List.map_cons, List.map_nil]); first | done | rfl | (rw [mCutL]) | (simp only [List.length_drop, List.length_take]; rfl)) ?_; (with_reducible refine (spec_verAhead.calls k a0 t155 _ A2.out).mono ?_); rintro e w' ⟨rfl, ⟨nd, rfl⟩⟩; refine ⟨_, rfl, ?_⟩) | ((with_reducible refine gate_callee (f := 37) rfl ?_); refine goesL_ (some 14) rfl rfl Tryd.func37 (by kernel_rfl) rfl #[.string t155] rfl (by (try simp only [List.map_toArray, List.map_cons, List.map_nil]); first | done | rfl | (rw [mCutL]) | (simp only [List.length_drop, List.length_take]; rfl)) ?_; (with_reducible refine (spec_verFields.calls k t155 t156 t157 _ A3.out).mono ?_); rintro e w6 ⟨v158, rfl, ho0, hb⟩; refine ⟨_, rfl, ?_⟩; have n0_ := aM_ (Kd.R_lower ho0 (below_size (by repeat (first | (with_reducible first | exact HB.out | apply bB_ | apply wN_ | apply bE_ | refine bS_ ?_ GE154.out) | exact HB.out)))); have n1_ := aM_ (blk_below (g := gb154) (o := .cells #[.slice none 0 0, .bool false, .string (⟨#[]⟩ : ByteArray), .string (⟨#[]⟩ : ByteArray)] 26 (0, 0)) (by (with_reducible repeat (first | refine bN_ ?_ _ | refine bD_ ?_ | refine bA_ ?_ _)); exact BK154.out) hb); have n2_ := aM_ (below_step (by repeat (first | (with_reducible first | exact HB.out | apply bB_ | apply wN_ | apply bE_ | refine bS_ ?_ GE154.out) | exact HB.out)) hb); clear BK154; clear HB; have HO159 := n0_; have BK154 := n1_; have HB := n2_; clear n0_ n1_ n2_; (try clear hb); (try clear hb2); (try clear hk); (try clear hi); (try clear ho0)))
 (try simp only [Act.put, List.setIfInBounds_toArray, List.set_cons_zero, List.set_cons_succ])
 go_cut [5] (fun v5 wc => ∃ (kq : Nat) (x5_3 : ByteArray), v5 = .string x5_3 ∧ Aside0 (spec_VerSemantic.j1 kq t156 x5_3 = some (r1, r2, r3, r4, r5)) ∧ Aside0 (kq ≤ k) ∧ Aside0 (Kd.R Kd.string 9 wc w.heap.size (fun _ => True) v158 t156) ∧ Aside0 (wc.heap[gb154]? = some (.cells #[(.slice none 0 0), .bool false, .string (⟨#[]⟩ : ByteArray), .string (⟨#[]⟩ : ByteArray)] 26 (0, 0))) ∧ Aside0 (Below w.heap.size w wc))
 case first =>
  have H := HC4.out
  clear HC4
  have H' := aM_ H
  clear H
  go_wp2
  go_loopg [5] k (fun kq v5 w' => ∃ (x5_1 : ByteArray), v5 = .string x5_1 ∧ Aside0 (spec_VerSemantic.l0 kq t156 x5_1 = some (r1, r2, r3, r4, r5)) ∧ Aside0 (kq ≤ k) ∧ Aside0 (Kd.R Kd.string 9 w' w.heap.size (fun _ => True) v158 t156) ∧ Aside0 (w'.heap[gb154]? = some (.cells #[(.slice none 0 0), .bool false, .string (⟨#[]⟩ : ByteArray), .string (⟨#[]⟩ : ByteArray)] 26 (0, 0))) ∧ Aside0 (Below w.heap.size w w'))
  case atStart => exact ⟨(t157), (by first | rfl | (simp; done) | (simp [*]; done)), H', ⟨Nat.le_refl _⟩, ⟨by (with_reducible repeat (first | apply kA_ | apply kN_ | apply kD_)); exact HO159.out⟩, ⟨by (with_reducible repeat (first | refine bN_ ?_ _ | refine bD_ ?_ | refine bA_ ?_ _)); exact BK154.out⟩, ⟨by repeat (first | (with_reducible first | exact HB.out | apply bB_ | apply wN_ | apply bE_ | refine bS_ ?_ GE154.out) | exact HB.out)⟩⟩
  case round =>
   clear H'
   try clear p2
   try clear c3
   try clear c4
   obtain ⟨x5_1, rfl, HA, HK1, HO_4, BK154, HB⟩ := hrel
   cases gk with
   | zero => exact absurd HA.out (by simp [spec_VerSemantic.l0])
   | succ k1 =>
    have H := HA.out
    clear HA
    simp only [spec_VerSemantic.l0] at H
    by_cases c7 : x5_1.toList = ([] : List UInt8)
    ·
     rw [if_pos c7] at H
     have c7b0 : (x5_1.toList == ([] : List UInt8)) = true := beq_iff_eq.mpr c7
     have c7b1 : (x5_1.toList != ([] : List UInt8)) = false := bne_eq_false_iff_eq.mpr c7
     clear c7
     (first | rw [c7b0] | (simp only [i64_w, i32_w]; rw [c7b0]) | skip)
     have H' := aM_ H
     clear H
     go_wp2
     go_meet
     case rel => exact ⟨_, (x5_1), (by first | rfl | (simp; done) | (simp [*]; done)), H', ⟨by have := HK1.out; first | omega | exact Nat.le_refl _⟩, ⟨by (with_reducible repeat (first | apply kA_ | apply kN_ | apply kD_)); exact HO_4.out⟩, ⟨by (with_reducible repeat (first | refine bN_ ?_ _ | refine bD_ ?_ | refine bA_ ?_ _)); exact BK154.out⟩, ⟨by repeat (first | (with_reducible first | exact HB.out | apply bB_ | apply wN_ | apply bE_ | refine bS_ ?_ GE154.out) | exact HB.out)⟩⟩
    ·
     rw [if_neg c7] at H
     have c7b0 : (x5_1.toList == ([] : List UInt8)) = false := beq_eq_false_iff_ne.mpr c7
     have c7b1 : (x5_1.toList != ([] : List UInt8)) = true := bne_iff_ne.mpr c7
     (first | rw [c7b0] | (simp only [i64_w, i32_w]; rw [c7b0]) | skip)
     obtain ⟨ji8, hji8⟩ : ∃ j_ : Int, (wrap64 ((x5_1.size : Int) - 1)) = j_ := ⟨_, rfl⟩
     replace H : (if 0 ≤ (ji8) then (if (ji8) < (x5_1.size : Int) then ((spec_verWhite.f (bt x5_1 (ji8))).bind fun t160 => (if t160 = true then (if (ji8) ≤ (x5_1.size : Int) then (spec_VerSemantic.l0 k1 t156 (x5_1.extract 0 ((ji8) : Int).toNat)) else (none)) else (spec_VerSemantic.j1 k1 t156 x5_1))) else (none)) else (none)) = some (r1, r2, r3, r4, r5) := by first | (rw [hji8] at H; exact H) | (simp only [hji8] at H ⊢; exact H)
     have hji8w : (IntKind.i64.wrap ((x5_1.size : Int) - 1)) = ji8 := (i64_w _).trans hji8
     by_cases c9 : 0 ≤ (ji8)
     ·
      rw [if_pos c9] at H
      have c9b0 : decide (0 ≤ (ji8)) = true := decide_eq_true c9
      clear c9
      by_cases c10 : (ji8) < (x5_1.size : Int)
      ·
       rw [if_pos c10] at H
       have c10b0 : decide ((ji8) < (x5_1.size : Int)) = true := decide_eq_true c10
       clear c10
       replace H := Option.bind_eq_some_iff.mp H
       obtain ⟨t160, A120, H⟩ := H
       replace H : (if t160 = true then (if (ji8) ≤ (x5_1.size : Int) then (spec_VerSemantic.l0 k1 t156 (x5_1.extract 0 ((ji8) : Int).toNat)) else (none)) else (spec_VerSemantic.j1 k1 t156 x5_1)) = some (r1, r2, r3, r4, r5) := H
       have A12 := aM_ A120
       clear A120
       by_cases c13 : t160 = true
       ·
        subst c13
        have H1 : (if (ji8) ≤ (x5_1.size : Int) then (spec_VerSemantic.l0 k1 t156 (x5_1.extract 0 ((ji8) : Int).toNat)) else (none)) = some (r1, r2, r3, r4, r5) := by rw [if_pos rfl] at H; exact H
        clear H
        have H := H1
        clear H1
        have c14b0 := eq_true (of_decide_eq_true (by first | (with_reducible assumption) | assumption) : 0 ≤ (ji8))
        by_cases c15 : (ji8) ≤ (x5_1.size : Int)
        ·
         rw [if_pos c15] at H
         have c15b0 := eq_true c15
         have c15b1 : decide ((ji8) ≤ (x5_1.size : Int)) = true := decide_eq_true c15
         clear c15
         have H' := aM_ H
         clear H
         have p11 : 0 ≤ ((ji8) : Int) := of_decide_eq_true (by first | (with_reducible assumption) | assumption)
         have q11 : (ji8) < (x5_1.size : Int) := of_decide_eq_true (by first | (with_reducible assumption) | assumption)
         have hx11 := bt_at x5_1 (ji8)
         replace p11 := eq_true p11
         replace q11 := eq_true q11
         go_wp2_with (first | (go_at_call 70; (with_reducible refine (spec_verWhite.calls (bt x5_1 (ji8)) true _ A12.out).mono ?_); rintro e w' ⟨rfl, ⟨nd, rfl⟩⟩))
         go_roundg k1
         case measure => have := HK1.out; omega
         case rel => exact ⟨(x5_1.extract 0 ((ji8) : Int).toNat), (by first | rfl | (simp; done) | (simp only [← hji8] <;> (first | rfl | simp)) | (simp [*]; done)), H', ⟨by have := HK1.out; omega⟩, ⟨by (with_reducible repeat (first | apply kA_ | apply kN_ | apply kD_)); exact HO_4.out⟩, ⟨by (with_reducible repeat (first | refine bN_ ?_ _ | refine bD_ ?_ | refine bA_ ?_ _)); exact BK154.out⟩, ⟨by repeat (first | (with_reducible first | exact HB.out | apply bB_ | apply wN_ | apply bE_ | refine bS_ ?_ GE154.out) | exact HB.out)⟩⟩
        ·
         rw [if_neg c15] at H
         exact absurd H (by simp)
       ·
        replace c13 := Bool.eq_false_iff.mpr c13
        subst c13
        have H1 : (spec_VerSemantic.j1 k1 t156 x5_1) = some (r1, r2, r3, r4, r5) := by rw [if_neg (show ¬ (false = true) by decide)] at H; exact H
        clear H
        have H := H1
        clear H1
        have H' := aM_ H
        clear H
        have p11 : 0 ≤ ((ji8) : Int) := of_decide_eq_true (by first | (with_reducible assumption) | assumption)
        have q11 : (ji8) < (x5_1.size : Int) := of_decide_eq_true (by first | (with_reducible assumption) | assumption)
        have hx11 := bt_at x5_1 (ji8)
        replace p11 := eq_true p11
        replace q11 := eq_true q11
        go_wp2_with (first | (go_at_call 70; (with_reducible refine (spec_verWhite.calls (bt x5_1 (ji8)) false _ A12.out).mono ?_); rintro e w' ⟨rfl, ⟨nd, rfl⟩⟩))
        go_meet
        case rel => exact ⟨_, (x5_1), (by first | rfl | (simp; done) | (simp [*]; done)), H', ⟨by have := HK1.out; first | omega | exact Nat.le_refl _⟩, ⟨by (with_reducible repeat (first | apply kA_ | apply kN_ | apply kD_)); exact HO_4.out⟩, ⟨by (with_reducible repeat (first | refine bN_ ?_ _ | refine bD_ ?_ | refine bA_ ?_ _)); exact BK154.out⟩, ⟨by repeat (first | (with_reducible first | exact HB.out | apply bB_ | apply wN_ | apply bE_ | refine bS_ ?_ GE154.out) | exact HB.out)⟩⟩
      ·
       rw [if_neg c10] at H
       exact absurd H (by simp)
     ·
      rw [if_neg c9] at H
      exact absurd H (by simp)
 case rest =>
  clear HC4
  try clear c1
  try clear p1
  try clear q1
  try clear hx1
  try clear p2
  try clear c3
  try clear c4
  try clear p6
  try clear c7
  try clear c7b0
  try clear c7b1
  try clear c9
  try clear c9b0
  try clear c10
  try clear c10b0
  try clear p11
  try clear q11
  try clear hx11
  try clear c13
  try clear c14
  try clear c14b0
  try clear c15
  try clear c15b0
  try clear c15b1
  try clear p11
  try clear p2
  try clear q11
  obtain ⟨kq, x5_3, rfl, HA, HJ3, HO_4, BK154, HB⟩ := hcut
  cases kq with
  | zero => exact absurd HA.out (by simp [spec_VerSemantic.j1])
  | succ kj3 =>
   have H := HA.out
   clear HA
   simp only [spec_VerSemantic.j1] at H
   by_cases c16 : (t156.length : Int) = 3
   ·
    rw [if_pos c16] at H
    have c16b0 : ((t156.length : Int) == 3) = true := beq_iff_eq.mpr c16
    have c16b1 : ((t156.length : Int) != 3) = false := bne_eq_false_iff_eq.mpr c16
    clear c16
    have H' := aM_ H
    clear H
    obtain ⟨Ao17, co17, eo17⟩ := Kd.R_slice HO_4.out
    subst eo17
    go_wp2_with (first | ((with_reducible refine gate_dst (N := 6) rfl ?_); (try (refine gate_guard (by rfl) ?_; dsimp only)); refine box_event ?hg (N := 6) ?hd (cs := #[.slice none 0 0, .bool false, .string (⟨#[]⟩ : ByteArray), .string (⟨#[]⟩ : ByteArray)]) (t := 26) ?hr ?_; (case hd => rfl); (case hg => rfl); (case hr => first | (go_simp; done) | (go_simp; rfl)); intro gb161 hg w18 hbox hb; have n0_ := aM_ (Kd.R_below (by (with_reducible repeat (first | apply kA_ | apply kN_ | apply kD_)); exact HO_4.out) hb); have n1_ := aM_ (blk_below (g := gb154) (o := .cells #[.slice none 0 0, .bool false, .string (⟨#[]⟩ : ByteArray), .string (⟨#[]⟩ : ByteArray)] 26 (0, 0)) (by (with_reducible repeat (first | refine bN_ ?_ _ | refine bD_ ?_ | refine bA_ ?_ _)); exact BK154.out) hb); have n2_ := aM_ (below_step (by repeat (first | (with_reducible first | exact HB.out | apply bB_ | apply wN_ | apply bE_ | refine bS_ ?_ GE154.out) | exact HB.out)) hb); have n3_ := aM_ (hbox); have n4_ := aM_ ((by rw [hg]; exact (below_size (by repeat (first | (with_reducible first | exact HB.out | apply bB_ | apply wN_ | apply bE_ | refine bS_ ?_ GE154.out) | exact HB.out))) : w.heap.size ≤ gb161)); have n5_ := aM_ ((by rw [hg]; exact (below_size (by repeat (first | (with_reducible first | exact HB.out | apply bB_ | apply wN_ | apply bE_ | refine bS_ ?_ GE154.out) | exact HB.out))) : w.heap.size ≤ gb161)); have n6_ := aM_ ((by rw [hg]; exact Nat.ne_of_lt (blk_lt (g := gb154) (o := .cells #[.slice none 0 0, .bool false, .string (⟨#[]⟩ : ByteArray), .string (⟨#[]⟩ : ByteArray)] 26 (0, 0)) (by (with_reducible repeat (first | refine bN_ ?_ _ | refine bD_ ?_ | refine bA_ ?_ _)); exact BK154.out)) : gb154 ≠ gb161)); have n7_ := aM_ ((by rw [hg]; exact Nat.ne_of_gt (blk_lt (g := gb154) (o := .cells #[.slice none 0 0, .bool false, .string (⟨#[]⟩ : ByteArray), .string (⟨#[]⟩ : ByteArray)] 26 (0, 0)) (by (with_reducible repeat (first | refine bN_ ?_ _ | refine bD_ ?_ | refine bA_ ?_ _)); exact BK154.out)) : gb161 ≠ gb154)); clear HO_4; clear BK154; clear HB; have HO_4 := n0_; have BK154 := n1_; have HB := n2_; have BK161 := n3_; have GW161 := n4_; have GE161 := n5_; have NB154_161 := n6_; have NB161_154 := n7_; clear n0_ n1_ n2_ n3_ n4_ n5_ n6_ n7_; clear hb hbox hg; have hnb19 := NB161_154.out; have hnc19 := NB154_161.out; have hcz20_0 : w18.cell? ⟨gb161, 0, none⟩ = some (.slice none 0 0) := (bC_ BK161.out 0).trans rfl; have hcz20_1 : w18.cell? ⟨gb161, 1, none⟩ = some (.bool false) := (bC_ BK161.out 1).trans rfl; have hcz20_2 : w18.cell? ⟨gb161, 2, none⟩ = some (.string (⟨#[]⟩ : ByteArray)) := (bC_ BK161.out 2).trans rfl; have hcz20_3 : w18.cell? ⟨gb161, 3, none⟩ = some (.string (⟨#[]⟩ : ByteArray)) := (bC_ BK161.out 3).trans rfl; have hfz20_0 := bF_ BK161.out 0; have hfz20_1 := bF_ BK161.out 1; have hfz20_2 := bF_ BK161.out 2; have hfz20_3 := bF_ BK161.out 3))
    go_loopg [7] kj3 (fun kq v7 w' => ∃ (x7_2 : Int) (x155001_2 : Bool) (x155002_2 : ByteArray) (x155003_2 : ByteArray) (x162000_2 : List Int) (u162000 : Value), v7 = .int .i64 x7_2 ∧ Aside0 (spec_VerSemantic.l1 kq t156 x5_3 x7_2 x162000_2 true (⟨#[]⟩ : ByteArray) (⟨#[]⟩ : ByteArray) = some (r1, r2, r3, r4, r5)) ∧ Aside0 (kq ≤ kj3) ∧ Aside0 (Kd.R Kd.string 9 w' w.heap.size (fun _ => True) (.slice Ao17 t156.length co17) t156) ∧ Aside0 (Kd.R (Kd.int .u64) 22 w' w.heap.size (fun _ => True) u162000 x162000_2) ∧ Aside0 (w'.heap[gb154]? = some (.cells #[(.slice none 0 0), .bool x155001_2, .string x155002_2, .string x155003_2] 26 (0, 0))) ∧ Aside0 (w'.heap[gb161]? = some (.cells #[u162000, .bool true, .string (⟨#[]⟩ : ByteArray), .string (⟨#[]⟩ : ByteArray)] 26 (0, 0))) ∧ Aside0 (Below w.heap.size w w'))
    case atStart => exact ⟨(0), (false), ((⟨#[]⟩ : ByteArray)), ((⟨#[]⟩ : ByteArray)), (([] : List Int)), (.slice none 0 0), (by first | rfl | (simp; done) | (simp [*]; done)), H', ⟨Nat.le_refl _⟩, ⟨by (with_reducible repeat (first | apply kA_ | apply kN_ | apply kD_)); exact Kd.R_mono (Kd.R_far (p := ⟨gb161, 3, none⟩) (Kd.R_far (p := ⟨gb161, 2, none⟩) (Kd.R_far (p := ⟨gb161, 1, none⟩) (Kd.R_far (p := ⟨gb161, 0, none⟩) (Kd.R_types HO_4.out BK161.out (by decide)) (fun _ hk => hk.2) (.slice none 0 0)) (fun _ hk => hk.2) (.bool true)) (fun _ hk => hk.2) (.string (⟨#[]⟩ : ByteArray))) (fun _ hk => hk.2) (.string (⟨#[]⟩ : ByteArray))) (fun _ hk => trivial)⟩, ⟨by first | exact Kd.R_nil _ _ _ _ _ | exact Kd.N_nil _ _ _ _ _ | exact Kd.V_nil _ _ _ _ _ | exact Kd.Q_nil _ _ _ _ _ | exact Kd.S_nil _ _ _ _ _⟩, ⟨by (with_reducible repeat (first | refine bN_ ?_ _ | refine bD_ ?_ | refine bA_ ?_ _)); refine blk_far ?_ NB154_161.out _; (with_reducible repeat (first | refine bN_ ?_ _ | refine bD_ ?_ | refine bA_ ?_ _)); refine blk_far ?_ NB154_161.out _; (with_reducible repeat (first | refine bN_ ?_ _ | refine bD_ ?_ | refine bA_ ?_ _)); refine blk_far ?_ NB154_161.out _; (with_reducible repeat (first | refine bN_ ?_ _ | refine bD_ ?_ | refine bA_ ?_ _)); refine blk_far ?_ NB154_161.out _; (with_reducible repeat (first | refine bN_ ?_ _ | refine bD_ ?_ | refine bA_ ?_ _)); exact BK154.out⟩, ⟨by (with_reducible repeat (first | refine bN_ ?_ _ | refine bD_ ?_ | refine bA_ ?_ _)); refine blk_put (cs := #[.slice none 0 0, .bool true, .string (⟨#[]⟩ : ByteArray), .string (⟨#[]⟩ : ByteArray)]) ?_ 3 _ rfl; (with_reducible repeat (first | refine bN_ ?_ _ | refine bD_ ?_ | refine bA_ ?_ _)); refine blk_put (cs := #[.slice none 0 0, .bool true, .string (⟨#[]⟩ : ByteArray), .string (⟨#[]⟩ : ByteArray)]) ?_ 2 _ rfl; (with_reducible repeat (first | refine bN_ ?_ _ | refine bD_ ?_ | refine bA_ ?_ _)); refine blk_put (cs := #[.slice none 0 0, .bool false, .string (⟨#[]⟩ : ByteArray), .string (⟨#[]⟩ : ByteArray)]) ?_ 1 _ rfl; (with_reducible repeat (first | refine bN_ ?_ _ | refine bD_ ?_ | refine bA_ ?_ _)); refine blk_put (cs := #[.slice none 0 0, .bool false, .string (⟨#[]⟩ : ByteArray), .string (⟨#[]⟩ : ByteArray)]) ?_ 0 _ rfl; (with_reducible repeat (first | refine bN_ ?_ _ | refine bD_ ?_ | refine bA_ ?_ _)); exact BK161.out⟩, ⟨by repeat (first | (with_reducible first | exact HB.out | apply bB_ | apply wN_ | apply bE_ | refine bS_ ?_ GE154.out | refine bS_ ?_ GE161.out) | exact HB.out)⟩⟩
    case round =>
     clear H'
     try clear c1
     try clear p1
     try clear q1
     try clear hx1
     try clear p2
     try clear c3
     try clear c4
     try clear p6
     try clear c7
     try clear c7b0
     try clear c7b1
     try clear c9
     try clear c9b0
     try clear c10
     try clear c10b0
     try clear p11
     try clear q11
     try clear hx11
     try clear c13
     try clear c14
     try clear c14b0
     try clear c15
     try clear c15b0
     try clear c15b1
     try clear c16
     try clear c16b0
     try clear c16b1
     try clear c19
     try clear hcz20_0
     try clear hcz20_1
     try clear hcz20_2
     try clear hcz20_3
     try clear hfz20_0
     try clear hfz20_1
     try clear hfz20_2
     try clear hfz20_3
     try clear p1
     try clear p11
     try clear p2
     try clear p6
     try clear q1
     try clear q11
     obtain ⟨x7_2, x155001_2, x155002_2, x155003_2, x162000_2, u162000, rfl, HA, HK2, HO_4, HO_162000, BK154, BK161, HB⟩ := hrel
     cases gk with
     | zero => exact absurd HA.out (by simp [spec_VerSemantic.l1])
     | succ k2 =>
      have H := HA.out
      clear HA
      simp only [spec_VerSemantic.l1] at H
      by_cases c21 : x7_2 < 3
      ·
       rw [if_pos c21] at H
       have c21b0 : decide (x7_2 < 3) = true := decide_eq_true c21
       clear c21
       by_cases c22 : 0 ≤ x7_2
       ·
        rw [if_pos c22] at H
        have c22b0 : decide (0 ≤ x7_2) = true := decide_eq_true c22
        clear c22
        by_cases c23 : x7_2 < (t156.length : Int)
        ·
         rw [if_pos c23] at H
         have c23b0 : decide (x7_2 < (t156.length : Int)) = true := decide_eq_true c23
         clear c23
         replace H := Option.bind_eq_some_iff.mp H
         obtain ⟨⟨t163, t164⟩, A240, H⟩ := H
         replace H : (if t164 = true then ((spec_VerPlainly.f (rdOf ByteArray.empty t156 x7_2)).bind fun t166 => (if t166 = true then (if x162000_2.length < 17592186044416 then (spec_VerSemantic.l1 k2 t156 x5_3 (wrap64 (x7_2 + 1)) (x162000_2 ++ [t163]) true (⟨#[]⟩ : ByteArray) (⟨#[]⟩ : ByteArray)) else (none)) else (some (([] : List Int), false, (⟨#[]⟩ : ByteArray), (⟨#[]⟩ : ByteArray), false)))) else (some (([] : List Int), false, (⟨#[]⟩ : ByteArray), (⟨#[]⟩ : ByteArray), false))) = some (r1, r2, r3, r4, r5) := H
         have A24 := aM_ A240
         clear A240
         by_cases c25 : t164 = true
         ·
          subst c25
          have H1 : ((spec_VerPlainly.f (rdOf ByteArray.empty t156 x7_2)).bind fun t166 => (if t166 = true then (if x162000_2.length < 17592186044416 then (spec_VerSemantic.l1 k2 t156 x5_3 (wrap64 (x7_2 + 1)) (x162000_2 ++ [t163]) true (⟨#[]⟩ : ByteArray) (⟨#[]⟩ : ByteArray)) else (none)) else (some (([] : List Int), false, (⟨#[]⟩ : ByteArray), (⟨#[]⟩ : ByteArray), false)))) = some (r1, r2, r3, r4, r5) := by rw [if_pos rfl] at H; exact H
          clear H
          have H := H1
          clear H1
          replace H := Option.bind_eq_some_iff.mp H
          obtain ⟨t166, A260, H⟩ := H
          replace H : (if t166 = true then (if x162000_2.length < 17592186044416 then (spec_VerSemantic.l1 k2 t156 x5_3 (wrap64 (x7_2 + 1)) (x162000_2 ++ [t163]) true (⟨#[]⟩ : ByteArray) (⟨#[]⟩ : ByteArray)) else (none)) else (some (([] : List Int), false, (⟨#[]⟩ : ByteArray), (⟨#[]⟩ : ByteArray), false))) = some (r1, r2, r3, r4, r5) := H
          have A26 := aM_ A260
          clear A260
          by_cases c27 : t166 = true
          ·
           subst c27
           have H1 : (if x162000_2.length < 17592186044416 then (spec_VerSemantic.l1 k2 t156 x5_3 (wrap64 (x7_2 + 1)) (x162000_2 ++ [t163]) true (⟨#[]⟩ : ByteArray) (⟨#[]⟩ : ByteArray)) else (none)) = some (r1, r2, r3, r4, r5) := by rw [if_pos rfl] at H; exact H
           clear H
           have H := H1
           clear H1
           by_cases c28 : x162000_2.length < 17592186044416
           ·
            rw [if_pos c28] at H
            have LMc28 := aM_ c28
            clear c28
            obtain ⟨y167, hy167⟩ : ∃ y_ : List Int, y_ = (x162000_2 ++ [t163]) := ⟨_, rfl⟩
            replace H : (spec_VerSemantic.l1 k2 t156 x5_3 (wrap64 (x7_2 + 1)) y167 true (⟨#[]⟩ : ByteArray) (⟨#[]⟩ : ByteArray)) = some (r1, r2, r3, r4, r5) := by first | (rw [hy167]; with_reducible exact H) | (have H2_ := (Option.bind_some _ _).symm.trans H; rw [hy167]; with_reducible exact H2_) | (have H2_ := (Option.bind_some _ _).symm.trans H; with_reducible exact H2_) | with_reducible exact H | (rw [hy167]; exact H) | exact H
            have Ny167 := aM_ hy167
            clear hy167
            have H' := aM_ H
            clear H
            have p162 : 0 ≤ (x7_2 : Int) := of_decide_eq_true (by first | (with_reducible assumption) | assumption)
            have q162 : x7_2 < (t156.length : Int) := of_decide_eq_true (by first | (with_reducible assumption) | assumption)
            obtain ⟨ad162, e162, hx162_0⟩ := Kd.at_string (Kd.R_reads' HO_4.out).2.2 x7_2 p162 q162
            cases e162
            replace p162 := eq_true p162
            replace q162 := eq_true q162
            go_wp2_with (first | ((with_reducible refine gate_callee (f := 71) rfl ?_); refine goesL_ (some 46) rfl rfl Tryd.func71 (by kernel_rfl) rfl #[.string (rdOf ByteArray.empty t156 x7_2)] rfl (by (try simp only [List.map_toArray, List.map_cons, List.map_nil]); first | done | rfl | (rw [mCutL]) | (simp only [List.length_drop, List.length_take]; rfl)) ?_; (with_reducible refine (spec_VerUint.calls k2 (rdOf ByteArray.empty t156 x7_2) t163 true _ A24.out).mono ?_); rintro e w' ⟨rfl, ⟨nd, rfl⟩⟩; refine ⟨_, rfl, ?_⟩; (try (rw [drewN_self wr]; generalize hq_ : World.drewN wr _ = wr; have n0_ : Aside0 (Kd.R (Kd.int .u64) 22 wr w.heap.size (fun _ => True) u162000 x162000_2) := ⟨by rw [← hq_]; exact (by (with_reducible repeat (first | apply kA_ | apply kN_ | apply kD_)); exact HO_162000.out)⟩; have n1_ : Aside0 (Kd.R Kd.string 9 wr w.heap.size (fun _ => True) (.slice (some ad162) t156.length co17) t156) := ⟨by rw [← hq_]; exact (by (with_reducible repeat (first | apply kA_ | apply kN_ | apply kD_)); exact HO_4.out)⟩; have n2_ : Aside0 (wr.heap[gb154]? = some (.cells #[.slice none 0 0, .bool x155001_2, .string x155002_2, .string x155003_2] 26 (0, 0))) := ⟨by rw [← hq_]; exact (by (with_reducible repeat (first | refine bN_ ?_ _ | refine bD_ ?_ | refine bA_ ?_ _)); exact BK154.out)⟩; have n3_ : Aside0 (wr.heap[gb161]? = some (.cells #[u162000, .bool true, .string (⟨#[]⟩ : ByteArray), .string (⟨#[]⟩ : ByteArray)] 26 (0, 0))) := ⟨by rw [← hq_]; exact (by (with_reducible repeat (first | refine bN_ ?_ _ | refine bD_ ?_ | refine bA_ ?_ _)); exact BK161.out)⟩; have n4_ : Aside0 (Below w.heap.size w wr) := ⟨by rw [← hq_]; exact (by repeat (first | (with_reducible first | exact HB.out | apply bB_ | apply wN_ | apply bE_ | refine bS_ ?_ GE154.out | refine bS_ ?_ GE161.out) | exact HB.out))⟩; clear HO_162000 HO_4 BK154 BK161 HB hq_; have HO_162000 := n0_; have HO_4 := n1_; have BK154 := n2_; have BK161 := n3_; have HB := n4_; clear n0_ n1_ n2_ n3_ n4_)); have p165 : 0 ≤ (x7_2 : Int) := of_decide_eq_true (by first | (with_reducible assumption) | assumption); have q165 : x7_2 < (t156.length : Int) := of_decide_eq_true (by first | (with_reducible assumption) | assumption); obtain ⟨ad165, e165, hx165_0⟩ := Kd.at_string (Kd.R_reads' HO_4.out).2.2 x7_2 p165 q165; obtain rfl : ad162 = ad165 := (by injection e165); replace p165 := eq_true p165; replace q165 := eq_true q165) | (go_at_call 34; (with_reducible refine (spec_VerPlainly.calls (rdOf ByteArray.empty t156 x7_2) true _ A26.out).mono ?_); rintro e w' ⟨rfl, ⟨nd, rfl⟩⟩; (try (rw [drewN_self wr]; generalize hq_ : World.drewN wr _ = wr; have n0_ : Aside0 (Kd.R (Kd.int .u64) 22 wr w.heap.size (fun _ => True) u162000 x162000_2) := ⟨by rw [← hq_]; exact (by (with_reducible repeat (first | apply kA_ | apply kN_ | apply kD_)); exact HO_162000.out)⟩; have n1_ : Aside0 (Kd.R Kd.string 9 wr w.heap.size (fun _ => True) (.slice (some ad162) t156.length co17) t156) := ⟨by rw [← hq_]; exact (by (with_reducible repeat (first | apply kA_ | apply kN_ | apply kD_)); exact HO_4.out)⟩; have n2_ : Aside0 (wr.heap[gb154]? = some (.cells #[.slice none 0 0, .bool x155001_2, .string x155002_2, .string x155003_2] 26 (0, 0))) := ⟨by rw [← hq_]; exact (by (with_reducible repeat (first | refine bN_ ?_ _ | refine bD_ ?_ | refine bA_ ?_ _)); exact BK154.out)⟩; have n3_ : Aside0 (wr.heap[gb161]? = some (.cells #[u162000, .bool true, .string (⟨#[]⟩ : ByteArray), .string (⟨#[]⟩ : ByteArray)] 26 (0, 0))) := ⟨by rw [← hq_]; exact (by (with_reducible repeat (first | refine bN_ ?_ _ | refine bD_ ?_ | refine bA_ ?_ _)); exact BK161.out)⟩; have n4_ : Aside0 (Below w.heap.size w wr) := ⟨by rw [← hq_]; exact (by repeat (first | (with_reducible first | exact HB.out | apply bB_ | apply wN_ | apply bE_ | refine bS_ ?_ GE154.out | refine bS_ ?_ GE161.out) | exact HB.out))⟩; clear HO_162000 HO_4 BK154 BK161 HB hq_; have HO_162000 := n0_; have HO_4 := n1_; have BK154 := n2_; have BK161 := n3_; have HB := n4_; clear n0_ n1_ n2_ n3_ n4_)); have hnb29 := NB161_154.out; have hnc29 := NB154_161.out; have hcz30_0 : wr.cell? ⟨gb161, 0, none⟩ = some (u162000) := (bC_ BK161.out 0).trans rfl; have hcz30_1 : wr.cell? ⟨gb161, 1, none⟩ = some (.bool true) := (bC_ BK161.out 1).trans rfl; have hcz30_2 : wr.cell? ⟨gb161, 2, none⟩ = some (.string (⟨#[]⟩ : ByteArray)) := (bC_ BK161.out 2).trans rfl; have hcz30_3 : wr.cell? ⟨gb161, 3, none⟩ = some (.string (⟨#[]⟩ : ByteArray)) := (bC_ BK161.out 3).trans rfl; have hfz30_0 := bF_ BK161.out 0; have hfz30_1 := bF_ BK161.out 1; have hfz30_2 := bF_ BK161.out 2; have hfz30_3 := bF_ BK161.out 3) | ((with_reducible refine gate_builtin (b := .append) (xs := #[.tmp 61, .tmp 63]) rfl ?_); (try (refine gate_guard (by rfl) ?_; dsimp only)); at_builtin; refine Kd.R_append (Kd.int .u64) (w0 := w) w.heap.size rfl (.tmp 61) (.tmp 63) 24 22 (.int .u64 0) 8 rfl Tryd.underlying24 info22 rfl (by decide) (by omega) u162000 x162000_2 t163 [.int .u64 t163] (fun _ => True) (fun _ => False) rfl rfl ?aP (fun _ hk => hk.elim) ?aF ?aO ?aB ?aS ?aL ?_; (case aP => exact rfl); (case aB => exact (by repeat (first | (with_reducible first | exact HB.out | apply bB_ | apply wN_ | apply bE_ | refine bS_ ?_ GE154.out | refine bS_ ?_ GE161.out) | exact HB.out))); (case aF => exact (fun _ _ => trivial)); (case aO => exact (by (with_reducible repeat (first | apply kA_ | apply kN_ | apply kD_)); exact HO_162000.out)); (case aS => exact (below_size (by repeat (first | (with_reducible first | exact HB.out | apply bB_ | apply wN_ | apply bE_ | refine bS_ ?_ GE154.out | refine bS_ ?_ GE161.out) | exact HB.out)))); (case aL => have := LMc28.out; omega); intro v168 w31 ho hb hg hat; rw [← Ny167.out] at ho; have n0_ := aM_ (Kd.R_over' (by (with_reducible repeat (first | apply kA_ | apply kN_ | apply kD_)); exact HO_4.out) (Kd.R_typed (by (with_reducible repeat (first | apply kA_ | apply kN_ | apply kD_)); exact HO_162000.out)) (by decide) hg); have n1_ := aM_ (blk_grown (g := gb154) (o := .cells #[.slice none 0 0, .bool x155001_2, .string x155002_2, .string x155003_2] 26 (0, 0)) (by (with_reducible repeat (first | refine bN_ ?_ _ | refine bD_ ?_ | refine bA_ ?_ _)); exact BK154.out) hg (Kd.R_ne HO_162000.out BK154.out (by decide))); have n2_ := aM_ (blk_grown (g := gb161) (o := .cells #[u162000, .bool true, .string (⟨#[]⟩ : ByteArray), .string (⟨#[]⟩ : ByteArray)] 26 (0, 0)) (by (with_reducible repeat (first | refine bN_ ?_ _ | refine bD_ ?_ | refine bA_ ?_ _)); exact BK161.out) hg (Kd.R_ne HO_162000.out BK161.out (by decide))); have n3_ := aM_ (hb); have n4_ := aM_ (ho); clear HO_4; clear BK154; clear BK161; clear HB; clear HO_162000; have HO_4 := n0_; have BK154 := n1_; have BK161 := n2_; have HB := n3_; have HO169 := n4_; clear n0_ n1_ n2_ n3_ n4_; clear ho hb hg hat; obtain ⟨Ao32, co32, eo32⟩ := Kd.R_slice HO169.out; subst eo32; have hcz33_0 : w31.cell? ⟨gb161, 0, none⟩ = some (u162000) := (bC_ BK161.out 0).trans rfl; have hcz33_1 : w31.cell? ⟨gb161, 1, none⟩ = some (.bool true) := (bC_ BK161.out 1).trans rfl; have hcz33_2 : w31.cell? ⟨gb161, 2, none⟩ = some (.string (⟨#[]⟩ : ByteArray)) := (bC_ BK161.out 2).trans rfl; have hcz33_3 : w31.cell? ⟨gb161, 3, none⟩ = some (.string (⟨#[]⟩ : ByteArray)) := (bC_ BK161.out 3).trans rfl; have hfz33_0 := bF_ BK161.out 0; have hfz33_1 := bF_ BK161.out 1; have hfz33_2 := bF_ BK161.out 2; have hfz33_3 := bF_ BK161.out 3))
            go_roundg k2
            case measure => have := HJ3.out; have := HK2.out; omega
            case rel => exact ⟨(wrap64 (x7_2 + 1)), (x155001_2), (x155002_2), (x155003_2), (y167), (.slice Ao32 y167.length co32), (by first | rfl | (simp; done) | (simp [*]; done)), H', ⟨by have := HJ3.out; have := HK2.out; omega⟩, ⟨by (with_reducible repeat (first | apply kA_ | apply kN_ | apply kD_)); exact Kd.R_mono (Kd.R_far (p := ⟨gb161, 0, none⟩) (Kd.R_types HO_4.out BK161.out (by decide)) (fun _ hk => hk.2) (.slice Ao32 y167.length co32)) (fun _ hk => trivial)⟩, ⟨by (with_reducible repeat (first | apply kA_ | apply kN_ | apply kD_)); exact Kd.R_mono (Kd.R_far (p := ⟨gb161, 0, none⟩) (Kd.R_types HO169.out BK161.out (by decide)) (fun _ hk => hk.2) (.slice Ao32 y167.length co32)) (fun _ hk => trivial)⟩, ⟨by (with_reducible repeat (first | refine bN_ ?_ _ | refine bD_ ?_ | refine bA_ ?_ _)); refine blk_far ?_ NB154_161.out _; (with_reducible repeat (first | refine bN_ ?_ _ | refine bD_ ?_ | refine bA_ ?_ _)); exact BK154.out⟩, ⟨by (with_reducible repeat (first | refine bN_ ?_ _ | refine bD_ ?_ | refine bA_ ?_ _)); refine blk_put (cs := #[u162000, .bool true, .string (⟨#[]⟩ : ByteArray), .string (⟨#[]⟩ : ByteArray)]) ?_ 0 _ rfl; (with_reducible repeat (first | refine bN_ ?_ _ | refine bD_ ?_ | refine bA_ ?_ _)); exact BK161.out⟩, ⟨by repeat (first | (with_reducible first | exact HB.out | apply bB_ | apply wN_ | apply bE_ | refine bS_ ?_ GE154.out | refine bS_ ?_ GE161.out) | exact HB.out)⟩⟩
           ·
            rw [if_neg c28] at H
            exact absurd H (by simp)
          ·
           replace c27 := Bool.eq_false_iff.mpr c27
           subst c27
           have H1 : (some (([] : List Int), false, (⟨#[]⟩ : ByteArray), (⟨#[]⟩ : ByteArray), false)) = some (r1, r2, r3, r4, r5) := by rw [if_neg (show ¬ (false = true) by decide)] at H; exact H
           clear H
           have H := H1
           clear H1
           simp only [Option.some.injEq, Prod.mk.injEq] at H
           obtain ⟨rfl, rfl, rfl, rfl, rfl⟩ := H
           have p162 : 0 ≤ (x7_2 : Int) := of_decide_eq_true (by first | (with_reducible assumption) | assumption)
           have q162 : x7_2 < (t156.length : Int) := of_decide_eq_true (by first | (with_reducible assumption) | assumption)
           obtain ⟨ad162, e162, hx162_0⟩ := Kd.at_string (Kd.R_reads' HO_4.out).2.2 x7_2 p162 q162
           cases e162
           replace p162 := eq_true p162
           replace q162 := eq_true q162
           go_wp2_with (first | ((with_reducible refine gate_callee (f := 71) rfl ?_); refine goesL_ (some 46) rfl rfl Tryd.func71 (by kernel_rfl) rfl #[.string (rdOf ByteArray.empty t156 x7_2)] rfl (by (try simp only [List.map_toArray, List.map_cons, List.map_nil]); first | done | rfl | (rw [mCutL]) | (simp only [List.length_drop, List.length_take]; rfl)) ?_; (with_reducible refine (spec_VerUint.calls k2 (rdOf ByteArray.empty t156 x7_2) t163 true _ A24.out).mono ?_); rintro e w' ⟨rfl, ⟨nd, rfl⟩⟩; refine ⟨_, rfl, ?_⟩; (try (rw [drewN_self wr]; generalize hq_ : World.drewN wr _ = wr; have n0_ : Aside0 (Kd.R (Kd.int .u64) 22 wr w.heap.size (fun _ => True) u162000 x162000_2) := ⟨by rw [← hq_]; exact (by (with_reducible repeat (first | apply kA_ | apply kN_ | apply kD_)); exact HO_162000.out)⟩; have n1_ : Aside0 (Kd.R Kd.string 9 wr w.heap.size (fun _ => True) (.slice (some ad162) t156.length co17) t156) := ⟨by rw [← hq_]; exact (by (with_reducible repeat (first | apply kA_ | apply kN_ | apply kD_)); exact HO_4.out)⟩; have n2_ : Aside0 (wr.heap[gb154]? = some (.cells #[.slice none 0 0, .bool x155001_2, .string x155002_2, .string x155003_2] 26 (0, 0))) := ⟨by rw [← hq_]; exact (by (with_reducible repeat (first | refine bN_ ?_ _ | refine bD_ ?_ | refine bA_ ?_ _)); exact BK154.out)⟩; have n3_ : Aside0 (wr.heap[gb161]? = some (.cells #[u162000, .bool true, .string (⟨#[]⟩ : ByteArray), .string (⟨#[]⟩ : ByteArray)] 26 (0, 0))) := ⟨by rw [← hq_]; exact (by (with_reducible repeat (first | refine bN_ ?_ _ | refine bD_ ?_ | refine bA_ ?_ _)); exact BK161.out)⟩; have n4_ : Aside0 (Below w.heap.size w wr) := ⟨by rw [← hq_]; exact (by repeat (first | (with_reducible first | exact HB.out | apply bB_ | apply wN_ | apply bE_ | refine bS_ ?_ GE154.out | refine bS_ ?_ GE161.out) | exact HB.out))⟩; clear HO_162000 HO_4 BK154 BK161 HB hq_; have HO_162000 := n0_; have HO_4 := n1_; have BK154 := n2_; have BK161 := n3_; have HB := n4_; clear n0_ n1_ n2_ n3_ n4_)); have p165 : 0 ≤ (x7_2 : Int) := of_decide_eq_true (by first | (with_reducible assumption) | assumption); have q165 : x7_2 < (t156.length : Int) := of_decide_eq_true (by first | (with_reducible assumption) | assumption); obtain ⟨ad165, e165, hx165_0⟩ := Kd.at_string (Kd.R_reads' HO_4.out).2.2 x7_2 p165 q165; obtain rfl : ad162 = ad165 := (by injection e165); replace p165 := eq_true p165; replace q165 := eq_true q165) | (go_at_call 34; (with_reducible refine (spec_VerPlainly.calls (rdOf ByteArray.empty t156 x7_2) false _ A26.out).mono ?_); rintro e w' ⟨rfl, ⟨nd, rfl⟩⟩; (try (rw [drewN_self wr]; generalize hq_ : World.drewN wr _ = wr; have n0_ : Aside0 (Kd.R (Kd.int .u64) 22 wr w.heap.size (fun _ => True) u162000 x162000_2) := ⟨by rw [← hq_]; exact (by (with_reducible repeat (first | apply kA_ | apply kN_ | apply kD_)); exact HO_162000.out)⟩; have n1_ : Aside0 (Kd.R Kd.string 9 wr w.heap.size (fun _ => True) (.slice (some ad162) t156.length co17) t156) := ⟨by rw [← hq_]; exact (by (with_reducible repeat (first | apply kA_ | apply kN_ | apply kD_)); exact HO_4.out)⟩; have n2_ : Aside0 (wr.heap[gb154]? = some (.cells #[.slice none 0 0, .bool x155001_2, .string x155002_2, .string x155003_2] 26 (0, 0))) := ⟨by rw [← hq_]; exact (by (with_reducible repeat (first | refine bN_ ?_ _ | refine bD_ ?_ | refine bA_ ?_ _)); exact BK154.out)⟩; have n3_ : Aside0 (wr.heap[gb161]? = some (.cells #[u162000, .bool true, .string (⟨#[]⟩ : ByteArray), .string (⟨#[]⟩ : ByteArray)] 26 (0, 0))) := ⟨by rw [← hq_]; exact (by (with_reducible repeat (first | refine bN_ ?_ _ | refine bD_ ?_ | refine bA_ ?_ _)); exact BK161.out)⟩; have n4_ : Aside0 (Below w.heap.size w wr) := ⟨by rw [← hq_]; exact (by repeat (first | (with_reducible first | exact HB.out | apply bB_ | apply wN_ | apply bE_ | refine bS_ ?_ GE154.out | refine bS_ ?_ GE161.out) | exact HB.out))⟩; clear HO_162000 HO_4 BK154 BK161 HB hq_; have HO_162000 := n0_; have HO_4 := n1_; have BK154 := n2_; have BK161 := n3_; have HB := n4_; clear n0_ n1_ n2_ n3_ n4_)); have hnb34 := NB154_161.out; have hnc34 := NB161_154.out; have hcz35_0 : wr.cell? ⟨gb154, 0, none⟩ = some (.slice none 0 0) := (bC_ BK154.out 0).trans rfl; have hcz35_1 : wr.cell? ⟨gb154, 1, none⟩ = some (.bool x155001_2) := (bC_ BK154.out 1).trans rfl; have hcz35_2 : wr.cell? ⟨gb154, 2, none⟩ = some (.string x155002_2) := (bC_ BK154.out 2).trans rfl; have hcz35_3 : wr.cell? ⟨gb154, 3, none⟩ = some (.string x155003_2) := (bC_ BK154.out 3).trans rfl; have hfz35_0 := bF_ BK154.out 0; have hfz35_1 := bF_ BK154.out 1; have hfz35_2 := bF_ BK154.out 2; have hfz35_3 := bF_ BK154.out 3))
           refine bodyPost_ret (results_ct rfl _ _ gb154 26 #[.slice none 0 0, .bool false, .string (⟨#[]⟩ : ByteArray), .string (⟨#[]⟩ : ByteArray)] (0, 0) _ rfl (by (with_reducible repeat (first | refine bN_ ?_ _ | refine bD_ ?_ | refine bA_ ?_ _)); refine blk_put (cs := #[.slice none 0 0, .bool false, .string (⟨#[]⟩ : ByteArray), .string x155003_2]) ?_ 3 _ rfl; (with_reducible repeat (first | refine bN_ ?_ _ | refine bD_ ?_ | refine bA_ ?_ _)); refine blk_put (cs := #[.slice none 0 0, .bool false, .string x155002_2, .string x155003_2]) ?_ 2 _ rfl; (with_reducible repeat (first | refine bN_ ?_ _ | refine bD_ ?_ | refine bA_ ?_ _)); refine blk_put (cs := #[.slice none 0 0, .bool x155001_2, .string x155002_2, .string x155003_2]) ?_ 1 _ rfl; (with_reducible repeat (first | refine bN_ ?_ _ | refine bD_ ?_ | refine bA_ ?_ _)); refine blk_put (cs := #[.slice none 0 0, .bool x155001_2, .string x155002_2, .string x155003_2]) ?_ 0 _ rfl; (with_reducible repeat (first | refine bN_ ?_ _ | refine bD_ ?_ | refine bA_ ?_ _)); exact BK154.out) Tryd.underlying26 rfl (by kernel_rfl)) rfl ?_
           exact ⟨_, by first | rfl | (simp [errW_none, errW_some] <;> rfl) | (simp [*, errW_none, errW_some] <;> rfl), by first | exact Kd.R_nil _ _ _ _ _ | exact Kd.N_nil _ _ _ _ _ | exact Kd.V_nil _ _ _ _ _ | exact Kd.Q_nil _ _ _ _ _ | exact Kd.S_nil _ _ _ _ _, by repeat (first | (with_reducible first | exact HB.out | apply bB_ | apply wN_ | apply bE_ | refine bS_ ?_ GE154.out | refine bS_ ?_ GE161.out) | exact HB.out)⟩
         ·
          replace c25 := Bool.eq_false_iff.mpr c25
          subst c25
          have H1 : (some (([] : List Int), false, (⟨#[]⟩ : ByteArray), (⟨#[]⟩ : ByteArray), false)) = some (r1, r2, r3, r4, r5) := by rw [if_neg (show ¬ (false = true) by decide)] at H; exact H
          clear H
          have H := H1
          clear H1
          simp only [Option.some.injEq, Prod.mk.injEq] at H
          obtain ⟨rfl, rfl, rfl, rfl, rfl⟩ := H
          have p162 : 0 ≤ (x7_2 : Int) := of_decide_eq_true (by first | (with_reducible assumption) | assumption)
          have q162 : x7_2 < (t156.length : Int) := of_decide_eq_true (by first | (with_reducible assumption) | assumption)
          obtain ⟨ad162, e162, hx162_0⟩ := Kd.at_string (Kd.R_reads' HO_4.out).2.2 x7_2 p162 q162
          cases e162
          replace p162 := eq_true p162
          replace q162 := eq_true q162
          go_wp2_with (first | ((with_reducible refine gate_callee (f := 71) rfl ?_); refine goesL_ (some 46) rfl rfl Tryd.func71 (by kernel_rfl) rfl #[.string (rdOf ByteArray.empty t156 x7_2)] rfl (by (try simp only [List.map_toArray, List.map_cons, List.map_nil]); first | done | rfl | (rw [mCutL]) | (simp only [List.length_drop, List.length_take]; rfl)) ?_; (with_reducible refine (spec_VerUint.calls k2 (rdOf ByteArray.empty t156 x7_2) t163 false _ A24.out).mono ?_); rintro e w' ⟨rfl, ⟨nd, rfl⟩⟩; refine ⟨_, rfl, ?_⟩; (try (rw [drewN_self wr]; generalize hq_ : World.drewN wr _ = wr; have n0_ : Aside0 (Kd.R (Kd.int .u64) 22 wr w.heap.size (fun _ => True) u162000 x162000_2) := ⟨by rw [← hq_]; exact (by (with_reducible repeat (first | apply kA_ | apply kN_ | apply kD_)); exact HO_162000.out)⟩; have n1_ : Aside0 (Kd.R Kd.string 9 wr w.heap.size (fun _ => True) (.slice (some ad162) t156.length co17) t156) := ⟨by rw [← hq_]; exact (by (with_reducible repeat (first | apply kA_ | apply kN_ | apply kD_)); exact HO_4.out)⟩; have n2_ : Aside0 (wr.heap[gb154]? = some (.cells #[.slice none 0 0, .bool x155001_2, .string x155002_2, .string x155003_2] 26 (0, 0))) := ⟨by rw [← hq_]; exact (by (with_reducible repeat (first | refine bN_ ?_ _ | refine bD_ ?_ | refine bA_ ?_ _)); exact BK154.out)⟩; have n3_ : Aside0 (wr.heap[gb161]? = some (.cells #[u162000, .bool true, .string (⟨#[]⟩ : ByteArray), .string (⟨#[]⟩ : ByteArray)] 26 (0, 0))) := ⟨by rw [← hq_]; exact (by (with_reducible repeat (first | refine bN_ ?_ _ | refine bD_ ?_ | refine bA_ ?_ _)); exact BK161.out)⟩; have n4_ : Aside0 (Below w.heap.size w wr) := ⟨by rw [← hq_]; exact (by repeat (first | (with_reducible first | exact HB.out | apply bB_ | apply wN_ | apply bE_ | refine bS_ ?_ GE154.out | refine bS_ ?_ GE161.out) | exact HB.out))⟩; clear HO_162000 HO_4 BK154 BK161 HB hq_; have HO_162000 := n0_; have HO_4 := n1_; have BK154 := n2_; have BK161 := n3_; have HB := n4_; clear n0_ n1_ n2_ n3_ n4_)); have hnb36 := NB154_161.out; have hnc36 := NB161_154.out; have hcz37_0 : wr.cell? ⟨gb154, 0, none⟩ = some (.slice none 0 0) := (bC_ BK154.out 0).trans rfl; have hcz37_1 : wr.cell? ⟨gb154, 1, none⟩ = some (.bool x155001_2) := (bC_ BK154.out 1).trans rfl; have hcz37_2 : wr.cell? ⟨gb154, 2, none⟩ = some (.string x155002_2) := (bC_ BK154.out 2).trans rfl; have hcz37_3 : wr.cell? ⟨gb154, 3, none⟩ = some (.string x155003_2) := (bC_ BK154.out 3).trans rfl; have hfz37_0 := bF_ BK154.out 0; have hfz37_1 := bF_ BK154.out 1; have hfz37_2 := bF_ BK154.out 2; have hfz37_3 := bF_ BK154.out 3))
          refine bodyPost_ret (results_ct rfl _ _ gb154 26 #[.slice none 0 0, .bool false, .string (⟨#[]⟩ : ByteArray), .string (⟨#[]⟩ : ByteArray)] (0, 0) _ rfl (by (with_reducible repeat (first | refine bN_ ?_ _ | refine bD_ ?_ | refine bA_ ?_ _)); refine blk_put (cs := #[.slice none 0 0, .bool false, .string (⟨#[]⟩ : ByteArray), .string x155003_2]) ?_ 3 _ rfl; (with_reducible repeat (first | refine bN_ ?_ _ | refine bD_ ?_ | refine bA_ ?_ _)); refine blk_put (cs := #[.slice none 0 0, .bool false, .string x155002_2, .string x155003_2]) ?_ 2 _ rfl; (with_reducible repeat (first | refine bN_ ?_ _ | refine bD_ ?_ | refine bA_ ?_ _)); refine blk_put (cs := #[.slice none 0 0, .bool x155001_2, .string x155002_2, .string x155003_2]) ?_ 1 _ rfl; (with_reducible repeat (first | refine bN_ ?_ _ | refine bD_ ?_ | refine bA_ ?_ _)); refine blk_put (cs := #[.slice none 0 0, .bool x155001_2, .string x155002_2, .string x155003_2]) ?_ 0 _ rfl; (with_reducible repeat (first | refine bN_ ?_ _ | refine bD_ ?_ | refine bA_ ?_ _)); exact BK154.out) Tryd.underlying26 rfl (by kernel_rfl)) rfl ?_
          exact ⟨_, by first | rfl | (simp [errW_none, errW_some] <;> rfl) | (simp [*, errW_none, errW_some] <;> rfl), by first | exact Kd.R_nil _ _ _ _ _ | exact Kd.N_nil _ _ _ _ _ | exact Kd.V_nil _ _ _ _ _ | exact Kd.Q_nil _ _ _ _ _ | exact Kd.S_nil _ _ _ _ _, by repeat (first | (with_reducible first | exact HB.out | apply bB_ | apply wN_ | apply bE_ | refine bS_ ?_ GE154.out | refine bS_ ?_ GE161.out) | exact HB.out)⟩
        ·
         rw [if_neg c23] at H
         exact absurd H (by simp)
       ·
        rw [if_neg c22] at H
        exact absurd H (by simp)
      ·
       rw [if_neg c21] at H
       have c21b0 : decide (x7_2 < 3) = false := decide_eq_false c21
       clear c21
       replace H := Option.bind_eq_some_iff.mp H
       obtain ⟨t170, A380, H⟩ := H
       replace H : (if t170 ≥ 0 then (if 0 ≤ (wrap64 (t170 + 1)) then (if (wrap64 (t170 + 1)) ≤ (x5_3.size : Int) then (if 0 ≤ t170 then (if t170 ≤ (x5_3.size : Int) then ((spec_VerIdentifiers.f k2 (x5_3.extract ((wrap64 (t170 + 1)) : Int).toNat x5_3.size) false).bind fun t171 => (if t171 = true then (if (x5_3.extract 0 (t170 : Int).toNat).toList = ([] : List UInt8) then (some (x162000_2, true, (⟨#[]⟩ : ByteArray), x5_3.extract ((wrap64 (t170 + 1)) : Int).toNat x5_3.size, true)) else (if 1 ≤ ((x5_3.extract 0 (t170 : Int).toNat).size : Int) then (if 0 < ((x5_3.extract 0 (t170 : Int).toNat).size : Int) then (if (bt (x5_3.extract 0 (t170 : Int).toNat) 0) = 45 then ((spec_VerIdentifiers.f k2 ((x5_3.extract 0 (t170 : Int).toNat).extract 1 (x5_3.extract 0 (t170 : Int).toNat).size) true).bind fun t172 => (some (x162000_2, true, (x5_3.extract 0 (t170 : Int).toNat).extract 1 (x5_3.extract 0 (t170 : Int).toNat).size, x5_3.extract ((wrap64 (t170 + 1)) : Int).toNat x5_3.size, t172))) else (some (x162000_2, true, (x5_3.extract 0 (t170 : Int).toNat).extract 1 (x5_3.extract 0 (t170 : Int).toNat).size, x5_3.extract ((wrap64 (t170 + 1)) : Int).toNat x5_3.size, false))) else (none)) else (none))) else (some (([] : List Int), false, (⟨#[]⟩ : ByteArray), (⟨#[]⟩ : ByteArray), false)))) else (none)) else (none)) else (none)) else (none)) else (if x5_3.toList = ([] : List UInt8) then (some (x162000_2, true, (⟨#[]⟩ : ByteArray), (⟨#[]⟩ : ByteArray), true)) else (if 1 ≤ (x5_3.size : Int) then (if 0 < (x5_3.size : Int) then (if (bt x5_3 0) = 45 then ((spec_VerIdentifiers.f k2 (x5_3.extract 1 x5_3.size) true).bind fun t173 => (some (x162000_2, true, x5_3.extract 1 x5_3.size, (⟨#[]⟩ : ByteArray), t173))) else (some (x162000_2, true, x5_3.extract 1 x5_3.size, (⟨#[]⟩ : ByteArray), false))) else (none)) else (none)))) = some (r1, r2, r3, r4, r5) := H
       have A38 := aM_ A380
       clear A380
       by_cases c39 : t170 ≥ 0
       ·
        rw [if_pos c39] at H
        have c39b0 : decide (0 ≤ t170) = true := decide_eq_true c39
        clear c39
        obtain ⟨ji40, hji40⟩ : ∃ j_ : Int, (wrap64 (t170 + 1)) = j_ := ⟨_, rfl⟩
        replace H : (if 0 ≤ (ji40) then (if (ji40) ≤ (x5_3.size : Int) then (if 0 ≤ t170 then (if t170 ≤ (x5_3.size : Int) then ((spec_VerIdentifiers.f k2 (x5_3.extract ((ji40) : Int).toNat x5_3.size) false).bind fun t171 => (if t171 = true then (if (x5_3.extract 0 (t170 : Int).toNat).toList = ([] : List UInt8) then (some (x162000_2, true, (⟨#[]⟩ : ByteArray), x5_3.extract ((ji40) : Int).toNat x5_3.size, true)) else (if 1 ≤ ((x5_3.extract 0 (t170 : Int).toNat).size : Int) then (if 0 < ((x5_3.extract 0 (t170 : Int).toNat).size : Int) then (if (bt (x5_3.extract 0 (t170 : Int).toNat) 0) = 45 then ((spec_VerIdentifiers.f k2 ((x5_3.extract 0 (t170 : Int).toNat).extract 1 (x5_3.extract 0 (t170 : Int).toNat).size) true).bind fun t172 => (some (x162000_2, true, (x5_3.extract 0 (t170 : Int).toNat).extract 1 (x5_3.extract 0 (t170 : Int).toNat).size, x5_3.extract ((ji40) : Int).toNat x5_3.size, t172))) else (some (x162000_2, true, (x5_3.extract 0 (t170 : Int).toNat).extract 1 (x5_3.extract 0 (t170 : Int).toNat).size, x5_3.extract ((ji40) : Int).toNat x5_3.size, false))) else (none)) else (none))) else (some (([] : List Int), false, (⟨#[]⟩ : ByteArray), (⟨#[]⟩ : ByteArray), false)))) else (none)) else (none)) else (none)) else (none)) = some (r1, r2, r3, r4, r5) := by first | (rw [hji40] at H; exact H) | (simp only [hji40] at H ⊢; exact H)
        (try rw [hji40] at A38)
        have hji40w : (IntKind.i64.wrap (t170 + 1)) = ji40 := (i64_w _).trans hji40
        by_cases c41 : 0 ≤ (ji40)
        ·
         rw [if_pos c41] at H
         have c41b0 := eq_true c41
         have c41b1 : decide (0 ≤ (ji40)) = true := decide_eq_true c41
         clear c41
         by_cases c42 : (ji40) ≤ (x5_3.size : Int)
         ·
          rw [if_pos c42] at H
          have c42b0 := eq_true c42
          have c42b1 : decide ((ji40) ≤ (x5_3.size : Int)) = true := decide_eq_true c42
          clear c42
          by_cases c43 : 0 ≤ t170
          ·
           rw [if_pos c43] at H
           have c43b0 := eq_true c43
           have c43b1 : decide (0 ≤ t170) = true := decide_eq_true c43
           clear c43
           by_cases c44 : t170 ≤ (x5_3.size : Int)
           ·
            rw [if_pos c44] at H
            have c44b0 := eq_true c44
            have c44b1 : decide (t170 ≤ (x5_3.size : Int)) = true := decide_eq_true c44
            clear c44
            replace H := Option.bind_eq_some_iff.mp H
            obtain ⟨t171, A450, H⟩ := H
            replace H : (if t171 = true then (if (x5_3.extract 0 (t170 : Int).toNat).toList = ([] : List UInt8) then (some (x162000_2, true, (⟨#[]⟩ : ByteArray), x5_3.extract ((ji40) : Int).toNat x5_3.size, true)) else (if 1 ≤ ((x5_3.extract 0 (t170 : Int).toNat).size : Int) then (if 0 < ((x5_3.extract 0 (t170 : Int).toNat).size : Int) then (if (bt (x5_3.extract 0 (t170 : Int).toNat) 0) = 45 then ((spec_VerIdentifiers.f k2 ((x5_3.extract 0 (t170 : Int).toNat).extract 1 (x5_3.extract 0 (t170 : Int).toNat).size) true).bind fun t172 => (some (x162000_2, true, (x5_3.extract 0 (t170 : Int).toNat).extract 1 (x5_3.extract 0 (t170 : Int).toNat).size, x5_3.extract ((ji40) : Int).toNat x5_3.size, t172))) else (some (x162000_2, true, (x5_3.extract 0 (t170 : Int).toNat).extract 1 (x5_3.extract 0 (t170 : Int).toNat).size, x5_3.extract ((ji40) : Int).toNat x5_3.size, false))) else (none)) else (none))) else (some (([] : List Int), false, (⟨#[]⟩ : ByteArray), (⟨#[]⟩ : ByteArray), false))) = some (r1, r2, r3, r4, r5) := H
            have A45 := aM_ A450
            clear A450
            by_cases c46 : t171 = true
            ·
             subst c46
             have H1 : (if (x5_3.extract 0 (t170 : Int).toNat).toList = ([] : List UInt8) then (some (x162000_2, true, (⟨#[]⟩ : ByteArray), x5_3.extract ((ji40) : Int).toNat x5_3.size, true)) else (if 1 ≤ ((x5_3.extract 0 (t170 : Int).toNat).size : Int) then (if 0 < ((x5_3.extract 0 (t170 : Int).toNat).size : Int) then (if (bt (x5_3.extract 0 (t170 : Int).toNat) 0) = 45 then ((spec_VerIdentifiers.f k2 ((x5_3.extract 0 (t170 : Int).toNat).extract 1 (x5_3.extract 0 (t170 : Int).toNat).size) true).bind fun t172 => (some (x162000_2, true, (x5_3.extract 0 (t170 : Int).toNat).extract 1 (x5_3.extract 0 (t170 : Int).toNat).size, x5_3.extract ((ji40) : Int).toNat x5_3.size, t172))) else (some (x162000_2, true, (x5_3.extract 0 (t170 : Int).toNat).extract 1 (x5_3.extract 0 (t170 : Int).toNat).size, x5_3.extract ((ji40) : Int).toNat x5_3.size, false))) else (none)) else (none))) = some (r1, r2, r3, r4, r5) := by rw [if_pos rfl] at H; exact H
             clear H
             have H := H1
             clear H1
             by_cases c47 : (x5_3.extract 0 (t170 : Int).toNat).toList = ([] : List UInt8)
             ·
              rw [if_pos c47] at H
              have c47b0 : ((x5_3.extract 0 (t170 : Int).toNat).toList == ([] : List UInt8)) = true := beq_iff_eq.mpr c47
              have c47b1 : ((x5_3.extract 0 (t170 : Int).toNat).toList != ([] : List UInt8)) = false := bne_eq_false_iff_eq.mpr c47
              clear c47
              simp only [Option.some.injEq, Prod.mk.injEq] at H
              obtain ⟨rfl, rfl, rfl, rfl, rfl⟩ := H
              go_wp2_with (first | ((with_reducible refine gate_callee (f := 39) rfl ?_); refine goesL_ (some 67) rfl rfl Tryd.func39 (by kernel_rfl) rfl #[.string x5_3, .int .u8 43] rfl (by (try simp only [List.map_toArray, List.map_cons, List.map_nil]); first | done | rfl | (rw [mCutL]) | (simp only [List.length_drop, List.length_take]; rfl)) ?_; (with_reducible refine (spec_verPlace.calls k2 x5_3 43 t170 _ A38.out).mono ?_); rintro e w' ⟨rfl, ⟨nd, rfl⟩⟩; refine ⟨_, rfl, ?_⟩; (try (rw [drewN_self wr]; generalize hq_ : World.drewN wr _ = wr; have n0_ : Aside0 (Kd.R (Kd.int .u64) 22 wr w.heap.size (fun _ => True) u162000 x162000_2) := ⟨by rw [← hq_]; exact (by (with_reducible repeat (first | apply kA_ | apply kN_ | apply kD_)); exact HO_162000.out)⟩; have n1_ : Aside0 (Kd.R Kd.string 9 wr w.heap.size (fun _ => True) (.slice Ao17 t156.length co17) t156) := ⟨by rw [← hq_]; exact (by (with_reducible repeat (first | apply kA_ | apply kN_ | apply kD_)); exact HO_4.out)⟩; have n2_ : Aside0 (wr.heap[gb154]? = some (.cells #[.slice none 0 0, .bool x155001_2, .string x155002_2, .string x155003_2] 26 (0, 0))) := ⟨by rw [← hq_]; exact (by (with_reducible repeat (first | refine bN_ ?_ _ | refine bD_ ?_ | refine bA_ ?_ _)); exact BK154.out)⟩; have n3_ : Aside0 (wr.heap[gb161]? = some (.cells #[u162000, .bool true, .string (⟨#[]⟩ : ByteArray), .string (⟨#[]⟩ : ByteArray)] 26 (0, 0))) := ⟨by rw [← hq_]; exact (by (with_reducible repeat (first | refine bN_ ?_ _ | refine bD_ ?_ | refine bA_ ?_ _)); exact BK161.out)⟩; have n4_ : Aside0 (Below w.heap.size w wr) := ⟨by rw [← hq_]; exact (by repeat (first | (with_reducible first | exact HB.out | apply bB_ | apply wN_ | apply bE_ | refine bS_ ?_ GE154.out | refine bS_ ?_ GE161.out) | exact HB.out))⟩; clear HO_162000 HO_4 BK154 BK161 HB hq_; have HO_162000 := n0_; have HO_4 := n1_; have BK154 := n2_; have BK161 := n3_; have HB := n4_; clear n0_ n1_ n2_ n3_ n4_)); have hnb48 := NB161_154.out; have hnc48 := NB154_161.out; have hcz49_0 : wr.cell? ⟨gb161, 0, none⟩ = some (u162000) := (bC_ BK161.out 0).trans rfl; have hcz49_1 : wr.cell? ⟨gb161, 1, none⟩ = some (.bool true) := (bC_ BK161.out 1).trans rfl; have hcz49_2 : wr.cell? ⟨gb161, 2, none⟩ = some (.string (⟨#[]⟩ : ByteArray)) := (bC_ BK161.out 2).trans rfl; have hcz49_3 : wr.cell? ⟨gb161, 3, none⟩ = some (.string (⟨#[]⟩ : ByteArray)) := (bC_ BK161.out 3).trans rfl; have hfz49_0 := bF_ BK161.out 0; have hfz49_1 := bF_ BK161.out 1; have hfz49_2 := bF_ BK161.out 2; have hfz49_3 := bF_ BK161.out 3) | ((with_reducible refine gate_callee (f := 11) rfl ?_); refine goesL_ (some 80) rfl rfl Tryd.func11 (by kernel_rfl) rfl #[.string (x5_3.extract ((ji40) : Int).toNat x5_3.size), .bool false] rfl (by (try simp only [List.map_toArray, List.map_cons, List.map_nil]); first | done | (simp only [hji40]; rfl) | rfl | (simp only [List.length_drop, List.length_take]; rfl)) ?_; (with_reducible refine (spec_VerIdentifiers.calls k2 (x5_3.extract ((ji40) : Int).toNat x5_3.size) false true _ A45.out).mono ?_); rintro e w50 ⟨rfl, hb⟩; refine ⟨_, rfl, ?_⟩; have n0_ := aM_ (Kd.R_below (by (with_reducible repeat (first | apply kA_ | apply kN_ | apply kD_)); exact (Kd.R_mono (Kd.R_far (p := ⟨gb161, 3, none⟩) (Kd.R_types HO_4.out BK161.out (by decide)) (fun _ hk => hk.2) (.string (x5_3.extract ((ji40) : Int).toNat x5_3.size))) (fun _ h_ => h_.1))) hb); have n1_ := aM_ (Kd.R_below (by (with_reducible repeat (first | apply kA_ | apply kN_ | apply kD_)); exact (Kd.R_mono (Kd.R_far (p := ⟨gb161, 3, none⟩) (Kd.R_types HO_162000.out BK161.out (by decide)) (fun _ hk => hk.2) (.string (x5_3.extract ((ji40) : Int).toNat x5_3.size))) (fun _ h_ => h_.1))) hb); have n2_ := aM_ (blk_below (g := gb154) (o := .cells #[.slice none 0 0, .bool x155001_2, .string x155002_2, .string x155003_2] 26 (0, 0)) (by (with_reducible repeat (first | refine bN_ ?_ _ | refine bD_ ?_ | refine bA_ ?_ _)); refine blk_far ?_ NB154_161.out _; (with_reducible repeat (first | refine bN_ ?_ _ | refine bD_ ?_ | refine bA_ ?_ _)); exact BK154.out) hb); have n3_ := aM_ (blk_below (g := gb161) (o := .cells #[u162000, .bool true, .string (⟨#[]⟩ : ByteArray), .string (x5_3.extract ((ji40) : Int).toNat x5_3.size)] 26 (0, 0)) (by (with_reducible repeat (first | refine bN_ ?_ _ | refine bD_ ?_ | refine bA_ ?_ _)); refine blk_put (cs := #[u162000, .bool true, .string (⟨#[]⟩ : ByteArray), .string (⟨#[]⟩ : ByteArray)]) ?_ 3 _ rfl; (with_reducible repeat (first | refine bN_ ?_ _ | refine bD_ ?_ | refine bA_ ?_ _)); exact BK161.out) hb); have n4_ := aM_ (below_step (by repeat (first | (with_reducible first | exact HB.out | apply bB_ | apply wN_ | apply bE_ | refine bS_ ?_ GE154.out | refine bS_ ?_ GE161.out) | exact HB.out)) hb); clear HO_4; clear HO_162000; clear BK154; clear BK161; clear HB; have HO_4 := n0_; have HO_162000 := n1_; have BK154 := n2_; have BK161 := n3_; have HB := n4_; clear n0_ n1_ n2_ n3_ n4_; (try clear hb); (try clear hb2); (try clear hk); (try clear hi); have hcz51_0 : w50.cell? ⟨gb161, 0, none⟩ = some (u162000) := (bC_ BK161.out 0).trans rfl; have hcz51_1 : w50.cell? ⟨gb161, 1, none⟩ = some (.bool true) := (bC_ BK161.out 1).trans rfl; have hcz51_2 : w50.cell? ⟨gb161, 2, none⟩ = some (.string (⟨#[]⟩ : ByteArray)) := (bC_ BK161.out 2).trans rfl; have hcz51_3 : w50.cell? ⟨gb161, 3, none⟩ = some (.string (x5_3.extract ((ji40) : Int).toNat x5_3.size)) := (bC_ BK161.out 3).trans rfl; have hfz51_0 := bF_ BK161.out 0; have hfz51_1 := bF_ BK161.out 1; have hfz51_2 := bF_ BK161.out 2; have hfz51_3 := bF_ BK161.out 3; obtain ⟨Ao52, co52, eo52⟩ := Kd.R_slice HO_162000.out; subst eo52; have hcz53_0 : w50.cell? ⟨gb154, 0, none⟩ = some (.slice none 0 0) := (bC_ BK154.out 0).trans rfl; have hcz53_1 : w50.cell? ⟨gb154, 1, none⟩ = some (.bool x155001_2) := (bC_ BK154.out 1).trans rfl; have hcz53_2 : w50.cell? ⟨gb154, 2, none⟩ = some (.string x155002_2) := (bC_ BK154.out 2).trans rfl; have hcz53_3 : w50.cell? ⟨gb154, 3, none⟩ = some (.string x155003_2) := (bC_ BK154.out 3).trans rfl; have hfz53_0 := bF_ BK154.out 0; have hfz53_1 := bF_ BK154.out 1; have hfz53_2 := bF_ BK154.out 2; have hfz53_3 := bF_ BK154.out 3))
              refine bodyPost_ret (results_ct rfl _ _ gb154 26 #[.slice Ao52 x162000_2.length co52, .bool true, .string (⟨#[]⟩ : ByteArray), .string (x5_3.extract ((ji40) : Int).toNat x5_3.size)] (0, 0) _ rfl (by (with_reducible repeat (first | refine bN_ ?_ _ | refine bD_ ?_ | refine bA_ ?_ _)); refine blk_put (cs := #[.slice Ao52 x162000_2.length co52, .bool true, .string (⟨#[]⟩ : ByteArray), .string x155003_2]) ?_ 3 _ rfl; (with_reducible repeat (first | refine bN_ ?_ _ | refine bD_ ?_ | refine bA_ ?_ _)); refine blk_put (cs := #[.slice Ao52 x162000_2.length co52, .bool true, .string x155002_2, .string x155003_2]) ?_ 2 _ rfl; (with_reducible repeat (first | refine bN_ ?_ _ | refine bD_ ?_ | refine bA_ ?_ _)); refine blk_put (cs := #[.slice Ao52 x162000_2.length co52, .bool x155001_2, .string x155002_2, .string x155003_2]) ?_ 1 _ rfl; (with_reducible repeat (first | refine bN_ ?_ _ | refine bD_ ?_ | refine bA_ ?_ _)); refine blk_put (cs := #[.slice none 0 0, .bool x155001_2, .string x155002_2, .string x155003_2]) ?_ 0 _ rfl; (with_reducible repeat (first | refine bN_ ?_ _ | refine bD_ ?_ | refine bA_ ?_ _)); exact BK154.out) Tryd.underlying26 rfl (by kernel_rfl)) rfl ?_
              exact ⟨_, by first | rfl | (simp [errW_none, errW_some] <;> rfl) | (simp only [← hji40]; first | rfl | (simp [errW_none, errW_some] <;> rfl)) | (simp [*, errW_none, errW_some] <;> rfl), by (with_reducible repeat (first | apply kA_ | apply kN_ | apply kD_)); exact Kd.R_mono (Kd.R_far (p := ⟨gb154, 3, none⟩) (Kd.R_far (p := ⟨gb154, 2, none⟩) (Kd.R_far (p := ⟨gb154, 1, none⟩) (Kd.R_far (p := ⟨gb154, 0, none⟩) (Kd.R_types HO_162000.out BK154.out (by decide)) (fun _ hk => hk.2) (.slice Ao52 x162000_2.length co52)) (fun _ hk => hk.2) (.bool true)) (fun _ hk => hk.2) (.string (⟨#[]⟩ : ByteArray))) (fun _ hk => hk.2) (.string (x5_3.extract ((ji40) : Int).toNat x5_3.size))) (fun _ hk => trivial), by repeat (first | (with_reducible first | exact HB.out | apply bB_ | apply wN_ | apply bE_ | refine bS_ ?_ GE154.out | refine bS_ ?_ GE161.out) | exact HB.out)⟩
             ·
              rw [if_neg c47] at H
              have c47b0 : ((x5_3.extract 0 (t170 : Int).toNat).toList == ([] : List UInt8)) = false := beq_eq_false_iff_ne.mpr c47
              have c47b1 : ((x5_3.extract 0 (t170 : Int).toNat).toList != ([] : List UInt8)) = true := bne_iff_ne.mpr c47
              by_cases c54 : 1 ≤ ((x5_3.extract 0 (t170 : Int).toNat).size : Int)
              ·
               rw [if_pos c54] at H
               have c54b0 := eq_true c54
               have c54b1 : decide (1 ≤ ((x5_3.extract 0 (t170 : Int).toNat).size : Int)) = true := decide_eq_true c54
               clear c54
               by_cases c55 : 0 < ((x5_3.extract 0 (t170 : Int).toNat).size : Int)
               ·
                rw [if_pos c55] at H
                have c55b0 : decide (0 < ((x5_3.extract 0 (t170 : Int).toNat).size : Int)) = true := decide_eq_true c55
                have c55z := of_decide_eq_true c55b0
                (try simp only [ByteArray.size_extract, Nat.min_self] at c55z)
                have c55b1 : decide (0 < (x5_3.extract 0 (t170 : Int).toNat).size) = true := decide_eq_true (by omega)
                clear c55
                by_cases c57 : (bt (x5_3.extract 0 (t170 : Int).toNat) 0) = 45
                ·
                 rw [if_pos c57] at H
                 have c57b0 : ((bt (x5_3.extract 0 (t170 : Int).toNat) 0) == 45) = true := beq_iff_eq.mpr c57
                 have c57b1 : ((bt (x5_3.extract 0 (t170 : Int).toNat) 0) != 45) = false := bne_eq_false_iff_eq.mpr c57
                 clear c57
                 replace H := Option.bind_eq_some_iff.mp H
                 obtain ⟨t172, A580, H⟩ := H
                 replace H : (some (x162000_2, true, (x5_3.extract 0 (t170 : Int).toNat).extract 1 (x5_3.extract 0 (t170 : Int).toNat).size, x5_3.extract ((ji40) : Int).toNat x5_3.size, t172)) = some (r1, r2, r3, r4, r5) := H
                 have A58 := aM_ A580
                 clear A580
                 simp only [Option.some.injEq, Prod.mk.injEq] at H
                 obtain ⟨rfl, rfl, rfl, rfl, rfl⟩ := H
                 try go_wp2_with (first | ((with_reducible refine gate_callee (f := 39) rfl ?_); refine goesL_ (some 67) rfl rfl Tryd.func39 (by kernel_rfl) rfl #[.string x5_3, .int .u8 43] rfl (by (try simp only [List.map_toArray, List.map_cons, List.map_nil]); first | done | rfl | (rw [mCutL]) | (simp only [List.length_drop, List.length_take]; rfl)) ?_; (with_reducible refine (spec_verPlace.calls k2 x5_3 43 t170 _ A38.out).mono ?_); rintro e w' ⟨rfl, ⟨nd, rfl⟩⟩; refine ⟨_, rfl, ?_⟩; (try (rw [drewN_self wr]; generalize hq_ : World.drewN wr _ = wr; have n0_ : Aside0 (Kd.R (Kd.int .u64) 22 wr w.heap.size (fun _ => True) u162000 x162000_2) := ⟨by rw [← hq_]; exact (by (with_reducible repeat (first | apply kA_ | apply kN_ | apply kD_)); exact HO_162000.out)⟩; have n1_ : Aside0 (Kd.R Kd.string 9 wr w.heap.size (fun _ => True) (.slice Ao17 t156.length co17) t156) := ⟨by rw [← hq_]; exact (by (with_reducible repeat (first | apply kA_ | apply kN_ | apply kD_)); exact HO_4.out)⟩; have n2_ : Aside0 (wr.heap[gb154]? = some (.cells #[.slice none 0 0, .bool x155001_2, .string x155002_2, .string x155003_2] 26 (0, 0))) := ⟨by rw [← hq_]; exact (by (with_reducible repeat (first | refine bN_ ?_ _ | refine bD_ ?_ | refine bA_ ?_ _)); exact BK154.out)⟩; have n3_ : Aside0 (wr.heap[gb161]? = some (.cells #[u162000, .bool true, .string (⟨#[]⟩ : ByteArray), .string (⟨#[]⟩ : ByteArray)] 26 (0, 0))) := ⟨by rw [← hq_]; exact (by (with_reducible repeat (first | refine bN_ ?_ _ | refine bD_ ?_ | refine bA_ ?_ _)); exact BK161.out)⟩; have n4_ : Aside0 (Below w.heap.size w wr) := ⟨by rw [← hq_]; exact (by repeat (first | (with_reducible first | exact HB.out | apply bB_ | apply wN_ | apply bE_ | refine bS_ ?_ GE154.out | refine bS_ ?_ GE161.out) | exact HB.out))⟩; clear HO_162000 HO_4 BK154 BK161 HB hq_; have HO_162000 := n0_; have HO_4 := n1_; have BK154 := n2_; have BK161 := n3_; have HB := n4_; clear n0_ n1_ n2_ n3_ n4_)); have hnb59 := NB161_154.out; have hnc59 := NB154_161.out; have hcz60_0 : wr.cell? ⟨gb161, 0, none⟩ = some (u162000) := (bC_ BK161.out 0).trans rfl; have hcz60_1 : wr.cell? ⟨gb161, 1, none⟩ = some (.bool true) := (bC_ BK161.out 1).trans rfl; have hcz60_2 : wr.cell? ⟨gb161, 2, none⟩ = some (.string (⟨#[]⟩ : ByteArray)) := (bC_ BK161.out 2).trans rfl; have hcz60_3 : wr.cell? ⟨gb161, 3, none⟩ = some (.string (⟨#[]⟩ : ByteArray)) := (bC_ BK161.out 3).trans rfl; have hfz60_0 := bF_ BK161.out 0; have hfz60_1 := bF_ BK161.out 1; have hfz60_2 := bF_ BK161.out 2; have hfz60_3 := bF_ BK161.out 3) | ((with_reducible refine gate_callee (f := 11) rfl ?_); refine goesL_ (some 80) rfl rfl Tryd.func11 (by kernel_rfl) rfl #[.string (x5_3.extract ((ji40) : Int).toNat x5_3.size), .bool false] rfl (by (try simp only [List.map_toArray, List.map_cons, List.map_nil]); first | done | (simp only [hji40]; rfl) | rfl | (simp only [List.length_drop, List.length_take]; rfl)) ?_; (with_reducible refine (spec_VerIdentifiers.calls k2 (x5_3.extract ((ji40) : Int).toNat x5_3.size) false true _ A45.out).mono ?_); rintro e w61 ⟨rfl, hb⟩; refine ⟨_, rfl, ?_⟩; have n0_ := aM_ (Kd.R_below (by (with_reducible repeat (first | apply kA_ | apply kN_ | apply kD_)); exact (Kd.R_mono (Kd.R_far (p := ⟨gb161, 3, none⟩) (Kd.R_types HO_4.out BK161.out (by decide)) (fun _ hk => hk.2) (.string (x5_3.extract ((ji40) : Int).toNat x5_3.size))) (fun _ h_ => h_.1))) hb); have n1_ := aM_ (Kd.R_below (by (with_reducible repeat (first | apply kA_ | apply kN_ | apply kD_)); exact (Kd.R_mono (Kd.R_far (p := ⟨gb161, 3, none⟩) (Kd.R_types HO_162000.out BK161.out (by decide)) (fun _ hk => hk.2) (.string (x5_3.extract ((ji40) : Int).toNat x5_3.size))) (fun _ h_ => h_.1))) hb); have n2_ := aM_ (blk_below (g := gb154) (o := .cells #[.slice none 0 0, .bool x155001_2, .string x155002_2, .string x155003_2] 26 (0, 0)) (by (with_reducible repeat (first | refine bN_ ?_ _ | refine bD_ ?_ | refine bA_ ?_ _)); refine blk_far ?_ NB154_161.out _; (with_reducible repeat (first | refine bN_ ?_ _ | refine bD_ ?_ | refine bA_ ?_ _)); exact BK154.out) hb); have n3_ := aM_ (blk_below (g := gb161) (o := .cells #[u162000, .bool true, .string (⟨#[]⟩ : ByteArray), .string (x5_3.extract ((ji40) : Int).toNat x5_3.size)] 26 (0, 0)) (by (with_reducible repeat (first | refine bN_ ?_ _ | refine bD_ ?_ | refine bA_ ?_ _)); refine blk_put (cs := #[u162000, .bool true, .string (⟨#[]⟩ : ByteArray), .string (⟨#[]⟩ : ByteArray)]) ?_ 3 _ rfl; (with_reducible repeat (first | refine bN_ ?_ _ | refine bD_ ?_ | refine bA_ ?_ _)); exact BK161.out) hb); have n4_ := aM_ (below_step (by repeat (first | (with_reducible first | exact HB.out | apply bB_ | apply wN_ | apply bE_ | refine bS_ ?_ GE154.out | refine bS_ ?_ GE161.out) | exact HB.out)) hb); clear HO_4; clear HO_162000; clear BK154; clear BK161; clear HB; have HO_4 := n0_; have HO_162000 := n1_; have BK154 := n2_; have BK161 := n3_; have HB := n4_; clear n0_ n1_ n2_ n3_ n4_; (try clear hb); (try clear hb2); (try clear hk); (try clear hi); have hcz62_0 : w61.cell? ⟨gb161, 0, none⟩ = some (u162000) := (bC_ BK161.out 0).trans rfl; have hcz62_1 : w61.cell? ⟨gb161, 1, none⟩ = some (.bool true) := (bC_ BK161.out 1).trans rfl; have hcz62_2 : w61.cell? ⟨gb161, 2, none⟩ = some (.string (⟨#[]⟩ : ByteArray)) := (bC_ BK161.out 2).trans rfl; have hcz62_3 : w61.cell? ⟨gb161, 3, none⟩ = some (.string (x5_3.extract ((ji40) : Int).toNat x5_3.size)) := (bC_ BK161.out 3).trans rfl; have hfz62_0 := bF_ BK161.out 0; have hfz62_1 := bF_ BK161.out 1; have hfz62_2 := bF_ BK161.out 2; have hfz62_3 := bF_ BK161.out 3))
                 have n0_ : Aside0 (Kd.R Kd.string 9 (w61.setCell ⟨gb161, 2, none⟩ (.string ((x5_3.extract 0 (t170 : Int).toNat).extract 1 (x5_3.extract 0 (t170 : Int).toNat).size))) w.heap.size (fun _ => True) (.slice Ao17 t156.length co17) t156) := ⟨by (with_reducible repeat (first | apply kA_ | apply kN_ | apply kD_)); exact Kd.R_mono (Kd.R_far (p := ⟨gb161, 2, none⟩) (Kd.R_types HO_4.out BK161.out (by decide)) (fun _ hk => hk.2) (.string ((x5_3.extract 0 (t170 : Int).toNat).extract 1 (x5_3.extract 0 (t170 : Int).toNat).size))) (fun _ hk => trivial)⟩
                 have n1_ : Aside0 (Kd.R (Kd.int .u64) 22 (w61.setCell ⟨gb161, 2, none⟩ (.string ((x5_3.extract 0 (t170 : Int).toNat).extract 1 (x5_3.extract 0 (t170 : Int).toNat).size))) w.heap.size (fun _ => True) u162000 x162000_2) := ⟨by (with_reducible repeat (first | apply kA_ | apply kN_ | apply kD_)); exact Kd.R_mono (Kd.R_far (p := ⟨gb161, 2, none⟩) (Kd.R_types HO_162000.out BK161.out (by decide)) (fun _ hk => hk.2) (.string ((x5_3.extract 0 (t170 : Int).toNat).extract 1 (x5_3.extract 0 (t170 : Int).toNat).size))) (fun _ hk => trivial)⟩
                 have n2_ : Aside0 ((w61.setCell ⟨gb161, 2, none⟩ (.string ((x5_3.extract 0 (t170 : Int).toNat).extract 1 (x5_3.extract 0 (t170 : Int).toNat).size))).heap[gb154]? = some (.cells #[.slice none 0 0, .bool x155001_2, .string x155002_2, .string x155003_2] 26 (0, 0))) := ⟨by (with_reducible repeat (first | refine bN_ ?_ _ | refine bD_ ?_ | refine bA_ ?_ _)); refine blk_far ?_ NB154_161.out _; (with_reducible repeat (first | refine bN_ ?_ _ | refine bD_ ?_ | refine bA_ ?_ _)); exact BK154.out⟩
                 have n3_ : Aside0 ((w61.setCell ⟨gb161, 2, none⟩ (.string ((x5_3.extract 0 (t170 : Int).toNat).extract 1 (x5_3.extract 0 (t170 : Int).toNat).size))).heap[gb161]? = some (.cells #[u162000, .bool true, .string ((x5_3.extract 0 (t170 : Int).toNat).extract 1 (x5_3.extract 0 (t170 : Int).toNat).size), .string (x5_3.extract ((ji40) : Int).toNat x5_3.size)] 26 (0, 0))) := ⟨by (with_reducible repeat (first | refine bN_ ?_ _ | refine bD_ ?_ | refine bA_ ?_ _)); refine blk_put (cs := #[u162000, .bool true, .string (⟨#[]⟩ : ByteArray), .string (x5_3.extract ((ji40) : Int).toNat x5_3.size)]) ?_ 2 _ rfl; (with_reducible repeat (first | refine bN_ ?_ _ | refine bD_ ?_ | refine bA_ ?_ _)); exact BK161.out⟩
                 have n4_ : Aside0 (Below w.heap.size w (w61.setCell ⟨gb161, 2, none⟩ (.string ((x5_3.extract 0 (t170 : Int).toNat).extract 1 (x5_3.extract 0 (t170 : Int).toNat).size)))) := ⟨by repeat (first | (with_reducible first | exact HB.out | apply bB_ | apply wN_ | apply bE_ | refine bS_ ?_ GE154.out | refine bS_ ?_ GE161.out) | exact HB.out)⟩
                 (try clear HO_4)
                 (try clear HO_162000)
                 (try clear BK154)
                 (try clear BK161)
                 (try clear HB)
                 (try rw [mCutL])
                 generalize (w61.setCell ⟨gb161, 2, none⟩ (.string ((x5_3.extract 0 (t170 : Int).toNat).extract 1 (x5_3.extract 0 (t170 : Int).toNat).size))) = w63 at n0_ n1_ n2_ n3_ n4_ ⊢
                 have HO_4 := n0_
                 have HO_162000 := n1_
                 have BK154 := n2_
                 have BK161 := n3_
                 have HB := n4_
                 clear n0_ n1_ n2_ n3_ n4_
                 obtain ⟨Ao66, co66, eo66⟩ := Kd.R_slice HO_162000.out
                 (first | subst eo66 | (injection eo66 with f1_ f2_ f3_; have f4_ := f1_.symm; have f5_ := f3_.symm; clear f1_ f2_ f3_; subst f4_; subst f5_))
                 obtain ⟨yt_, hyt_⟩ : ∃ y_, (x5_3.extract 0 (t170 : Int).toNat) = y_ := ⟨_, rfl⟩
                 simp only [hyt_] at BK161 A58 c57b0 c57b1 c55b0 ⊢
                 obtain ⟨zt_, hzt_⟩ : ∃ z_, yt_.extract 1 yt_.size = z_ := ⟨_, rfl⟩
                 simp only [hzt_] at BK161 A58 ⊢
                 obtain ⟨bt_, hbt_⟩ : ∃ b_, x5_3.extract ((ji40) : Int).toNat x5_3.size = b_ := ⟨_, rfl⟩
                 simp only [hbt_] at BK161 ⊢
                 have hbt_A := aM_ hbt_
                 have hzt_A := aM_ hzt_
                 have hyt_A := aM_ hyt_
                 clear hbt_ hzt_ hyt_
                 have q56 : 0 < yt_.size := (by have : (0 : Int) < (yt_.size : Int) := of_decide_eq_true c55b0; omega)
                 have hx56 : ∀ h : 0 < yt_.size, ((yt_[0]'h).toNat : Int) = bt yt_ 0 := bt_at yt_ 0
                 have qi56 : (0 < (yt_.size : Int)) = True := eq_true (of_decide_eq_true c55b0)
                 replace q56 := eq_true q56
                 have cv0 : w63.cell? ⟨gb161, 0, none⟩ = some (.slice Ao66 x162000_2.length co66) := (bC_ BK161.out 0).trans rfl
                 have cv1 : w63.cell? ⟨gb161, 1, none⟩ = some (.bool true) := (bC_ BK161.out 1).trans rfl
                 have cv2 : w63.cell? ⟨gb161, 2, none⟩ = some (.string zt_) := (bC_ BK161.out 2).trans rfl
                 have cv3 : w63.cell? ⟨gb161, 3, none⟩ = some (.string bt_) := (bC_ BK161.out 3).trans rfl
                 have dv0 : w63.cell? ⟨gb154, 0, none⟩ = some (.slice none 0 0) := (bC_ BK154.out 0).trans rfl
                 have fv0 := bF_ BK154.out 0
                 have dv1 : w63.cell? ⟨gb154, 1, none⟩ = some (.bool x155001_2) := (bC_ BK154.out 1).trans rfl
                 have fv1 := bF_ BK154.out 1
                 have dv2 : w63.cell? ⟨gb154, 2, none⟩ = some (.string x155002_2) := (bC_ BK154.out 2).trans rfl
                 have fv2 := bF_ BK154.out 2
                 have dv3 : w63.cell? ⟨gb154, 3, none⟩ = some (.string x155003_2) := (bC_ BK154.out 3).trans rfl
                 have fv3 := bF_ BK154.out 3
                 go_region_held3 (fun w' => w'.cell? ⟨gb161, 0, none⟩ = some (.slice Ao66 x162000_2.length co66) ∧ w'.cell? ⟨gb161, 1, none⟩ = some (.bool true) ∧ w'.cell? ⟨gb161, 2, none⟩ = some (.string zt_) ∧ w'.cell? ⟨gb161, 3, none⟩ = some (.string bt_)) (first | exact ⟨cv0, cv1, cv2, cv3⟩ | exact ⟨(cell_far (p := ⟨gb154, _, none⟩) NB161_154.out _).trans ((cell_far (p := ⟨gb154, _, none⟩) NB161_154.out _).trans ((cell_far (p := ⟨gb154, _, none⟩) NB161_154.out _).trans ((cell_far (p := ⟨gb154, _, none⟩) NB161_154.out _).trans (cv0)))), (cell_far (p := ⟨gb154, _, none⟩) NB161_154.out _).trans ((cell_far (p := ⟨gb154, _, none⟩) NB161_154.out _).trans ((cell_far (p := ⟨gb154, _, none⟩) NB161_154.out _).trans ((cell_far (p := ⟨gb154, _, none⟩) NB161_154.out _).trans (cv1)))), (cell_far (p := ⟨gb154, _, none⟩) NB161_154.out _).trans ((cell_far (p := ⟨gb154, _, none⟩) NB161_154.out _).trans ((cell_far (p := ⟨gb154, _, none⟩) NB161_154.out _).trans ((cell_far (p := ⟨gb154, _, none⟩) NB161_154.out _).trans (cv2)))), (cell_far (p := ⟨gb154, _, none⟩) NB161_154.out _).trans ((cell_far (p := ⟨gb154, _, none⟩) NB161_154.out _).trans ((cell_far (p := ⟨gb154, _, none⟩) NB161_154.out _).trans ((cell_far (p := ⟨gb154, _, none⟩) NB161_154.out _).trans (cv3))))⟩ | exact ⟨(cell_far (p := ⟨gb154, _, none⟩) NB161_154.out _).trans ((cell_far (p := ⟨gb154, _, none⟩) NB161_154.out _).trans ((cell_far (p := ⟨gb154, _, none⟩) NB161_154.out _).trans (cv0))), (cell_far (p := ⟨gb154, _, none⟩) NB161_154.out _).trans ((cell_far (p := ⟨gb154, _, none⟩) NB161_154.out _).trans ((cell_far (p := ⟨gb154, _, none⟩) NB161_154.out _).trans (cv1))), (cell_far (p := ⟨gb154, _, none⟩) NB161_154.out _).trans ((cell_far (p := ⟨gb154, _, none⟩) NB161_154.out _).trans ((cell_far (p := ⟨gb154, _, none⟩) NB161_154.out _).trans (cv2))), (cell_far (p := ⟨gb154, _, none⟩) NB161_154.out _).trans ((cell_far (p := ⟨gb154, _, none⟩) NB161_154.out _).trans ((cell_far (p := ⟨gb154, _, none⟩) NB161_154.out _).trans (cv3)))⟩ | exact ⟨(cell_far (p := ⟨gb154, _, none⟩) NB161_154.out _).trans ((cell_far (p := ⟨gb154, _, none⟩) NB161_154.out _).trans (cv0)), (cell_far (p := ⟨gb154, _, none⟩) NB161_154.out _).trans ((cell_far (p := ⟨gb154, _, none⟩) NB161_154.out _).trans (cv1)), (cell_far (p := ⟨gb154, _, none⟩) NB161_154.out _).trans ((cell_far (p := ⟨gb154, _, none⟩) NB161_154.out _).trans (cv2)), (cell_far (p := ⟨gb154, _, none⟩) NB161_154.out _).trans ((cell_far (p := ⟨gb154, _, none⟩) NB161_154.out _).trans (cv3))⟩ | exact ⟨(cell_far (p := ⟨gb154, _, none⟩) NB161_154.out _).trans (cv0), (cell_far (p := ⟨gb154, _, none⟩) NB161_154.out _).trans (cv1), (cell_far (p := ⟨gb154, _, none⟩) NB161_154.out _).trans (cv2), (cell_far (p := ⟨gb154, _, none⟩) NB161_154.out _).trans (cv3)⟩) (first | (go_at_call 11; (with_reducible refine (spec_VerIdentifiers.calls k2 zt_ true t172 _ A58.out).mono ?_); rintro e w65_ ⟨rfl, hb⟩; have n0_ := aM_ (Kd.R_below (kD_ HO_4.out) hb); have n1_ := aM_ (Kd.R_below (kD_ HO_162000.out) hb); have n2_ := aM_ (blk_below (bD_ BK154.out) hb); have n3_ := aM_ (blk_below (bD_ BK161.out) hb); have n4_ := aM_ (below_step (bE_ HB.out) hb); clear HO_4 HO_162000 BK154 BK161 HB hb cv0 cv1 cv2 cv3 dv0 dv1 dv2 dv3 fv0 fv1 fv2 fv3; have HO_4 := n0_; have HO_162000 := n1_; have BK154 := n2_; have BK161 := n3_; have HB := n4_; clear n0_ n1_ n2_ n3_ n4_; have cv0 : w65_.cell? ⟨gb161, 0, none⟩ = some (.slice Ao66 x162000_2.length co66) := (bC_ BK161.out 0).trans rfl; have cv1 : w65_.cell? ⟨gb161, 1, none⟩ = some (.bool true) := (bC_ BK161.out 1).trans rfl; have cv2 : w65_.cell? ⟨gb161, 2, none⟩ = some (.string zt_) := (bC_ BK161.out 2).trans rfl; have cv3 : w65_.cell? ⟨gb161, 3, none⟩ = some (.string bt_) := (bC_ BK161.out 3).trans rfl; have dv0 : w65_.cell? ⟨gb154, 0, none⟩ = some (.slice none 0 0) := (bC_ BK154.out 0).trans rfl; have fv0 := bF_ BK154.out 0; have dv1 : w65_.cell? ⟨gb154, 1, none⟩ = some (.bool x155001_2) := (bC_ BK154.out 1).trans rfl; have fv1 := bF_ BK154.out 1; have dv2 : w65_.cell? ⟨gb154, 2, none⟩ = some (.string x155002_2) := (bC_ BK154.out 2).trans rfl; have fv2 := bF_ BK154.out 2; have dv3 : w65_.cell? ⟨gb154, 3, none⟩ = some (.string x155003_2) := (bC_ BK154.out 3).trans rfl; have fv3 := bF_ BK154.out 3))
                 (try clear cv0 cv1 cv2 cv3 dv0 dv1 dv2 dv3 fv0 fv1 fv2 fv3)
                 try go_wp2
                 obtain rfl := hbt_A.out
                 obtain rfl := hzt_A.out
                 obtain rfl := hyt_A.out
                 refine bodyPost_ret (results_ct rfl _ _ gb154 26 #[.slice Ao66 x162000_2.length co66, .bool true, .string ((x5_3.extract 0 (t170 : Int).toNat).extract 1 (x5_3.extract 0 (t170 : Int).toNat).size), .string (x5_3.extract ((ji40) : Int).toNat x5_3.size)] (0, 0) _ rfl (by (with_reducible repeat (first | refine bN_ ?_ _ | refine bD_ ?_ | refine bA_ ?_ _)); refine blk_put (cs := #[.slice Ao66 x162000_2.length co66, .bool true, .string ((x5_3.extract 0 (t170 : Int).toNat).extract 1 (x5_3.extract 0 (t170 : Int).toNat).size), .string x155003_2]) ?_ 3 _ rfl; (with_reducible repeat (first | refine bN_ ?_ _ | refine bD_ ?_ | refine bA_ ?_ _)); refine blk_put (cs := #[.slice Ao66 x162000_2.length co66, .bool true, .string x155002_2, .string x155003_2]) ?_ 2 _ rfl; (with_reducible repeat (first | refine bN_ ?_ _ | refine bD_ ?_ | refine bA_ ?_ _)); refine blk_put (cs := #[.slice Ao66 x162000_2.length co66, .bool x155001_2, .string x155002_2, .string x155003_2]) ?_ 1 _ rfl; (with_reducible repeat (first | refine bN_ ?_ _ | refine bD_ ?_ | refine bA_ ?_ _)); refine blk_put (cs := #[.slice none 0 0, .bool x155001_2, .string x155002_2, .string x155003_2]) ?_ 0 _ rfl; (with_reducible repeat (first | refine bN_ ?_ _ | refine bD_ ?_ | refine bA_ ?_ _)); exact BK154.out) Tryd.underlying26 rfl (by kernel_rfl)) rfl ?_
                 exact ⟨_, by first | rfl | (simp [errW_none, errW_some] <;> rfl) | (simp only [← hji40]; first | rfl | (simp [errW_none, errW_some] <;> rfl)) | (simp [*, errW_none, errW_some] <;> rfl), by (with_reducible repeat (first | apply kA_ | apply kN_ | apply kD_)); exact Kd.R_mono (Kd.R_far (p := ⟨gb154, 3, none⟩) (Kd.R_far (p := ⟨gb154, 2, none⟩) (Kd.R_far (p := ⟨gb154, 1, none⟩) (Kd.R_far (p := ⟨gb154, 0, none⟩) (Kd.R_types HO_162000.out BK154.out (by decide)) (fun _ hk => hk.2) (.slice Ao66 x162000_2.length co66)) (fun _ hk => hk.2) (.bool true)) (fun _ hk => hk.2) (.string ((x5_3.extract 0 (t170 : Int).toNat).extract 1 (x5_3.extract 0 (t170 : Int).toNat).size))) (fun _ hk => hk.2) (.string (x5_3.extract ((ji40) : Int).toNat x5_3.size))) (fun _ hk => trivial), by repeat (first | (with_reducible first | exact HB.out | apply bB_ | apply wN_ | apply bE_ | refine bS_ ?_ GE154.out | refine bS_ ?_ GE161.out) | exact HB.out)⟩
                ·
                 rw [if_neg c57] at H
                 have c57b0 : ((bt (x5_3.extract 0 (t170 : Int).toNat) 0) == 45) = false := beq_eq_false_iff_ne.mpr c57
                 have c57b1 : ((bt (x5_3.extract 0 (t170 : Int).toNat) 0) != 45) = true := bne_iff_ne.mpr c57
                 simp only [Option.some.injEq, Prod.mk.injEq] at H
                 obtain ⟨rfl, rfl, rfl, rfl, rfl⟩ := H
                 try go_wp2_with (first | ((with_reducible refine gate_callee (f := 39) rfl ?_); refine goesL_ (some 67) rfl rfl Tryd.func39 (by kernel_rfl) rfl #[.string x5_3, .int .u8 43] rfl (by (try simp only [List.map_toArray, List.map_cons, List.map_nil]); first | done | rfl | (rw [mCutL]) | (simp only [List.length_drop, List.length_take]; rfl)) ?_; (with_reducible refine (spec_verPlace.calls k2 x5_3 43 t170 _ A38.out).mono ?_); rintro e w' ⟨rfl, ⟨nd, rfl⟩⟩; refine ⟨_, rfl, ?_⟩; (try (rw [drewN_self wr]; generalize hq_ : World.drewN wr _ = wr; have n0_ : Aside0 (Kd.R (Kd.int .u64) 22 wr w.heap.size (fun _ => True) u162000 x162000_2) := ⟨by rw [← hq_]; exact (by (with_reducible repeat (first | apply kA_ | apply kN_ | apply kD_)); exact HO_162000.out)⟩; have n1_ : Aside0 (Kd.R Kd.string 9 wr w.heap.size (fun _ => True) (.slice Ao17 t156.length co17) t156) := ⟨by rw [← hq_]; exact (by (with_reducible repeat (first | apply kA_ | apply kN_ | apply kD_)); exact HO_4.out)⟩; have n2_ : Aside0 (wr.heap[gb154]? = some (.cells #[.slice none 0 0, .bool x155001_2, .string x155002_2, .string x155003_2] 26 (0, 0))) := ⟨by rw [← hq_]; exact (by (with_reducible repeat (first | refine bN_ ?_ _ | refine bD_ ?_ | refine bA_ ?_ _)); exact BK154.out)⟩; have n3_ : Aside0 (wr.heap[gb161]? = some (.cells #[u162000, .bool true, .string (⟨#[]⟩ : ByteArray), .string (⟨#[]⟩ : ByteArray)] 26 (0, 0))) := ⟨by rw [← hq_]; exact (by (with_reducible repeat (first | refine bN_ ?_ _ | refine bD_ ?_ | refine bA_ ?_ _)); exact BK161.out)⟩; have n4_ : Aside0 (Below w.heap.size w wr) := ⟨by rw [← hq_]; exact (by repeat (first | (with_reducible first | exact HB.out | apply bB_ | apply wN_ | apply bE_ | refine bS_ ?_ GE154.out | refine bS_ ?_ GE161.out) | exact HB.out))⟩; clear HO_162000 HO_4 BK154 BK161 HB hq_; have HO_162000 := n0_; have HO_4 := n1_; have BK154 := n2_; have BK161 := n3_; have HB := n4_; clear n0_ n1_ n2_ n3_ n4_)); have hnb71 := NB161_154.out; have hnc71 := NB154_161.out; have hcz72_0 : wr.cell? ⟨gb161, 0, none⟩ = some (u162000) := (bC_ BK161.out 0).trans rfl; have hcz72_1 : wr.cell? ⟨gb161, 1, none⟩ = some (.bool true) := (bC_ BK161.out 1).trans rfl; have hcz72_2 : wr.cell? ⟨gb161, 2, none⟩ = some (.string (⟨#[]⟩ : ByteArray)) := (bC_ BK161.out 2).trans rfl; have hcz72_3 : wr.cell? ⟨gb161, 3, none⟩ = some (.string (⟨#[]⟩ : ByteArray)) := (bC_ BK161.out 3).trans rfl; have hfz72_0 := bF_ BK161.out 0; have hfz72_1 := bF_ BK161.out 1; have hfz72_2 := bF_ BK161.out 2; have hfz72_3 := bF_ BK161.out 3) | ((with_reducible refine gate_callee (f := 11) rfl ?_); refine goesL_ (some 80) rfl rfl Tryd.func11 (by kernel_rfl) rfl #[.string (x5_3.extract ((ji40) : Int).toNat x5_3.size), .bool false] rfl (by (try simp only [List.map_toArray, List.map_cons, List.map_nil]); first | done | (simp only [hji40]; rfl) | rfl | (simp only [List.length_drop, List.length_take]; rfl)) ?_; (with_reducible refine (spec_VerIdentifiers.calls k2 (x5_3.extract ((ji40) : Int).toNat x5_3.size) false true _ A45.out).mono ?_); rintro e w73 ⟨rfl, hb⟩; refine ⟨_, rfl, ?_⟩; have n0_ := aM_ (Kd.R_below (by (with_reducible repeat (first | apply kA_ | apply kN_ | apply kD_)); exact (Kd.R_mono (Kd.R_far (p := ⟨gb161, 3, none⟩) (Kd.R_types HO_4.out BK161.out (by decide)) (fun _ hk => hk.2) (.string (x5_3.extract ((ji40) : Int).toNat x5_3.size))) (fun _ h_ => h_.1))) hb); have n1_ := aM_ (Kd.R_below (by (with_reducible repeat (first | apply kA_ | apply kN_ | apply kD_)); exact (Kd.R_mono (Kd.R_far (p := ⟨gb161, 3, none⟩) (Kd.R_types HO_162000.out BK161.out (by decide)) (fun _ hk => hk.2) (.string (x5_3.extract ((ji40) : Int).toNat x5_3.size))) (fun _ h_ => h_.1))) hb); have n2_ := aM_ (blk_below (g := gb154) (o := .cells #[.slice none 0 0, .bool x155001_2, .string x155002_2, .string x155003_2] 26 (0, 0)) (by (with_reducible repeat (first | refine bN_ ?_ _ | refine bD_ ?_ | refine bA_ ?_ _)); refine blk_far ?_ NB154_161.out _; (with_reducible repeat (first | refine bN_ ?_ _ | refine bD_ ?_ | refine bA_ ?_ _)); exact BK154.out) hb); have n3_ := aM_ (blk_below (g := gb161) (o := .cells #[u162000, .bool true, .string (⟨#[]⟩ : ByteArray), .string (x5_3.extract ((ji40) : Int).toNat x5_3.size)] 26 (0, 0)) (by (with_reducible repeat (first | refine bN_ ?_ _ | refine bD_ ?_ | refine bA_ ?_ _)); refine blk_put (cs := #[u162000, .bool true, .string (⟨#[]⟩ : ByteArray), .string (⟨#[]⟩ : ByteArray)]) ?_ 3 _ rfl; (with_reducible repeat (first | refine bN_ ?_ _ | refine bD_ ?_ | refine bA_ ?_ _)); exact BK161.out) hb); have n4_ := aM_ (below_step (by repeat (first | (with_reducible first | exact HB.out | apply bB_ | apply wN_ | apply bE_ | refine bS_ ?_ GE154.out | refine bS_ ?_ GE161.out) | exact HB.out)) hb); clear HO_4; clear HO_162000; clear BK154; clear BK161; clear HB; have HO_4 := n0_; have HO_162000 := n1_; have BK154 := n2_; have BK161 := n3_; have HB := n4_; clear n0_ n1_ n2_ n3_ n4_; (try clear hb); (try clear hb2); (try clear hk); (try clear hi); have hcz74_0 : w73.cell? ⟨gb161, 0, none⟩ = some (u162000) := (bC_ BK161.out 0).trans rfl; have hcz74_1 : w73.cell? ⟨gb161, 1, none⟩ = some (.bool true) := (bC_ BK161.out 1).trans rfl; have hcz74_2 : w73.cell? ⟨gb161, 2, none⟩ = some (.string (⟨#[]⟩ : ByteArray)) := (bC_ BK161.out 2).trans rfl; have hcz74_3 : w73.cell? ⟨gb161, 3, none⟩ = some (.string (x5_3.extract ((ji40) : Int).toNat x5_3.size)) := (bC_ BK161.out 3).trans rfl; have hfz74_0 := bF_ BK161.out 0; have hfz74_1 := bF_ BK161.out 1; have hfz74_2 := bF_ BK161.out 2; have hfz74_3 := bF_ BK161.out 3))
                 have n0_ : Aside0 (Kd.R Kd.string 9 (w73.setCell ⟨gb161, 2, none⟩ (.string ((x5_3.extract 0 (t170 : Int).toNat).extract 1 (x5_3.extract 0 (t170 : Int).toNat).size))) w.heap.size (fun _ => True) (.slice Ao17 t156.length co17) t156) := ⟨by (with_reducible repeat (first | apply kA_ | apply kN_ | apply kD_)); exact Kd.R_mono (Kd.R_far (p := ⟨gb161, 2, none⟩) (Kd.R_types HO_4.out BK161.out (by decide)) (fun _ hk => hk.2) (.string ((x5_3.extract 0 (t170 : Int).toNat).extract 1 (x5_3.extract 0 (t170 : Int).toNat).size))) (fun _ hk => trivial)⟩
                 have n1_ : Aside0 (Kd.R (Kd.int .u64) 22 (w73.setCell ⟨gb161, 2, none⟩ (.string ((x5_3.extract 0 (t170 : Int).toNat).extract 1 (x5_3.extract 0 (t170 : Int).toNat).size))) w.heap.size (fun _ => True) u162000 x162000_2) := ⟨by (with_reducible repeat (first | apply kA_ | apply kN_ | apply kD_)); exact Kd.R_mono (Kd.R_far (p := ⟨gb161, 2, none⟩) (Kd.R_types HO_162000.out BK161.out (by decide)) (fun _ hk => hk.2) (.string ((x5_3.extract 0 (t170 : Int).toNat).extract 1 (x5_3.extract 0 (t170 : Int).toNat).size))) (fun _ hk => trivial)⟩
                 have n2_ : Aside0 ((w73.setCell ⟨gb161, 2, none⟩ (.string ((x5_3.extract 0 (t170 : Int).toNat).extract 1 (x5_3.extract 0 (t170 : Int).toNat).size))).heap[gb154]? = some (.cells #[.slice none 0 0, .bool x155001_2, .string x155002_2, .string x155003_2] 26 (0, 0))) := ⟨by (with_reducible repeat (first | refine bN_ ?_ _ | refine bD_ ?_ | refine bA_ ?_ _)); refine blk_far ?_ NB154_161.out _; (with_reducible repeat (first | refine bN_ ?_ _ | refine bD_ ?_ | refine bA_ ?_ _)); exact BK154.out⟩
                 have n3_ : Aside0 ((w73.setCell ⟨gb161, 2, none⟩ (.string ((x5_3.extract 0 (t170 : Int).toNat).extract 1 (x5_3.extract 0 (t170 : Int).toNat).size))).heap[gb161]? = some (.cells #[u162000, .bool true, .string ((x5_3.extract 0 (t170 : Int).toNat).extract 1 (x5_3.extract 0 (t170 : Int).toNat).size), .string (x5_3.extract ((ji40) : Int).toNat x5_3.size)] 26 (0, 0))) := ⟨by (with_reducible repeat (first | refine bN_ ?_ _ | refine bD_ ?_ | refine bA_ ?_ _)); refine blk_put (cs := #[u162000, .bool true, .string (⟨#[]⟩ : ByteArray), .string (x5_3.extract ((ji40) : Int).toNat x5_3.size)]) ?_ 2 _ rfl; (with_reducible repeat (first | refine bN_ ?_ _ | refine bD_ ?_ | refine bA_ ?_ _)); exact BK161.out⟩
                 have n4_ : Aside0 (Below w.heap.size w (w73.setCell ⟨gb161, 2, none⟩ (.string ((x5_3.extract 0 (t170 : Int).toNat).extract 1 (x5_3.extract 0 (t170 : Int).toNat).size)))) := ⟨by repeat (first | (with_reducible first | exact HB.out | apply bB_ | apply wN_ | apply bE_ | refine bS_ ?_ GE154.out | refine bS_ ?_ GE161.out) | exact HB.out)⟩
                 (try clear HO_4)
                 (try clear HO_162000)
                 (try clear BK154)
                 (try clear BK161)
                 (try clear HB)
                 (try rw [mCutL])
                 generalize (w73.setCell ⟨gb161, 2, none⟩ (.string ((x5_3.extract 0 (t170 : Int).toNat).extract 1 (x5_3.extract 0 (t170 : Int).toNat).size))) = w75 at n0_ n1_ n2_ n3_ n4_ ⊢
                 have HO_4 := n0_
                 have HO_162000 := n1_
                 have BK154 := n2_
                 have BK161 := n3_
                 have HB := n4_
                 clear n0_ n1_ n2_ n3_ n4_
                 obtain ⟨Ao77, co77, eo77⟩ := Kd.R_slice HO_162000.out
                 (first | subst eo77 | (injection eo77 with f1_ f2_ f3_; have f4_ := f1_.symm; have f5_ := f3_.symm; clear f1_ f2_ f3_; subst f4_; subst f5_))
                 obtain ⟨yt_, hyt_⟩ : ∃ y_, (x5_3.extract 0 (t170 : Int).toNat) = y_ := ⟨_, rfl⟩
                 simp only [hyt_] at BK161  c57b0 c57b1 c55b0 ⊢
                 obtain ⟨zt_, hzt_⟩ : ∃ z_, yt_.extract 1 yt_.size = z_ := ⟨_, rfl⟩
                 simp only [hzt_] at BK161  ⊢
                 obtain ⟨bt_, hbt_⟩ : ∃ b_, x5_3.extract ((ji40) : Int).toNat x5_3.size = b_ := ⟨_, rfl⟩
                 simp only [hbt_] at BK161 ⊢
                 have hbt_A := aM_ hbt_
                 have hzt_A := aM_ hzt_
                 have hyt_A := aM_ hyt_
                 clear hbt_ hzt_ hyt_
                 have q56 : 0 < yt_.size := (by have : (0 : Int) < (yt_.size : Int) := of_decide_eq_true c55b0; omega)
                 have hx56 : ∀ h : 0 < yt_.size, ((yt_[0]'h).toNat : Int) = bt yt_ 0 := bt_at yt_ 0
                 have qi56 : (0 < (yt_.size : Int)) = True := eq_true (of_decide_eq_true c55b0)
                 replace q56 := eq_true q56
                 have cv0 : w75.cell? ⟨gb161, 0, none⟩ = some (.slice Ao77 x162000_2.length co77) := (bC_ BK161.out 0).trans rfl
                 have cv1 : w75.cell? ⟨gb161, 1, none⟩ = some (.bool true) := (bC_ BK161.out 1).trans rfl
                 have cv2 : w75.cell? ⟨gb161, 2, none⟩ = some (.string zt_) := (bC_ BK161.out 2).trans rfl
                 have cv3 : w75.cell? ⟨gb161, 3, none⟩ = some (.string bt_) := (bC_ BK161.out 3).trans rfl
                 have dv0 : w75.cell? ⟨gb154, 0, none⟩ = some (.slice none 0 0) := (bC_ BK154.out 0).trans rfl
                 have fv0 := bF_ BK154.out 0
                 have dv1 : w75.cell? ⟨gb154, 1, none⟩ = some (.bool x155001_2) := (bC_ BK154.out 1).trans rfl
                 have fv1 := bF_ BK154.out 1
                 have dv2 : w75.cell? ⟨gb154, 2, none⟩ = some (.string x155002_2) := (bC_ BK154.out 2).trans rfl
                 have fv2 := bF_ BK154.out 2
                 have dv3 : w75.cell? ⟨gb154, 3, none⟩ = some (.string x155003_2) := (bC_ BK154.out 3).trans rfl
                 have fv3 := bF_ BK154.out 3
                 go_region
                 (try clear cv0 cv1 cv2 cv3 dv0 dv1 dv2 dv3 fv0 fv1 fv2 fv3)
                 try go_wp2
                 obtain rfl := hbt_A.out
                 obtain rfl := hzt_A.out
                 obtain rfl := hyt_A.out
                 refine bodyPost_ret (results_ct rfl _ _ gb154 26 #[.slice Ao77 x162000_2.length co77, .bool true, .string ((x5_3.extract 0 (t170 : Int).toNat).extract 1 (x5_3.extract 0 (t170 : Int).toNat).size), .string (x5_3.extract ((ji40) : Int).toNat x5_3.size)] (0, 0) _ rfl (by (with_reducible repeat (first | refine bN_ ?_ _ | refine bD_ ?_ | refine bA_ ?_ _)); refine blk_put (cs := #[.slice Ao77 x162000_2.length co77, .bool true, .string ((x5_3.extract 0 (t170 : Int).toNat).extract 1 (x5_3.extract 0 (t170 : Int).toNat).size), .string x155003_2]) ?_ 3 _ rfl; (with_reducible repeat (first | refine bN_ ?_ _ | refine bD_ ?_ | refine bA_ ?_ _)); refine blk_put (cs := #[.slice Ao77 x162000_2.length co77, .bool true, .string x155002_2, .string x155003_2]) ?_ 2 _ rfl; (with_reducible repeat (first | refine bN_ ?_ _ | refine bD_ ?_ | refine bA_ ?_ _)); refine blk_put (cs := #[.slice Ao77 x162000_2.length co77, .bool x155001_2, .string x155002_2, .string x155003_2]) ?_ 1 _ rfl; (with_reducible repeat (first | refine bN_ ?_ _ | refine bD_ ?_ | refine bA_ ?_ _)); refine blk_put (cs := #[.slice none 0 0, .bool x155001_2, .string x155002_2, .string x155003_2]) ?_ 0 _ rfl; (with_reducible repeat (first | refine bN_ ?_ _ | refine bD_ ?_ | refine bA_ ?_ _)); exact BK154.out) Tryd.underlying26 rfl (by kernel_rfl)) rfl ?_
                 exact ⟨_, by first | rfl | (simp [errW_none, errW_some] <;> rfl) | (simp only [← hji40]; first | rfl | (simp [errW_none, errW_some] <;> rfl)) | (simp [*, errW_none, errW_some] <;> rfl), by (with_reducible repeat (first | apply kA_ | apply kN_ | apply kD_)); exact Kd.R_mono (Kd.R_far (p := ⟨gb154, 3, none⟩) (Kd.R_far (p := ⟨gb154, 2, none⟩) (Kd.R_far (p := ⟨gb154, 1, none⟩) (Kd.R_far (p := ⟨gb154, 0, none⟩) (Kd.R_types HO_162000.out BK154.out (by decide)) (fun _ hk => hk.2) (.slice Ao77 x162000_2.length co77)) (fun _ hk => hk.2) (.bool true)) (fun _ hk => hk.2) (.string ((x5_3.extract 0 (t170 : Int).toNat).extract 1 (x5_3.extract 0 (t170 : Int).toNat).size))) (fun _ hk => hk.2) (.string (x5_3.extract ((ji40) : Int).toNat x5_3.size))) (fun _ hk => trivial), by repeat (first | (with_reducible first | exact HB.out | apply bB_ | apply wN_ | apply bE_ | refine bS_ ?_ GE154.out | refine bS_ ?_ GE161.out) | exact HB.out)⟩
               ·
                rw [if_neg c55] at H
                exact absurd H (by simp)
              ·
               rw [if_neg c54] at H
               exact absurd H (by simp)
            ·
             replace c46 := Bool.eq_false_iff.mpr c46
             subst c46
             have H1 : (some (([] : List Int), false, (⟨#[]⟩ : ByteArray), (⟨#[]⟩ : ByteArray), false)) = some (r1, r2, r3, r4, r5) := by rw [if_neg (show ¬ (false = true) by decide)] at H; exact H
             clear H
             have H := H1
             clear H1
             simp only [Option.some.injEq, Prod.mk.injEq] at H
             obtain ⟨rfl, rfl, rfl, rfl, rfl⟩ := H
             go_wp2_with (first | ((with_reducible refine gate_callee (f := 39) rfl ?_); refine goesL_ (some 67) rfl rfl Tryd.func39 (by kernel_rfl) rfl #[.string x5_3, .int .u8 43] rfl (by (try simp only [List.map_toArray, List.map_cons, List.map_nil]); first | done | rfl | (rw [mCutL]) | (simp only [List.length_drop, List.length_take]; rfl)) ?_; (with_reducible refine (spec_verPlace.calls k2 x5_3 43 t170 _ A38.out).mono ?_); rintro e w' ⟨rfl, ⟨nd, rfl⟩⟩; refine ⟨_, rfl, ?_⟩; (try (rw [drewN_self wr]; generalize hq_ : World.drewN wr _ = wr; have n0_ : Aside0 (Kd.R (Kd.int .u64) 22 wr w.heap.size (fun _ => True) u162000 x162000_2) := ⟨by rw [← hq_]; exact (by (with_reducible repeat (first | apply kA_ | apply kN_ | apply kD_)); exact HO_162000.out)⟩; have n1_ : Aside0 (Kd.R Kd.string 9 wr w.heap.size (fun _ => True) (.slice Ao17 t156.length co17) t156) := ⟨by rw [← hq_]; exact (by (with_reducible repeat (first | apply kA_ | apply kN_ | apply kD_)); exact HO_4.out)⟩; have n2_ : Aside0 (wr.heap[gb154]? = some (.cells #[.slice none 0 0, .bool x155001_2, .string x155002_2, .string x155003_2] 26 (0, 0))) := ⟨by rw [← hq_]; exact (by (with_reducible repeat (first | refine bN_ ?_ _ | refine bD_ ?_ | refine bA_ ?_ _)); exact BK154.out)⟩; have n3_ : Aside0 (wr.heap[gb161]? = some (.cells #[u162000, .bool true, .string (⟨#[]⟩ : ByteArray), .string (⟨#[]⟩ : ByteArray)] 26 (0, 0))) := ⟨by rw [← hq_]; exact (by (with_reducible repeat (first | refine bN_ ?_ _ | refine bD_ ?_ | refine bA_ ?_ _)); exact BK161.out)⟩; have n4_ : Aside0 (Below w.heap.size w wr) := ⟨by rw [← hq_]; exact (by repeat (first | (with_reducible first | exact HB.out | apply bB_ | apply wN_ | apply bE_ | refine bS_ ?_ GE154.out | refine bS_ ?_ GE161.out) | exact HB.out))⟩; clear HO_162000 HO_4 BK154 BK161 HB hq_; have HO_162000 := n0_; have HO_4 := n1_; have BK154 := n2_; have BK161 := n3_; have HB := n4_; clear n0_ n1_ n2_ n3_ n4_)); have hnb82 := NB161_154.out; have hnc82 := NB154_161.out; have hcz83_0 : wr.cell? ⟨gb161, 0, none⟩ = some (u162000) := (bC_ BK161.out 0).trans rfl; have hcz83_1 : wr.cell? ⟨gb161, 1, none⟩ = some (.bool true) := (bC_ BK161.out 1).trans rfl; have hcz83_2 : wr.cell? ⟨gb161, 2, none⟩ = some (.string (⟨#[]⟩ : ByteArray)) := (bC_ BK161.out 2).trans rfl; have hcz83_3 : wr.cell? ⟨gb161, 3, none⟩ = some (.string (⟨#[]⟩ : ByteArray)) := (bC_ BK161.out 3).trans rfl; have hfz83_0 := bF_ BK161.out 0; have hfz83_1 := bF_ BK161.out 1; have hfz83_2 := bF_ BK161.out 2; have hfz83_3 := bF_ BK161.out 3) | ((with_reducible refine gate_callee (f := 11) rfl ?_); refine goesL_ (some 80) rfl rfl Tryd.func11 (by kernel_rfl) rfl #[.string (x5_3.extract ((ji40) : Int).toNat x5_3.size), .bool false] rfl (by (try simp only [List.map_toArray, List.map_cons, List.map_nil]); first | done | (simp only [hji40]; rfl) | rfl | (simp only [List.length_drop, List.length_take]; rfl)) ?_; (with_reducible refine (spec_VerIdentifiers.calls k2 (x5_3.extract ((ji40) : Int).toNat x5_3.size) false false _ A45.out).mono ?_); rintro e w84 ⟨rfl, hb⟩; refine ⟨_, rfl, ?_⟩; have n0_ := aM_ (Kd.R_below (by (with_reducible repeat (first | apply kA_ | apply kN_ | apply kD_)); exact (Kd.R_mono (Kd.R_far (p := ⟨gb161, 3, none⟩) (Kd.R_types HO_4.out BK161.out (by decide)) (fun _ hk => hk.2) (.string (x5_3.extract ((ji40) : Int).toNat x5_3.size))) (fun _ h_ => h_.1))) hb); have n1_ := aM_ (Kd.R_below (by (with_reducible repeat (first | apply kA_ | apply kN_ | apply kD_)); exact (Kd.R_mono (Kd.R_far (p := ⟨gb161, 3, none⟩) (Kd.R_types HO_162000.out BK161.out (by decide)) (fun _ hk => hk.2) (.string (x5_3.extract ((ji40) : Int).toNat x5_3.size))) (fun _ h_ => h_.1))) hb); have n2_ := aM_ (blk_below (g := gb154) (o := .cells #[.slice none 0 0, .bool x155001_2, .string x155002_2, .string x155003_2] 26 (0, 0)) (by (with_reducible repeat (first | refine bN_ ?_ _ | refine bD_ ?_ | refine bA_ ?_ _)); refine blk_far ?_ NB154_161.out _; (with_reducible repeat (first | refine bN_ ?_ _ | refine bD_ ?_ | refine bA_ ?_ _)); exact BK154.out) hb); have n3_ := aM_ (blk_below (g := gb161) (o := .cells #[u162000, .bool true, .string (⟨#[]⟩ : ByteArray), .string (x5_3.extract ((ji40) : Int).toNat x5_3.size)] 26 (0, 0)) (by (with_reducible repeat (first | refine bN_ ?_ _ | refine bD_ ?_ | refine bA_ ?_ _)); refine blk_put (cs := #[u162000, .bool true, .string (⟨#[]⟩ : ByteArray), .string (⟨#[]⟩ : ByteArray)]) ?_ 3 _ rfl; (with_reducible repeat (first | refine bN_ ?_ _ | refine bD_ ?_ | refine bA_ ?_ _)); exact BK161.out) hb); have n4_ := aM_ (below_step (by repeat (first | (with_reducible first | exact HB.out | apply bB_ | apply wN_ | apply bE_ | refine bS_ ?_ GE154.out | refine bS_ ?_ GE161.out) | exact HB.out)) hb); clear HO_4; clear HO_162000; clear BK154; clear BK161; clear HB; have HO_4 := n0_; have HO_162000 := n1_; have BK154 := n2_; have BK161 := n3_; have HB := n4_; clear n0_ n1_ n2_ n3_ n4_; (try clear hb); (try clear hb2); (try clear hk); (try clear hi); have hcz85_0 : w84.cell? ⟨gb154, 0, none⟩ = some (.slice none 0 0) := (bC_ BK154.out 0).trans rfl; have hcz85_1 : w84.cell? ⟨gb154, 1, none⟩ = some (.bool x155001_2) := (bC_ BK154.out 1).trans rfl; have hcz85_2 : w84.cell? ⟨gb154, 2, none⟩ = some (.string x155002_2) := (bC_ BK154.out 2).trans rfl; have hcz85_3 : w84.cell? ⟨gb154, 3, none⟩ = some (.string x155003_2) := (bC_ BK154.out 3).trans rfl; have hfz85_0 := bF_ BK154.out 0; have hfz85_1 := bF_ BK154.out 1; have hfz85_2 := bF_ BK154.out 2; have hfz85_3 := bF_ BK154.out 3))
             refine bodyPost_ret (results_ct rfl _ _ gb154 26 #[.slice none 0 0, .bool false, .string (⟨#[]⟩ : ByteArray), .string (⟨#[]⟩ : ByteArray)] (0, 0) _ rfl (by (with_reducible repeat (first | refine bN_ ?_ _ | refine bD_ ?_ | refine bA_ ?_ _)); refine blk_put (cs := #[.slice none 0 0, .bool false, .string (⟨#[]⟩ : ByteArray), .string x155003_2]) ?_ 3 _ rfl; (with_reducible repeat (first | refine bN_ ?_ _ | refine bD_ ?_ | refine bA_ ?_ _)); refine blk_put (cs := #[.slice none 0 0, .bool false, .string x155002_2, .string x155003_2]) ?_ 2 _ rfl; (with_reducible repeat (first | refine bN_ ?_ _ | refine bD_ ?_ | refine bA_ ?_ _)); refine blk_put (cs := #[.slice none 0 0, .bool x155001_2, .string x155002_2, .string x155003_2]) ?_ 1 _ rfl; (with_reducible repeat (first | refine bN_ ?_ _ | refine bD_ ?_ | refine bA_ ?_ _)); refine blk_put (cs := #[.slice none 0 0, .bool x155001_2, .string x155002_2, .string x155003_2]) ?_ 0 _ rfl; (with_reducible repeat (first | refine bN_ ?_ _ | refine bD_ ?_ | refine bA_ ?_ _)); exact BK154.out) Tryd.underlying26 rfl (by kernel_rfl)) rfl ?_
             exact ⟨_, by first | rfl | (simp [errW_none, errW_some] <;> rfl) | (simp only [← hji40]; first | rfl | (simp [errW_none, errW_some] <;> rfl)) | (simp [*, errW_none, errW_some] <;> rfl), by first | exact Kd.R_nil _ _ _ _ _ | exact Kd.N_nil _ _ _ _ _ | exact Kd.V_nil _ _ _ _ _ | exact Kd.Q_nil _ _ _ _ _ | exact Kd.S_nil _ _ _ _ _, by repeat (first | (with_reducible first | exact HB.out | apply bB_ | apply wN_ | apply bE_ | refine bS_ ?_ GE154.out | refine bS_ ?_ GE161.out) | exact HB.out)⟩
           ·
            rw [if_neg c44] at H
            exact absurd H (by simp)
          ·
           rw [if_neg c43] at H
           exact absurd H (by simp)
         ·
          rw [if_neg c42] at H
          exact absurd H (by simp)
        ·
         rw [if_neg c41] at H
         exact absurd H (by simp)
       ·
        rw [if_neg c39] at H
        have c39b0 : decide (0 ≤ t170) = false := decide_eq_false c39
        clear c39
        by_cases c86 : x5_3.toList = ([] : List UInt8)
        ·
         rw [if_pos c86] at H
         have c86b0 : (x5_3.toList == ([] : List UInt8)) = true := beq_iff_eq.mpr c86
         have c86b1 : (x5_3.toList != ([] : List UInt8)) = false := bne_eq_false_iff_eq.mpr c86
         clear c86
         simp only [Option.some.injEq, Prod.mk.injEq] at H
         obtain ⟨rfl, rfl, rfl, rfl, rfl⟩ := H
         go_wp2_with (first | ((with_reducible refine gate_callee (f := 39) rfl ?_); refine goesL_ (some 67) rfl rfl Tryd.func39 (by kernel_rfl) rfl #[.string x5_3, .int .u8 43] rfl (by (try simp only [List.map_toArray, List.map_cons, List.map_nil]); first | done | rfl | (rw [mCutL]) | (simp only [List.length_drop, List.length_take]; rfl)) ?_; (with_reducible refine (spec_verPlace.calls k2 x5_3 43 t170 _ A38.out).mono ?_); rintro e w' ⟨rfl, ⟨nd, rfl⟩⟩; refine ⟨_, rfl, ?_⟩; (try (rw [drewN_self wr]; generalize hq_ : World.drewN wr _ = wr; have n0_ : Aside0 (Kd.R (Kd.int .u64) 22 wr w.heap.size (fun _ => True) u162000 x162000_2) := ⟨by rw [← hq_]; exact (by (with_reducible repeat (first | apply kA_ | apply kN_ | apply kD_)); exact HO_162000.out)⟩; have n1_ : Aside0 (Kd.R Kd.string 9 wr w.heap.size (fun _ => True) (.slice Ao17 t156.length co17) t156) := ⟨by rw [← hq_]; exact (by (with_reducible repeat (first | apply kA_ | apply kN_ | apply kD_)); exact HO_4.out)⟩; have n2_ : Aside0 (wr.heap[gb154]? = some (.cells #[.slice none 0 0, .bool x155001_2, .string x155002_2, .string x155003_2] 26 (0, 0))) := ⟨by rw [← hq_]; exact (by (with_reducible repeat (first | refine bN_ ?_ _ | refine bD_ ?_ | refine bA_ ?_ _)); exact BK154.out)⟩; have n3_ : Aside0 (wr.heap[gb161]? = some (.cells #[u162000, .bool true, .string (⟨#[]⟩ : ByteArray), .string (⟨#[]⟩ : ByteArray)] 26 (0, 0))) := ⟨by rw [← hq_]; exact (by (with_reducible repeat (first | refine bN_ ?_ _ | refine bD_ ?_ | refine bA_ ?_ _)); exact BK161.out)⟩; have n4_ : Aside0 (Below w.heap.size w wr) := ⟨by rw [← hq_]; exact (by repeat (first | (with_reducible first | exact HB.out | apply bB_ | apply wN_ | apply bE_ | refine bS_ ?_ GE154.out | refine bS_ ?_ GE161.out) | exact HB.out))⟩; clear HO_162000 HO_4 BK154 BK161 HB hq_; have HO_162000 := n0_; have HO_4 := n1_; have BK154 := n2_; have BK161 := n3_; have HB := n4_; clear n0_ n1_ n2_ n3_ n4_)); have hnb87 := NB161_154.out; have hnc87 := NB154_161.out; have hcz88_0 : wr.cell? ⟨gb161, 0, none⟩ = some (u162000) := (bC_ BK161.out 0).trans rfl; have hcz88_1 : wr.cell? ⟨gb161, 1, none⟩ = some (.bool true) := (bC_ BK161.out 1).trans rfl; have hcz88_2 : wr.cell? ⟨gb161, 2, none⟩ = some (.string (⟨#[]⟩ : ByteArray)) := (bC_ BK161.out 2).trans rfl; have hcz88_3 : wr.cell? ⟨gb161, 3, none⟩ = some (.string (⟨#[]⟩ : ByteArray)) := (bC_ BK161.out 3).trans rfl; have hfz88_0 := bF_ BK161.out 0; have hfz88_1 := bF_ BK161.out 1; have hfz88_2 := bF_ BK161.out 2; have hfz88_3 := bF_ BK161.out 3; obtain ⟨Ao89, co89, eo89⟩ := Kd.R_slice HO_162000.out; subst eo89; have hcz90_0 : wr.cell? ⟨gb154, 0, none⟩ = some (.slice none 0 0) := (bC_ BK154.out 0).trans rfl; have hcz90_1 : wr.cell? ⟨gb154, 1, none⟩ = some (.bool x155001_2) := (bC_ BK154.out 1).trans rfl; have hcz90_2 : wr.cell? ⟨gb154, 2, none⟩ = some (.string x155002_2) := (bC_ BK154.out 2).trans rfl; have hcz90_3 : wr.cell? ⟨gb154, 3, none⟩ = some (.string x155003_2) := (bC_ BK154.out 3).trans rfl; have hfz90_0 := bF_ BK154.out 0; have hfz90_1 := bF_ BK154.out 1; have hfz90_2 := bF_ BK154.out 2; have hfz90_3 := bF_ BK154.out 3))
         refine bodyPost_ret (results_ct rfl _ _ gb154 26 #[.slice Ao89 x162000_2.length co89, .bool true, .string (⟨#[]⟩ : ByteArray), .string (⟨#[]⟩ : ByteArray)] (0, 0) _ rfl (by (with_reducible repeat (first | refine bN_ ?_ _ | refine bD_ ?_ | refine bA_ ?_ _)); refine blk_put (cs := #[.slice Ao89 x162000_2.length co89, .bool true, .string (⟨#[]⟩ : ByteArray), .string x155003_2]) ?_ 3 _ rfl; (with_reducible repeat (first | refine bN_ ?_ _ | refine bD_ ?_ | refine bA_ ?_ _)); refine blk_put (cs := #[.slice Ao89 x162000_2.length co89, .bool true, .string x155002_2, .string x155003_2]) ?_ 2 _ rfl; (with_reducible repeat (first | refine bN_ ?_ _ | refine bD_ ?_ | refine bA_ ?_ _)); refine blk_put (cs := #[.slice Ao89 x162000_2.length co89, .bool x155001_2, .string x155002_2, .string x155003_2]) ?_ 1 _ rfl; (with_reducible repeat (first | refine bN_ ?_ _ | refine bD_ ?_ | refine bA_ ?_ _)); refine blk_put (cs := #[.slice none 0 0, .bool x155001_2, .string x155002_2, .string x155003_2]) ?_ 0 _ rfl; (with_reducible repeat (first | refine bN_ ?_ _ | refine bD_ ?_ | refine bA_ ?_ _)); exact BK154.out) Tryd.underlying26 rfl (by kernel_rfl)) rfl ?_
         exact ⟨_, by first | rfl | (simp [errW_none, errW_some] <;> rfl) | (simp [*, errW_none, errW_some] <;> rfl), by (with_reducible repeat (first | apply kA_ | apply kN_ | apply kD_)); exact Kd.R_mono (Kd.R_far (p := ⟨gb154, 3, none⟩) (Kd.R_far (p := ⟨gb154, 2, none⟩) (Kd.R_far (p := ⟨gb154, 1, none⟩) (Kd.R_far (p := ⟨gb154, 0, none⟩) (Kd.R_types HO_162000.out BK154.out (by decide)) (fun _ hk => hk.2) (.slice Ao89 x162000_2.length co89)) (fun _ hk => hk.2) (.bool true)) (fun _ hk => hk.2) (.string (⟨#[]⟩ : ByteArray))) (fun _ hk => hk.2) (.string (⟨#[]⟩ : ByteArray))) (fun _ hk => trivial), by repeat (first | (with_reducible first | exact HB.out | apply bB_ | apply wN_ | apply bE_ | refine bS_ ?_ GE154.out | refine bS_ ?_ GE161.out) | exact HB.out)⟩
        ·
         rw [if_neg c86] at H
         have c86b0 : (x5_3.toList == ([] : List UInt8)) = false := beq_eq_false_iff_ne.mpr c86
         have c86b1 : (x5_3.toList != ([] : List UInt8)) = true := bne_iff_ne.mpr c86
         by_cases c91 : 1 ≤ (x5_3.size : Int)
         ·
          rw [if_pos c91] at H
          have c91b0 := eq_true c91
          have c91b1 : decide (1 ≤ (x5_3.size : Int)) = true := decide_eq_true c91
          clear c91
          by_cases c92 : 0 < (x5_3.size : Int)
          ·
           rw [if_pos c92] at H
           have c92b0 : decide (0 < (x5_3.size : Int)) = true := decide_eq_true c92
           have c92b1 : decide (0 < x5_3.size) = true := decide_eq_true (by omega)
           clear c92
           by_cases c94 : (bt x5_3 0) = 45
           ·
            rw [if_pos c94] at H
            have c94b0 : ((bt x5_3 0) == 45) = true := beq_iff_eq.mpr c94
            have c94b1 : ((bt x5_3 0) != 45) = false := bne_eq_false_iff_eq.mpr c94
            clear c94
            replace H := Option.bind_eq_some_iff.mp H
            obtain ⟨t173, A950, H⟩ := H
            replace H : (some (x162000_2, true, x5_3.extract 1 x5_3.size, (⟨#[]⟩ : ByteArray), t173)) = some (r1, r2, r3, r4, r5) := H
            have A95 := aM_ A950
            clear A950
            simp only [Option.some.injEq, Prod.mk.injEq] at H
            obtain ⟨rfl, rfl, rfl, rfl, rfl⟩ := H
            try go_wp2_with (first | ((with_reducible refine gate_callee (f := 39) rfl ?_); refine goesL_ (some 67) rfl rfl Tryd.func39 (by kernel_rfl) rfl #[.string x5_3, .int .u8 43] rfl (by (try simp only [List.map_toArray, List.map_cons, List.map_nil]); first | done | rfl | (rw [mCutL]) | (simp only [List.length_drop, List.length_take]; rfl)) ?_; (with_reducible refine (spec_verPlace.calls k2 x5_3 43 t170 _ A38.out).mono ?_); rintro e w' ⟨rfl, ⟨nd, rfl⟩⟩; refine ⟨_, rfl, ?_⟩; (try (rw [drewN_self wr]; generalize hq_ : World.drewN wr _ = wr; have n0_ : Aside0 (Kd.R (Kd.int .u64) 22 wr w.heap.size (fun _ => True) u162000 x162000_2) := ⟨by rw [← hq_]; exact (by (with_reducible repeat (first | apply kA_ | apply kN_ | apply kD_)); exact HO_162000.out)⟩; have n1_ : Aside0 (Kd.R Kd.string 9 wr w.heap.size (fun _ => True) (.slice Ao17 t156.length co17) t156) := ⟨by rw [← hq_]; exact (by (with_reducible repeat (first | apply kA_ | apply kN_ | apply kD_)); exact HO_4.out)⟩; have n2_ : Aside0 (wr.heap[gb154]? = some (.cells #[.slice none 0 0, .bool x155001_2, .string x155002_2, .string x155003_2] 26 (0, 0))) := ⟨by rw [← hq_]; exact (by (with_reducible repeat (first | refine bN_ ?_ _ | refine bD_ ?_ | refine bA_ ?_ _)); exact BK154.out)⟩; have n3_ : Aside0 (wr.heap[gb161]? = some (.cells #[u162000, .bool true, .string (⟨#[]⟩ : ByteArray), .string (⟨#[]⟩ : ByteArray)] 26 (0, 0))) := ⟨by rw [← hq_]; exact (by (with_reducible repeat (first | refine bN_ ?_ _ | refine bD_ ?_ | refine bA_ ?_ _)); exact BK161.out)⟩; have n4_ : Aside0 (Below w.heap.size w wr) := ⟨by rw [← hq_]; exact (by repeat (first | (with_reducible first | exact HB.out | apply bB_ | apply wN_ | apply bE_ | refine bS_ ?_ GE154.out | refine bS_ ?_ GE161.out) | exact HB.out))⟩; clear HO_162000 HO_4 BK154 BK161 HB hq_; have HO_162000 := n0_; have HO_4 := n1_; have BK154 := n2_; have BK161 := n3_; have HB := n4_; clear n0_ n1_ n2_ n3_ n4_)); have hnb96 := NB161_154.out; have hnc96 := NB154_161.out; have hcz97_0 : wr.cell? ⟨gb161, 0, none⟩ = some (u162000) := (bC_ BK161.out 0).trans rfl; have hcz97_1 : wr.cell? ⟨gb161, 1, none⟩ = some (.bool true) := (bC_ BK161.out 1).trans rfl; have hcz97_2 : wr.cell? ⟨gb161, 2, none⟩ = some (.string (⟨#[]⟩ : ByteArray)) := (bC_ BK161.out 2).trans rfl; have hcz97_3 : wr.cell? ⟨gb161, 3, none⟩ = some (.string (⟨#[]⟩ : ByteArray)) := (bC_ BK161.out 3).trans rfl; have hfz97_0 := bF_ BK161.out 0; have hfz97_1 := bF_ BK161.out 1; have hfz97_2 := bF_ BK161.out 2; have hfz97_3 := bF_ BK161.out 3))
            have n0_ : Aside0 (Kd.R Kd.string 9 (wr.setCell ⟨gb161, 2, none⟩ (.string (x5_3.extract 1 x5_3.size))) w.heap.size (fun _ => True) (.slice Ao17 t156.length co17) t156) := ⟨by (with_reducible repeat (first | apply kA_ | apply kN_ | apply kD_)); exact Kd.R_mono (Kd.R_far (p := ⟨gb161, 2, none⟩) (Kd.R_types HO_4.out BK161.out (by decide)) (fun _ hk => hk.2) (.string (x5_3.extract 1 x5_3.size))) (fun _ hk => trivial)⟩
            have n1_ : Aside0 (Kd.R (Kd.int .u64) 22 (wr.setCell ⟨gb161, 2, none⟩ (.string (x5_3.extract 1 x5_3.size))) w.heap.size (fun _ => True) u162000 x162000_2) := ⟨by (with_reducible repeat (first | apply kA_ | apply kN_ | apply kD_)); exact Kd.R_mono (Kd.R_far (p := ⟨gb161, 2, none⟩) (Kd.R_types HO_162000.out BK161.out (by decide)) (fun _ hk => hk.2) (.string (x5_3.extract 1 x5_3.size))) (fun _ hk => trivial)⟩
            have n2_ : Aside0 ((wr.setCell ⟨gb161, 2, none⟩ (.string (x5_3.extract 1 x5_3.size))).heap[gb154]? = some (.cells #[.slice none 0 0, .bool x155001_2, .string x155002_2, .string x155003_2] 26 (0, 0))) := ⟨by (with_reducible repeat (first | refine bN_ ?_ _ | refine bD_ ?_ | refine bA_ ?_ _)); refine blk_far ?_ NB154_161.out _; (with_reducible repeat (first | refine bN_ ?_ _ | refine bD_ ?_ | refine bA_ ?_ _)); exact BK154.out⟩
            have n3_ : Aside0 ((wr.setCell ⟨gb161, 2, none⟩ (.string (x5_3.extract 1 x5_3.size))).heap[gb161]? = some (.cells #[u162000, .bool true, .string (x5_3.extract 1 x5_3.size), .string (⟨#[]⟩ : ByteArray)] 26 (0, 0))) := ⟨by (with_reducible repeat (first | refine bN_ ?_ _ | refine bD_ ?_ | refine bA_ ?_ _)); refine blk_put (cs := #[u162000, .bool true, .string (⟨#[]⟩ : ByteArray), .string (⟨#[]⟩ : ByteArray)]) ?_ 2 _ rfl; (with_reducible repeat (first | refine bN_ ?_ _ | refine bD_ ?_ | refine bA_ ?_ _)); exact BK161.out⟩
            have n4_ : Aside0 (Below w.heap.size w (wr.setCell ⟨gb161, 2, none⟩ (.string (x5_3.extract 1 x5_3.size)))) := ⟨by repeat (first | (with_reducible first | exact HB.out | apply bB_ | apply wN_ | apply bE_ | refine bS_ ?_ GE154.out | refine bS_ ?_ GE161.out) | exact HB.out)⟩
            (try clear HO_4)
            (try clear HO_162000)
            (try clear BK154)
            (try clear BK161)
            (try clear HB)
            generalize (wr.setCell ⟨gb161, 2, none⟩ (.string (x5_3.extract 1 x5_3.size))) = w98 at n0_ n1_ n2_ n3_ n4_ ⊢
            have HO_4 := n0_
            have HO_162000 := n1_
            have BK154 := n2_
            have BK161 := n3_
            have HB := n4_
            clear n0_ n1_ n2_ n3_ n4_
            have n0_ := aM_ (kD_ HO_4.out)
            have n1_ := aM_ (kD_ HO_162000.out)
            have n2_ := aM_ (bD_ BK154.out)
            have n3_ := aM_ (bD_ BK161.out)
            have n4_ := aM_ (bE_ HB.out)
            clear HO_4
            clear HO_162000
            clear BK154
            clear BK161
            clear HB
            have HO_4 := n0_
            have HO_162000 := n1_
            have BK154 := n2_
            have BK161 := n3_
            have HB := n4_
            clear n0_ n1_ n2_ n3_ n4_
            have p93 : 0 ≤ (0 : Int) := (by omega)
            have q93 : 0 < x5_3.size := (by have : (0 : Int) < (x5_3.size : Int) := of_decide_eq_true (by first | (with_reducible assumption) | assumption); omega)
            have hx93 : ∀ h : 0 < x5_3.size, ((x5_3[0]'h).toNat : Int) = bt x5_3 0 := bt_at x5_3 0
            clear p93
            have qi93 : (0 < (x5_3.size : Int)) = True := eq_true (of_decide_eq_true (by first | (with_reducible assumption) | assumption))
            replace q93 := eq_true q93
            refine start_ (n := 11) (S := fun w' => w'.cell? ⟨gb161, 0, none⟩ = some (u162000) ∧ w'.cell? ⟨gb161, 1, none⟩ = some (.bool true) ∧ w'.cell? ⟨gb161, 2, none⟩ = some (.string (x5_3.extract 1 x5_3.size)) ∧ w'.cell? ⟨gb161, 3, none⟩ = some (.string (⟨#[]⟩ : ByteArray))) (ds := []) #[false, false, false, false, false, false, false, false, false, false, false] (by kernel_rfl) rfl rfl ⟨(bC_ BK161.out 0).trans rfl, (bC_ BK161.out 1).trans rfl, (bC_ BK161.out 2).trans rfl, (bC_ BK161.out 3).trans rfl⟩ (fun hHeld => ?_); refine with_tabW spec_VerSemantic.tab23 spec_VerSemantic.bits23 (fun HT_ HW_ => ?_)
            generalize w98.drew = w99 at HO_4 HO_162000 BK154 BK161 HB hHeld ⊢
            refine pure_ (i := 1) (N := some 90) (v := ?_) (a' := ?_) #[false, true, false, false, false, false, false, false, false, false, false] rfl rfl (any_of HT_.out (by kernel_rfl)) (fun _ _ _ h => h) (Or.inl ⟨by rfl, ?_⟩) ?_ ?_
            rotate_left
            ·
             intro w'
             go_simp
             with_reducible rfl
            rotate_left
            ·
             simp only [Act.put, List.setIfInBounds_toArray, List.set_cons_zero, List.set_cons_succ, i64_w, i32_w]
             rfl
            refine take_ (i := 0) (N := some 89) (v := ?_) (a' := ?_) #[true, true, false, false, false, false, false, false, false, false, false] rfl rfl (take_ofW HT_.out HW_.out (by kernel_rfl)) (fun _ _ _ h => h) (Or.inl ⟨by rfl, ?_⟩) hHeld ?_ ?_
            rotate_left
            ·
             rintro w' ⟨s0, s1, s2, s3⟩
             go_simp
             with_reducible rfl
            rotate_left
            ·
             simp only [Act.put, List.setIfInBounds_toArray, List.set_cons_zero, List.set_cons_succ, i64_w, i32_w]
             rfl
            refine take_ (i := 2) (N := some 91) (v := ?_) (a' := ?_) #[true, true, true, false, false, false, false, false, false, false, false] rfl rfl (take_ofW HT_.out HW_.out (by kernel_rfl)) (fun _ _ _ h => h) (Or.inl ⟨by rfl, ?_⟩) hHeld ?_ ?_
            rotate_left
            ·
             rintro w' ⟨s0, s1, s2, s3⟩
             go_simp
             with_reducible rfl
            rotate_left
            ·
             simp only [Act.put, List.setIfInBounds_toArray, List.set_cons_zero, List.set_cons_succ, i64_w, i32_w]
             rfl
            refine pure_ (i := 3) (N := some 92) (v := ?_) (a' := ?_) #[true, true, true, true, false, false, false, false, false, false, false] rfl rfl (any_of HT_.out (by kernel_rfl)) (fun _ _ _ h => h) (Or.inl ⟨by rfl, ?_⟩) ?_ ?_
            rotate_left
            ·
             intro w'
             go_simp
             with_reducible rfl
            rotate_left
            ·
             simp only [Act.put, List.setIfInBounds_toArray, List.set_cons_zero, List.set_cons_succ, i64_w, i32_w]
             rfl
            refine pure_ (i := 4) (N := some 93) (v := ?_) (a' := ?_) #[true, true, true, true, true, false, false, false, false, false, false] rfl rfl (any_of HT_.out (by kernel_rfl)) (fun _ _ _ h => h) (Or.inl ⟨by rfl, ?_⟩) ?_ ?_
            rotate_left
            ·
             intro w'
             go_simp
             with_reducible rfl
            rotate_left
            ·
             simp only [Act.put, List.setIfInBounds_toArray, List.set_cons_zero, List.set_cons_succ, i64_w, i32_w]
             rfl
            refine pure_ (i := 5) (N := some 94) (v := ?_) (a' := ?_) #[true, true, true, true, true, true, false, false, false, false, false] rfl rfl (any_of HT_.out (by kernel_rfl)) (fun _ _ _ h => h) (Or.inl ⟨by rfl, ?_⟩) ?_ ?_
            rotate_left
            ·
             intro w'
             go_simp
             with_reducible rfl
            rotate_left
            ·
             simp only [Act.put, List.setIfInBounds_toArray, List.set_cons_zero, List.set_cons_succ, i64_w, i32_w]
             rfl
            refine take_ (i := 6) (N := some 95) (v := ?_) (a' := ?_) #[true, true, true, true, true, true, true, false, false, false, false] rfl rfl (take_ofW HT_.out HW_.out (by kernel_rfl)) (fun _ _ _ h => h) (Or.inl ⟨by rfl, ?_⟩) hHeld ?_ ?_
            rotate_left
            ·
             rintro w' ⟨s0, s1, s2, s3⟩
             go_simp
             with_reducible rfl
            rotate_left
            ·
             simp only [Act.put, List.setIfInBounds_toArray, List.set_cons_zero, List.set_cons_succ, i64_w, i32_w]
             rfl
            refine one_ (i := 7) (N := some 96) #[true, true, true, true, true, true, true, true, false, false, false] rfl rfl (one_of HT_.out (by kernel_rfl)) (by decide) (fun K hK => ?_)
            refine goes_ Tryd.func11 (by kernel_rfl) rfl #[.string (x5_3.extract 1 x5_3.size), .bool true] (by rfl) rfl rfl (by (try simp only [List.map_toArray, List.map_cons, List.map_nil]); first | done | rfl | (rw [mCutL]) | (simp only [List.length_drop, List.length_take]; rfl)) ?_
            with_reducible refine (spec_VerIdentifiers.calls k2 (x5_3.extract 1 x5_3.size) true t173 _ A95.out).mono ?_
            rintro e w100 ⟨rfl, hb⟩
            refine ⟨_, rfl, ?_⟩
            have n0_ := aM_ (Kd.R_below (by (with_reducible repeat (first | apply kA_ | apply kN_ | apply kD_)); exact HO_4.out) hb)
            have n1_ := aM_ (Kd.R_below (by (with_reducible repeat (first | apply kA_ | apply kN_ | apply kD_)); exact HO_162000.out) hb)
            have n2_ := aM_ (blk_below (g := gb154) (o := .cells #[.slice none 0 0, .bool x155001_2, .string x155002_2, .string x155003_2] 26 (0, 0)) (by (with_reducible repeat (first | refine bN_ ?_ _ | refine bD_ ?_ | refine bA_ ?_ _)); exact BK154.out) hb)
            have n3_ := aM_ (blk_below (g := gb161) (o := .cells #[u162000, .bool true, .string (x5_3.extract 1 x5_3.size), .string (⟨#[]⟩ : ByteArray)] 26 (0, 0)) (by (with_reducible repeat (first | refine bN_ ?_ _ | refine bD_ ?_ | refine bA_ ?_ _)); exact BK161.out) hb)
            have n4_ := aM_ (below_step (by repeat (first | (with_reducible first | exact HB.out | apply bB_ | apply wN_ | apply bE_ | refine bS_ ?_ GE154.out | refine bS_ ?_ GE161.out) | exact HB.out)) hb)
            clear HO_4
            clear HO_162000
            clear BK154
            clear BK161
            clear HB
            have HO_4 := n0_
            have HO_162000 := n1_
            have BK154 := n2_
            have BK161 := n3_
            have HB := n4_
            clear n0_ n1_ n2_ n3_ n4_
            (try clear hb)
            (try clear hb2)
            (try clear hk)
            (try clear hi)
            obtain ⟨Ao101, co101, eo101⟩ := Kd.R_slice HO_162000.out
            (first | subst eo101 | (injection eo101 with f1_ f2_ f3_; have f4_ := f1_.symm; have f5_ := f3_.symm; clear f1_ f2_ f3_; subst f4_; subst f5_))
            refine hK.out _ _ ⟨(bC_ BK161.out 0).trans rfl, (bC_ BK161.out 1).trans rfl, (bC_ BK161.out 2).trans rfl, (bC_ BK161.out 3).trans rfl⟩ (fun hHeld => ?_)
            clear hK K
            refine norm_ (a' := ?_) ?_ ?_
            rotate_left
            ·
             show Act.put _ (some 96) _ = _
             simp only [Act.put, List.setIfInBounds_toArray, List.set_cons_zero, List.set_cons_succ, i64_w, i32_w]
             rfl
            refine pure_ (i := 8) (N := some 97) (v := ?_) (a' := ?_) #[true, true, true, true, true, true, true, true, true, false, false] rfl rfl (any_of HT_.out (by kernel_rfl)) (fun _ _ _ h => h) (Or.inl ⟨by rfl, ?_⟩) ?_ ?_
            rotate_left
            ·
             intro w'
             go_simp
             with_reducible rfl
            rotate_left
            ·
             simp only [Act.put, List.setIfInBounds_toArray, List.set_cons_zero, List.set_cons_succ, i64_w, i32_w]
             rfl
            refine one_ (i := 9) (N := none) #[true, true, true, true, true, true, true, true, true, true, false] rfl rfl (one_of HT_.out (by kernel_rfl)) (by decide) (fun K hK => ?_)
            have hs102 : w100.cell? ⟨gb154, 0, none⟩ = some (.slice none 0 0) := (bC_ BK154.out 0).trans rfl
            have hfs102 := bF_ BK154.out 0
            have hns102_1 := NB161_154.out
            have hms102_1 := NB154_161.out
            have hs103 : w100.cell? ⟨gb154, 1, none⟩ = some (.bool x155001_2) := (bC_ BK154.out 1).trans rfl
            have hfs103 := bF_ BK154.out 1
            have hns103_1 := NB161_154.out
            have hms103_1 := NB154_161.out
            have hs104 : w100.cell? ⟨gb154, 2, none⟩ = some (.string x155002_2) := (bC_ BK154.out 2).trans rfl
            have hfs104 := bF_ BK154.out 2
            have hns104_1 := NB161_154.out
            have hms104_1 := NB154_161.out
            have hs105 : w100.cell? ⟨gb154, 3, none⟩ = some (.string x155003_2) := (bC_ BK154.out 3).trans rfl
            have hfs105 := bF_ BK154.out 3
            have hns105_1 := NB161_154.out
            have hms105_1 := NB154_161.out
            refine skip_ (w1 := ?_) (by rfl) rfl ?_ ?_
            rotate_left
            ·
             go_simp
             rfl
            refine hK.out _ _ ⟨((cell_far (p := ⟨gb154, _, none⟩) NB161_154.out _).trans (((cell_far (p := ⟨gb154, _, none⟩) NB161_154.out _).trans (((cell_far (p := ⟨gb154, _, none⟩) NB161_154.out _).trans (((cell_far (p := ⟨gb154, _, none⟩) NB161_154.out _).trans (hHeld.1)))))))), ((cell_far (p := ⟨gb154, _, none⟩) NB161_154.out _).trans (((cell_far (p := ⟨gb154, _, none⟩) NB161_154.out _).trans (((cell_far (p := ⟨gb154, _, none⟩) NB161_154.out _).trans (((cell_far (p := ⟨gb154, _, none⟩) NB161_154.out _).trans (hHeld.2.1)))))))), ((cell_far (p := ⟨gb154, _, none⟩) NB161_154.out _).trans (((cell_far (p := ⟨gb154, _, none⟩) NB161_154.out _).trans (((cell_far (p := ⟨gb154, _, none⟩) NB161_154.out _).trans (((cell_far (p := ⟨gb154, _, none⟩) NB161_154.out _).trans (hHeld.2.2.1)))))))), ((cell_far (p := ⟨gb154, _, none⟩) NB161_154.out _).trans (((cell_far (p := ⟨gb154, _, none⟩) NB161_154.out _).trans (((cell_far (p := ⟨gb154, _, none⟩) NB161_154.out _).trans (((cell_far (p := ⟨gb154, _, none⟩) NB161_154.out _).trans (hHeld.2.2.2))))))))⟩ (fun hHeld => ?_)
            clear hK K
            refine pure_ (i := 10) (N := some 3) (v := ?_) (a' := ?_) #[true, true, true, true, true, true, true, true, true, true, true] rfl rfl (any_of HT_.out (by kernel_rfl)) (fun _ _ _ h => h) (Or.inl ⟨by rfl, ?_⟩) ?_ ?_
            rotate_left
            ·
             intro w'
             go_simp
             with_reducible rfl
            rotate_left
            ·
             simp only [Act.put, List.setIfInBounds_toArray, List.set_cons_zero, List.set_cons_succ, i64_w, i32_w]
             rfl
            refine done_ (done_of HT_.out (by kernel_rfl)) ?_
            try go_wp2
            refine bodyPost_ret (results_ct rfl _ _ gb154 26 #[.slice Ao101 x162000_2.length co101, .bool true, .string (x5_3.extract 1 x5_3.size), .string (⟨#[]⟩ : ByteArray)] (0, 0) _ rfl (by (with_reducible repeat (first | refine bN_ ?_ _ | refine bD_ ?_ | refine bA_ ?_ _)); refine blk_put (cs := #[.slice Ao101 x162000_2.length co101, .bool true, .string (x5_3.extract 1 x5_3.size), .string x155003_2]) ?_ 3 _ rfl; (with_reducible repeat (first | refine bN_ ?_ _ | refine bD_ ?_ | refine bA_ ?_ _)); refine blk_put (cs := #[.slice Ao101 x162000_2.length co101, .bool true, .string x155002_2, .string x155003_2]) ?_ 2 _ rfl; (with_reducible repeat (first | refine bN_ ?_ _ | refine bD_ ?_ | refine bA_ ?_ _)); refine blk_put (cs := #[.slice Ao101 x162000_2.length co101, .bool x155001_2, .string x155002_2, .string x155003_2]) ?_ 1 _ rfl; (with_reducible repeat (first | refine bN_ ?_ _ | refine bD_ ?_ | refine bA_ ?_ _)); refine blk_put (cs := #[.slice none 0 0, .bool x155001_2, .string x155002_2, .string x155003_2]) ?_ 0 _ rfl; (with_reducible repeat (first | refine bN_ ?_ _ | refine bD_ ?_ | refine bA_ ?_ _)); exact BK154.out) Tryd.underlying26 rfl (by kernel_rfl)) rfl ?_
            exact ⟨_, by first | rfl | (simp [errW_none, errW_some] <;> rfl) | (simp [*, errW_none, errW_some] <;> rfl), by (with_reducible repeat (first | apply kA_ | apply kN_ | apply kD_)); exact Kd.R_mono (Kd.R_far (p := ⟨gb154, 3, none⟩) (Kd.R_far (p := ⟨gb154, 2, none⟩) (Kd.R_far (p := ⟨gb154, 1, none⟩) (Kd.R_far (p := ⟨gb154, 0, none⟩) (Kd.R_types HO_162000.out BK154.out (by decide)) (fun _ hk => hk.2) (.slice Ao101 x162000_2.length co101)) (fun _ hk => hk.2) (.bool true)) (fun _ hk => hk.2) (.string (x5_3.extract 1 x5_3.size))) (fun _ hk => hk.2) (.string (⟨#[]⟩ : ByteArray))) (fun _ hk => trivial), by repeat (first | (with_reducible first | exact HB.out | apply bB_ | apply wN_ | apply bE_ | refine bS_ ?_ GE154.out | refine bS_ ?_ GE161.out) | exact HB.out)⟩
           ·
            rw [if_neg c94] at H
            have c94b0 : ((bt x5_3 0) == 45) = false := beq_eq_false_iff_ne.mpr c94
            have c94b1 : ((bt x5_3 0) != 45) = true := bne_iff_ne.mpr c94
            simp only [Option.some.injEq, Prod.mk.injEq] at H
            obtain ⟨rfl, rfl, rfl, rfl, rfl⟩ := H
            try go_wp2_with (first | ((with_reducible refine gate_callee (f := 39) rfl ?_); refine goesL_ (some 67) rfl rfl Tryd.func39 (by kernel_rfl) rfl #[.string x5_3, .int .u8 43] rfl (by (try simp only [List.map_toArray, List.map_cons, List.map_nil]); first | done | rfl | (rw [mCutL]) | (simp only [List.length_drop, List.length_take]; rfl)) ?_; (with_reducible refine (spec_verPlace.calls k2 x5_3 43 t170 _ A38.out).mono ?_); rintro e w' ⟨rfl, ⟨nd, rfl⟩⟩; refine ⟨_, rfl, ?_⟩; (try (rw [drewN_self wr]; generalize hq_ : World.drewN wr _ = wr; have n0_ : Aside0 (Kd.R (Kd.int .u64) 22 wr w.heap.size (fun _ => True) u162000 x162000_2) := ⟨by rw [← hq_]; exact (by (with_reducible repeat (first | apply kA_ | apply kN_ | apply kD_)); exact HO_162000.out)⟩; have n1_ : Aside0 (Kd.R Kd.string 9 wr w.heap.size (fun _ => True) (.slice Ao17 t156.length co17) t156) := ⟨by rw [← hq_]; exact (by (with_reducible repeat (first | apply kA_ | apply kN_ | apply kD_)); exact HO_4.out)⟩; have n2_ : Aside0 (wr.heap[gb154]? = some (.cells #[.slice none 0 0, .bool x155001_2, .string x155002_2, .string x155003_2] 26 (0, 0))) := ⟨by rw [← hq_]; exact (by (with_reducible repeat (first | refine bN_ ?_ _ | refine bD_ ?_ | refine bA_ ?_ _)); exact BK154.out)⟩; have n3_ : Aside0 (wr.heap[gb161]? = some (.cells #[u162000, .bool true, .string (⟨#[]⟩ : ByteArray), .string (⟨#[]⟩ : ByteArray)] 26 (0, 0))) := ⟨by rw [← hq_]; exact (by (with_reducible repeat (first | refine bN_ ?_ _ | refine bD_ ?_ | refine bA_ ?_ _)); exact BK161.out)⟩; have n4_ : Aside0 (Below w.heap.size w wr) := ⟨by rw [← hq_]; exact (by repeat (first | (with_reducible first | exact HB.out | apply bB_ | apply wN_ | apply bE_ | refine bS_ ?_ GE154.out | refine bS_ ?_ GE161.out) | exact HB.out))⟩; clear HO_162000 HO_4 BK154 BK161 HB hq_; have HO_162000 := n0_; have HO_4 := n1_; have BK154 := n2_; have BK161 := n3_; have HB := n4_; clear n0_ n1_ n2_ n3_ n4_)); have hnb106 := NB161_154.out; have hnc106 := NB154_161.out; have hcz107_0 : wr.cell? ⟨gb161, 0, none⟩ = some (u162000) := (bC_ BK161.out 0).trans rfl; have hcz107_1 : wr.cell? ⟨gb161, 1, none⟩ = some (.bool true) := (bC_ BK161.out 1).trans rfl; have hcz107_2 : wr.cell? ⟨gb161, 2, none⟩ = some (.string (⟨#[]⟩ : ByteArray)) := (bC_ BK161.out 2).trans rfl; have hcz107_3 : wr.cell? ⟨gb161, 3, none⟩ = some (.string (⟨#[]⟩ : ByteArray)) := (bC_ BK161.out 3).trans rfl; have hfz107_0 := bF_ BK161.out 0; have hfz107_1 := bF_ BK161.out 1; have hfz107_2 := bF_ BK161.out 2; have hfz107_3 := bF_ BK161.out 3))
            have n0_ : Aside0 (Kd.R Kd.string 9 (wr.setCell ⟨gb161, 2, none⟩ (.string (x5_3.extract 1 x5_3.size))) w.heap.size (fun _ => True) (.slice Ao17 t156.length co17) t156) := ⟨by (with_reducible repeat (first | apply kA_ | apply kN_ | apply kD_)); exact Kd.R_mono (Kd.R_far (p := ⟨gb161, 2, none⟩) (Kd.R_types HO_4.out BK161.out (by decide)) (fun _ hk => hk.2) (.string (x5_3.extract 1 x5_3.size))) (fun _ hk => trivial)⟩
            have n1_ : Aside0 (Kd.R (Kd.int .u64) 22 (wr.setCell ⟨gb161, 2, none⟩ (.string (x5_3.extract 1 x5_3.size))) w.heap.size (fun _ => True) u162000 x162000_2) := ⟨by (with_reducible repeat (first | apply kA_ | apply kN_ | apply kD_)); exact Kd.R_mono (Kd.R_far (p := ⟨gb161, 2, none⟩) (Kd.R_types HO_162000.out BK161.out (by decide)) (fun _ hk => hk.2) (.string (x5_3.extract 1 x5_3.size))) (fun _ hk => trivial)⟩
            have n2_ : Aside0 ((wr.setCell ⟨gb161, 2, none⟩ (.string (x5_3.extract 1 x5_3.size))).heap[gb154]? = some (.cells #[.slice none 0 0, .bool x155001_2, .string x155002_2, .string x155003_2] 26 (0, 0))) := ⟨by (with_reducible repeat (first | refine bN_ ?_ _ | refine bD_ ?_ | refine bA_ ?_ _)); refine blk_far ?_ NB154_161.out _; (with_reducible repeat (first | refine bN_ ?_ _ | refine bD_ ?_ | refine bA_ ?_ _)); exact BK154.out⟩
            have n3_ : Aside0 ((wr.setCell ⟨gb161, 2, none⟩ (.string (x5_3.extract 1 x5_3.size))).heap[gb161]? = some (.cells #[u162000, .bool true, .string (x5_3.extract 1 x5_3.size), .string (⟨#[]⟩ : ByteArray)] 26 (0, 0))) := ⟨by (with_reducible repeat (first | refine bN_ ?_ _ | refine bD_ ?_ | refine bA_ ?_ _)); refine blk_put (cs := #[u162000, .bool true, .string (⟨#[]⟩ : ByteArray), .string (⟨#[]⟩ : ByteArray)]) ?_ 2 _ rfl; (with_reducible repeat (first | refine bN_ ?_ _ | refine bD_ ?_ | refine bA_ ?_ _)); exact BK161.out⟩
            have n4_ : Aside0 (Below w.heap.size w (wr.setCell ⟨gb161, 2, none⟩ (.string (x5_3.extract 1 x5_3.size)))) := ⟨by repeat (first | (with_reducible first | exact HB.out | apply bB_ | apply wN_ | apply bE_ | refine bS_ ?_ GE154.out | refine bS_ ?_ GE161.out) | exact HB.out)⟩
            (try clear HO_4)
            (try clear HO_162000)
            (try clear BK154)
            (try clear BK161)
            (try clear HB)
            generalize (wr.setCell ⟨gb161, 2, none⟩ (.string (x5_3.extract 1 x5_3.size))) = w108 at n0_ n1_ n2_ n3_ n4_ ⊢
            have HO_4 := n0_
            have HO_162000 := n1_
            have BK154 := n2_
            have BK161 := n3_
            have HB := n4_
            clear n0_ n1_ n2_ n3_ n4_
            have n0_ := aM_ (kD_ HO_4.out)
            have n1_ := aM_ (kD_ HO_162000.out)
            have n2_ := aM_ (bD_ BK154.out)
            have n3_ := aM_ (bD_ BK161.out)
            have n4_ := aM_ (bE_ HB.out)
            clear HO_4
            clear HO_162000
            clear BK154
            clear BK161
            clear HB
            have HO_4 := n0_
            have HO_162000 := n1_
            have BK154 := n2_
            have BK161 := n3_
            have HB := n4_
            clear n0_ n1_ n2_ n3_ n4_
            have p93 : 0 ≤ (0 : Int) := (by omega)
            have q93 : 0 < x5_3.size := (by have : (0 : Int) < (x5_3.size : Int) := of_decide_eq_true (by first | (with_reducible assumption) | assumption); omega)
            have hx93 : ∀ h : 0 < x5_3.size, ((x5_3[0]'h).toNat : Int) = bt x5_3 0 := bt_at x5_3 0
            clear p93
            have qi93 : (0 < (x5_3.size : Int)) = True := eq_true (of_decide_eq_true (by first | (with_reducible assumption) | assumption))
            replace q93 := eq_true q93
            obtain ⟨Ao110, co110, eo110⟩ := Kd.R_slice HO_162000.out
            (first | subst eo110 | (injection eo110 with f1_ f2_ f3_; have f4_ := f1_.symm; have f5_ := f3_.symm; clear f1_ f2_ f3_; subst f4_; subst f5_))
            refine start_ (n := 11) (S := fun w' => w'.cell? ⟨gb161, 0, none⟩ = some (.slice Ao110 x162000_2.length co110) ∧ w'.cell? ⟨gb161, 1, none⟩ = some (.bool true) ∧ w'.cell? ⟨gb161, 2, none⟩ = some (.string (x5_3.extract 1 x5_3.size)) ∧ w'.cell? ⟨gb161, 3, none⟩ = some (.string (⟨#[]⟩ : ByteArray))) (ds := []) #[false, false, false, false, false, false, false, false, false, false, false] (by kernel_rfl) rfl rfl ⟨(bC_ BK161.out 0).trans rfl, (bC_ BK161.out 1).trans rfl, (bC_ BK161.out 2).trans rfl, (bC_ BK161.out 3).trans rfl⟩ (fun hHeld => ?_); refine with_tabW spec_VerSemantic.tab23 spec_VerSemantic.bits23 (fun HT_ HW_ => ?_)
            generalize w108.drew = w109 at HO_4 HO_162000 BK154 BK161 HB hHeld ⊢
            refine pure_ (i := 1) (N := some 90) (v := ?_) (a' := ?_) #[false, true, false, false, false, false, false, false, false, false, false] rfl rfl (any_of HT_.out (by kernel_rfl)) (fun _ _ _ h => h) (Or.inl ⟨by rfl, ?_⟩) ?_ ?_
            rotate_left
            ·
             intro w'
             go_simp
             with_reducible rfl
            rotate_left
            ·
             simp only [Act.put, List.setIfInBounds_toArray, List.set_cons_zero, List.set_cons_succ, i64_w, i32_w]
             rfl
            refine take_ (i := 0) (N := some 89) (v := ?_) (a' := ?_) #[true, true, false, false, false, false, false, false, false, false, false] rfl rfl (take_ofW HT_.out HW_.out (by kernel_rfl)) (fun _ _ _ h => h) (Or.inl ⟨by rfl, ?_⟩) hHeld ?_ ?_
            rotate_left
            ·
             rintro w' ⟨s0, s1, s2, s3⟩
             go_simp
             with_reducible rfl
            rotate_left
            ·
             simp only [Act.put, List.setIfInBounds_toArray, List.set_cons_zero, List.set_cons_succ, i64_w, i32_w]
             rfl
            refine take_ (i := 2) (N := some 91) (v := ?_) (a' := ?_) #[true, true, true, false, false, false, false, false, false, false, false] rfl rfl (take_ofW HT_.out HW_.out (by kernel_rfl)) (fun _ _ _ h => h) (Or.inl ⟨by rfl, ?_⟩) hHeld ?_ ?_
            rotate_left
            ·
             rintro w' ⟨s0, s1, s2, s3⟩
             go_simp
             with_reducible rfl
            rotate_left
            ·
             simp only [Act.put, List.setIfInBounds_toArray, List.set_cons_zero, List.set_cons_succ, i64_w, i32_w]
             rfl
            refine pure_ (i := 3) (N := some 92) (v := ?_) (a' := ?_) #[true, true, true, true, false, false, false, false, false, false, false] rfl rfl (any_of HT_.out (by kernel_rfl)) (fun _ _ _ h => h) (Or.inl ⟨by rfl, ?_⟩) ?_ ?_
            rotate_left
            ·
             intro w'
             go_simp
             with_reducible rfl
            rotate_left
            ·
             simp only [Act.put, List.setIfInBounds_toArray, List.set_cons_zero, List.set_cons_succ, i64_w, i32_w]
             rfl
            refine pure_ (i := 4) (N := some 93) (v := ?_) (a' := ?_) #[true, true, true, true, true, false, false, false, false, false, false] rfl rfl (any_of HT_.out (by kernel_rfl)) (fun _ _ _ h => h) (Or.inl ⟨by rfl, ?_⟩) ?_ ?_
            rotate_left
            ·
             intro w'
             go_simp
             with_reducible rfl
            rotate_left
            ·
             simp only [Act.put, List.setIfInBounds_toArray, List.set_cons_zero, List.set_cons_succ, i64_w, i32_w]
             rfl
            refine pure_ (i := 5) (N := some 94) (v := undef) (a' := ?_) #[true, true, true, true, true, true, false, false, false, false, false] rfl rfl (any_of HT_.out (by kernel_rfl)) (fun _ _ _ h => h) (Or.inr ⟨by rfl, rfl⟩) ?_ ?_
            rotate_left
            ·
             simp only [Act.put, List.setIfInBounds_toArray, List.set_cons_zero, List.set_cons_succ, i64_w, i32_w]
             rfl
            refine pure_ (i := 6) (N := some 95) (v := undef) (a' := ?_) #[true, true, true, true, true, true, true, false, false, false, false] rfl rfl (any_of HT_.out (by kernel_rfl)) (fun _ _ _ h => h) (Or.inr ⟨by rfl, rfl⟩) ?_ ?_
            rotate_left
            ·
             simp only [Act.put, List.setIfInBounds_toArray, List.set_cons_zero, List.set_cons_succ, i64_w, i32_w]
             rfl
            refine pure_ (i := 7) (N := some 96) (v := undef) (a' := ?_) #[true, true, true, true, true, true, true, true, false, false, false] rfl rfl (any_of HT_.out (by kernel_rfl)) (fun _ _ _ h => h) (Or.inr ⟨by rfl, rfl⟩) ?_ ?_
            rotate_left
            ·
             simp only [Act.put, List.setIfInBounds_toArray, List.set_cons_zero, List.set_cons_succ, i64_w, i32_w]
             rfl
            refine pure_ (i := 8) (N := some 97) (v := ?_) (a' := ?_) #[true, true, true, true, true, true, true, true, true, false, false] rfl rfl (any_of HT_.out (by kernel_rfl)) (fun _ _ _ h => h) (Or.inl ⟨by rfl, ?_⟩) ?_ ?_
            rotate_left
            ·
             intro w'
             go_simp
             with_reducible rfl
            rotate_left
            ·
             simp only [Act.put, List.setIfInBounds_toArray, List.set_cons_zero, List.set_cons_succ, i64_w, i32_w]
             rfl
            refine one_ (i := 9) (N := none) #[true, true, true, true, true, true, true, true, true, true, false] rfl rfl (one_of HT_.out (by kernel_rfl)) (by decide) (fun K hK => ?_)
            have hs111 : w109.cell? ⟨gb154, 0, none⟩ = some (.slice none 0 0) := (bC_ BK154.out 0).trans rfl
            have hfs111 := bF_ BK154.out 0
            have hns111_1 := NB161_154.out
            have hms111_1 := NB154_161.out
            have hs112 : w109.cell? ⟨gb154, 1, none⟩ = some (.bool x155001_2) := (bC_ BK154.out 1).trans rfl
            have hfs112 := bF_ BK154.out 1
            have hns112_1 := NB161_154.out
            have hms112_1 := NB154_161.out
            have hs113 : w109.cell? ⟨gb154, 2, none⟩ = some (.string x155002_2) := (bC_ BK154.out 2).trans rfl
            have hfs113 := bF_ BK154.out 2
            have hns113_1 := NB161_154.out
            have hms113_1 := NB154_161.out
            have hs114 : w109.cell? ⟨gb154, 3, none⟩ = some (.string x155003_2) := (bC_ BK154.out 3).trans rfl
            have hfs114 := bF_ BK154.out 3
            have hns114_1 := NB161_154.out
            have hms114_1 := NB154_161.out
            refine skip_ (w1 := ?_) (by rfl) rfl ?_ ?_
            rotate_left
            ·
             go_simp
             rfl
            refine hK.out _ _ ⟨((cell_far (p := ⟨gb154, _, none⟩) NB161_154.out _).trans (((cell_far (p := ⟨gb154, _, none⟩) NB161_154.out _).trans (((cell_far (p := ⟨gb154, _, none⟩) NB161_154.out _).trans (((cell_far (p := ⟨gb154, _, none⟩) NB161_154.out _).trans (hHeld.1)))))))), ((cell_far (p := ⟨gb154, _, none⟩) NB161_154.out _).trans (((cell_far (p := ⟨gb154, _, none⟩) NB161_154.out _).trans (((cell_far (p := ⟨gb154, _, none⟩) NB161_154.out _).trans (((cell_far (p := ⟨gb154, _, none⟩) NB161_154.out _).trans (hHeld.2.1)))))))), ((cell_far (p := ⟨gb154, _, none⟩) NB161_154.out _).trans (((cell_far (p := ⟨gb154, _, none⟩) NB161_154.out _).trans (((cell_far (p := ⟨gb154, _, none⟩) NB161_154.out _).trans (((cell_far (p := ⟨gb154, _, none⟩) NB161_154.out _).trans (hHeld.2.2.1)))))))), ((cell_far (p := ⟨gb154, _, none⟩) NB161_154.out _).trans (((cell_far (p := ⟨gb154, _, none⟩) NB161_154.out _).trans (((cell_far (p := ⟨gb154, _, none⟩) NB161_154.out _).trans (((cell_far (p := ⟨gb154, _, none⟩) NB161_154.out _).trans (hHeld.2.2.2))))))))⟩ (fun hHeld => ?_)
            clear hK K
            refine pure_ (i := 10) (N := some 3) (v := ?_) (a' := ?_) #[true, true, true, true, true, true, true, true, true, true, true] rfl rfl (any_of HT_.out (by kernel_rfl)) (fun _ _ _ h => h) (Or.inl ⟨by rfl, ?_⟩) ?_ ?_
            rotate_left
            ·
             intro w'
             go_simp
             with_reducible rfl
            rotate_left
            ·
             simp only [Act.put, List.setIfInBounds_toArray, List.set_cons_zero, List.set_cons_succ, i64_w, i32_w]
             rfl
            refine done_ (done_of HT_.out (by kernel_rfl)) ?_
            try go_wp2
            refine bodyPost_ret (results_ct rfl _ _ gb154 26 #[.slice Ao110 x162000_2.length co110, .bool true, .string (x5_3.extract 1 x5_3.size), .string (⟨#[]⟩ : ByteArray)] (0, 0) _ rfl (by (with_reducible repeat (first | refine bN_ ?_ _ | refine bD_ ?_ | refine bA_ ?_ _)); refine blk_put (cs := #[.slice Ao110 x162000_2.length co110, .bool true, .string (x5_3.extract 1 x5_3.size), .string x155003_2]) ?_ 3 _ rfl; (with_reducible repeat (first | refine bN_ ?_ _ | refine bD_ ?_ | refine bA_ ?_ _)); refine blk_put (cs := #[.slice Ao110 x162000_2.length co110, .bool true, .string x155002_2, .string x155003_2]) ?_ 2 _ rfl; (with_reducible repeat (first | refine bN_ ?_ _ | refine bD_ ?_ | refine bA_ ?_ _)); refine blk_put (cs := #[.slice Ao110 x162000_2.length co110, .bool x155001_2, .string x155002_2, .string x155003_2]) ?_ 1 _ rfl; (with_reducible repeat (first | refine bN_ ?_ _ | refine bD_ ?_ | refine bA_ ?_ _)); refine blk_put (cs := #[.slice none 0 0, .bool x155001_2, .string x155002_2, .string x155003_2]) ?_ 0 _ rfl; (with_reducible repeat (first | refine bN_ ?_ _ | refine bD_ ?_ | refine bA_ ?_ _)); exact BK154.out) Tryd.underlying26 rfl (by kernel_rfl)) rfl ?_
            exact ⟨_, by first | rfl | (simp [errW_none, errW_some] <;> rfl) | (simp [*, errW_none, errW_some] <;> rfl), by (with_reducible repeat (first | apply kA_ | apply kN_ | apply kD_)); exact Kd.R_mono (Kd.R_far (p := ⟨gb154, 3, none⟩) (Kd.R_far (p := ⟨gb154, 2, none⟩) (Kd.R_far (p := ⟨gb154, 1, none⟩) (Kd.R_far (p := ⟨gb154, 0, none⟩) (Kd.R_types HO_162000.out BK154.out (by decide)) (fun _ hk => hk.2) (.slice Ao110 x162000_2.length co110)) (fun _ hk => hk.2) (.bool true)) (fun _ hk => hk.2) (.string (x5_3.extract 1 x5_3.size))) (fun _ hk => hk.2) (.string (⟨#[]⟩ : ByteArray))) (fun _ hk => trivial), by repeat (first | (with_reducible first | exact HB.out | apply bB_ | apply wN_ | apply bE_ | refine bS_ ?_ GE154.out | refine bS_ ?_ GE161.out) | exact HB.out)⟩
          ·
           rw [if_neg c92] at H
           exact absurd H (by simp)
         ·
          rw [if_neg c91] at H
          exact absurd H (by simp)
   ·
    rw [if_neg c16] at H
    have c16b0 : ((t156.length : Int) == 3) = false := beq_eq_false_iff_ne.mpr c16
    have c16b1 : ((t156.length : Int) != 3) = true := bne_iff_ne.mpr c16
    simp only [Option.some.injEq, Prod.mk.injEq] at H
    obtain ⟨rfl, rfl, rfl, rfl, rfl⟩ := H
    obtain ⟨Ao115, co115, eo115⟩ := Kd.R_slice HO_4.out
    subst eo115
    have hcz116_0 : wc.cell? ⟨gb154, 0, none⟩ = some (.slice none 0 0) := (bC_ BK154.out 0).trans rfl
    have hcz116_1 : wc.cell? ⟨gb154, 1, none⟩ = some (.bool false) := (bC_ BK154.out 1).trans rfl
    have hcz116_2 : wc.cell? ⟨gb154, 2, none⟩ = some (.string (⟨#[]⟩ : ByteArray)) := (bC_ BK154.out 2).trans rfl
    have hcz116_3 : wc.cell? ⟨gb154, 3, none⟩ = some (.string (⟨#[]⟩ : ByteArray)) := (bC_ BK154.out 3).trans rfl
    have hfz116_0 := bF_ BK154.out 0
    have hfz116_1 := bF_ BK154.out 1
    have hfz116_2 := bF_ BK154.out 2
    have hfz116_3 := bF_ BK154.out 3
    go_wp2
    refine bodyPost_ret (results_ct rfl _ _ gb154 26 #[.slice none 0 0, .bool false, .string (⟨#[]⟩ : ByteArray), .string (⟨#[]⟩ : ByteArray)] (0, 0) _ rfl (by (with_reducible repeat (first | refine bN_ ?_ _ | refine bD_ ?_ | refine bA_ ?_ _)); refine blk_put (cs := #[.slice none 0 0, .bool false, .string (⟨#[]⟩ : ByteArray), .string (⟨#[]⟩ : ByteArray)]) ?_ 3 _ rfl; (with_reducible repeat (first | refine bN_ ?_ _ | refine bD_ ?_ | refine bA_ ?_ _)); refine blk_put (cs := #[.slice none 0 0, .bool false, .string (⟨#[]⟩ : ByteArray), .string (⟨#[]⟩ : ByteArray)]) ?_ 2 _ rfl; (with_reducible repeat (first | refine bN_ ?_ _ | refine bD_ ?_ | refine bA_ ?_ _)); refine blk_put (cs := #[.slice none 0 0, .bool false, .string (⟨#[]⟩ : ByteArray), .string (⟨#[]⟩ : ByteArray)]) ?_ 1 _ rfl; (with_reducible repeat (first | refine bN_ ?_ _ | refine bD_ ?_ | refine bA_ ?_ _)); refine blk_put (cs := #[.slice none 0 0, .bool false, .string (⟨#[]⟩ : ByteArray), .string (⟨#[]⟩ : ByteArray)]) ?_ 0 _ rfl; (with_reducible repeat (first | refine bN_ ?_ _ | refine bD_ ?_ | refine bA_ ?_ _)); exact BK154.out) Tryd.underlying26 rfl (by kernel_rfl)) rfl ?_
    exact ⟨_, by first | rfl | (simp [errW_none, errW_some] <;> rfl) | (simp [*, errW_none, errW_some] <;> rfl), by first | exact Kd.R_nil _ _ _ _ _ | exact Kd.N_nil _ _ _ _ _ | exact Kd.V_nil _ _ _ _ _ | exact Kd.Q_nil _ _ _ _ _ | exact Kd.S_nil _ _ _ _ _, by repeat (first | (with_reducible first | exact HB.out | apply bB_ | apply wN_ | apply bE_ | refine bS_ ?_ GE154.out) | exact HB.out)⟩

end Go.Proofs.YtomoefldmgfaoaaDoor.PFnVersionSteps
