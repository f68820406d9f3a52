/- Functions of the program as plain Lean functions, and that the machine's calls do what these say: written for this claim by wip/myprint.py over the kit's print.py. -/
import Derived.Test.YthejejeginnbdaaGreatDoorPFnFieldTermx0
import Derived.Test.YthejejeginnbdaaGreatDoorPFnFieldTermx2
namespace Go.Proofs.YthejejeginnbdaaGreatDoor.PFnFieldTerm
open Go.RowKit Go.Proofs.YthejejeginnbdaaGreatDoorW.PrintWords Go.Proofs.YthejejeginnbdaaGreatDoorW.PrintLast Go.Proofs.YthejejeginnbdaaGreatDoorW.PrintMore
attribute [local go_sem] max2_int min2_int max_two min_two max_three min_three max_four min_four   -- for this text's walks alone
set_option linter.unusedVariables false
set_option linter.unusedSimpArgs false

/-! ### spec_Unescape: function 11 -/
def spec_Unescape.l0 : Nat → ByteArray → ByteArray → Int → Option (ByteArray × Bool)
  | 0, _, _, _ => none
  | k + 1, x0, x4, x5 => if x5 < (x0.size : Int) then (if 0 ≤ x5 then ((spec_fieldSign.f (bt x0 x5)).bind fun t121 => (if t121 = true then (if (bt x0 x5) = 92 then (if (wrap64 (x5 + 1)) = (x0.size : Int) then (some ((⟨#[]⟩ : ByteArray), false)) else (if 0 ≤ (wrap64 (x5 + 1)) then (if (wrap64 (x5 + 1)) < (x0.size : Int) then ((spec_fieldSign.f (bt x0 (wrap64 (x5 + 1)))).bind fun t122 => (if t122 = true then ((some (([bt x0 (wrap64 (x5 + 1))] : List Int) : List Int)).bind fun y123 => (if x4.size + (strOfNums y123).size ≤ 9223372036854775807 then (spec_Unescape.l0 k x0 (x4 ++ (strOfNums y123)) (wrap64 ((wrap64 (x5 + 1)) + 1))) else (none))) else (some ((⟨#[]⟩ : ByteArray), false)))) else (none)) else (none))) else (some ((⟨#[]⟩ : ByteArray), false))) else ((some (([bt x0 x5] : List Int) : List Int)).bind fun y126 => (if x4.size + (strOfNums y126).size ≤ 9223372036854775807 then (spec_Unescape.l0 k x0 (x4 ++ (strOfNums y126)) (wrap64 (x5 + 1))) else (none))))) else (none)) else (some (x4, true))
def spec_Unescape.f (k : Nat) (a0 : ByteArray) : Option (ByteArray × Bool) := spec_Unescape.l0 k a0 (⟨#[]⟩ : ByteArray) 0
theorem spec_Unescape.mono_l : ∀ k, (∀ y0 y1 y2, LeO (spec_Unescape.l0 k y0 y1 y2) (spec_Unescape.l0 (k + 1) y0 y1 y2))
  | 0 => fun _ _ _ r h => by simp [spec_Unescape.l0] at h
  | k + 1 => by
    have ih0 := spec_Unescape.mono_l k
    · intro y0 y1 y2
      unfold spec_Unescape.l0
      repeat' first
      | (with_reducible exact ih0 _ _ _)
      | (with_reducible exact LeO.refl _)
      | (with_reducible exact LeO.none _)
      | (with_reducible refine LeO.ite ?_ ?_)
      | (with_reducible refine LeO.bind ?_ (fun _ => ?_))
      | exact ih0 _ _ _
      | exact LeO.none _
      | refine LeO.ite ?_ ?_
      | refine LeO.bind ?_ (fun _ => ?_)
theorem spec_Unescape.mono : ∀ a0 k, LeO (spec_Unescape.f k a0) (spec_Unescape.f (k + 1) a0) := by
  intro a0 k
  have ih0 := spec_Unescape.mono_l k
  unfold spec_Unescape.f
  repeat' first
      | (with_reducible exact ih0 _ _ _)
      | (with_reducible exact LeO.refl _)
      | (with_reducible exact LeO.none _)
      | (with_reducible refine LeO.ite ?_ ?_)
      | (with_reducible refine LeO.bind ?_ (fun _ => ?_))
      | exact ih0 _ _ _
      | exact LeO.none _
      | refine LeO.ite ?_ ?_
      | refine LeO.bind ?_ (fun _ => ?_)
set_option maxHeartbeats 8000000 in
set_option maxRecDepth 100000 in
theorem spec_Unescape.calls (k : Nat) (a0 : ByteArray) (r1 : ByteArray) (r2 : Bool) (w : World) (h : spec_Unescape.f k a0 = some (r1, r2)) :
    Calls Tryz.prog 11 #[.string a0] w fun e w' => e = .returned (.tuple #[.string r1, .bool r2]) ∧ Below w.heap.size w w' := by
  have HB := Aside0.mk (Below.refl w.heap.size w)
  have H : (spec_Unescape.l0 k a0 (⟨#[]⟩ : ByteArray) 0) = some (r1, r2) := h
  clear h
  have H' := Aside0.mk H
  clear H
  go_enter Tryz.func11, Tryz.ntmps11
  go_wp2
  go_loopg [4, 5] k (fun kq v4 v5 w' => ∃ (x4_1 : ByteArray) (x5_1 : Int), v4 = .string x4_1 ∧ v5 = .int .i64 x5_1 ∧ Aside0 (spec_Unescape.l0 kq a0 x4_1 x5_1 = some (r1, r2)) ∧ Aside0 (kq ≤ k) ∧ Aside0 (Below w.heap.size w w'))
  case atStart => exact ⟨((⟨#[]⟩ : ByteArray)), (0), (by first | rfl | (simp; done) | (simp [*]; done)), (by first | rfl | (simp; done) | (simp [*]; done)), H', ⟨Nat.le_refl _⟩, ⟨by repeat (first | (with_reducible first | exact HB.out | apply below_alloc | apply pw_below_drewN | apply below_drew1) | exact HB.out)⟩⟩
  case round =>
    clear H'
    try clear c1
    obtain ⟨x4_1, x5_1, rfl, rfl, HA, HK1, HB⟩ := hrel
    cases gk with
    | zero => exact absurd HA.out (by simp [spec_Unescape.l0])
    | succ k1 =>
      have H := HA.out
      clear HA
      simp only [spec_Unescape.l0] at H
      by_cases c2 : x5_1 < (a0.size : Int)
      · rw [if_pos c2] at H
        have c2b0 : decide (x5_1 < (a0.size : Int)) = true := decide_eq_true c2
        clear c2
        by_cases c3 : 0 ≤ x5_1
        · rw [if_pos c3] at H
          have c3b0 : decide (0 ≤ x5_1) = true := decide_eq_true c3
          clear c3
          replace H := Option.bind_eq_some_iff.mp H
          obtain ⟨t121, A50, H⟩ := H
          replace H : (if t121 = true then (if (bt a0 x5_1) = 92 then (if (wrap64 (x5_1 + 1)) = (a0.size : Int) then (some ((⟨#[]⟩ : ByteArray), false)) else (if 0 ≤ (wrap64 (x5_1 + 1)) then (if (wrap64 (x5_1 + 1)) < (a0.size : Int) then ((spec_fieldSign.f (bt a0 (wrap64 (x5_1 + 1)))).bind fun t122 => (if t122 = true then ((some (([bt a0 (wrap64 (x5_1 + 1))] : List Int) : List Int)).bind fun y123 => (if x4_1.size + (strOfNums y123).size ≤ 9223372036854775807 then (spec_Unescape.l0 k1 a0 (x4_1 ++ (strOfNums y123)) (wrap64 ((wrap64 (x5_1 + 1)) + 1))) else (none))) else (some ((⟨#[]⟩ : ByteArray), false)))) else (none)) else (none))) else (some ((⟨#[]⟩ : ByteArray), false))) else ((some (([bt a0 x5_1] : List Int) : List Int)).bind fun y126 => (if x4_1.size + (strOfNums y126).size ≤ 9223372036854775807 then (spec_Unescape.l0 k1 a0 (x4_1 ++ (strOfNums y126)) (wrap64 (x5_1 + 1))) else (none)))) = some (r1, r2) := H
          have A5 := Aside0.mk A50
          clear A50
          by_cases c6 : t121 = true
          · subst c6
            have H1 : (if (bt a0 x5_1) = 92 then (if (wrap64 (x5_1 + 1)) = (a0.size : Int) then (some ((⟨#[]⟩ : ByteArray), false)) else (if 0 ≤ (wrap64 (x5_1 + 1)) then (if (wrap64 (x5_1 + 1)) < (a0.size : Int) then ((spec_fieldSign.f (bt a0 (wrap64 (x5_1 + 1)))).bind fun t122 => (if t122 = true then ((some (([bt a0 (wrap64 (x5_1 + 1))] : List Int) : List Int)).bind fun y123 => (if x4_1.size + (strOfNums y123).size ≤ 9223372036854775807 then (spec_Unescape.l0 k1 a0 (x4_1 ++ (strOfNums y123)) (wrap64 ((wrap64 (x5_1 + 1)) + 1))) else (none))) else (some ((⟨#[]⟩ : ByteArray), false)))) else (none)) else (none))) else (some ((⟨#[]⟩ : ByteArray), false))) = some (r1, r2) := by rw [if_pos rfl] at H; exact H
            clear H
            have H := H1
            clear H1
            by_cases c8 : (bt a0 x5_1) = 92
            · rw [if_pos c8] at H
              have c8b0 : ((bt a0 x5_1) == 92) = true := beq_iff_eq.mpr c8
              have c8b1 : ((bt a0 x5_1) != 92) = false := bne_eq_false_iff_eq.mpr c8
              clear c8
              by_cases c9 : (wrap64 (x5_1 + 1)) = (a0.size : Int)
              · rw [if_pos c9] at H
                have c9b0 : ((wrap64 (x5_1 + 1)) == (a0.size : Int)) = true := beq_iff_eq.mpr c9
                have c9b1 : ((wrap64 (x5_1 + 1)) != (a0.size : Int)) = false := bne_eq_false_iff_eq.mpr c9
                clear c9
                simp only [Option.some.injEq, Prod.mk.injEq] at H
                obtain ⟨rfl, rfl⟩ := H
                have p4 : 0 ≤ (x5_1 : Int) := of_decide_eq_true (by first | (with_reducible assumption) | assumption)
                have q4 : x5_1 < (a0.size : Int) := of_decide_eq_true (by first | (with_reducible assumption) | assumption)
                have hx4 := bt_at a0 x5_1
                replace p4 := eq_true p4
                replace q4 := eq_true q4
                go_wp2_with (first | ((with_reducible refine gate_callee (f := 23) rfl ?_); refine goesL_ (some 15) rfl rfl Tryz.func23 (by kernel_rfl) rfl #[.int .u8 (bt a0 x5_1)] rfl (by (try simp only [List.map_toArray, List.map_cons, List.map_nil]); first | done | rfl | (simp only [List.length_drop, List.length_take]; rfl)) ?_; (with_reducible refine (spec_fieldSign.calls (bt a0 x5_1) true _ A5.out).mono ?_); rintro e w' ⟨rfl, ⟨nd, rfl⟩⟩; refine ⟨_, rfl, ?_⟩; have p7 : 0 ≤ (x5_1 : Int) := of_decide_eq_true (by first | (with_reducible assumption) | assumption); have q7 : x5_1 < (a0.size : Int) := of_decide_eq_true (by first | (with_reducible assumption) | assumption); have hx7 := bt_at a0 x5_1; replace p7 := eq_true p7; replace q7 := eq_true q7))
                go_ret2
                exact ⟨by first | rfl | (simp [errW_none, errW_some] <;> rfl) | (simp [*, errW_none, errW_some] <;> rfl) | (exfalso; contradiction), by repeat (first | (with_reducible first | exact HB.out | apply below_alloc | apply pw_below_drewN | apply below_drew1) | exact HB.out)⟩
              · rw [if_neg c9] at H
                have c9b0 : ((wrap64 (x5_1 + 1)) == (a0.size : Int)) = false := beq_eq_false_iff_ne.mpr c9
                have c9b1 : ((wrap64 (x5_1 + 1)) != (a0.size : Int)) = true := bne_iff_ne.mpr c9
                obtain ⟨ji10, hji10⟩ : ∃ j_ : Int, (wrap64 (x5_1 + 1)) = j_ := ⟨_, rfl⟩
                replace H : (if 0 ≤ (ji10) then (if (ji10) < (a0.size : Int) then ((spec_fieldSign.f (bt a0 (ji10))).bind fun t122 => (if t122 = true then ((some (([bt a0 (ji10)] : List Int) : List Int)).bind fun y123 => (if x4_1.size + (strOfNums y123).size ≤ 9223372036854775807 then (spec_Unescape.l0 k1 a0 (x4_1 ++ (strOfNums y123)) (wrap64 ((ji10) + 1))) else (none))) else (some ((⟨#[]⟩ : ByteArray), false)))) else (none)) else (none)) = some (r1, r2) := by first | (rw [hji10] at H; exact H) | (simp only [hji10] at H ⊢; exact H)
                (try rw [hji10] at c9b0)
                (try rw [hji10] at c9b1)
                (try rw [hji10] at A5)
                have hji10w : (IntKind.i64.wrap (x5_1 + 1)) = ji10 := (i64_w _).trans hji10
                by_cases c11 : 0 ≤ (ji10)
                · rw [if_pos c11] at H
                  have c11b0 : decide (0 ≤ (ji10)) = true := decide_eq_true c11
                  clear c11
                  by_cases c12 : (ji10) < (a0.size : Int)
                  · rw [if_pos c12] at H
                    have c12b0 : decide ((ji10) < (a0.size : Int)) = true := decide_eq_true c12
                    clear c12
                    replace H := Option.bind_eq_some_iff.mp H
                    obtain ⟨t122, A140, H⟩ := H
                    replace H : (if t122 = true then ((some (([bt a0 (ji10)] : List Int) : List Int)).bind fun y123 => (if x4_1.size + (strOfNums y123).size ≤ 9223372036854775807 then (spec_Unescape.l0 k1 a0 (x4_1 ++ (strOfNums y123)) (wrap64 ((ji10) + 1))) else (none))) else (some ((⟨#[]⟩ : ByteArray), false))) = some (r1, r2) := H
                    have A14 := Aside0.mk A140
                    clear A140
                    by_cases c15 : t122 = true
                    · subst c15
                      have H1 : ((some (([bt a0 (ji10)] : List Int) : List Int)).bind fun y123 => (if x4_1.size + (strOfNums y123).size ≤ 9223372036854775807 then (spec_Unescape.l0 k1 a0 (x4_1 ++ (strOfNums y123)) (wrap64 ((ji10) + 1))) else (none))) = some (r1, r2) := by rw [if_pos rfl] at H; exact H
                      clear H
                      have H := H1
                      clear H1
                      obtain ⟨y123, hy123⟩ : ∃ y_ : List Int, y_ = (([bt a0 (ji10)] : List Int)) := ⟨_, rfl⟩
                      replace H : (if x4_1.size + (strOfNums y123).size ≤ 9223372036854775807 then (spec_Unescape.l0 k1 a0 (x4_1 ++ (strOfNums y123)) (wrap64 ((ji10) + 1))) else (none)) = some (r1, r2) := by first | (rw [hy123]; with_reducible exact H) | (have H2_ := (Option.bind_some _ _).symm.trans H; rw [hy123]; with_reducible exact H2_) | (have H2_ := (Option.bind_some _ _).symm.trans H; with_reducible exact H2_) | with_reducible exact H | (rw [hy123]; exact H) | exact H
                      have Ny123 := Aside0.mk hy123
                      clear hy123
                      by_cases c17 : x4_1.size + (strOfNums y123).size ≤ 9223372036854775807
                      · rw [if_pos c17] at H
                        have c17b0 := eq_true c17
                        have c17b1 : decide (x4_1.size + (strOfNums y123).size ≤ 9223372036854775807) = true := decide_eq_true c17
                        try have c17b2 : (9223372036854775807 < x4_1.size + (strOfNums y123).size) = False := eq_false (Nat.not_lt.2 c17)
                        have H' := Aside0.mk H
                        clear H
                        have p4 : 0 ≤ (x5_1 : Int) := of_decide_eq_true (by first | (with_reducible assumption) | assumption)
                        have q4 : x5_1 < (a0.size : Int) := of_decide_eq_true (by first | (with_reducible assumption) | assumption)
                        have hx4 := bt_at a0 x5_1
                        replace p4 := eq_true p4
                        replace q4 := eq_true q4
                        go_wp2_with (first | ((with_reducible refine gate_callee (f := 23) rfl ?_); refine goesL_ (some 15) rfl rfl Tryz.func23 (by kernel_rfl) rfl #[.int .u8 (bt a0 x5_1)] rfl (by (try simp only [List.map_toArray, List.map_cons, List.map_nil]); first | done | rfl | (simp only [List.length_drop, List.length_take]; rfl)) ?_; (with_reducible refine (spec_fieldSign.calls (bt a0 x5_1) true _ A5.out).mono ?_); rintro e w' ⟨rfl, ⟨nd, rfl⟩⟩; refine ⟨_, rfl, ?_⟩; have p7 : 0 ≤ (x5_1 : Int) := of_decide_eq_true (by first | (with_reducible assumption) | assumption); have q7 : x5_1 < (a0.size : Int) := of_decide_eq_true (by first | (with_reducible assumption) | assumption); have hx7 := bt_at a0 x5_1; replace p7 := eq_true p7; replace q7 := eq_true q7; have p13 : 0 ≤ ((ji10) : Int) := of_decide_eq_true (by first | (with_reducible assumption) | assumption); have q13 : (ji10) < (a0.size : Int) := of_decide_eq_true (by first | (with_reducible assumption) | assumption); have hx13 := bt_at a0 (ji10); replace p13 := eq_true p13; replace q13 := eq_true q13) | (go_at_call 23; (with_reducible refine (spec_fieldSign.calls (bt a0 (ji10)) true _ A14.out).mono ?_); rintro e w' ⟨rfl, ⟨nd, rfl⟩⟩; have p16 : 0 ≤ ((ji10) : Int) := of_decide_eq_true (by first | (with_reducible assumption) | assumption); have q16 : (ji10) < (a0.size : Int) := of_decide_eq_true (by first | (with_reducible assumption) | assumption); have hx16 := bt_at a0 (ji10); replace p16 := eq_true p16; replace q16 := eq_true q16) | ((with_reducible refine gate_dst (N := 41) rfl ?_); (try (refine gate_guard (by rfl) ?_; dsimp only)); refine Kd.R_lit (Kd.int .u8) _ 5 ?hg (N := 41) ?hd (xs := ([bt a0 (ji10)] : List Int)) (inner := [.int .u8 (bt a0 (ji10))]) (ok := fun _ => True) (okp := fun _ => True) ?hr ?hp (fun _ hk => hk) trivial (Below.refl _ _) (Nat.le_refl _) (by simp) ?_; (case hd => rfl); (case hg => rfl); (case hr => first | (go_simp; done) | (go_simp; rfl)); (case hp => exact (Reps.one (show Kd.M (Kd.int .u8) _ _ _ (bt a0 (ji10)) [.int .u8 (bt a0 (ji10))] from rfl) (Reps.none _ _))); intro v124 w18 ho19 hb hg_ hnew_; clear hg_ hnew_; (first | rw [← Ny123.out] at ho19 | (simp only [Int.reduceToNat] at ho19; rw [← Ny123.out] at ho19)); have n0_ := Aside0.mk (Kd.R_lower ho19 (below_size (by repeat (first | (with_reducible first | exact HB.out | apply below_alloc | apply pw_below_drewN | apply below_drew1) | exact HB.out)))); have n1_ := Aside0.mk (below_step (by repeat (first | (with_reducible first | exact HB.out | apply below_alloc | apply pw_below_drewN | apply below_drew1) | exact HB.out)) hb); clear HB; have HO125 := n0_; have HB := n1_; clear n0_ n1_; clear hb ho19; have hcv20 := own_string (P := Tryz.prog) Tryz.underlying58 Tryz.underlying5 Tryz.underlying9 (Kd.own_of_R HO125.out); have hcv20d := (fun nd_ => own_string (P := Tryz.prog) Tryz.underlying58 Tryz.underlying5 Tryz.underlying9 (Kd.own_of_R (Kd.R_drewN HO125.out nd_)))))
                        go_roundg k1
                        case measure => have := HK1.out; omega
                        case rel => exact ⟨(x4_1 ++ (strOfNums y123)), (wrap64 ((ji10) + 1)), (by first | rfl | (simp; done) | (simp [*]; done)), (by first | rfl | (simp; done) | (simp only [← hji10] <;> (first | rfl | simp)) | (simp [*]; done)), H', ⟨by have := HK1.out; omega⟩, ⟨by repeat (first | (with_reducible first | exact HB.out | apply below_alloc | apply pw_below_drewN | apply below_drew1) | exact HB.out)⟩⟩
                      · rw [if_neg c17] at H
                        exact absurd H (by simp)
                    · replace c15 := Bool.eq_false_iff.mpr c15
                      subst c15
                      have H1 : (some ((⟨#[]⟩ : ByteArray), false)) = some (r1, r2) := by rw [if_neg (show ¬ (false = true) by decide)] at H; exact H
                      clear H
                      have H := H1
                      clear H1
                      simp only [Option.some.injEq, Prod.mk.injEq] at H
                      obtain ⟨rfl, rfl⟩ := H
                      have p4 : 0 ≤ (x5_1 : Int) := of_decide_eq_true (by first | (with_reducible assumption) | assumption)
                      have q4 : x5_1 < (a0.size : Int) := of_decide_eq_true (by first | (with_reducible assumption) | assumption)
                      have hx4 := bt_at a0 x5_1
                      replace p4 := eq_true p4
                      replace q4 := eq_true q4
                      go_wp2_with (first | ((with_reducible refine gate_callee (f := 23) rfl ?_); refine goesL_ (some 15) rfl rfl Tryz.func23 (by kernel_rfl) rfl #[.int .u8 (bt a0 x5_1)] rfl (by (try simp only [List.map_toArray, List.map_cons, List.map_nil]); first | done | rfl | (simp only [List.length_drop, List.length_take]; rfl)) ?_; (with_reducible refine (spec_fieldSign.calls (bt a0 x5_1) true _ A5.out).mono ?_); rintro e w' ⟨rfl, ⟨nd, rfl⟩⟩; refine ⟨_, rfl, ?_⟩; have p7 : 0 ≤ (x5_1 : Int) := of_decide_eq_true (by first | (with_reducible assumption) | assumption); have q7 : x5_1 < (a0.size : Int) := of_decide_eq_true (by first | (with_reducible assumption) | assumption); have hx7 := bt_at a0 x5_1; replace p7 := eq_true p7; replace q7 := eq_true q7; have p13 : 0 ≤ ((ji10) : Int) := of_decide_eq_true (by first | (with_reducible assumption) | assumption); have q13 : (ji10) < (a0.size : Int) := of_decide_eq_true (by first | (with_reducible assumption) | assumption); have hx13 := bt_at a0 (ji10); replace p13 := eq_true p13; replace q13 := eq_true q13) | (go_at_call 23; (with_reducible refine (spec_fieldSign.calls (bt a0 (ji10)) false _ A14.out).mono ?_); rintro e w' ⟨rfl, ⟨nd, rfl⟩⟩))
                      go_ret2
                      exact ⟨by first | rfl | (simp [errW_none, errW_some] <;> rfl) | (simp only [← hji10]; first | rfl | (simp [errW_none, errW_some] <;> rfl)) | (simp [*, errW_none, errW_some] <;> rfl), by repeat (first | (with_reducible first | exact HB.out | apply below_alloc | apply pw_below_drewN | apply below_drew1) | exact HB.out)⟩
                  · rw [if_neg c12] at H
                    exact absurd H (by simp)
                · rw [if_neg c11] at H
                  exact absurd H (by simp)
            · rw [if_neg c8] at H
              have c8b0 : ((bt a0 x5_1) == 92) = false := beq_eq_false_iff_ne.mpr c8
              have c8b1 : ((bt a0 x5_1) != 92) = true := bne_iff_ne.mpr c8
              simp only [Option.some.injEq, Prod.mk.injEq] at H
              obtain ⟨rfl, rfl⟩ := H
              have p4 : 0 ≤ (x5_1 : Int) := of_decide_eq_true (by first | (with_reducible assumption) | assumption)
              have q4 : x5_1 < (a0.size : Int) := of_decide_eq_true (by first | (with_reducible assumption) | assumption)
              have hx4 := bt_at a0 x5_1
              replace p4 := eq_true p4
              replace q4 := eq_true q4
              go_wp2_with (first | ((with_reducible refine gate_callee (f := 23) rfl ?_); refine goesL_ (some 15) rfl rfl Tryz.func23 (by kernel_rfl) rfl #[.int .u8 (bt a0 x5_1)] rfl (by (try simp only [List.map_toArray, List.map_cons, List.map_nil]); first | done | rfl | (simp only [List.length_drop, List.length_take]; rfl)) ?_; (with_reducible refine (spec_fieldSign.calls (bt a0 x5_1) true _ A5.out).mono ?_); rintro e w' ⟨rfl, ⟨nd, rfl⟩⟩; refine ⟨_, rfl, ?_⟩; have p7 : 0 ≤ (x5_1 : Int) := of_decide_eq_true (by first | (with_reducible assumption) | assumption); have q7 : x5_1 < (a0.size : Int) := of_decide_eq_true (by first | (with_reducible assumption) | assumption); have hx7 := bt_at a0 x5_1; replace p7 := eq_true p7; replace q7 := eq_true q7))
              go_ret2
              exact ⟨by first | rfl | (simp [errW_none, errW_some] <;> rfl) | (simp [*, errW_none, errW_some] <;> rfl) | (exfalso; contradiction), by repeat (first | (with_reducible first | exact HB.out | apply below_alloc | apply pw_below_drewN | apply below_drew1) | exact HB.out)⟩
          · replace c6 := Bool.eq_false_iff.mpr c6
            subst c6
            have H1 : ((some (([bt a0 x5_1] : List Int) : List Int)).bind fun y126 => (if x4_1.size + (strOfNums y126).size ≤ 9223372036854775807 then (spec_Unescape.l0 k1 a0 (x4_1 ++ (strOfNums y126)) (wrap64 (x5_1 + 1))) else (none))) = some (r1, r2) := by rw [if_neg (show ¬ (false = true) by decide)] at H; exact H
            clear H
            have H := H1
            clear H1
            obtain ⟨y126, hy126⟩ : ∃ y_ : List Int, y_ = (([bt a0 x5_1] : List Int)) := ⟨_, rfl⟩
            replace H : (if x4_1.size + (strOfNums y126).size ≤ 9223372036854775807 then (spec_Unescape.l0 k1 a0 (x4_1 ++ (strOfNums y126)) (wrap64 (x5_1 + 1))) else (none)) = some (r1, r2) := by first | (rw [hy126]; with_reducible exact H) | (have H2_ := (Option.bind_some _ _).symm.trans H; rw [hy126]; with_reducible exact H2_) | (have H2_ := (Option.bind_some _ _).symm.trans H; with_reducible exact H2_) | with_reducible exact H | (rw [hy126]; exact H) | exact H
            have Ny126 := Aside0.mk hy126
            clear hy126
            by_cases c22 : x4_1.size + (strOfNums y126).size ≤ 9223372036854775807
            · rw [if_pos c22] at H
              have c22b0 := eq_true c22
              have c22b1 : decide (x4_1.size + (strOfNums y126).size ≤ 9223372036854775807) = true := decide_eq_true c22
              try have c22b2 : (9223372036854775807 < x4_1.size + (strOfNums y126).size) = False := eq_false (Nat.not_lt.2 c22)
              have H' := Aside0.mk H
              clear H
              have p4 : 0 ≤ (x5_1 : Int) := of_decide_eq_true (by first | (with_reducible assumption) | assumption)
              have q4 : x5_1 < (a0.size : Int) := of_decide_eq_true (by first | (with_reducible assumption) | assumption)
              have hx4 := bt_at a0 x5_1
              replace p4 := eq_true p4
              replace q4 := eq_true q4
              go_wp2_with (first | ((with_reducible refine gate_callee (f := 23) rfl ?_); refine goesL_ (some 15) rfl rfl Tryz.func23 (by kernel_rfl) rfl #[.int .u8 (bt a0 x5_1)] rfl (by (try simp only [List.map_toArray, List.map_cons, List.map_nil]); first | done | rfl | (simp only [List.length_drop, List.length_take]; rfl)) ?_; (with_reducible refine (spec_fieldSign.calls (bt a0 x5_1) false _ A5.out).mono ?_); rintro e w' ⟨rfl, ⟨nd, rfl⟩⟩; refine ⟨_, rfl, ?_⟩; have p21 : 0 ≤ (x5_1 : Int) := of_decide_eq_true (by first | (with_reducible assumption) | assumption); have q21 : x5_1 < (a0.size : Int) := of_decide_eq_true (by first | (with_reducible assumption) | assumption); have hx21 := bt_at a0 x5_1; replace p21 := eq_true p21; replace q21 := eq_true q21) | ((with_reducible refine gate_dst (N := 41) rfl ?_); (try (refine gate_guard (by rfl) ?_; dsimp only)); refine Kd.R_lit (Kd.int .u8) _ 5 ?hg (N := 41) ?hd (xs := ([bt a0 x5_1] : List Int)) (inner := [.int .u8 (bt a0 x5_1)]) (ok := fun _ => True) (okp := fun _ => True) ?hr ?hp (fun _ hk => hk) trivial (Below.refl _ _) (Nat.le_refl _) (by simp) ?_; (case hd => rfl); (case hg => rfl); (case hr => first | (go_simp; done) | (go_simp; rfl)); (case hp => exact (Reps.one (show Kd.M (Kd.int .u8) _ _ _ (bt a0 x5_1) [.int .u8 (bt a0 x5_1)] from rfl) (Reps.none _ _))); intro v127 w23 ho24 hb hg_ hnew_; clear hg_ hnew_; (first | rw [← Ny126.out] at ho24 | (simp only [Int.reduceToNat] at ho24; rw [← Ny126.out] at ho24)); have n0_ := Aside0.mk (Kd.R_lower ho24 (below_size (by repeat (first | (with_reducible first | exact HB.out | apply below_alloc | apply pw_below_drewN | apply below_drew1) | exact HB.out)))); have n1_ := Aside0.mk (below_step (by repeat (first | (with_reducible first | exact HB.out | apply below_alloc | apply pw_below_drewN | apply below_drew1) | exact HB.out)) hb); clear HB; have HO128 := n0_; have HB := n1_; clear n0_ n1_; clear hb ho24; have hcv25 := own_string (P := Tryz.prog) Tryz.underlying58 Tryz.underlying5 Tryz.underlying9 (Kd.own_of_R HO128.out); have hcv25d := (fun nd_ => own_string (P := Tryz.prog) Tryz.underlying58 Tryz.underlying5 Tryz.underlying9 (Kd.own_of_R (Kd.R_drewN HO128.out nd_)))))
              go_roundg k1
              case measure => have := HK1.out; omega
              case rel => exact ⟨(x4_1 ++ (strOfNums y126)), (wrap64 (x5_1 + 1)), (by first | rfl | (simp; done) | (simp [*]; done)), (by first | rfl | (simp; done) | (simp [*]; done)), H', ⟨by have := HK1.out; omega⟩, ⟨by repeat (first | (with_reducible first | exact HB.out | apply below_alloc | apply pw_below_drewN | apply below_drew1) | exact HB.out)⟩⟩
            · rw [if_neg c22] at H
              exact absurd H (by simp)
        · rw [if_neg c3] at H
          exact absurd H (by simp)
      · rw [if_neg c2] at H
        have c2b0 : decide (x5_1 < (a0.size : Int)) = false := decide_eq_false c2
        clear c2
        simp only [Option.some.injEq, Prod.mk.injEq] at H
        obtain ⟨rfl, rfl⟩ := H
        go_wp2
        go_ret2
        exact ⟨by first | rfl | (simp [errW_none, errW_some] <;> rfl) | (simp [*, errW_none, errW_some] <;> rfl) | (exfalso; contradiction), by repeat (first | (with_reducible first | exact HB.out | apply below_alloc | apply pw_below_drewN | apply below_drew1) | exact HB.out)⟩

/-! ### errors_New: function 29 -/
set_option maxHeartbeats 1000000 in
theorem errors_New.calls (s : ByteArray) (w : World) :
    Calls Tryz.prog 29 #[.string s] w fun e w' => (∃ x, e = .returned (.iface 83 x)) ∧ Below w.heap.size w w' := by
  have hu1 := Tryz.underlying85
  go_enter Tryz.func29, Tryz.ntmps29
  go_wp2_with fail
  go_ret
  exact ⟨⟨_, rfl⟩, by repeat (first | (with_reducible exact Below.refl _ _) | apply below_alloc | apply pw_below_drewN | apply below_drew1)⟩
/-! ### fields_splitTerms: function 32 -/
theorem fields_splitTerms.info : (Tryz.prog.info? 9).map (fun i => (i.zero, i.size, i.bytes)) = some (some (.string ⟨#[]⟩), 1, 16) := by kernel_rfl
def spl (s : ByteArray) : Nat → List ByteArray → Nat → Bool → Nat → Option (List ByteArray)
  | 0, _, _, _, _ => none
  | k + 1, ts, st, sl, pos =>
    if pos < s.size then
      if sl = true then spl s k ts st false (pos + (Utf8.decode s pos).2)
      else if (Utf8.decode s pos).1 = 92 then spl s k ts st true (pos + (Utf8.decode s pos).2)
      else if (Utf8.decode s pos).1 = 44 then (if st ≤ pos ∧ ts.length < 8796093022207 then spl s k (ts ++ [s.extract st pos]) (pos + 1) false (pos + (Utf8.decode s pos).2) else none)
      else spl s k ts st false (pos + (Utf8.decode s pos).2)
    else if st ≤ s.size ∧ ts.length < 8796093022207 then some (ts ++ [s.extract st s.size]) else none
theorem spl_mono (s : ByteArray) : ∀ k ts st sl pos, LeO (spl s k ts st sl pos) (spl s (k + 1) ts st sl pos) := by
  intro k
  induction k with
  | zero => intros; exact LeO.none _
  | succ k ih =>
    intro ts st sl pos
    show LeO (spl s (k + 1) ts st sl pos) (spl s (k + 1 + 1) ts st sl pos)
    unfold spl
    exact LeO.ite (LeO.ite (ih _ _ _ _) (LeO.ite (ih _ _ _ _) (LeO.ite (LeO.ite (ih _ _ _ _) (LeO.none _)) (ih _ _ _ _)))) (LeO.refl _)
def fields_splitTerms.f (k : Nat) (a0 : ByteArray) : Option (List ByteArray) := if a0.size = 0 then some [] else if a0.size ≤ 9223372036854775806 then spl a0 k [] 0 false 0 else none
theorem fields_splitTerms.mono : ∀ a0 k, LeO (fields_splitTerms.f k a0) (fields_splitTerms.f (k + 1) a0) := by
  intro a0 k
  unfold fields_splitTerms.f
  exact LeO.ite (LeO.refl _) (LeO.ite (spl_mono _ _ _ _ _ _) (LeO.refl _))
set_option maxHeartbeats 4000000 in
theorem fields_splitTerms.calls (k : Nat) (a0 : ByteArray) (r : List ByteArray) (w : World) (h : fields_splitTerms.f k a0 = some r) :
    Calls Tryz.prog 32 #[.string a0] w fun e w' => ∃ v0_ : Value, e = .returned (v0_) ∧ Kd.R Kd.string 9 w' w.heap.size (fun _ => True) v0_ r ∧ Below w.heap.size w w' := by
  unfold fields_splitTerms.f at h
  by_cases h0 : a0.size = 0
  · rw [if_pos h0] at h
    obtain rfl := Option.some.inj h
    have e0 : ((a0.size : Int) == 0) = true := beq_iff_eq.2 (by omega)
    clear h h0
    go_enter Tryz.func32, Tryz.ntmps32
    go_wp2_with fail
    go_ret
    exact ⟨_, rfl, Kd.R_nil _ _ _ _ _, Below.refl _ _⟩
  · rw [if_neg h0] at h
    have e0 : ((a0.size : Int) == 0) = false := beq_eq_false_iff_ne.2 (by omega)
    by_cases h1 : a0.size ≤ 9223372036854775806
    · rw [if_pos h1] at h
      have HS := Aside0.mk h1
      have H' := Aside0.mk h
      clear h h0 h1
      have hmk : ∀ w0 : World, (Instr.makeSlice 63 (.int .i64 0) (.int .i64 1)).run Tryz.prog w0 = .ok (.slice (some ⟨w0.heap.size, 0, none⟩) 0 1) (w0.alloc (.cells #[.string ⟨#[]⟩] 9)) := by
        intro w0
        obtain ⟨i0, hi, hzz⟩ := Option.map_eq_some_iff.1 fields_splitTerms.info
        simp only [Prod.mk.injEq] at hzz
        obtain ⟨hz0, hz1, hz2⟩ := hzz
        have := run_make (P := Tryz.prog) w0 63 9 i0 (.string ⟨#[]⟩) Tryz.underlying63 hi hz0 .i64 .i64 0 1 (by omega) (by omega) (by rw [hz2]; omega) (by omega)
        rw [this, hz1]; have ar : Array.range 1 = #[0] := (by decide); simp [madeCells, Value.cells, ar]
      have hmk' := hmk w
      clear hmk
      go_enter Tryz.func32, Tryz.ntmps32
      go_wp2_with fail
      have HR : Aside0 (Kd.R Kd.string 9 (w.alloc (.cells #[.string ⟨#[]⟩] 9)) w.heap.size (fun q => q ≠ w.heap.size + 1) (.slice (some ⟨w.heap.size, 0, none⟩) 0 1) []) := ⟨by
        refine ⟨fun q hq => by simp [Value.ownBlock] at hq; omega, [], ⟨rfl, Or.inr ⟨w.heap.size, 1, #[.string ⟨#[]⟩], rfl, Nat.le_refl _, blk_new w _, by simp, by decide, rfl, rfl⟩⟩, Reps.none _ _⟩⟩
      go_loopg [3, 4, 5] k (fun kq v3 v4 v5 w' => ∃ (xs : List ByteArray) (st : Nat) (sl : Bool) (pos : Nat), v4 = .int .i64 (st : Int) ∧ v5 = .bool sl ∧ Aside0 (spl a0 kq xs st sl pos = some r) ∧ Aside0 (kq ≤ k) ∧ Aside0 (Kd.R Kd.string 9 w' w.heap.size (fun q => q ≠ w.heap.size + 1) v3 xs) ∧ Aside0 (Below w.heap.size w w') ∧ Aside0 (w'.heap[w.heap.size + 1]? = some (.stringIter a0 pos)))
      case atStart => exact ⟨[], 0, false, 0, rfl, rfl, H', ⟨Nat.le_refl _⟩, ⟨Kd.R_alloc HR.out _⟩, ⟨below_alloc (below_alloc (Below.refl _ _) _) _⟩, ⟨by have h := World.iter_heap (w.alloc (.cells #[.string ⟨#[]⟩] 9)) a0 0; have e : (w.alloc (.cells #[.string ⟨#[]⟩] 9)).heap.size = w.heap.size + 1 := (by simp); rw [e] at h; exact h⟩⟩
      case round =>
        clear H' HR hmk'
        obtain ⟨xs, st, sl, pos, rfl, rfl, HA, HK1, HR, HB, HI⟩ := hrel
        cases gk with
        | zero => exact absurd HA.out (by simp [spl])
        | succ k1 =>
          have H := HA.out
          clear HA
          simp only [spl] at H
          have IL : Aside0 (w.heap.size + 1 < wr.heap.size) := ⟨blk_lt HI.out⟩
          by_cases c1 : pos < a0.size
          · rw [if_pos c1] at H
            have hnx := fun ty => Lib.run_next_any_at (P := Tryz.prog) wr (w.heap.size + 1) a0 pos ty HI.out c1
            have RI : Aside0 (Kd.R Kd.string 9 (wr.iterAt (w.heap.size + 1) a0 (pos + (Utf8.decode a0 pos).2)) w.heap.size (fun q => q ≠ w.heap.size + 1) u3 xs) := ⟨Kd.R_step HR.out (fun q hq _ => Lib.iterAt_other wr _ q _ _ hq)⟩
            have BI : Aside0 (Below w.heap.size w (wr.iterAt (w.heap.size + 1) a0 (pos + (Utf8.decode a0 pos).2))) := ⟨Lib.below_iterAt HB.out (Nat.le_succ _) _ _⟩
            have II : Aside0 ((wr.iterAt (w.heap.size + 1) a0 (pos + (Utf8.decode a0 pos).2)).heap[w.heap.size + 1]? = some (.stringIter a0 (pos + (Utf8.decode a0 pos).2))) := ⟨Lib.iterAt_heap _ _ _ _ _ HI.out⟩
            have ZL : Aside0 (w.heap.size + 1 < (wr.iterAt (w.heap.size + 1) a0 (pos + (Utf8.decode a0 pos).2)).heap.size) := ⟨blk_lt II.out⟩
            clear HR HB HI
            cases sl with
            | true =>
              rw [if_pos rfl] at H
              have H' := Aside0.mk H
              clear H
              go_wp2_with fail
              go_roundg k1
              case measure => have := HK1.out; omega
              case rel => exact ⟨xs, st, false, _, rfl, rfl, H', ⟨by have := HK1.out; omega⟩, ⟨RI.out⟩, ⟨BI.out⟩, ⟨II.out⟩⟩
            | false =>
              rw [if_neg (by simp)] at H
              by_cases c2 : (Utf8.decode a0 pos).1 = 92
              · rw [if_pos c2] at H
                have H' := Aside0.mk H
                clear H
                have e2 : (((Utf8.decode a0 pos).1 : Int) == 92) = true := beq_iff_eq.2 (by omega)
                clear c2
                go_wp2_with fail
                go_roundg k1
                case measure => have := HK1.out; omega
                case rel => exact ⟨xs, st, true, _, rfl, rfl, H', ⟨by have := HK1.out; omega⟩, ⟨RI.out⟩, ⟨BI.out⟩, ⟨II.out⟩⟩
              · rw [if_neg c2] at H
                have e2 : (((Utf8.decode a0 pos).1 : Int) == 92) = false := beq_eq_false_iff_ne.2 (by omega)
                clear c2
                by_cases c3 : (Utf8.decode a0 pos).1 = 44
                · rw [if_pos c3] at H
                  have e3 : (((Utf8.decode a0 pos).1 : Int) == 44) = true := beq_iff_eq.2 (by omega)
                  clear c3
                  by_cases c4 : st ≤ pos ∧ xs.length < 8796093022207
                  · rw [if_pos c4] at H
                    have H' := Aside0.mk H
                    clear H
                    have LM : Aside0 (xs.length < 8796093022207) := ⟨c4.2⟩
                    have p1 : (0 ≤ (st : Int)) = True := eq_true (by omega)
                    have p2 : ((st : Int) ≤ (pos : Int)) = True := eq_true (by omega)
                    have p3 : ((pos : Int) ≤ (a0.size : Int)) = True := eq_true (by omega)
                    have p4 : st ≤ pos := c4.1
                    have p5 : pos ≤ a0.size := by omega
                    have hw : wrap64 ((pos : Int) + 1) = ((pos + 1 : Nat) : Int) := by have := HS.out; simp only [wrap64]; omega
                    have hw' := Aside0.mk hw
                    clear c4 hw
                    obtain ⟨Ao, co, eo⟩ := Kd.R_slice RI.out
                    subst eo
                    go_wp2_with (first | ((with_reducible refine gate_builtin (b := .append) (xs := #[.tmp 26, .tmp 31]) rfl ?_); at_builtin; refine Kd.R_append Kd.string (w0 := w) w.heap.size rfl (.tmp 26) (.tmp 31) 63 9 (.string ⟨#[]⟩) 16 rfl Tryz.underlying63 fields_splitTerms.info rfl (by decide) (by omega) (.slice Ao xs.length co) xs (a0.extract st pos) [.string (a0.extract st pos)] (fun q => q ≠ w.heap.size + 1) (fun _ => False) rfl rfl ?aP (fun _ hk => hk.elim) ?aF ?aO ?aB ?aS ?aL ?_; (case aP => exact rfl); (case aB => exact BI.out); (case aF => intro q hq; have z1 := ZL.out; omega); (case aO => exact RI.out); (case aS => exact below_size BI.out); (case aL => have := LM.out; omega); intro v9 w9 ho hb hg hat))
                    have RO := Aside0.mk ho
                    have BO := Aside0.mk hb
                    have IO : Aside0 (w9.heap[w.heap.size + 1]? = some (.stringIter a0 (pos + (Utf8.decode a0 pos).2))) := ⟨blk_grown II.out hg (Kd.R_away RI.out (fun q hq => hq)).symm.symm⟩
                    clear ho hb hg hat RI BI II
                    go_wp2_with fail
                    rw [hw'.out]
                    go_roundg k1
                    case measure => have := HK1.out; omega
                    case rel => exact ⟨_, pos + 1, false, _, rfl, rfl, H', ⟨by have := HK1.out; omega⟩, RO, BO, IO⟩
                  · rw [if_neg c4] at H
                    simp at H
                · rw [if_neg c3] at H
                  have H' := Aside0.mk H
                  clear H
                  have e3 : (((Utf8.decode a0 pos).1 : Int) == 44) = false := beq_eq_false_iff_ne.2 (by omega)
                  clear c3
                  go_wp2_with fail
                  go_roundg k1
                  case measure => have := HK1.out; omega
                  case rel => exact ⟨xs, st, false, _, rfl, rfl, H', ⟨by have := HK1.out; omega⟩, ⟨RI.out⟩, ⟨BI.out⟩, ⟨II.out⟩⟩
          · rw [if_neg c1] at H
            have hnx := fun ty => Lib.run_next_end_at (P := Tryz.prog) wr (w.heap.size + 1) a0 pos ty HI.out c1
            by_cases c4 : st ≤ a0.size ∧ xs.length < 8796093022207
            · rw [if_pos c4] at H
              obtain rfl := Option.some.inj H
              clear H
              have LM : Aside0 (xs.length < 8796093022207) := ⟨c4.2⟩
              have p1 : (0 ≤ (st : Int)) = True := eq_true (by omega)
              have p2 : ((st : Int) ≤ (a0.size : Int)) = True := eq_true (by omega)
              have p4 : st ≤ a0.size := c4.1
              clear c4
              obtain ⟨Ao, co, eo⟩ := Kd.R_slice HR.out
              subst eo
              go_wp2_with (first | ((with_reducible refine gate_builtin (b := .append) (xs := #[.tmp 35, .tmp 39]) rfl ?_); at_builtin; refine Kd.R_append Kd.string (w0 := w) w.heap.size rfl (.tmp 35) (.tmp 39) 63 9 (.string ⟨#[]⟩) 16 rfl Tryz.underlying63 fields_splitTerms.info rfl (by decide) (by omega) (.slice Ao xs.length co) xs (a0.extract st a0.size) [.string (a0.extract st a0.size)] (fun q => q ≠ w.heap.size + 1) (fun _ => False) rfl rfl ?aP (fun _ hk => hk.elim) ?aF ?aO ?aB ?aS ?aL ?_; (case aP => exact rfl); (case aB => exact HB.out); (case aF => intro q hq; have z1 := IL.out; omega); (case aO => exact HR.out); (case aS => exact below_size HB.out); (case aL => have := LM.out; omega); intro v9 w9 ho hb hg hat))
              have RO := Aside0.mk ho
              have BO := Aside0.mk hb
              clear ho hb hg hat HR HB HI
              go_wp2_with fail
              go_ret
              exact ⟨_, rfl, Kd.R_mono RO.out (fun _ _ => trivial), BO.out⟩
            · rw [if_neg c4] at H
              simp at H
    · rw [if_neg h1] at h
      simp at h
-- NOT PRINTED: function 51 (bits_Len32)

-- NOT PRINTED: function 52 (bits_Len64)

-- NOT PRINTED: function 43 (bits_Len)

-- NOT PRINTED: function 53 (sort_insertionSort)

-- NOT PRINTED: function 65 (sort_siftDown)

-- NOT PRINTED: function 54 (sort_heapSort)

-- NOT PRINTED: function 66 (sort_nextPowerOfTwo)

-- NOT PRINTED: function 67 (sort_xorshift_Next)

-- NOT PRINTED: function 55 (sort_breakPatterns)

-- NOT PRINTED: function 71 (sort_order2)

-- NOT PRINTED: function 69 (sort_median)

-- NOT PRINTED: function 68 (sort_medianAdjacent)

-- NOT PRINTED: function 56 (sort_choosePivot)

-- NOT PRINTED: function 57 (sort_reverseRange)

-- NOT PRINTED: function 58 (sort_partialInsertionSort)

-- NOT PRINTED: function 59 (sort_partitionEqual)

-- NOT PRINTED: function 60 (sort_partition)

-- NOT PRINTED: function 44 (sort_pdqsort)

-- NOT PRINTED: function 37 (sort_Sort)

-- NOT PRINTED: function 33 (sort_StringSlice_Sort)

/-! ### stringslite_HasPrefix: function 45 -/
def stringslite_HasPrefix.f (a0 : ByteArray) (a1 : ByteArray) : Option (Bool) := if (a0.size : Int) ≥ (a1.size : Int) then (if 0 ≤ (a1.size : Int) then (if (a1.size : Int) ≤ (a0.size : Int) then (some ((a0.extract 0 ((a1.size : Int) : Int).toNat).toList == a1.toList)) else (none)) else (none)) else (some false)
set_option maxHeartbeats 8000000 in
set_option maxRecDepth 100000 in
theorem stringslite_HasPrefix.calls (a0 : ByteArray) (a1 : ByteArray) (r : Bool) (w : World) (h : stringslite_HasPrefix.f a0 a1 = some r) :
    Calls Tryz.prog 45 #[.string a0, .string a1] w fun e w' => e = .returned (.bool r) ∧ Drawn0 w w' := by
  have H : (if (a0.size : Int) ≥ (a1.size : Int) then (if 0 ≤ (a1.size : Int) then (if (a1.size : Int) ≤ (a0.size : Int) then (some ((a0.extract 0 ((a1.size : Int) : Int).toNat).toList == a1.toList)) else (none)) else (none)) else (some false)) = some r := h
  clear h
  by_cases c3 : (a0.size : Int) ≥ (a1.size : Int)
  · rw [if_pos c3] at H
    have c3b0 : decide ((a1.size : Int) ≤ (a0.size : Int)) = true := decide_eq_true c3
    have c3b1 : decide (a1.size ≤ a0.size) = true := decide_eq_true (Int.ofNat_le.mp c3)
    clear c3
    by_cases c4 : 0 ≤ (a1.size : Int)
    · rw [if_pos c4] at H
      have c4b0 := eq_true c4
      have c4b1 : decide (0 ≤ (a1.size : Int)) = true := decide_eq_true c4
      clear c4
      by_cases c5 : (a1.size : Int) ≤ (a0.size : Int)
      · rw [if_pos c5] at H
        have c5b0 := eq_true c5
        have c5b1 : decide ((a1.size : Int) ≤ (a0.size : Int)) = true := decide_eq_true c5
        clear c5
        obtain rfl := Option.some.inj H
        go_enter Tryz.func45, Tryz.ntmps45
        go_wp2
        go_ret
        exact ⟨by first | rfl | (simp; done) | (simp [*]; done), by repeat (first | exact Drawn0.refl _ | apply Drawn0.step)⟩
      · rw [if_neg c5] at H
        exact absurd H (by simp)
    · rw [if_neg c4] at H
      exact absurd H (by simp)
  · rw [if_neg c3] at H
    have c3b0 : decide ((a1.size : Int) ≤ (a0.size : Int)) = false := decide_eq_false c3
    have c3b1 : decide (a1.size ≤ a0.size) = false := decide_eq_false (fun h => c3 (Int.ofNat_le.mpr h))
    clear c3
    obtain rfl := Option.some.inj H
    go_enter Tryz.func45, Tryz.ntmps45
    go_wp2
    go_ret
    exact ⟨by first | rfl | (simp; done) | (simp [*]; done), by repeat (first | exact Drawn0.refl _ | apply Drawn0.step)⟩

/-! ### strings_HasPrefix: function 38 -/
def strings_HasPrefix.f (a0 : ByteArray) (a1 : ByteArray) : Option (Bool) := (stringslite_HasPrefix.f a0 a1).bind fun t129 => (some t129)
set_option maxHeartbeats 8000000 in
set_option maxRecDepth 100000 in
theorem strings_HasPrefix.calls (a0 : ByteArray) (a1 : ByteArray) (r : Bool) (w : World) (h : strings_HasPrefix.f a0 a1 = some r) :
    Calls Tryz.prog 38 #[.string a0, .string a1] w fun e w' => e = .returned (.bool r) ∧ Drawn0 w w' := by
  have H : ((stringslite_HasPrefix.f a0 a1).bind fun t129 => (some t129)) = some r := h
  clear h
  replace H := Option.bind_eq_some_iff.mp H
  obtain ⟨t129, A30, H⟩ := H
  replace H : (some t129) = some r := H
  have A3 := Aside0.mk A30
  clear A30
  obtain rfl := Option.some.inj H
  go_enter Tryz.func38, Tryz.ntmps38
  go_wp2_with (first | ((with_reducible refine gate_callee (f := 45) rfl ?_); refine goesL_ (some 7) rfl rfl Tryz.func45 (by kernel_rfl) rfl #[.string a0, .string a1] rfl (by (try simp only [List.map_toArray, List.map_cons, List.map_nil]); first | done | rfl | (simp only [List.length_drop, List.length_take]; rfl)) ?_; (with_reducible refine (stringslite_HasPrefix.calls a0 a1 t129 _ A3.out).mono ?_); rintro e w' ⟨rfl, ⟨nd, rfl⟩⟩; refine ⟨_, rfl, ?_⟩))
  go_ret
  exact ⟨by first | rfl | (simp; done) | (simp [*]; done), by repeat (first | exact Drawn0.refl _ | apply Drawn0.step)⟩

-- NOT PRINTED: function 34 (fields_splitTerm)

-- NOT PRINTED: function 46 (fields_zzIndexAny)

-- NOT PRINTED: function 39 (fields_zzContainsAny)

-- NOT PRINTED: function 40 (bytes_NewBuffer)

-- NOT PRINTED: function 48 (bytes_Buffer_tryGrowByReslice)

-- NOT PRINTED: function 61 (bytes_Buffer_Len)

-- NOT PRINTED: function 62 (bytes_Buffer_Reset)

-- NOT PRINTED: function 63 (bytes_growSlice)

-- NOT PRINTED: function 49 (bytes_Buffer_grow)

-- NOT PRINTED: function 47 (bytes_Buffer_WriteByte)

-- NOT PRINTED: function 64 (utf8_appendRuneNonASCII)

-- NOT PRINTED: function 50 (utf8_AppendRune)

-- NOT PRINTED: function 41 (bytes_Buffer_WriteRune)

-- NOT PRINTED: function 42 (bytes_Buffer_String)

-- NOT PRINTED: function 35 (fields_UnescapeValue)

-- NOT PRINTED: function 36 (fields_andTerm_Transform)

-- NOT PRINTED: function 30 (fields_parseSelector)

-- NOT PRINTED: function 24 (fields_ParseSelector)

-- NOT PRINTED: function 12 (impl_FieldParse)

-- NOT PRINTED: function 3 (laws_FnFieldTerm)

end Go.Proofs.YthejejeginnbdaaGreatDoor.PFnFieldTerm
