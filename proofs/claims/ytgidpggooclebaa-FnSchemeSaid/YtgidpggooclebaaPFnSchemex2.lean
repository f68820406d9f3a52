/- Functions of the program as plain Lean functions, and that the machine's calls do what these say: written for this claim by wip/myprint.py over the kit's print.py. -/
import Derived.Test.YtgidpggooclebaaPFnSchemex0
import Derived.Test.YtgidpggooclebaaPFnSchemex1
namespace Go.Proofs.Ytgidpggooclebaa.PFnScheme
open Go.RowKit Go.Proofs.YtgidpggooclebaaW.PrintWords Go.Proofs.YtgidpggooclebaaW.PrintLast Go.Proofs.YtgidpggooclebaaW.PrintMore
attribute [local go_sem] max2_int min2_int max_two min_two max_three min_three max_four min_four   -- for this text's walks alone
set_option linter.unusedVariables false
set_option linter.unusedSimpArgs false

/-! ### spec_SchemeParts: function 22 -/
def spec_SchemeParts.f (k : Nat) (a0 : ByteArray) : Option (ByteArray × ByteArray × ByteArray × Bool) := (spec_Split.f k a0 58).bind fun t132 => (if (t132.length : Int) = 1 then (if 0 < (t132.length : Int) then ((spec_SchemeMay.f k (⟨#[]⟩ : ByteArray) (rdOf ByteArray.empty t132 0) (⟨#[]⟩ : ByteArray)).bind fun t136 => (some ((⟨#[]⟩ : ByteArray), rdOf ByteArray.empty t132 0, (⟨#[]⟩ : ByteArray), t136))) else (none)) else (if (t132.length : Int) = 2 then (if 0 < (t132.length : Int) then (if 1 < (t132.length : Int) then ((spec_SchemeMay.f k (⟨#[]⟩ : ByteArray) (rdOf ByteArray.empty t132 0) (rdOf ByteArray.empty t132 1)).bind fun t139 => (some ((⟨#[]⟩ : ByteArray), rdOf ByteArray.empty t132 0, rdOf ByteArray.empty t132 1, t139))) else (none)) else (none)) else (if (t132.length : Int) = 3 then (if 0 < (t132.length : Int) then (if 1 < (t132.length : Int) then (if 2 < (t132.length : Int) then ((spec_SchemeMay.f k (rdOf ByteArray.empty t132 0) (rdOf ByteArray.empty t132 1) (rdOf ByteArray.empty t132 2)).bind fun t143 => (some (rdOf ByteArray.empty t132 0, rdOf ByteArray.empty t132 1, rdOf ByteArray.empty t132 2, t143))) else (none)) else (none)) else (none)) else (some ((⟨#[]⟩ : ByteArray), (⟨#[]⟩ : ByteArray), (⟨#[]⟩ : ByteArray), false)))))
theorem spec_SchemeParts.mono : ∀ a0 k, LeO (spec_SchemeParts.f k a0) (spec_SchemeParts.f (k + 1) a0) := by
  intro a0 k
  unfold spec_SchemeParts.f
  repeat' first
      | (with_reducible exact spec_SchemeMay.mono _ _ _ _)
      | (with_reducible exact spec_Split.mono _ _ _)
      | (with_reducible exact LeO.refl _)
      | (with_reducible exact LeO.none _)
      | (with_reducible refine LeO.ite ?_ ?_)
      | (with_reducible refine LeO.bind ?_ (fun _ => ?_))
      | exact spec_SchemeMay.mono _ _ _ _
      | exact spec_Split.mono _ _ _
      | exact LeO.none _
      | refine LeO.ite ?_ ?_
      | refine LeO.bind ?_ (fun _ => ?_)
set_option maxHeartbeats 8000000 in
set_option maxRecDepth 100000 in
theorem spec_SchemeParts.calls (k : Nat) (a0 : ByteArray) (r1 : ByteArray) (r2 : ByteArray) (r3 : ByteArray) (r4 : Bool) (w : World) (h : spec_SchemeParts.f k a0 = some (r1, r2, r3, r4)) :
    Calls Try.prog 22 #[.string a0] w fun e w' => e = .returned (.tuple #[.string r1, .string r2, .string r3, .bool r4]) ∧ Below w.heap.size w w' := by
  have HB := Aside0.mk (Below.refl w.heap.size w)
  have H : ((spec_Split.f k a0 58).bind fun t132 => (if (t132.length : Int) = 1 then (if 0 < (t132.length : Int) then ((spec_SchemeMay.f k (⟨#[]⟩ : ByteArray) (rdOf ByteArray.empty t132 0) (⟨#[]⟩ : ByteArray)).bind fun t136 => (some ((⟨#[]⟩ : ByteArray), rdOf ByteArray.empty t132 0, (⟨#[]⟩ : ByteArray), t136))) else (none)) else (if (t132.length : Int) = 2 then (if 0 < (t132.length : Int) then (if 1 < (t132.length : Int) then ((spec_SchemeMay.f k (⟨#[]⟩ : ByteArray) (rdOf ByteArray.empty t132 0) (rdOf ByteArray.empty t132 1)).bind fun t139 => (some ((⟨#[]⟩ : ByteArray), rdOf ByteArray.empty t132 0, rdOf ByteArray.empty t132 1, t139))) else (none)) else (none)) else (if (t132.length : Int) = 3 then (if 0 < (t132.length : Int) then (if 1 < (t132.length : Int) then (if 2 < (t132.length : Int) then ((spec_SchemeMay.f k (rdOf ByteArray.empty t132 0) (rdOf ByteArray.empty t132 1) (rdOf ByteArray.empty t132 2)).bind fun t143 => (some (rdOf ByteArray.empty t132 0, rdOf ByteArray.empty t132 1, rdOf ByteArray.empty t132 2, t143))) else (none)) else (none)) else (none)) else (some ((⟨#[]⟩ : ByteArray), (⟨#[]⟩ : ByteArray), (⟨#[]⟩ : ByteArray), false)))))) = some (r1, r2, r3, r4) := h
  clear h
  replace H := Option.bind_eq_some_iff.mp H
  obtain ⟨t132, A20, H⟩ := H
  replace H : (if (t132.length : Int) = 1 then (if 0 < (t132.length : Int) then ((spec_SchemeMay.f k (⟨#[]⟩ : ByteArray) (rdOf ByteArray.empty t132 0) (⟨#[]⟩ : ByteArray)).bind fun t136 => (some ((⟨#[]⟩ : ByteArray), rdOf ByteArray.empty t132 0, (⟨#[]⟩ : ByteArray), t136))) else (none)) else (if (t132.length : Int) = 2 then (if 0 < (t132.length : Int) then (if 1 < (t132.length : Int) then ((spec_SchemeMay.f k (⟨#[]⟩ : ByteArray) (rdOf ByteArray.empty t132 0) (rdOf ByteArray.empty t132 1)).bind fun t139 => (some ((⟨#[]⟩ : ByteArray), rdOf ByteArray.empty t132 0, rdOf ByteArray.empty t132 1, t139))) else (none)) else (none)) else (if (t132.length : Int) = 3 then (if 0 < (t132.length : Int) then (if 1 < (t132.length : Int) then (if 2 < (t132.length : Int) then ((spec_SchemeMay.f k (rdOf ByteArray.empty t132 0) (rdOf ByteArray.empty t132 1) (rdOf ByteArray.empty t132 2)).bind fun t143 => (some (rdOf ByteArray.empty t132 0, rdOf ByteArray.empty t132 1, rdOf ByteArray.empty t132 2, t143))) else (none)) else (none)) else (none)) else (some ((⟨#[]⟩ : ByteArray), (⟨#[]⟩ : ByteArray), (⟨#[]⟩ : ByteArray), false))))) = some (r1, r2, r3, r4) := H
  have A2 := Aside0.mk A20
  clear A20
  by_cases c3 : (t132.length : Int) = 1
  · rw [if_pos c3] at H
    have c3b0 : ((t132.length : Int) == 1) = true := beq_iff_eq.mpr c3
    have c3b1 : ((t132.length : Int) != 1) = false := bne_eq_false_iff_eq.mpr c3
    clear c3
    by_cases c4 : 0 < (t132.length : Int)
    · rw [if_pos c4] at H
      have c4b0 : decide (0 < (t132.length : Int)) = true := decide_eq_true c4
      have c4b1 : decide (0 < t132.length) = true := decide_eq_true (by omega)
      clear c4
      replace H := Option.bind_eq_some_iff.mp H
      obtain ⟨t136, A50, H⟩ := H
      replace H : (some ((⟨#[]⟩ : ByteArray), rdOf ByteArray.empty t132 0, (⟨#[]⟩ : ByteArray), t136)) = some (r1, r2, r3, r4) := H
      have A5 := Aside0.mk A50
      clear A50
      simp only [Option.some.injEq, Prod.mk.injEq] at H
      obtain ⟨rfl, rfl, rfl, rfl⟩ := H
      go_enter Try.func22, Try.ntmps22
      go_wp2_with (first | (go_at_call 20; (with_reducible refine (spec_Split.calls k a0 58 t132 _ A2.out).mono ?_); rintro e w6 ⟨v133, rfl, ho0, hb⟩; have n0_ := Aside0.mk (Kd.R_lower ho0 (below_size (by repeat (first | (with_reducible first | exact HB.out | apply below_alloc | apply pw_below_drewN | apply below_drew1) | exact HB.out)))); have n1_ := Aside0.mk (below_step (by repeat (first | (with_reducible first | exact HB.out | apply below_alloc | apply pw_below_drewN | apply below_drew1) | exact HB.out)) hb); clear HB; have HO134 := n0_; have HB := n1_; clear n0_ n1_; (try clear hb); (try clear hb2); (try clear hk); (try clear hi); (try clear ho0); obtain ⟨Ao7, co7, eo7⟩ := Kd.R_slice HO134.out; subst eo7; have p135 : 0 ≤ (0 : Int) := (by omega); have q135 : 0 < (t132.length : Int) := of_decide_eq_true (by first | (with_reducible assumption) | assumption); obtain ⟨ad135, e135, hx135_0⟩ := Kd.at_string (Kd.R_reads' HO134.out).2.2 0 p135 q135; cases e135; have qi135 : (0 < t132.length) = True := eq_true (by omega); (try rw [show ((0 : Int)).toNat = 0 from rfl] at hx135_0); (try rw [Addr.add_zero'] at hx135_0); replace p135 := eq_true p135; replace q135 := eq_true q135) | (go_at_call 32; (with_reducible refine (spec_SchemeMay.calls k (⟨#[]⟩ : ByteArray) (rdOf ByteArray.empty t132 0) (⟨#[]⟩ : ByteArray) t136 _ A5.out).mono ?_); rintro e w8 ⟨rfl, hb⟩; have n0_ := Aside0.mk (Kd.R_below (by (with_reducible repeat (first | apply Kd.R_alloc | apply Kd.R_drewN | apply Kd.R_drew)); exact HO134.out) hb); have n1_ := Aside0.mk (below_step (by repeat (first | (with_reducible first | exact HB.out | apply below_alloc | apply pw_below_drewN | apply below_drew1) | exact HB.out)) hb); clear HO134; clear HB; have HO134 := n0_; have HB := n1_; clear n0_ n1_; (try clear hb); (try clear hb2); (try clear hk); (try clear hi)))
      repeat (go_quiet (first | (go_at_call 20; (with_reducible refine (spec_Split.calls k a0 58 t132 _ A2.out).mono ?_); rintro e w6 ⟨v133, rfl, ho0, hb⟩; have n0_ := Aside0.mk (Kd.R_lower ho0 (below_size (by repeat (first | (with_reducible first | exact HB.out | apply below_alloc | apply pw_below_drewN | apply below_drew1) | exact HB.out)))); have n1_ := Aside0.mk (below_step (by repeat (first | (with_reducible first | exact HB.out | apply below_alloc | apply pw_below_drewN | apply below_drew1) | exact HB.out)) hb); clear HB; have HO134 := n0_; have HB := n1_; clear n0_ n1_; (try clear hb); (try clear hb2); (try clear hk); (try clear hi); (try clear ho0); obtain ⟨Ao7, co7, eo7⟩ := Kd.R_slice HO134.out; subst eo7; have p135 : 0 ≤ (0 : Int) := (by omega); have q135 : 0 < (t132.length : Int) := of_decide_eq_true (by first | (with_reducible assumption) | assumption); obtain ⟨ad135, e135, hx135_0⟩ := Kd.at_string (Kd.R_reads' HO134.out).2.2 0 p135 q135; cases e135; have qi135 : (0 < t132.length) = True := eq_true (by omega); (try rw [show ((0 : Int)).toNat = 0 from rfl] at hx135_0); (try rw [Addr.add_zero'] at hx135_0); replace p135 := eq_true p135; replace q135 := eq_true q135) | (go_at_call 32; (with_reducible refine (spec_SchemeMay.calls k (⟨#[]⟩ : ByteArray) (rdOf ByteArray.empty t132 0) (⟨#[]⟩ : ByteArray) t136 _ A5.out).mono ?_); rintro e w8 ⟨rfl, hb⟩; have n0_ := Aside0.mk (Kd.R_below (by (with_reducible repeat (first | apply Kd.R_alloc | apply Kd.R_drewN | apply Kd.R_drew)); exact HO134.out) hb); have n1_ := Aside0.mk (below_step (by repeat (first | (with_reducible first | exact HB.out | apply below_alloc | apply pw_below_drewN | apply below_drew1) | exact HB.out)) hb); clear HO134; clear HB; have HO134 := n0_; have HB := n1_; clear n0_ n1_; (try clear hb); (try clear hb2); (try clear hk); (try clear hi))); try go_wp2_with (first | (go_at_call 20; (with_reducible refine (spec_Split.calls k a0 58 t132 _ A2.out).mono ?_); rintro e w6 ⟨v133, rfl, ho0, hb⟩; have n0_ := Aside0.mk (Kd.R_lower ho0 (below_size (by repeat (first | (with_reducible first | exact HB.out | apply below_alloc | apply pw_below_drewN | apply below_drew1) | exact HB.out)))); have n1_ := Aside0.mk (below_step (by repeat (first | (with_reducible first | exact HB.out | apply below_alloc | apply pw_below_drewN | apply below_drew1) | exact HB.out)) hb); clear HB; have HO134 := n0_; have HB := n1_; clear n0_ n1_; (try clear hb); (try clear hb2); (try clear hk); (try clear hi); (try clear ho0); obtain ⟨Ao7, co7, eo7⟩ := Kd.R_slice HO134.out; subst eo7; have p135 : 0 ≤ (0 : Int) := (by omega); have q135 : 0 < (t132.length : Int) := of_decide_eq_true (by first | (with_reducible assumption) | assumption); obtain ⟨ad135, e135, hx135_0⟩ := Kd.at_string (Kd.R_reads' HO134.out).2.2 0 p135 q135; cases e135; have qi135 : (0 < t132.length) = True := eq_true (by omega); (try rw [show ((0 : Int)).toNat = 0 from rfl] at hx135_0); (try rw [Addr.add_zero'] at hx135_0); replace p135 := eq_true p135; replace q135 := eq_true q135) | (go_at_call 32; (with_reducible refine (spec_SchemeMay.calls k (⟨#[]⟩ : ByteArray) (rdOf ByteArray.empty t132 0) (⟨#[]⟩ : ByteArray) t136 _ A5.out).mono ?_); rintro e w8 ⟨rfl, hb⟩; have n0_ := Aside0.mk (Kd.R_below (by (with_reducible repeat (first | apply Kd.R_alloc | apply Kd.R_drewN | apply Kd.R_drew)); exact HO134.out) hb); have n1_ := Aside0.mk (below_step (by repeat (first | (with_reducible first | exact HB.out | apply below_alloc | apply pw_below_drewN | apply below_drew1) | exact HB.out)) hb); clear HO134; clear HB; have HO134 := n0_; have HB := n1_; clear n0_ n1_; (try clear hb); (try clear hb2); (try clear hk); (try clear hi))))
      refine bodyPost_ret (results_list (rs := [.tmp 2, .tmp 3, .tmp 4, .tmp 5]) rfl (by simp) (.tmp (.tmp (.tmp (.tmp .nil))))) rfl ?_
      exact ⟨by first | rfl | (simp [errW_none, errW_some] <;> rfl) | (simp [*, errW_none, errW_some] <;> rfl) | (exfalso; contradiction), by repeat (first | (with_reducible first | exact HB.out | apply below_alloc | apply pw_below_drewN | apply below_drew1) | exact HB.out)⟩
    · rw [if_neg c4] at H
      exact absurd H (by simp)
  · rw [if_neg c3] at H
    have c3b0 : ((t132.length : Int) == 1) = false := beq_eq_false_iff_ne.mpr c3
    have c3b1 : ((t132.length : Int) != 1) = true := bne_iff_ne.mpr c3
    by_cases c9 : (t132.length : Int) = 2
    · rw [if_pos c9] at H
      have c9b0 : ((t132.length : Int) == 2) = true := beq_iff_eq.mpr c9
      have c9b1 : ((t132.length : Int) != 2) = false := bne_eq_false_iff_eq.mpr c9
      clear c9
      by_cases c10 : 0 < (t132.length : Int)
      · rw [if_pos c10] at H
        have c10b0 : decide (0 < (t132.length : Int)) = true := decide_eq_true c10
        have c10b1 : decide (0 < t132.length) = true := decide_eq_true (by omega)
        clear c10
        by_cases c11 : 1 < (t132.length : Int)
        · rw [if_pos c11] at H
          have c11b0 : decide (1 < (t132.length : Int)) = true := decide_eq_true c11
          have c11b1 : decide (1 < t132.length) = true := decide_eq_true (by omega)
          clear c11
          replace H := Option.bind_eq_some_iff.mp H
          obtain ⟨t139, A120, H⟩ := H
          replace H : (some ((⟨#[]⟩ : ByteArray), rdOf ByteArray.empty t132 0, rdOf ByteArray.empty t132 1, t139)) = some (r1, r2, r3, r4) := H
          have A12 := Aside0.mk A120
          clear A120
          simp only [Option.some.injEq, Prod.mk.injEq] at H
          obtain ⟨rfl, rfl, rfl, rfl⟩ := H
          go_enter Try.func22, Try.ntmps22
          go_wp2_with (first | (go_at_call 20; (with_reducible refine (spec_Split.calls k a0 58 t132 _ A2.out).mono ?_); rintro e w13 ⟨v133, rfl, ho0, hb⟩; have n0_ := Aside0.mk (Kd.R_lower ho0 (below_size (by repeat (first | (with_reducible first | exact HB.out | apply below_alloc | apply pw_below_drewN | apply below_drew1) | exact HB.out)))); have n1_ := Aside0.mk (below_step (by repeat (first | (with_reducible first | exact HB.out | apply below_alloc | apply pw_below_drewN | apply below_drew1) | exact HB.out)) hb); clear HB; have HO134 := n0_; have HB := n1_; clear n0_ n1_; (try clear hb); (try clear hb2); (try clear hk); (try clear hi); (try clear ho0); obtain ⟨Ao14, co14, eo14⟩ := Kd.R_slice HO134.out; subst eo14; have p137 : 0 ≤ (0 : Int) := (by omega); have q137 : 0 < (t132.length : Int) := of_decide_eq_true (by first | (with_reducible assumption) | assumption); obtain ⟨ad137, e137, hx137_0⟩ := Kd.at_string (Kd.R_reads' HO134.out).2.2 0 p137 q137; cases e137; have qi137 : (0 < t132.length) = True := eq_true (by omega); (try rw [show ((0 : Int)).toNat = 0 from rfl] at hx137_0); (try rw [Addr.add_zero'] at hx137_0); replace p137 := eq_true p137; replace q137 := eq_true q137; have p138 : 0 ≤ (1 : Int) := (by omega); have q138 : 1 < (t132.length : Int) := of_decide_eq_true (by first | (with_reducible assumption) | assumption); obtain ⟨ad138, e138, hx138_0⟩ := Kd.at_string (Kd.R_reads' HO134.out).2.2 1 p138 q138; obtain rfl : ad137 = ad138 := (by injection e138); (try simp only [show (1 : Int).toNat = 1 from rfl, Nat.reduceMul, Nat.reduceEqDiff, Go.Addr.add, ↓reduceIte] at hx138_0); have qi138 : (1 < t132.length) = True := eq_true (by omega); (try rw [show ((1 : Int)).toNat = 1 from rfl] at hx138_0); replace p138 := eq_true p138; replace q138 := eq_true q138) | (go_at_call 32; (with_reducible refine (spec_SchemeMay.calls k (⟨#[]⟩ : ByteArray) (rdOf ByteArray.empty t132 0) (rdOf ByteArray.empty t132 1) t139 _ A12.out).mono ?_); rintro e w15 ⟨rfl, hb⟩; have n0_ := Aside0.mk (Kd.R_below (by (with_reducible repeat (first | apply Kd.R_alloc | apply Kd.R_drewN | apply Kd.R_drew)); exact HO134.out) hb); have n1_ := Aside0.mk (below_step (by repeat (first | (with_reducible first | exact HB.out | apply below_alloc | apply pw_below_drewN | apply below_drew1) | exact HB.out)) hb); clear HO134; clear HB; have HO134 := n0_; have HB := n1_; clear n0_ n1_; (try clear hb); (try clear hb2); (try clear hk); (try clear hi)))
          repeat (go_quiet (first | (go_at_call 20; (with_reducible refine (spec_Split.calls k a0 58 t132 _ A2.out).mono ?_); rintro e w13 ⟨v133, rfl, ho0, hb⟩; have n0_ := Aside0.mk (Kd.R_lower ho0 (below_size (by repeat (first | (with_reducible first | exact HB.out | apply below_alloc | apply pw_below_drewN | apply below_drew1) | exact HB.out)))); have n1_ := Aside0.mk (below_step (by repeat (first | (with_reducible first | exact HB.out | apply below_alloc | apply pw_below_drewN | apply below_drew1) | exact HB.out)) hb); clear HB; have HO134 := n0_; have HB := n1_; clear n0_ n1_; (try clear hb); (try clear hb2); (try clear hk); (try clear hi); (try clear ho0); obtain ⟨Ao14, co14, eo14⟩ := Kd.R_slice HO134.out; subst eo14; have p137 : 0 ≤ (0 : Int) := (by omega); have q137 : 0 < (t132.length : Int) := of_decide_eq_true (by first | (with_reducible assumption) | assumption); obtain ⟨ad137, e137, hx137_0⟩ := Kd.at_string (Kd.R_reads' HO134.out).2.2 0 p137 q137; cases e137; have qi137 : (0 < t132.length) = True := eq_true (by omega); (try rw [show ((0 : Int)).toNat = 0 from rfl] at hx137_0); (try rw [Addr.add_zero'] at hx137_0); replace p137 := eq_true p137; replace q137 := eq_true q137; have p138 : 0 ≤ (1 : Int) := (by omega); have q138 : 1 < (t132.length : Int) := of_decide_eq_true (by first | (with_reducible assumption) | assumption); obtain ⟨ad138, e138, hx138_0⟩ := Kd.at_string (Kd.R_reads' HO134.out).2.2 1 p138 q138; obtain rfl : ad137 = ad138 := (by injection e138); (try simp only [show (1 : Int).toNat = 1 from rfl, Nat.reduceMul, Nat.reduceEqDiff, Go.Addr.add, ↓reduceIte] at hx138_0); have qi138 : (1 < t132.length) = True := eq_true (by omega); (try rw [show ((1 : Int)).toNat = 1 from rfl] at hx138_0); replace p138 := eq_true p138; replace q138 := eq_true q138) | (go_at_call 32; (with_reducible refine (spec_SchemeMay.calls k (⟨#[]⟩ : ByteArray) (rdOf ByteArray.empty t132 0) (rdOf ByteArray.empty t132 1) t139 _ A12.out).mono ?_); rintro e w15 ⟨rfl, hb⟩; have n0_ := Aside0.mk (Kd.R_below (by (with_reducible repeat (first | apply Kd.R_alloc | apply Kd.R_drewN | apply Kd.R_drew)); exact HO134.out) hb); have n1_ := Aside0.mk (below_step (by repeat (first | (with_reducible first | exact HB.out | apply below_alloc | apply pw_below_drewN | apply below_drew1) | exact HB.out)) hb); clear HO134; clear HB; have HO134 := n0_; have HB := n1_; clear n0_ n1_; (try clear hb); (try clear hb2); (try clear hk); (try clear hi))); try go_wp2_with (first | (go_at_call 20; (with_reducible refine (spec_Split.calls k a0 58 t132 _ A2.out).mono ?_); rintro e w13 ⟨v133, rfl, ho0, hb⟩; have n0_ := Aside0.mk (Kd.R_lower ho0 (below_size (by repeat (first | (with_reducible first | exact HB.out | apply below_alloc | apply pw_below_drewN | apply below_drew1) | exact HB.out)))); have n1_ := Aside0.mk (below_step (by repeat (first | (with_reducible first | exact HB.out | apply below_alloc | apply pw_below_drewN | apply below_drew1) | exact HB.out)) hb); clear HB; have HO134 := n0_; have HB := n1_; clear n0_ n1_; (try clear hb); (try clear hb2); (try clear hk); (try clear hi); (try clear ho0); obtain ⟨Ao14, co14, eo14⟩ := Kd.R_slice HO134.out; subst eo14; have p137 : 0 ≤ (0 : Int) := (by omega); have q137 : 0 < (t132.length : Int) := of_decide_eq_true (by first | (with_reducible assumption) | assumption); obtain ⟨ad137, e137, hx137_0⟩ := Kd.at_string (Kd.R_reads' HO134.out).2.2 0 p137 q137; cases e137; have qi137 : (0 < t132.length) = True := eq_true (by omega); (try rw [show ((0 : Int)).toNat = 0 from rfl] at hx137_0); (try rw [Addr.add_zero'] at hx137_0); replace p137 := eq_true p137; replace q137 := eq_true q137; have p138 : 0 ≤ (1 : Int) := (by omega); have q138 : 1 < (t132.length : Int) := of_decide_eq_true (by first | (with_reducible assumption) | assumption); obtain ⟨ad138, e138, hx138_0⟩ := Kd.at_string (Kd.R_reads' HO134.out).2.2 1 p138 q138; obtain rfl : ad137 = ad138 := (by injection e138); (try simp only [show (1 : Int).toNat = 1 from rfl, Nat.reduceMul, Nat.reduceEqDiff, Go.Addr.add, ↓reduceIte] at hx138_0); have qi138 : (1 < t132.length) = True := eq_true (by omega); (try rw [show ((1 : Int)).toNat = 1 from rfl] at hx138_0); replace p138 := eq_true p138; replace q138 := eq_true q138) | (go_at_call 32; (with_reducible refine (spec_SchemeMay.calls k (⟨#[]⟩ : ByteArray) (rdOf ByteArray.empty t132 0) (rdOf ByteArray.empty t132 1) t139 _ A12.out).mono ?_); rintro e w15 ⟨rfl, hb⟩; have n0_ := Aside0.mk (Kd.R_below (by (with_reducible repeat (first | apply Kd.R_alloc | apply Kd.R_drewN | apply Kd.R_drew)); exact HO134.out) hb); have n1_ := Aside0.mk (below_step (by repeat (first | (with_reducible first | exact HB.out | apply below_alloc | apply pw_below_drewN | apply below_drew1) | exact HB.out)) hb); clear HO134; clear HB; have HO134 := n0_; have HB := n1_; clear n0_ n1_; (try clear hb); (try clear hb2); (try clear hk); (try clear hi))))
          refine bodyPost_ret (results_list (rs := [.tmp 2, .tmp 3, .tmp 4, .tmp 5]) rfl (by simp) (.tmp (.tmp (.tmp (.tmp .nil))))) rfl ?_
          exact ⟨by first | rfl | (simp [errW_none, errW_some] <;> rfl) | (simp [*, errW_none, errW_some] <;> rfl) | (exfalso; contradiction), by repeat (first | (with_reducible first | exact HB.out | apply below_alloc | apply pw_below_drewN | apply below_drew1) | exact HB.out)⟩
        · rw [if_neg c11] at H
          exact absurd H (by simp)
      · rw [if_neg c10] at H
        exact absurd H (by simp)
    · rw [if_neg c9] at H
      have c9b0 : ((t132.length : Int) == 2) = false := beq_eq_false_iff_ne.mpr c9
      have c9b1 : ((t132.length : Int) != 2) = true := bne_iff_ne.mpr c9
      by_cases c16 : (t132.length : Int) = 3
      · rw [if_pos c16] at H
        have c16b0 : ((t132.length : Int) == 3) = true := beq_iff_eq.mpr c16
        have c16b1 : ((t132.length : Int) != 3) = false := bne_eq_false_iff_eq.mpr c16
        clear c16
        by_cases c17 : 0 < (t132.length : Int)
        · rw [if_pos c17] at H
          have c17b0 : decide (0 < (t132.length : Int)) = true := decide_eq_true c17
          have c17b1 : decide (0 < t132.length) = true := decide_eq_true (by omega)
          clear c17
          by_cases c18 : 1 < (t132.length : Int)
          · rw [if_pos c18] at H
            have c18b0 : decide (1 < (t132.length : Int)) = true := decide_eq_true c18
            have c18b1 : decide (1 < t132.length) = true := decide_eq_true (by omega)
            clear c18
            by_cases c19 : 2 < (t132.length : Int)
            · rw [if_pos c19] at H
              have c19b0 : decide (2 < (t132.length : Int)) = true := decide_eq_true c19
              have c19b1 : decide (2 < t132.length) = true := decide_eq_true (by omega)
              clear c19
              replace H := Option.bind_eq_some_iff.mp H
              obtain ⟨t143, A200, H⟩ := H
              replace H : (some (rdOf ByteArray.empty t132 0, rdOf ByteArray.empty t132 1, rdOf ByteArray.empty t132 2, t143)) = some (r1, r2, r3, r4) := H
              have A20 := Aside0.mk A200
              clear A200
              simp only [Option.some.injEq, Prod.mk.injEq] at H
              obtain ⟨rfl, rfl, rfl, rfl⟩ := H
              go_enter Try.func22, Try.ntmps22
              go_wp2_with (first | (go_at_call 20; (with_reducible refine (spec_Split.calls k a0 58 t132 _ A2.out).mono ?_); rintro e w21 ⟨v133, rfl, ho0, hb⟩; have n0_ := Aside0.mk (Kd.R_lower ho0 (below_size (by repeat (first | (with_reducible first | exact HB.out | apply below_alloc | apply pw_below_drewN | apply below_drew1) | exact HB.out)))); have n1_ := Aside0.mk (below_step (by repeat (first | (with_reducible first | exact HB.out | apply below_alloc | apply pw_below_drewN | apply below_drew1) | exact HB.out)) hb); clear HB; have HO134 := n0_; have HB := n1_; clear n0_ n1_; (try clear hb); (try clear hb2); (try clear hk); (try clear hi); (try clear ho0); obtain ⟨Ao22, co22, eo22⟩ := Kd.R_slice HO134.out; subst eo22; have p140 : 0 ≤ (0 : Int) := (by omega); have q140 : 0 < (t132.length : Int) := of_decide_eq_true (by first | (with_reducible assumption) | assumption); obtain ⟨ad140, e140, hx140_0⟩ := Kd.at_string (Kd.R_reads' HO134.out).2.2 0 p140 q140; cases e140; have qi140 : (0 < t132.length) = True := eq_true (by omega); (try rw [show ((0 : Int)).toNat = 0 from rfl] at hx140_0); (try rw [Addr.add_zero'] at hx140_0); replace p140 := eq_true p140; replace q140 := eq_true q140; have p141 : 0 ≤ (1 : Int) := (by omega); have q141 : 1 < (t132.length : Int) := of_decide_eq_true (by first | (with_reducible assumption) | assumption); obtain ⟨ad141, e141, hx141_0⟩ := Kd.at_string (Kd.R_reads' HO134.out).2.2 1 p141 q141; obtain rfl : ad140 = ad141 := (by injection e141); (try simp only [show (1 : Int).toNat = 1 from rfl, Nat.reduceMul, Nat.reduceEqDiff, Go.Addr.add, ↓reduceIte] at hx141_0); have qi141 : (1 < t132.length) = True := eq_true (by omega); (try rw [show ((1 : Int)).toNat = 1 from rfl] at hx141_0); replace p141 := eq_true p141; replace q141 := eq_true q141; have p142 : 0 ≤ (2 : Int) := (by omega); have q142 : 2 < (t132.length : Int) := of_decide_eq_true (by first | (with_reducible assumption) | assumption); obtain ⟨ad142, e142, hx142_0⟩ := Kd.at_string (Kd.R_reads' HO134.out).2.2 2 p142 q142; obtain rfl : ad140 = ad142 := (by injection e142); (try simp only [show (2 : Int).toNat = 2 from rfl, Nat.reduceMul, Nat.reduceEqDiff, Go.Addr.add, ↓reduceIte] at hx142_0); have qi142 : (2 < t132.length) = True := eq_true (by omega); (try rw [show ((2 : Int)).toNat = 2 from rfl] at hx142_0); replace p142 := eq_true p142; replace q142 := eq_true q142) | (go_at_call 32; (with_reducible refine (spec_SchemeMay.calls k (rdOf ByteArray.empty t132 0) (rdOf ByteArray.empty t132 1) (rdOf ByteArray.empty t132 2) t143 _ A20.out).mono ?_); rintro e w23 ⟨rfl, hb⟩; have n0_ := Aside0.mk (Kd.R_below (by (with_reducible repeat (first | apply Kd.R_alloc | apply Kd.R_drewN | apply Kd.R_drew)); exact HO134.out) hb); have n1_ := Aside0.mk (below_step (by repeat (first | (with_reducible first | exact HB.out | apply below_alloc | apply pw_below_drewN | apply below_drew1) | exact HB.out)) hb); clear HO134; clear HB; have HO134 := n0_; have HB := n1_; clear n0_ n1_; (try clear hb); (try clear hb2); (try clear hk); (try clear hi)))
              repeat (go_quiet (first | (go_at_call 20; (with_reducible refine (spec_Split.calls k a0 58 t132 _ A2.out).mono ?_); rintro e w21 ⟨v133, rfl, ho0, hb⟩; have n0_ := Aside0.mk (Kd.R_lower ho0 (below_size (by repeat (first | (with_reducible first | exact HB.out | apply below_alloc | apply pw_below_drewN | apply below_drew1) | exact HB.out)))); have n1_ := Aside0.mk (below_step (by repeat (first | (with_reducible first | exact HB.out | apply below_alloc | apply pw_below_drewN | apply below_drew1) | exact HB.out)) hb); clear HB; have HO134 := n0_; have HB := n1_; clear n0_ n1_; (try clear hb); (try clear hb2); (try clear hk); (try clear hi); (try clear ho0); obtain ⟨Ao22, co22, eo22⟩ := Kd.R_slice HO134.out; subst eo22; have p140 : 0 ≤ (0 : Int) := (by omega); have q140 : 0 < (t132.length : Int) := of_decide_eq_true (by first | (with_reducible assumption) | assumption); obtain ⟨ad140, e140, hx140_0⟩ := Kd.at_string (Kd.R_reads' HO134.out).2.2 0 p140 q140; cases e140; have qi140 : (0 < t132.length) = True := eq_true (by omega); (try rw [show ((0 : Int)).toNat = 0 from rfl] at hx140_0); (try rw [Addr.add_zero'] at hx140_0); replace p140 := eq_true p140; replace q140 := eq_true q140; have p141 : 0 ≤ (1 : Int) := (by omega); have q141 : 1 < (t132.length : Int) := of_decide_eq_true (by first | (with_reducible assumption) | assumption); obtain ⟨ad141, e141, hx141_0⟩ := Kd.at_string (Kd.R_reads' HO134.out).2.2 1 p141 q141; obtain rfl : ad140 = ad141 := (by injection e141); (try simp only [show (1 : Int).toNat = 1 from rfl, Nat.reduceMul, Nat.reduceEqDiff, Go.Addr.add, ↓reduceIte] at hx141_0); have qi141 : (1 < t132.length) = True := eq_true (by omega); (try rw [show ((1 : Int)).toNat = 1 from rfl] at hx141_0); replace p141 := eq_true p141; replace q141 := eq_true q141; have p142 : 0 ≤ (2 : Int) := (by omega); have q142 : 2 < (t132.length : Int) := of_decide_eq_true (by first | (with_reducible assumption) | assumption); obtain ⟨ad142, e142, hx142_0⟩ := Kd.at_string (Kd.R_reads' HO134.out).2.2 2 p142 q142; obtain rfl : ad140 = ad142 := (by injection e142); (try simp only [show (2 : Int).toNat = 2 from rfl, Nat.reduceMul, Nat.reduceEqDiff, Go.Addr.add, ↓reduceIte] at hx142_0); have qi142 : (2 < t132.length) = True := eq_true (by omega); (try rw [show ((2 : Int)).toNat = 2 from rfl] at hx142_0); replace p142 := eq_true p142; replace q142 := eq_true q142) | (go_at_call 32; (with_reducible refine (spec_SchemeMay.calls k (rdOf ByteArray.empty t132 0) (rdOf ByteArray.empty t132 1) (rdOf ByteArray.empty t132 2) t143 _ A20.out).mono ?_); rintro e w23 ⟨rfl, hb⟩; have n0_ := Aside0.mk (Kd.R_below (by (with_reducible repeat (first | apply Kd.R_alloc | apply Kd.R_drewN | apply Kd.R_drew)); exact HO134.out) hb); have n1_ := Aside0.mk (below_step (by repeat (first | (with_reducible first | exact HB.out | apply below_alloc | apply pw_below_drewN | apply below_drew1) | exact HB.out)) hb); clear HO134; clear HB; have HO134 := n0_; have HB := n1_; clear n0_ n1_; (try clear hb); (try clear hb2); (try clear hk); (try clear hi))); try go_wp2_with (first | (go_at_call 20; (with_reducible refine (spec_Split.calls k a0 58 t132 _ A2.out).mono ?_); rintro e w21 ⟨v133, rfl, ho0, hb⟩; have n0_ := Aside0.mk (Kd.R_lower ho0 (below_size (by repeat (first | (with_reducible first | exact HB.out | apply below_alloc | apply pw_below_drewN | apply below_drew1) | exact HB.out)))); have n1_ := Aside0.mk (below_step (by repeat (first | (with_reducible first | exact HB.out | apply below_alloc | apply pw_below_drewN | apply below_drew1) | exact HB.out)) hb); clear HB; have HO134 := n0_; have HB := n1_; clear n0_ n1_; (try clear hb); (try clear hb2); (try clear hk); (try clear hi); (try clear ho0); obtain ⟨Ao22, co22, eo22⟩ := Kd.R_slice HO134.out; subst eo22; have p140 : 0 ≤ (0 : Int) := (by omega); have q140 : 0 < (t132.length : Int) := of_decide_eq_true (by first | (with_reducible assumption) | assumption); obtain ⟨ad140, e140, hx140_0⟩ := Kd.at_string (Kd.R_reads' HO134.out).2.2 0 p140 q140; cases e140; have qi140 : (0 < t132.length) = True := eq_true (by omega); (try rw [show ((0 : Int)).toNat = 0 from rfl] at hx140_0); (try rw [Addr.add_zero'] at hx140_0); replace p140 := eq_true p140; replace q140 := eq_true q140; have p141 : 0 ≤ (1 : Int) := (by omega); have q141 : 1 < (t132.length : Int) := of_decide_eq_true (by first | (with_reducible assumption) | assumption); obtain ⟨ad141, e141, hx141_0⟩ := Kd.at_string (Kd.R_reads' HO134.out).2.2 1 p141 q141; obtain rfl : ad140 = ad141 := (by injection e141); (try simp only [show (1 : Int).toNat = 1 from rfl, Nat.reduceMul, Nat.reduceEqDiff, Go.Addr.add, ↓reduceIte] at hx141_0); have qi141 : (1 < t132.length) = True := eq_true (by omega); (try rw [show ((1 : Int)).toNat = 1 from rfl] at hx141_0); replace p141 := eq_true p141; replace q141 := eq_true q141; have p142 : 0 ≤ (2 : Int) := (by omega); have q142 : 2 < (t132.length : Int) := of_decide_eq_true (by first | (with_reducible assumption) | assumption); obtain ⟨ad142, e142, hx142_0⟩ := Kd.at_string (Kd.R_reads' HO134.out).2.2 2 p142 q142; obtain rfl : ad140 = ad142 := (by injection e142); (try simp only [show (2 : Int).toNat = 2 from rfl, Nat.reduceMul, Nat.reduceEqDiff, Go.Addr.add, ↓reduceIte] at hx142_0); have qi142 : (2 < t132.length) = True := eq_true (by omega); (try rw [show ((2 : Int)).toNat = 2 from rfl] at hx142_0); replace p142 := eq_true p142; replace q142 := eq_true q142) | (go_at_call 32; (with_reducible refine (spec_SchemeMay.calls k (rdOf ByteArray.empty t132 0) (rdOf ByteArray.empty t132 1) (rdOf ByteArray.empty t132 2) t143 _ A20.out).mono ?_); rintro e w23 ⟨rfl, hb⟩; have n0_ := Aside0.mk (Kd.R_below (by (with_reducible repeat (first | apply Kd.R_alloc | apply Kd.R_drewN | apply Kd.R_drew)); exact HO134.out) hb); have n1_ := Aside0.mk (below_step (by repeat (first | (with_reducible first | exact HB.out | apply below_alloc | apply pw_below_drewN | apply below_drew1) | exact HB.out)) hb); clear HO134; clear HB; have HO134 := n0_; have HB := n1_; clear n0_ n1_; (try clear hb); (try clear hb2); (try clear hk); (try clear hi))))
              refine bodyPost_ret (results_list (rs := [.tmp 2, .tmp 3, .tmp 4, .tmp 5]) rfl (by simp) (.tmp (.tmp (.tmp (.tmp .nil))))) rfl ?_
              exact ⟨by first | rfl | (simp [errW_none, errW_some] <;> rfl) | (simp [*, errW_none, errW_some] <;> rfl) | (exfalso; contradiction), by repeat (first | (with_reducible first | exact HB.out | apply below_alloc | apply pw_below_drewN | apply below_drew1) | exact HB.out)⟩
            · rw [if_neg c19] at H
              exact absurd H (by simp)
          · rw [if_neg c18] at H
            exact absurd H (by simp)
        · rw [if_neg c17] at H
          exact absurd H (by simp)
      · rw [if_neg c16] at H
        have c16b0 : ((t132.length : Int) == 3) = false := beq_eq_false_iff_ne.mpr c16
        have c16b1 : ((t132.length : Int) != 3) = true := bne_iff_ne.mpr c16
        simp only [Option.some.injEq, Prod.mk.injEq] at H
        obtain ⟨rfl, rfl, rfl, rfl⟩ := H
        go_enter Try.func22, Try.ntmps22
        go_wp2_with (first | (go_at_call 20; (with_reducible refine (spec_Split.calls k a0 58 t132 _ A2.out).mono ?_); rintro e w24 ⟨v133, rfl, ho0, hb⟩; have n0_ := Aside0.mk (Kd.R_lower ho0 (below_size (by repeat (first | (with_reducible first | exact HB.out | apply below_alloc | apply pw_below_drewN | apply below_drew1) | exact HB.out)))); have n1_ := Aside0.mk (below_step (by repeat (first | (with_reducible first | exact HB.out | apply below_alloc | apply pw_below_drewN | apply below_drew1) | exact HB.out)) hb); clear HB; have HO134 := n0_; have HB := n1_; clear n0_ n1_; (try clear hb); (try clear hb2); (try clear hk); (try clear hi); (try clear ho0); obtain ⟨Ao25, co25, eo25⟩ := Kd.R_slice HO134.out; subst eo25))
        repeat (go_quiet (first | (go_at_call 20; (with_reducible refine (spec_Split.calls k a0 58 t132 _ A2.out).mono ?_); rintro e w24 ⟨v133, rfl, ho0, hb⟩; have n0_ := Aside0.mk (Kd.R_lower ho0 (below_size (by repeat (first | (with_reducible first | exact HB.out | apply below_alloc | apply pw_below_drewN | apply below_drew1) | exact HB.out)))); have n1_ := Aside0.mk (below_step (by repeat (first | (with_reducible first | exact HB.out | apply below_alloc | apply pw_below_drewN | apply below_drew1) | exact HB.out)) hb); clear HB; have HO134 := n0_; have HB := n1_; clear n0_ n1_; (try clear hb); (try clear hb2); (try clear hk); (try clear hi); (try clear ho0); obtain ⟨Ao25, co25, eo25⟩ := Kd.R_slice HO134.out; subst eo25)); try go_wp2_with (first | (go_at_call 20; (with_reducible refine (spec_Split.calls k a0 58 t132 _ A2.out).mono ?_); rintro e w24 ⟨v133, rfl, ho0, hb⟩; have n0_ := Aside0.mk (Kd.R_lower ho0 (below_size (by repeat (first | (with_reducible first | exact HB.out | apply below_alloc | apply pw_below_drewN | apply below_drew1) | exact HB.out)))); have n1_ := Aside0.mk (below_step (by repeat (first | (with_reducible first | exact HB.out | apply below_alloc | apply pw_below_drewN | apply below_drew1) | exact HB.out)) hb); clear HB; have HO134 := n0_; have HB := n1_; clear n0_ n1_; (try clear hb); (try clear hb2); (try clear hk); (try clear hi); (try clear ho0); obtain ⟨Ao25, co25, eo25⟩ := Kd.R_slice HO134.out; subst eo25)))
        refine bodyPost_ret (results_list (rs := [.tmp 2, .tmp 3, .tmp 4, .tmp 5]) rfl (by simp) (.tmp (.tmp (.tmp (.tmp .nil))))) rfl ?_
        exact ⟨by first | rfl | (simp [errW_none, errW_some] <;> rfl) | (simp [*, errW_none, errW_some] <;> rfl) | (exfalso; contradiction), by repeat (first | (with_reducible first | exact HB.out | apply below_alloc | apply pw_below_drewN | apply below_drew1) | exact HB.out)⟩

/-! ### laws_FnScheme: function 7 -/
def laws_FnScheme.j0 : Nat → ByteArray → Bool → Option (Bool)
  | 0, _, _ => none
  | k + 1, x0, x29 => if x29 = true then (some true) else ((impl_SchemeSplit.f k x0).bind fun bt148 => ((spec_SchemeParts.f k x0).bind fun bt152 => ((impl_SchemeSplit.f k (⟨#[110]⟩ : ByteArray)).bind fun bt156 => (if (bt148.2.2.2 == bt152.2.2.2) = true then (if bt156.2.1.toList = ([110] : List UInt8) then (if bt148.2.2.2 = true then (if bt148.1.toList = bt152.1.toList then (if bt148.2.1.toList = bt152.2.1.toList then (some (bt148.2.2.1.toList == bt152.2.2.1.toList)) else (some false)) else (some false)) else (some true)) else (some false)) else (some false)))))
def laws_FnScheme.f (k : Nat) (a0 : ByteArray) : Option (Bool) := if (a0.size : Int) > 2147483647 then (some true) else ((spec_Split.f k a0 58).bind fun t144 => (if (t144.length : Int) = 3 then (if 0 < (t144.length : Int) then (laws_FnScheme.j0 k a0 ((rdOf ByteArray.empty t144 0).toList == ([] : List UInt8))) else (none)) else (laws_FnScheme.j0 k a0 false)))
theorem laws_FnScheme.mono_l : ∀ k, (∀ y0 y1, LeO (laws_FnScheme.j0 k y0 y1) (laws_FnScheme.j0 (k + 1) y0 y1))
  | 0 => fun _ _ r h => by simp [laws_FnScheme.j0] at h
  | k + 1 => by
    have ih0 := laws_FnScheme.mono_l k
    · intro y0 y1
      unfold laws_FnScheme.j0
      repeat' first
      | (with_reducible exact ih0 _ _)
      | (with_reducible exact impl_SchemeSplit.mono _ _)
      | (with_reducible exact spec_SchemeParts.mono _ _)
      | (with_reducible exact spec_Split.mono _ _ _)
      | (with_reducible exact LeO.refl _)
      | (with_reducible exact LeO.none _)
      | (with_reducible refine LeO.ite ?_ ?_)
      | (with_reducible refine LeO.bind ?_ (fun _ => ?_))
      | exact ih0 _ _
      | exact impl_SchemeSplit.mono _ _
      | exact spec_SchemeParts.mono _ _
      | exact spec_Split.mono _ _ _
      | exact LeO.none _
      | refine LeO.ite ?_ ?_
      | refine LeO.bind ?_ (fun _ => ?_)
theorem laws_FnScheme.mono : ∀ a0 k, LeO (laws_FnScheme.f k a0) (laws_FnScheme.f (k + 1) a0) := by
  intro a0 k
  have ih0 := laws_FnScheme.mono_l k
  unfold laws_FnScheme.f
  repeat' first
      | (with_reducible exact ih0 _ _)
      | (with_reducible exact impl_SchemeSplit.mono _ _)
      | (with_reducible exact spec_SchemeParts.mono _ _)
      | (with_reducible exact spec_Split.mono _ _ _)
      | (with_reducible exact LeO.refl _)
      | (with_reducible exact LeO.none _)
      | (with_reducible refine LeO.ite ?_ ?_)
      | (with_reducible refine LeO.bind ?_ (fun _ => ?_))
      | exact ih0 _ _
      | exact impl_SchemeSplit.mono _ _
      | exact spec_SchemeParts.mono _ _
      | exact spec_Split.mono _ _ _
      | exact LeO.none _
      | refine LeO.ite ?_ ?_
      | refine LeO.bind ?_ (fun _ => ?_)
set_option maxHeartbeats 8000000 in
set_option maxRecDepth 100000 in
theorem laws_FnScheme.calls (k : Nat) (a0 : ByteArray) (r : Bool) (w : World) (h : laws_FnScheme.f k a0 = some r) :
    Calls Try.prog 7 #[.string a0] w fun e w' => e = .returned (.bool r) ∧ Below w.heap.size w w' := by
  have HB := Aside0.mk (Below.refl w.heap.size w)
  have H : (if (a0.size : Int) > 2147483647 then (some true) else ((spec_Split.f k a0 58).bind fun t144 => (if (t144.length : Int) = 3 then (if 0 < (t144.length : Int) then (laws_FnScheme.j0 k a0 ((rdOf ByteArray.empty t144 0).toList == ([] : List UInt8))) else (none)) else (laws_FnScheme.j0 k a0 false)))) = some r := h
  clear h
  by_cases c2 : (a0.size : Int) > 2147483647
  · rw [if_pos c2] at H
    have c2b0 : decide (2147483647 < (a0.size : Int)) = true := decide_eq_true c2
    have c2b1 : decide (2147483647 < a0.size) = true := decide_eq_true (by omega)
    clear c2
    obtain rfl := Option.some.inj H
    go_enter Try.func7, Try.ntmps7
    go_wp2
    go_ret
    exact ⟨by first | rfl | (simp [errW_none, errW_some] <;> rfl) | (simp [*, errW_none, errW_some] <;> rfl) | (exfalso; contradiction), by repeat (first | (with_reducible first | exact HB.out | apply below_alloc | apply pw_below_drewN | apply below_drew1) | exact HB.out)⟩
  · rw [if_neg c2] at H
    have c2b0 : decide (2147483647 < (a0.size : Int)) = false := decide_eq_false c2
    have c2b1 : decide (2147483647 < a0.size) = false := decide_eq_false (by omega)
    clear c2
    replace H := Option.bind_eq_some_iff.mp H
    obtain ⟨t144, A30, H⟩ := H
    replace H : (if (t144.length : Int) = 3 then (if 0 < (t144.length : Int) then (laws_FnScheme.j0 k a0 ((rdOf ByteArray.empty t144 0).toList == ([] : List UInt8))) else (none)) else (laws_FnScheme.j0 k a0 false)) = some r := H
    have A3 := Aside0.mk A30
    clear A30
    have HC4 := Aside0.mk H
    clear H
    go_enter Try.func7, Try.ntmps7
    go_upto_region 4 with (first | ((with_reducible refine gate_callee (f := 20) rfl ?_); refine goesL_ (some 20) rfl rfl Try.func20 (by kernel_rfl) rfl #[.string a0, .int .u8 58] rfl (by (try simp only [List.map_toArray, List.map_cons, List.map_nil]); first | done | rfl | (simp only [List.length_drop, List.length_take]; rfl)) ?_; (with_reducible refine (spec_Split.calls k a0 58 t144 _ A3.out).mono ?_); rintro e w5 ⟨v145, rfl, ho0, hb⟩; refine ⟨_, rfl, ?_⟩; have n0_ := Aside0.mk (Kd.R_lower ho0 (below_size (by repeat (first | (with_reducible first | exact HB.out | apply below_alloc | apply pw_below_drewN | apply below_drew1) | exact HB.out)))); have n1_ := Aside0.mk (below_step (by repeat (first | (with_reducible first | exact HB.out | apply below_alloc | apply pw_below_drewN | apply below_drew1) | exact HB.out)) hb); clear HB; have HO146 := n0_; have HB := n1_; clear n0_ n1_; (try clear hb); (try clear hb2); (try clear hk); (try clear hi); (try clear ho0)))
    (try simp only [Act.put, List.setIfInBounds_toArray, List.set_cons_zero, List.set_cons_succ])
    go_cut [29] (fun v29 wc => ∃ (kq : Nat) (x29_3 : Bool), v29 = .bool x29_3 ∧ Aside0 (laws_FnScheme.j0 kq a0 x29_3 = some r) ∧ Aside0 (kq ≤ k) ∧ Aside0 (Below w.heap.size w wc))
    case first =>
      have H := HC4.out
      clear HC4
      by_cases c6 : (t144.length : Int) = 3
      · rw [if_pos c6] at H
        have c6b0 : ((t144.length : Int) == 3) = true := beq_iff_eq.mpr c6
        have c6b1 : ((t144.length : Int) != 3) = false := bne_eq_false_iff_eq.mpr c6
        clear c6
        (first | rw [c6b0] | (simp only [i64_w, i32_w]; rw [c6b0]) | skip)
        by_cases c7 : 0 < (t144.length : Int)
        · rw [if_pos c7] at H
          have c7b0 : decide (0 < (t144.length : Int)) = true := decide_eq_true c7
          have c7b1 : decide (0 < t144.length) = true := decide_eq_true (by omega)
          clear c7
          have H' := Aside0.mk H
          clear H
          obtain ⟨Ao8, co8, eo8⟩ := Kd.R_slice HO146.out
          subst eo8
          have p147 : 0 ≤ (0 : Int) := (by omega)
          have q147 : 0 < (t144.length : Int) := of_decide_eq_true (by first | (with_reducible assumption) | assumption)
          obtain ⟨ad147, e147, hx147_0⟩ := Kd.at_string (Kd.R_reads' HO146.out).2.2 0 p147 q147
          cases e147
          have qi147 : (0 < t144.length) = True := eq_true (by omega)
          (try rw [show ((0 : Int)).toNat = 0 from rfl] at hx147_0)
          (try rw [Addr.add_zero'] at hx147_0)
          replace p147 := eq_true p147
          replace q147 := eq_true q147
          go_wp2
          go_meet
          case rel => exact ⟨_, (((rdOf ByteArray.empty t144 0).toList == ([] : List UInt8))), (by first | rfl | (simp; done) | (simp [*]; done)), H', ⟨by first | omega | exact Nat.le_refl _⟩, ⟨by repeat (first | (with_reducible first | exact HB.out | apply below_alloc | apply pw_below_drewN | apply below_drew1) | exact HB.out)⟩⟩
        · rw [if_neg c7] at H
          exact absurd H (by simp)
      · rw [if_neg c6] at H
        have c6b0 : ((t144.length : Int) == 3) = false := beq_eq_false_iff_ne.mpr c6
        have c6b1 : ((t144.length : Int) != 3) = true := bne_iff_ne.mpr c6
        (first | rw [c6b0] | (simp only [i64_w, i32_w]; rw [c6b0]) | skip)
        have H' := Aside0.mk H
        clear H
        obtain ⟨Ao9, co9, eo9⟩ := Kd.R_slice HO146.out
        subst eo9
        go_wp2
        go_meet
        case rel => exact ⟨_, (false), (by first | rfl | (simp; done) | (simp [*]; done)), H', ⟨by first | omega | exact Nat.le_refl _⟩, ⟨by repeat (first | (with_reducible first | exact HB.out | apply below_alloc | apply pw_below_drewN | apply below_drew1) | exact HB.out)⟩⟩
    case rest =>
      clear HC4
      try clear p1
      try clear q1
      try clear hx1
      try clear qi1
      try clear c2
      try clear c2b0
      try clear c2b1
      try clear p2
      try clear c6
      try clear c6b0
      try clear c6b1
      try clear c7
      try clear c7b0
      try clear c7b1
      try clear hx147_0
      try clear p147
      try clear q147
      obtain ⟨kq, x29_3, rfl, HA, HJ3, HB⟩ := hcut
      cases kq with
      | zero => exact absurd HA.out (by simp [laws_FnScheme.j0])
      | succ kj3 =>
        have H := HA.out
        clear HA
        simp only [laws_FnScheme.j0] at H
        by_cases c10 : x29_3 = true
        · subst c10
          have H1 : (some true) = some r := by rw [if_pos rfl] at H; exact H
          clear H
          have H := H1
          clear H1
          obtain rfl := Option.some.inj H
          go_wp2
          go_ret
          exact ⟨by first | rfl | (simp [errW_none, errW_some] <;> rfl) | (simp [*, errW_none, errW_some] <;> rfl) | (exfalso; contradiction), by repeat (first | (with_reducible first | exact HB.out | apply below_alloc | apply pw_below_drewN | apply below_drew1) | exact HB.out)⟩
        · replace c10 := Bool.eq_false_iff.mpr c10
          subst c10
          have H1 : ((impl_SchemeSplit.f kj3 a0).bind fun bt148 => ((spec_SchemeParts.f kj3 a0).bind fun bt152 => ((impl_SchemeSplit.f kj3 (⟨#[110]⟩ : ByteArray)).bind fun bt156 => (if (bt148.2.2.2 == bt152.2.2.2) = true then (if bt156.2.1.toList = ([110] : List UInt8) then (if bt148.2.2.2 = true then (if bt148.1.toList = bt152.1.toList then (if bt148.2.1.toList = bt152.2.1.toList then (some (bt148.2.2.1.toList == bt152.2.2.1.toList)) else (some false)) else (some false)) else (some true)) else (some false)) else (some false))))) = some r := by rw [if_neg (show ¬ (false = true) by decide)] at H; exact H
          clear H
          have H := H1
          clear H1
          replace H := Option.bind_eq_some_iff.mp H
          obtain ⟨⟨t148, t149, t150, t151⟩, A110, H⟩ := H
          replace H : ((spec_SchemeParts.f kj3 a0).bind fun bt152 => ((impl_SchemeSplit.f kj3 (⟨#[110]⟩ : ByteArray)).bind fun bt156 => (if (t151 == bt152.2.2.2) = true then (if bt156.2.1.toList = ([110] : List UInt8) then (if t151 = true then (if t148.toList = bt152.1.toList then (if t149.toList = bt152.2.1.toList then (some (t150.toList == bt152.2.2.1.toList)) else (some false)) else (some false)) else (some true)) else (some false)) else (some false)))) = some r := H
          have A11 := Aside0.mk A110
          clear A110
          replace H := Option.bind_eq_some_iff.mp H
          obtain ⟨⟨t152, t153, t154, t155⟩, A120, H⟩ := H
          replace H : ((impl_SchemeSplit.f kj3 (⟨#[110]⟩ : ByteArray)).bind fun bt156 => (if (t151 == t155) = true then (if bt156.2.1.toList = ([110] : List UInt8) then (if t151 = true then (if t148.toList = t152.toList then (if t149.toList = t153.toList then (some (t150.toList == t154.toList)) else (some false)) else (some false)) else (some true)) else (some false)) else (some false))) = some r := H
          have A12 := Aside0.mk A120
          clear A120
          replace H := Option.bind_eq_some_iff.mp H
          obtain ⟨⟨t156, t157, t158, t159⟩, A130, H⟩ := H
          replace H : (if (t151 == t155) = true then (if t157.toList = ([110] : List UInt8) then (if t151 = true then (if t148.toList = t152.toList then (if t149.toList = t153.toList then (some (t150.toList == t154.toList)) else (some false)) else (some false)) else (some true)) else (some false)) else (some false)) = some r := H
          have A13 := Aside0.mk A130
          clear A130
          by_cases c14 : (t151 == t155) = true
          · rw [if_pos c14] at H
            have c14b0 : (t151 == t155) = true := c14
            (try (have c14b1 : decide (t151 = t155) = true := by simpa using c14))
            (try (have c14b2 : (t151 == t155) = true := by simpa using c14))
            clear c14
            by_cases c15 : t157.toList = ([110] : List UInt8)
            · rw [if_pos c15] at H
              have c15b0 : (t157.toList == ([110] : List UInt8)) = true := beq_iff_eq.mpr c15
              have c15b1 : (t157.toList != ([110] : List UInt8)) = false := bne_eq_false_iff_eq.mpr c15
              clear c15
              by_cases c16 : t151 = true
              · subst c16
                have H1 : (if t148.toList = t152.toList then (if t149.toList = t153.toList then (some (t150.toList == t154.toList)) else (some false)) else (some false)) = some r := by rw [if_pos rfl] at H; exact H
                clear H
                have H := H1
                clear H1
                by_cases c17 : t148.toList = t152.toList
                · rw [if_pos c17] at H
                  have c17b0 : (t148.toList == t152.toList) = true := beq_iff_eq.mpr c17
                  have c17b1 : (t148.toList != t152.toList) = false := bne_eq_false_iff_eq.mpr c17
                  clear c17
                  by_cases c18 : t149.toList = t153.toList
                  · rw [if_pos c18] at H
                    have c18b0 : (t149.toList == t153.toList) = true := beq_iff_eq.mpr c18
                    have c18b1 : (t149.toList != t153.toList) = false := bne_eq_false_iff_eq.mpr c18
                    clear c18
                    obtain rfl := Option.some.inj H
                    go_wp2_with (first | ((with_reducible refine gate_callee (f := 21) rfl ?_); refine goesL_ (some 32) rfl rfl Try.func21 (by kernel_rfl) rfl #[.string a0] rfl (by (try simp only [List.map_toArray, List.map_cons, List.map_nil]); first | done | rfl | (simp only [List.length_drop, List.length_take]; rfl)) ?_; (with_reducible refine (impl_SchemeSplit.calls kj3 a0 t148 t149 t150 true _ A11.out).mono ?_); rintro e w19 ⟨rfl, hb⟩; refine ⟨_, rfl, ?_⟩; have n0_ := Aside0.mk (below_step (by repeat (first | (with_reducible first | exact HB.out | apply below_alloc | apply pw_below_drewN | apply below_drew1) | exact HB.out)) hb); clear HB; have HB := n0_; clear n0_; (try clear hb); (try clear hb2); (try clear hk); (try clear hi)) | ((with_reducible refine gate_callee (f := 22) rfl ?_); refine goesL_ (some 39) rfl rfl Try.func22 (by kernel_rfl) rfl #[.string a0] rfl (by (try simp only [List.map_toArray, List.map_cons, List.map_nil]); first | done | rfl | (simp only [List.length_drop, List.length_take]; rfl)) ?_; (with_reducible refine (spec_SchemeParts.calls kj3 a0 t152 t153 t154 t155 _ A12.out).mono ?_); rintro e w20 ⟨rfl, hb⟩; refine ⟨_, rfl, ?_⟩; have n0_ := Aside0.mk (below_step (by repeat (first | (with_reducible first | exact HB.out | apply below_alloc | apply pw_below_drewN | apply below_drew1) | exact HB.out)) hb); clear HB; have HB := n0_; clear n0_; (try clear hb); (try clear hb2); (try clear hk); (try clear hi)) | ((with_reducible refine gate_callee (f := 21) rfl ?_); refine goesL_ (some 45) rfl rfl Try.func21 (by kernel_rfl) rfl #[.string (⟨#[110]⟩ : ByteArray)] rfl (by (try simp only [List.map_toArray, List.map_cons, List.map_nil]); first | done | rfl | (simp only [List.length_drop, List.length_take]; rfl)) ?_; (with_reducible refine (impl_SchemeSplit.calls kj3 (⟨#[110]⟩ : ByteArray) t156 t157 t158 t159 _ A13.out).mono ?_); rintro e w21 ⟨rfl, hb⟩; refine ⟨_, rfl, ?_⟩; have n0_ := Aside0.mk (below_step (by repeat (first | (with_reducible first | exact HB.out | apply below_alloc | apply pw_below_drewN | apply below_drew1) | exact HB.out)) hb); clear HB; have HB := n0_; clear n0_; (try clear hb); (try clear hb2); (try clear hk); (try clear hi)))
                    go_ret
                    exact ⟨by first | rfl | (simp [errW_none, errW_some] <;> rfl) | (simp [*, errW_none, errW_some] <;> rfl) | (exfalso; contradiction), by repeat (first | (with_reducible first | exact HB.out | apply below_alloc | apply pw_below_drewN | apply below_drew1) | exact HB.out)⟩
                  · rw [if_neg c18] at H
                    have c18b0 : (t149.toList == t153.toList) = false := beq_eq_false_iff_ne.mpr c18
                    have c18b1 : (t149.toList != t153.toList) = true := bne_iff_ne.mpr c18
                    obtain rfl := Option.some.inj H
                    go_wp2_with (first | ((with_reducible refine gate_callee (f := 21) rfl ?_); refine goesL_ (some 32) rfl rfl Try.func21 (by kernel_rfl) rfl #[.string a0] rfl (by (try simp only [List.map_toArray, List.map_cons, List.map_nil]); first | done | rfl | (simp only [List.length_drop, List.length_take]; rfl)) ?_; (with_reducible refine (impl_SchemeSplit.calls kj3 a0 t148 t149 t150 true _ A11.out).mono ?_); rintro e w22 ⟨rfl, hb⟩; refine ⟨_, rfl, ?_⟩; have n0_ := Aside0.mk (below_step (by repeat (first | (with_reducible first | exact HB.out | apply below_alloc | apply pw_below_drewN | apply below_drew1) | exact HB.out)) hb); clear HB; have HB := n0_; clear n0_; (try clear hb); (try clear hb2); (try clear hk); (try clear hi)) | ((with_reducible refine gate_callee (f := 22) rfl ?_); refine goesL_ (some 39) rfl rfl Try.func22 (by kernel_rfl) rfl #[.string a0] rfl (by (try simp only [List.map_toArray, List.map_cons, List.map_nil]); first | done | rfl | (simp only [List.length_drop, List.length_take]; rfl)) ?_; (with_reducible refine (spec_SchemeParts.calls kj3 a0 t152 t153 t154 t155 _ A12.out).mono ?_); rintro e w23 ⟨rfl, hb⟩; refine ⟨_, rfl, ?_⟩; have n0_ := Aside0.mk (below_step (by repeat (first | (with_reducible first | exact HB.out | apply below_alloc | apply pw_below_drewN | apply below_drew1) | exact HB.out)) hb); clear HB; have HB := n0_; clear n0_; (try clear hb); (try clear hb2); (try clear hk); (try clear hi)) | ((with_reducible refine gate_callee (f := 21) rfl ?_); refine goesL_ (some 45) rfl rfl Try.func21 (by kernel_rfl) rfl #[.string (⟨#[110]⟩ : ByteArray)] rfl (by (try simp only [List.map_toArray, List.map_cons, List.map_nil]); first | done | rfl | (simp only [List.length_drop, List.length_take]; rfl)) ?_; (with_reducible refine (impl_SchemeSplit.calls kj3 (⟨#[110]⟩ : ByteArray) t156 t157 t158 t159 _ A13.out).mono ?_); rintro e w24 ⟨rfl, hb⟩; refine ⟨_, rfl, ?_⟩; have n0_ := Aside0.mk (below_step (by repeat (first | (with_reducible first | exact HB.out | apply below_alloc | apply pw_below_drewN | apply below_drew1) | exact HB.out)) hb); clear HB; have HB := n0_; clear n0_; (try clear hb); (try clear hb2); (try clear hk); (try clear hi)))
                    go_ret
                    exact ⟨by first | rfl | (simp [errW_none, errW_some] <;> rfl) | (simp [*, errW_none, errW_some] <;> rfl) | (exfalso; contradiction), by repeat (first | (with_reducible first | exact HB.out | apply below_alloc | apply pw_below_drewN | apply below_drew1) | exact HB.out)⟩
                · rw [if_neg c17] at H
                  have c17b0 : (t148.toList == t152.toList) = false := beq_eq_false_iff_ne.mpr c17
                  have c17b1 : (t148.toList != t152.toList) = true := bne_iff_ne.mpr c17
                  obtain rfl := Option.some.inj H
                  go_wp2_with (first | ((with_reducible refine gate_callee (f := 21) rfl ?_); refine goesL_ (some 32) rfl rfl Try.func21 (by kernel_rfl) rfl #[.string a0] rfl (by (try simp only [List.map_toArray, List.map_cons, List.map_nil]); first | done | rfl | (simp only [List.length_drop, List.length_take]; rfl)) ?_; (with_reducible refine (impl_SchemeSplit.calls kj3 a0 t148 t149 t150 true _ A11.out).mono ?_); rintro e w25 ⟨rfl, hb⟩; refine ⟨_, rfl, ?_⟩; have n0_ := Aside0.mk (below_step (by repeat (first | (with_reducible first | exact HB.out | apply below_alloc | apply pw_below_drewN | apply below_drew1) | exact HB.out)) hb); clear HB; have HB := n0_; clear n0_; (try clear hb); (try clear hb2); (try clear hk); (try clear hi)) | ((with_reducible refine gate_callee (f := 22) rfl ?_); refine goesL_ (some 39) rfl rfl Try.func22 (by kernel_rfl) rfl #[.string a0] rfl (by (try simp only [List.map_toArray, List.map_cons, List.map_nil]); first | done | rfl | (simp only [List.length_drop, List.length_take]; rfl)) ?_; (with_reducible refine (spec_SchemeParts.calls kj3 a0 t152 t153 t154 t155 _ A12.out).mono ?_); rintro e w26 ⟨rfl, hb⟩; refine ⟨_, rfl, ?_⟩; have n0_ := Aside0.mk (below_step (by repeat (first | (with_reducible first | exact HB.out | apply below_alloc | apply pw_below_drewN | apply below_drew1) | exact HB.out)) hb); clear HB; have HB := n0_; clear n0_; (try clear hb); (try clear hb2); (try clear hk); (try clear hi)) | ((with_reducible refine gate_callee (f := 21) rfl ?_); refine goesL_ (some 45) rfl rfl Try.func21 (by kernel_rfl) rfl #[.string (⟨#[110]⟩ : ByteArray)] rfl (by (try simp only [List.map_toArray, List.map_cons, List.map_nil]); first | done | rfl | (simp only [List.length_drop, List.length_take]; rfl)) ?_; (with_reducible refine (impl_SchemeSplit.calls kj3 (⟨#[110]⟩ : ByteArray) t156 t157 t158 t159 _ A13.out).mono ?_); rintro e w27 ⟨rfl, hb⟩; refine ⟨_, rfl, ?_⟩; have n0_ := Aside0.mk (below_step (by repeat (first | (with_reducible first | exact HB.out | apply below_alloc | apply pw_below_drewN | apply below_drew1) | exact HB.out)) hb); clear HB; have HB := n0_; clear n0_; (try clear hb); (try clear hb2); (try clear hk); (try clear hi)))
                  go_ret
                  exact ⟨by first | rfl | (simp [errW_none, errW_some] <;> rfl) | (simp [*, errW_none, errW_some] <;> rfl) | (exfalso; contradiction), by repeat (first | (with_reducible first | exact HB.out | apply below_alloc | apply pw_below_drewN | apply below_drew1) | exact HB.out)⟩
              · replace c16 := Bool.eq_false_iff.mpr c16
                subst c16
                have H1 : (some true) = some r := by rw [if_neg (show ¬ (false = true) by decide)] at H; exact H
                clear H
                have H := H1
                clear H1
                obtain rfl := Option.some.inj H
                go_wp2_with (first | ((with_reducible refine gate_callee (f := 21) rfl ?_); refine goesL_ (some 32) rfl rfl Try.func21 (by kernel_rfl) rfl #[.string a0] rfl (by (try simp only [List.map_toArray, List.map_cons, List.map_nil]); first | done | rfl | (simp only [List.length_drop, List.length_take]; rfl)) ?_; (with_reducible refine (impl_SchemeSplit.calls kj3 a0 t148 t149 t150 false _ A11.out).mono ?_); rintro e w28 ⟨rfl, hb⟩; refine ⟨_, rfl, ?_⟩; have n0_ := Aside0.mk (below_step (by repeat (first | (with_reducible first | exact HB.out | apply below_alloc | apply pw_below_drewN | apply below_drew1) | exact HB.out)) hb); clear HB; have HB := n0_; clear n0_; (try clear hb); (try clear hb2); (try clear hk); (try clear hi)) | ((with_reducible refine gate_callee (f := 22) rfl ?_); refine goesL_ (some 39) rfl rfl Try.func22 (by kernel_rfl) rfl #[.string a0] rfl (by (try simp only [List.map_toArray, List.map_cons, List.map_nil]); first | done | rfl | (simp only [List.length_drop, List.length_take]; rfl)) ?_; (with_reducible refine (spec_SchemeParts.calls kj3 a0 t152 t153 t154 t155 _ A12.out).mono ?_); rintro e w29 ⟨rfl, hb⟩; refine ⟨_, rfl, ?_⟩; have n0_ := Aside0.mk (below_step (by repeat (first | (with_reducible first | exact HB.out | apply below_alloc | apply pw_below_drewN | apply below_drew1) | exact HB.out)) hb); clear HB; have HB := n0_; clear n0_; (try clear hb); (try clear hb2); (try clear hk); (try clear hi)) | ((with_reducible refine gate_callee (f := 21) rfl ?_); refine goesL_ (some 45) rfl rfl Try.func21 (by kernel_rfl) rfl #[.string (⟨#[110]⟩ : ByteArray)] rfl (by (try simp only [List.map_toArray, List.map_cons, List.map_nil]); first | done | rfl | (simp only [List.length_drop, List.length_take]; rfl)) ?_; (with_reducible refine (impl_SchemeSplit.calls kj3 (⟨#[110]⟩ : ByteArray) t156 t157 t158 t159 _ A13.out).mono ?_); rintro e w30 ⟨rfl, hb⟩; refine ⟨_, rfl, ?_⟩; have n0_ := Aside0.mk (below_step (by repeat (first | (with_reducible first | exact HB.out | apply below_alloc | apply pw_below_drewN | apply below_drew1) | exact HB.out)) hb); clear HB; have HB := n0_; clear n0_; (try clear hb); (try clear hb2); (try clear hk); (try clear hi)))
                go_ret
                exact ⟨by first | rfl | (simp [errW_none, errW_some] <;> rfl) | (simp [*, errW_none, errW_some] <;> rfl) | (exfalso; contradiction), by repeat (first | (with_reducible first | exact HB.out | apply below_alloc | apply pw_below_drewN | apply below_drew1) | exact HB.out)⟩
            · rw [if_neg c15] at H
              have c15b0 : (t157.toList == ([110] : List UInt8)) = false := beq_eq_false_iff_ne.mpr c15
              have c15b1 : (t157.toList != ([110] : List UInt8)) = true := bne_iff_ne.mpr c15
              obtain rfl := Option.some.inj H
              go_wp2_with (first | ((with_reducible refine gate_callee (f := 21) rfl ?_); refine goesL_ (some 32) rfl rfl Try.func21 (by kernel_rfl) rfl #[.string a0] rfl (by (try simp only [List.map_toArray, List.map_cons, List.map_nil]); first | done | rfl | (simp only [List.length_drop, List.length_take]; rfl)) ?_; (with_reducible refine (impl_SchemeSplit.calls kj3 a0 t148 t149 t150 t151 _ A11.out).mono ?_); rintro e w31 ⟨rfl, hb⟩; refine ⟨_, rfl, ?_⟩; have n0_ := Aside0.mk (below_step (by repeat (first | (with_reducible first | exact HB.out | apply below_alloc | apply pw_below_drewN | apply below_drew1) | exact HB.out)) hb); clear HB; have HB := n0_; clear n0_; (try clear hb); (try clear hb2); (try clear hk); (try clear hi)) | ((with_reducible refine gate_callee (f := 22) rfl ?_); refine goesL_ (some 39) rfl rfl Try.func22 (by kernel_rfl) rfl #[.string a0] rfl (by (try simp only [List.map_toArray, List.map_cons, List.map_nil]); first | done | rfl | (simp only [List.length_drop, List.length_take]; rfl)) ?_; (with_reducible refine (spec_SchemeParts.calls kj3 a0 t152 t153 t154 t155 _ A12.out).mono ?_); rintro e w32 ⟨rfl, hb⟩; refine ⟨_, rfl, ?_⟩; have n0_ := Aside0.mk (below_step (by repeat (first | (with_reducible first | exact HB.out | apply below_alloc | apply pw_below_drewN | apply below_drew1) | exact HB.out)) hb); clear HB; have HB := n0_; clear n0_; (try clear hb); (try clear hb2); (try clear hk); (try clear hi)) | ((with_reducible refine gate_callee (f := 21) rfl ?_); refine goesL_ (some 45) rfl rfl Try.func21 (by kernel_rfl) rfl #[.string (⟨#[110]⟩ : ByteArray)] rfl (by (try simp only [List.map_toArray, List.map_cons, List.map_nil]); first | done | rfl | (simp only [List.length_drop, List.length_take]; rfl)) ?_; (with_reducible refine (impl_SchemeSplit.calls kj3 (⟨#[110]⟩ : ByteArray) t156 t157 t158 t159 _ A13.out).mono ?_); rintro e w33 ⟨rfl, hb⟩; refine ⟨_, rfl, ?_⟩; have n0_ := Aside0.mk (below_step (by repeat (first | (with_reducible first | exact HB.out | apply below_alloc | apply pw_below_drewN | apply below_drew1) | exact HB.out)) hb); clear HB; have HB := n0_; clear n0_; (try clear hb); (try clear hb2); (try clear hk); (try clear hi)))
              go_ret
              exact ⟨by first | rfl | (simp [errW_none, errW_some] <;> rfl) | (simp [*, errW_none, errW_some] <;> rfl) | (exfalso; contradiction), by repeat (first | (with_reducible first | exact HB.out | apply below_alloc | apply pw_below_drewN | apply below_drew1) | exact HB.out)⟩
          · rw [if_neg c14] at H
            have c14b0 : (t151 == t155) = false := by simpa using c14
            (try (have c14b1 : decide (t151 = t155) = false := by simpa using c14))
            (try (have c14b2 : (t151 == t155) = false := by simpa using c14))
            (try (have c14b3 : ¬ (t151 = t155) := by simpa using c14))
            clear c14
            obtain rfl := Option.some.inj H
            go_wp2_with (first | ((with_reducible refine gate_callee (f := 21) rfl ?_); refine goesL_ (some 32) rfl rfl Try.func21 (by kernel_rfl) rfl #[.string a0] rfl (by (try simp only [List.map_toArray, List.map_cons, List.map_nil]); first | done | rfl | (simp only [List.length_drop, List.length_take]; rfl)) ?_; (with_reducible refine (impl_SchemeSplit.calls kj3 a0 t148 t149 t150 t151 _ A11.out).mono ?_); rintro e w34 ⟨rfl, hb⟩; refine ⟨_, rfl, ?_⟩; have n0_ := Aside0.mk (below_step (by repeat (first | (with_reducible first | exact HB.out | apply below_alloc | apply pw_below_drewN | apply below_drew1) | exact HB.out)) hb); clear HB; have HB := n0_; clear n0_; (try clear hb); (try clear hb2); (try clear hk); (try clear hi)) | ((with_reducible refine gate_callee (f := 22) rfl ?_); refine goesL_ (some 39) rfl rfl Try.func22 (by kernel_rfl) rfl #[.string a0] rfl (by (try simp only [List.map_toArray, List.map_cons, List.map_nil]); first | done | rfl | (simp only [List.length_drop, List.length_take]; rfl)) ?_; (with_reducible refine (spec_SchemeParts.calls kj3 a0 t152 t153 t154 t155 _ A12.out).mono ?_); rintro e w35 ⟨rfl, hb⟩; refine ⟨_, rfl, ?_⟩; have n0_ := Aside0.mk (below_step (by repeat (first | (with_reducible first | exact HB.out | apply below_alloc | apply pw_below_drewN | apply below_drew1) | exact HB.out)) hb); clear HB; have HB := n0_; clear n0_; (try clear hb); (try clear hb2); (try clear hk); (try clear hi)) | ((with_reducible refine gate_callee (f := 21) rfl ?_); refine goesL_ (some 45) rfl rfl Try.func21 (by kernel_rfl) rfl #[.string (⟨#[110]⟩ : ByteArray)] rfl (by (try simp only [List.map_toArray, List.map_cons, List.map_nil]); first | done | rfl | (simp only [List.length_drop, List.length_take]; rfl)) ?_; (with_reducible refine (impl_SchemeSplit.calls kj3 (⟨#[110]⟩ : ByteArray) t156 t157 t158 t159 _ A13.out).mono ?_); rintro e w36 ⟨rfl, hb⟩; refine ⟨_, rfl, ?_⟩; have n0_ := Aside0.mk (below_step (by repeat (first | (with_reducible first | exact HB.out | apply below_alloc | apply pw_below_drewN | apply below_drew1) | exact HB.out)) hb); clear HB; have HB := n0_; clear n0_; (try clear hb); (try clear hb2); (try clear hk); (try clear hi)))
            go_ret
            exact ⟨by first | rfl | (simp [errW_none, errW_some] <;> rfl) | (simp [*, errW_none, errW_some] <;> rfl) | (exfalso; contradiction), by repeat (first | (with_reducible first | exact HB.out | apply below_alloc | apply pw_below_drewN | apply below_drew1) | exact HB.out)⟩

/-- THE ONE PURE STATEMENT of laws_FnScheme: yours. -/
def laws_FnScheme.Pure : Prop := ∀ (a0 : ByteArray), a0.size ≤ 140737488351232 → ∃ k, laws_FnScheme.f k a0 = some true
theorem laws_FnScheme.walk (P : laws_FnScheme.Pure) (a0 : ByteArray) (w : World) (w0 : a0.size ≤ 140737488351232) :
    Calls Try.prog 7 #[.string a0] w fun e w' => e = .returned (.bool true) ∧ Below w.heap.size w w' := by
  obtain ⟨k, h⟩ := P a0 w0
  refine (laws_FnScheme.calls k a0 true w h).mono ?_
  rintro e w' ⟨rfl, hd⟩
  exact ⟨rfl, hd⟩

end Go.Proofs.Ytgidpggooclebaa.PFnScheme
