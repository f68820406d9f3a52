/- Functions of the program as plain Lean functions, and that the machine's calls do what these say: written for this claim by wip/myprint.py over the kit's print.py. -/
import Derived.Test.YtmehecpmhijfmaaDoorPFnFieldParsex0
import Derived.Test.YtmehecpmhijfmaaDoorPFnFieldParsex1
import Derived.Test.YtmehecpmhijfmaaDoorPFnFieldParsex2
import Derived.Test.YtmehecpmhijfmaaDoorPFnFieldParsex3
import Derived.Test.YtmehecpmhijfmaaDoorPFnFieldParsex4
namespace Go.Proofs.YtmehecpmhijfmaaDoor.PFnFieldParse
open Go.RowKit Go.Proofs.YtmehecpmhijfmaaDoorW.PrintWords Go.Proofs.YtmehecpmhijfmaaDoorW.PrintLast Go.Proofs.YtmehecpmhijfmaaDoorW.PrintMore
attribute [local go_sem] max2_int min2_int max_two min_two max_three min_three max_four min_four   -- for this text's walks alone
set_option linter.unusedVariables false
set_option linter.unusedSimpArgs false

attribute [local go_sem high] eqA47
/-! ### spec_FieldTerms: function 6 -/
mutual
def spec_FieldTerms.l0 : Nat → List (S47) → List ByteArray → Int → Option ((List (S47)) × Bool)
  | 0, _, _, _ => none
  | k + 1, x4, x5, x6 => if x6 < (x5.length : Int) then (if 0 ≤ x6 then (if (rdOf ByteArray.empty x5 x6).toList = ([] : List UInt8) then (spec_FieldTerms.l0 k x4 x5 (wrap64 (x6 + 1))) else ((spec_FieldCut.f k (rdOf ByteArray.empty x5 x6)).bind fun bt175 => ((spec_Unescape.f k bt175.2.2.1).bind fun bt179 => (if bt175.2.2.2 = true then (spec_FieldTerms.j1 k x4 x5 x6 bt175.1 bt175.2.1 bt179.1 (!bt179.2)) else (spec_FieldTerms.j1 k x4 x5 x6 bt175.1 bt175.2.1 bt179.1 true))))) else (none)) else (some (x4, true))
def spec_FieldTerms.j1 : Nat → List (S47) → List ByteArray → Int → ByteArray → ByteArray → ByteArray → Bool → Option ((List (S47)) × Bool)
  | 0, _, _, _, _, _, _, _ => none
  | k + 1, x4, x5, x6, x7, x8, x11, x47 => if x47 = true then (some (([] : List (S47)), false)) else (if x8.toList = ([61, 61] : List UInt8) then (if x7.toList = ([] : List UInt8) then (if x11.toList = ([] : List UInt8) then (spec_FieldTerms.l0 k x4 x5 (wrap64 (x6 + 1))) else (if x4.length < 2932031007402 then (spec_FieldTerms.l0 k (x4 ++ [(⟨x7, (⟨#[61]⟩ : ByteArray), x11⟩ : S47)]) x5 (wrap64 (x6 + 1))) else (none))) else (if x4.length < 2932031007402 then (spec_FieldTerms.l0 k (x4 ++ [(⟨x7, (⟨#[61]⟩ : ByteArray), x11⟩ : S47)]) x5 (wrap64 (x6 + 1))) else (none))) else (if x7.toList = ([] : List UInt8) then (if x11.toList = ([] : List UInt8) then (spec_FieldTerms.l0 k x4 x5 (wrap64 (x6 + 1))) else (if x4.length < 2932031007402 then (spec_FieldTerms.l0 k (x4 ++ [(⟨x7, x8, x11⟩ : S47)]) x5 (wrap64 (x6 + 1))) else (none))) else (if x4.length < 2932031007402 then (spec_FieldTerms.l0 k (x4 ++ [(⟨x7, x8, x11⟩ : S47)]) x5 (wrap64 (x6 + 1))) else (none))))
end
def spec_FieldTerms.f (k : Nat) (a0 : ByteArray) : Option ((List (S47)) × Bool) := (spec_FieldPieces.f k a0).bind fun t167 => ((spec_sorted.f k t167).bind fun t170 => (spec_FieldTerms.l0 k ([] : List (S47)) t170 0))
theorem spec_FieldTerms.mono_l : ∀ k, (∀ y0 y1 y2, LeO (spec_FieldTerms.l0 k y0 y1 y2) (spec_FieldTerms.l0 (k + 1) y0 y1 y2)) ∧ (∀ y0 y1 y2 y3 y4 y5 y6, LeO (spec_FieldTerms.j1 k y0 y1 y2 y3 y4 y5 y6) (spec_FieldTerms.j1 (k + 1) y0 y1 y2 y3 y4 y5 y6))
  | 0 => ⟨fun _ _ _ r h => by simp [spec_FieldTerms.l0] at h, fun _ _ _ _ _ _ _ r h => by simp [spec_FieldTerms.j1] at h⟩
  | k + 1 => by
    obtain ⟨ih0, ih1⟩ := spec_FieldTerms.mono_l k
    refine ⟨?_, ?_⟩
    · intro y0 y1 y2
      unfold spec_FieldTerms.l0
      repeat' first
      | (with_reducible exact ih0 _ _ _)
      | (with_reducible exact ih1 _ _ _ _ _ _ _)
      | (with_reducible exact spec_FieldCut.mono _ _)
      | (with_reducible exact spec_FieldPieces.mono _ _)
      | (with_reducible exact spec_Unescape.mono _ _)
      | (with_reducible exact spec_sorted.mono _ _)
      | (with_reducible exact LeO.refl _)
      | (with_reducible exact LeO.none _)
      | (with_reducible refine LeO.ite ?_ ?_)
      | (with_reducible refine LeO.bind ?_ (fun _ => ?_))
      | exact ih0 _ _ _
      | exact ih1 _ _ _ _ _ _ _
      | exact spec_FieldCut.mono _ _
      | exact spec_FieldPieces.mono _ _
      | exact spec_Unescape.mono _ _
      | exact spec_sorted.mono _ _
      | exact LeO.none _
      | refine LeO.ite ?_ ?_
      | refine LeO.bind ?_ (fun _ => ?_)
    · intro y0 y1 y2 y3 y4 y5 y6
      unfold spec_FieldTerms.j1
      repeat' first
      | (with_reducible exact ih0 _ _ _)
      | (with_reducible exact ih1 _ _ _ _ _ _ _)
      | (with_reducible exact spec_FieldCut.mono _ _)
      | (with_reducible exact spec_FieldPieces.mono _ _)
      | (with_reducible exact spec_Unescape.mono _ _)
      | (with_reducible exact spec_sorted.mono _ _)
      | (with_reducible exact LeO.refl _)
      | (with_reducible exact LeO.none _)
      | (with_reducible refine LeO.ite ?_ ?_)
      | (with_reducible refine LeO.bind ?_ (fun _ => ?_))
      | exact ih0 _ _ _
      | exact ih1 _ _ _ _ _ _ _
      | exact spec_FieldCut.mono _ _
      | exact spec_FieldPieces.mono _ _
      | exact spec_Unescape.mono _ _
      | exact spec_sorted.mono _ _
      | exact LeO.none _
      | refine LeO.ite ?_ ?_
      | refine LeO.bind ?_ (fun _ => ?_)
theorem spec_FieldTerms.mono : ∀ a0 k, LeO (spec_FieldTerms.f k a0) (spec_FieldTerms.f (k + 1) a0) := by
  intro a0 k
  obtain ⟨ih0, ih1⟩ := spec_FieldTerms.mono_l k
  unfold spec_FieldTerms.f
  repeat' first
      | (with_reducible exact ih0 _ _ _)
      | (with_reducible exact ih1 _ _ _ _ _ _ _)
      | (with_reducible exact spec_FieldCut.mono _ _)
      | (with_reducible exact spec_FieldPieces.mono _ _)
      | (with_reducible exact spec_Unescape.mono _ _)
      | (with_reducible exact spec_sorted.mono _ _)
      | (with_reducible exact LeO.refl _)
      | (with_reducible exact LeO.none _)
      | (with_reducible refine LeO.ite ?_ ?_)
      | (with_reducible refine LeO.bind ?_ (fun _ => ?_))
      | exact ih0 _ _ _
      | exact ih1 _ _ _ _ _ _ _
      | exact spec_FieldCut.mono _ _
      | exact spec_FieldPieces.mono _ _
      | exact spec_Unescape.mono _ _
      | exact spec_sorted.mono _ _
      | exact LeO.none _
      | refine LeO.ite ?_ ?_
      | refine LeO.bind ?_ (fun _ => ?_)
set_option maxHeartbeats 8000000 in
set_option maxRecDepth 100000 in
theorem spec_FieldTerms.calls (k : Nat) (a0 : ByteArray) (r1 : List (S47)) (r2 : Bool) (w : World) (h : spec_FieldTerms.f k a0 = some (r1, r2)) :
    Calls Tryd.prog 6 #[.string a0] w fun e w' => ∃ v0_ : Value, e = .returned (.tuple #[v0_, .bool r2]) ∧ Kd.R k47 47 w' w.heap.size (fun _ => True) v0_ r1 ∧ Below w.heap.size w w' := by
  have hu47 := Tryd.underlying47
  have HB := Aside0.mk (Below.refl w.heap.size w)
  have H : ((spec_FieldPieces.f k a0).bind fun t167 => ((spec_sorted.f k t167).bind fun t170 => (spec_FieldTerms.l0 k ([] : List (S47)) t170 0))) = some (r1, r2) := h
  clear h
  replace H := Option.bind_eq_some_iff.mp H
  obtain ⟨t167, A20, H⟩ := H
  replace H : ((spec_sorted.f k t167).bind fun t170 => (spec_FieldTerms.l0 k ([] : List (S47)) t170 0)) = some (r1, r2) := H
  have A2 := Aside0.mk A20
  clear A20
  replace H := Option.bind_eq_some_iff.mp H
  obtain ⟨t170, A30, H⟩ := H
  replace H : (spec_FieldTerms.l0 k ([] : List (S47)) t170 0) = some (r1, r2) := H
  have A3 := Aside0.mk A30
  clear A30
  have H' := Aside0.mk H
  clear H
  go_enter Tryd.func6, Tryd.ntmps6
  go_wp2_with (first | ((with_reducible refine gate_callee (f := 12) rfl ?_); refine goesL_ (some 14) rfl rfl Tryd.func12 (by kernel_rfl) rfl #[.string a0] rfl (by (try simp only [List.map_toArray, List.map_cons, List.map_nil]); first | done | rfl | (simp only [List.length_drop, List.length_take]; rfl)) ?_; (with_reducible refine (spec_FieldPieces.calls k a0 t167 _ A2.out).mono ?_); rintro e w4 ⟨v168, rfl, ho0, hb⟩; refine ⟨_, rfl, ?_⟩; have n0_ := Aside0.mk (Kd.R_lower ho0 (below_size (by repeat (first | (with_reducible first | exact HB.out | apply below_alloc | apply pw_below_drewN | apply below_drew1) | exact HB.out)))); have n1_ := Aside0.mk (below_step (by repeat (first | (with_reducible first | exact HB.out | apply below_alloc | apply pw_below_drewN | apply below_drew1) | exact HB.out)) hb); clear HB; have HO169 := n0_; have HB := n1_; clear n0_ n1_; (try clear hb); (try clear hb2); (try clear hk); (try clear hi); (try clear ho0); obtain ⟨Ao5, co5, eo5⟩ := Kd.R_slice HO169.out; subst eo5) | ((with_reducible refine gate_callee (f := 11) rfl ?_); refine goesL_ (some 15) rfl rfl Tryd.func11 (by kernel_rfl) rfl #[.slice Ao5 t167.length co5] rfl (by (try simp only [List.map_toArray, List.map_cons, List.map_nil]); first | done | rfl | (simp only [List.length_drop, List.length_take]; rfl)) ?_; (with_reducible refine (spec_sorted.calls k _ _ t167 t170 _ ?side1 ?side2 A3.out).mono ?_); (case side1 => repeat (first | exact (Kd.R_reads' HO169.out).2.2 | (with_reducible refine Kd.C_alloc ?_ _) | (with_reducible refine Kd.C_drewN ?_ _) | (with_reducible refine Kd.C_drew ?_))); (case side2 => exact (Kd.R_reads' HO169.out).2.1); rintro e w6 ⟨v171, rfl, ho0, hb⟩; refine ⟨_, rfl, ?_⟩; have n0_ := Aside0.mk (Kd.R_elder' (by (with_reducible repeat (first | apply Kd.R_alloc | apply Kd.R_drewN | apply Kd.R_drew)); exact HO169.out) (Kd.R_base ho0) hb); have n1_ := Aside0.mk (Kd.R_lower (Kd.R_new' ho0 (Kd.R_lt (by (with_reducible repeat (first | apply Kd.R_alloc | apply Kd.R_drewN | apply Kd.R_drew)); exact HO169.out))) (below_size (by repeat (first | (with_reducible first | exact HB.out | apply below_alloc | apply pw_below_drewN | apply below_drew1) | exact HB.out)))); have n2_ := Aside0.mk (below_step (by repeat (first | (with_reducible first | exact HB.out | apply below_alloc | apply pw_below_drewN | apply below_drew1) | exact HB.out)) hb); clear HO169; clear HB; have HO169 := n0_; have HO172 := n1_; have HB := n2_; clear n0_ n1_ n2_; (try clear hb); (try clear hb2); (try clear hk); (try clear hi); (try clear ho0)))
  go_loopg [4, 6] k (fun kq v4 v6 w' => ∃ (x4_1 : List (S47)) (x6_1 : Int), v6 = .int .i64 x6_1 ∧ Aside0 (spec_FieldTerms.l0 kq x4_1 t170 x6_1 = some (r1, r2)) ∧ Aside0 (kq ≤ k) ∧ Aside0 (Kd.R k47 47 w' w.heap.size (fun _ => True) v4 x4_1) ∧ Aside0 (Kd.R Kd.string 9 w' w.heap.size (fun _ => True) v171 t170) ∧ Aside0 (Below w.heap.size w w'))
  case atStart => exact ⟨(([] : List (S47))), (0), (by first | rfl | (simp; done) | (simp [*]; done)), H', ⟨Nat.le_refl _⟩, ⟨by first | exact Kd.R_nil _ _ _ _ _ | exact Kd.N_nil _ _ _ _ _ | exact Kd.V_nil _ _ _ _ _ | exact Kd.Q_nil _ _ _ _ _ | exact Kd.S_nil _ _ _ _ _⟩, ⟨by (with_reducible repeat (first | apply Kd.R_alloc | apply Kd.R_drewN | apply Kd.R_drew)); exact Kd.R_mono HO172.out (fun _ hk => trivial)⟩, ⟨by repeat (first | (with_reducible first | exact HB.out | apply below_alloc | apply pw_below_drewN | apply below_drew1) | exact HB.out)⟩⟩
  case round =>
    clear H'
    try clear c1
    try clear p2
    try clear c6
    obtain ⟨x4_1, x6_1, rfl, HA, HK1, HO_4, HO_5, HB⟩ := hrel
    cases gk with
    | zero => exact absurd HA.out (by simp [spec_FieldTerms.l0])
    | succ k1 =>
      have H := HA.out
      clear HA
      simp only [spec_FieldTerms.l0] at H
      by_cases c7 : x6_1 < (t170.length : Int)
      · rw [if_pos c7] at H
        have c7b0 : decide (x6_1 < (t170.length : Int)) = true := decide_eq_true c7
        clear c7
        by_cases c8 : 0 ≤ x6_1
        · rw [if_pos c8] at H
          have c8b0 : decide (0 ≤ x6_1) = true := decide_eq_true c8
          clear c8
          by_cases c9 : (rdOf ByteArray.empty t170 x6_1).toList = ([] : List UInt8)
          · rw [if_pos c9] at H
            have c9b0 : ((rdOf ByteArray.empty t170 x6_1).toList == ([] : List UInt8)) = true := beq_iff_eq.mpr c9
            have c9b1 : ((rdOf ByteArray.empty t170 x6_1).toList != ([] : List UInt8)) = false := bne_eq_false_iff_eq.mpr c9
            clear c9
            have H' := Aside0.mk H
            clear H
            obtain ⟨Ao10, co10, eo10⟩ := Kd.R_slice HO_5.out
            subst eo10
            have p173 : 0 ≤ (x6_1 : Int) := of_decide_eq_true (by first | (with_reducible assumption) | assumption)
            have q173 : x6_1 < (t170.length : Int) := of_decide_eq_true (by first | (with_reducible assumption) | assumption)
            obtain ⟨ad173, e173, hx173_0⟩ := Kd.at_string (Kd.R_reads' HO_5.out).2.2 x6_1 p173 q173
            cases e173
            replace p173 := eq_true p173
            replace q173 := eq_true q173
            go_wp2
            go_roundg k1
            case measure => have := HK1.out; omega
            case rel => exact ⟨(x4_1), (wrap64 (x6_1 + 1)), (by first | rfl | (simp; done) | (simp [*]; done)), H', ⟨by have := HK1.out; omega⟩, ⟨by (with_reducible repeat (first | apply Kd.R_alloc | apply Kd.R_drewN | apply Kd.R_drew)); exact HO_4.out⟩, ⟨by (with_reducible repeat (first | apply Kd.R_alloc | apply Kd.R_drewN | apply Kd.R_drew)); exact HO_5.out⟩, ⟨by repeat (first | (with_reducible first | exact HB.out | apply below_alloc | apply pw_below_drewN | apply below_drew1) | exact HB.out)⟩⟩
          · rw [if_neg c9] at H
            have c9b0 : ((rdOf ByteArray.empty t170 x6_1).toList == ([] : List UInt8)) = false := beq_eq_false_iff_ne.mpr c9
            have c9b1 : ((rdOf ByteArray.empty t170 x6_1).toList != ([] : List UInt8)) = true := bne_iff_ne.mpr c9
            replace H := Option.bind_eq_some_iff.mp H
            obtain ⟨⟨t175, t176, t177, t178⟩, A110, H⟩ := H
            replace H : ((spec_Unescape.f k1 t177).bind fun bt179 => (if t178 = true then (spec_FieldTerms.j1 k1 x4_1 t170 x6_1 t175 t176 bt179.1 (!bt179.2)) else (spec_FieldTerms.j1 k1 x4_1 t170 x6_1 t175 t176 bt179.1 true))) = some (r1, r2) := H
            have A11 := Aside0.mk A110
            clear A110
            replace H := Option.bind_eq_some_iff.mp H
            obtain ⟨⟨t179, t180⟩, A120, H⟩ := H
            replace H : (if t178 = true then (spec_FieldTerms.j1 k1 x4_1 t170 x6_1 t175 t176 t179 (!t180)) else (spec_FieldTerms.j1 k1 x4_1 t170 x6_1 t175 t176 t179 true)) = some (r1, r2) := H
            have A12 := Aside0.mk A120
            clear A120
            have HC13 := Aside0.mk H
            clear H
            obtain ⟨Ao14, co14, eo14⟩ := Kd.R_slice HO_5.out
            subst eo14
            have p173 : 0 ≤ (x6_1 : Int) := of_decide_eq_true (by first | (with_reducible assumption) | assumption)
            have q173 : x6_1 < (t170.length : Int) := of_decide_eq_true (by first | (with_reducible assumption) | assumption)
            obtain ⟨ad173, e173, hx173_0⟩ := Kd.at_string (Kd.R_reads' HO_5.out).2.2 x6_1 p173 q173
            cases e173
            replace p173 := eq_true p173
            replace q173 := eq_true q173
            have p174 : 0 ≤ (x6_1 : Int) := of_decide_eq_true (by first | (with_reducible assumption) | assumption)
            have q174 : x6_1 < (t170.length : Int) := of_decide_eq_true (by first | (with_reducible assumption) | assumption)
            obtain ⟨ad174, e174, hx174_0⟩ := Kd.at_string (Kd.R_reads' HO_5.out).2.2 x6_1 p174 q174
            obtain rfl : ad173 = ad174 := (by injection e174)
            replace p174 := eq_true p174
            replace q174 := eq_true q174
            go_upto_region 9 with (first | ((with_reducible refine gate_callee (f := 13) rfl ?_); refine goesL_ (some 32) rfl rfl Tryd.func13 (by kernel_rfl) rfl #[.string (rdOf ByteArray.empty t170 x6_1)] rfl (by (try simp only [List.map_toArray, List.map_cons, List.map_nil]); first | done | rfl | (simp only [List.length_drop, List.length_take]; rfl)) ?_; (with_reducible refine (spec_FieldCut.calls k1 (rdOf ByteArray.empty t170 x6_1) t175 t176 t177 t178 _ A11.out).mono ?_); rintro e w' ⟨rfl, ⟨nd, rfl⟩⟩; refine ⟨_, rfl, ?_⟩) | ((with_reducible refine gate_callee (f := 14) rfl ?_); refine goesL_ (some 39) rfl rfl Tryd.func14 (by kernel_rfl) rfl #[.string t177] rfl (by (try simp only [List.map_toArray, List.map_cons, List.map_nil]); first | done | rfl | (simp only [List.length_drop, List.length_take]; rfl)) ?_; (with_reducible refine (spec_Unescape.calls k1 t177 t179 t180 _ A12.out).mono ?_); rintro e w15 ⟨rfl, hb⟩; refine ⟨_, rfl, ?_⟩; have n0_ := Aside0.mk (Kd.R_below (by (with_reducible repeat (first | apply Kd.R_alloc | apply Kd.R_drewN | apply Kd.R_drew)); exact HO_4.out) hb); have n1_ := Aside0.mk (Kd.R_below (by (with_reducible repeat (first | apply Kd.R_alloc | apply Kd.R_drewN | apply Kd.R_drew)); exact HO_5.out) hb); have n2_ := Aside0.mk (below_step (by repeat (first | (with_reducible first | exact HB.out | apply below_alloc | apply pw_below_drewN | apply below_drew1) | exact HB.out)) hb); clear HO_4; clear HO_5; clear HB; have HO_4 := n0_; have HO_5 := n1_; have HB := n2_; clear n0_ n1_ n2_; (try clear hb); (try clear hb2); (try clear hk); (try clear hi)))
            (try simp only [Act.put, List.setIfInBounds_toArray, List.set_cons_zero, List.set_cons_succ])
            go_cut [47] (fun v47 wc => ∃ (kq : Nat) (x47_12 : Bool), v47 = .bool x47_12 ∧ Aside0 (spec_FieldTerms.j1 kq x4_1 t170 x6_1 t175 t176 t179 x47_12 = some (r1, r2)) ∧ Aside0 (kq ≤ k1) ∧ Aside0 (Kd.R k47 47 wc w.heap.size (fun _ => True) u4 x4_1) ∧ Aside0 (Kd.R Kd.string 9 wc w.heap.size (fun _ => True) (.slice (some ad173) t170.length co14) t170) ∧ Aside0 (Below w.heap.size w wc))
            case first =>
              have H := HC13.out
              clear HC13
              by_cases c16 : t178 = true
              · subst c16
                have H1 : (spec_FieldTerms.j1 k1 x4_1 t170 x6_1 t175 t176 t179 (!t180)) = some (r1, r2) := by rw [if_pos rfl] at H; exact H
                clear H
                have H := H1
                clear H1
                have H' := Aside0.mk H
                clear H
                go_wp2
                go_meet
                case rel => exact ⟨_, (!t180), (by first | rfl | (simp; done) | (simp [*]; done)), H', ⟨by have := HK1.out; first | omega | exact Nat.le_refl _⟩, ⟨by (with_reducible repeat (first | apply Kd.R_alloc | apply Kd.R_drewN | apply Kd.R_drew)); exact HO_4.out⟩, ⟨by (with_reducible repeat (first | apply Kd.R_alloc | apply Kd.R_drewN | apply Kd.R_drew)); exact HO_5.out⟩, ⟨by repeat (first | (with_reducible first | exact HB.out | apply below_alloc | apply pw_below_drewN | apply below_drew1) | exact HB.out)⟩⟩
              · replace c16 := Bool.eq_false_iff.mpr c16
                subst c16
                have H1 : (spec_FieldTerms.j1 k1 x4_1 t170 x6_1 t175 t176 t179 true) = some (r1, r2) := by rw [if_neg (show ¬ (false = true) by decide)] at H; exact H
                clear H
                have H := H1
                clear H1
                have H' := Aside0.mk H
                clear H
                go_wp2
                go_meet
                case rel => exact ⟨_, (true), (by first | rfl | (simp; done) | (simp [*]; done)), H', ⟨by have := HK1.out; first | omega | exact Nat.le_refl _⟩, ⟨by (with_reducible repeat (first | apply Kd.R_alloc | apply Kd.R_drewN | apply Kd.R_drew)); exact HO_4.out⟩, ⟨by (with_reducible repeat (first | apply Kd.R_alloc | apply Kd.R_drewN | apply Kd.R_drew)); exact HO_5.out⟩, ⟨by repeat (first | (with_reducible first | exact HB.out | apply below_alloc | apply pw_below_drewN | apply below_drew1) | exact HB.out)⟩⟩
            case rest =>
              clear HC13
              try clear c1
              try clear p1
              try clear q1
              try clear hx1
              try clear p2
              try clear c6
              try clear p6
              try clear c7
              try clear c7b0
              try clear c8
              try clear c8b0
              try clear c9
              try clear c9b0
              try clear c9b1
              try clear c11
              try clear c12
              try clear c13
              try clear c14
              try clear c16
              try clear hx173_0
              try clear hx174_0
              try clear p173
              try clear p174
              try clear p2
              try clear q173
              try clear q174
              obtain ⟨kq, x47_12, rfl, HA, HJ12, HO_4, HO_5, HB⟩ := hcut
              cases kq with
              | zero => exact absurd HA.out (by simp [spec_FieldTerms.j1])
              | succ kj12 =>
                have H := HA.out
                clear HA
                simp only [spec_FieldTerms.j1] at H
                by_cases c17 : x47_12 = true
                · subst c17
                  have H1 : (some (([] : List (S47)), false)) = some (r1, r2) := by rw [if_pos rfl] at H; exact H
                  clear H
                  have H := H1
                  clear H1
                  simp only [Option.some.injEq, Prod.mk.injEq] at H
                  obtain ⟨rfl, rfl⟩ := H
                  go_wp2
                  go_ret2
                  exact ⟨_, by first | rfl | (simp [errW_none, errW_some] <;> rfl) | (simp [*, errW_none, errW_some] <;> rfl), by first | exact Kd.R_nil _ _ _ _ _ | exact Kd.N_nil _ _ _ _ _ | exact Kd.V_nil _ _ _ _ _ | exact Kd.Q_nil _ _ _ _ _ | exact Kd.S_nil _ _ _ _ _, by repeat (first | (with_reducible first | exact HB.out | apply below_alloc | apply pw_below_drewN | apply below_drew1) | exact HB.out)⟩
                · replace c17 := Bool.eq_false_iff.mpr c17
                  subst c17
                  have H1 : (if t176.toList = ([61, 61] : List UInt8) then (if t175.toList = ([] : List UInt8) then (if t179.toList = ([] : List UInt8) then (spec_FieldTerms.l0 kj12 x4_1 t170 (wrap64 (x6_1 + 1))) else (if x4_1.length < 2932031007402 then (spec_FieldTerms.l0 kj12 (x4_1 ++ [(⟨t175, (⟨#[61]⟩ : ByteArray), t179⟩ : S47)]) t170 (wrap64 (x6_1 + 1))) else (none))) else (if x4_1.length < 2932031007402 then (spec_FieldTerms.l0 kj12 (x4_1 ++ [(⟨t175, (⟨#[61]⟩ : ByteArray), t179⟩ : S47)]) t170 (wrap64 (x6_1 + 1))) else (none))) else (if t175.toList = ([] : List UInt8) then (if t179.toList = ([] : List UInt8) then (spec_FieldTerms.l0 kj12 x4_1 t170 (wrap64 (x6_1 + 1))) else (if x4_1.length < 2932031007402 then (spec_FieldTerms.l0 kj12 (x4_1 ++ [(⟨t175, t176, t179⟩ : S47)]) t170 (wrap64 (x6_1 + 1))) else (none))) else (if x4_1.length < 2932031007402 then (spec_FieldTerms.l0 kj12 (x4_1 ++ [(⟨t175, t176, t179⟩ : S47)]) t170 (wrap64 (x6_1 + 1))) else (none)))) = some (r1, r2) := by rw [if_neg (show ¬ (false = true) by decide)] at H; exact H
                  clear H
                  have H := H1
                  clear H1
                  by_cases c18 : t176.toList = ([61, 61] : List UInt8)
                  · rw [if_pos c18] at H
                    have c18b0 : (t176.toList == ([61, 61] : List UInt8)) = true := beq_iff_eq.mpr c18
                    have c18b1 : (t176.toList != ([61, 61] : List UInt8)) = false := bne_eq_false_iff_eq.mpr c18
                    clear c18
                    by_cases c19 : t175.toList = ([] : List UInt8)
                    · rw [if_pos c19] at H
                      have c19b0 : (t175.toList == ([] : List UInt8)) = true := beq_iff_eq.mpr c19
                      have c19b1 : (t175.toList != ([] : List UInt8)) = false := bne_eq_false_iff_eq.mpr c19
                      clear c19
                      by_cases c20 : t179.toList = ([] : List UInt8)
                      · rw [if_pos c20] at H
                        have c20b0 : (t179.toList == ([] : List UInt8)) = true := beq_iff_eq.mpr c20
                        have c20b1 : (t179.toList != ([] : List UInt8)) = false := bne_eq_false_iff_eq.mpr c20
                        clear c20
                        have H' := Aside0.mk H
                        clear H
                        go_wp2
                        go_roundg kj12
                        case measure => have := HK1.out; have := HJ12.out; omega
                        case rel => exact ⟨(x4_1), (wrap64 (x6_1 + 1)), (by first | rfl | (simp; done) | (simp [*]; done)), H', ⟨by have := HK1.out; have := HJ12.out; omega⟩, ⟨by (with_reducible repeat (first | apply Kd.R_alloc | apply Kd.R_drewN | apply Kd.R_drew)); exact HO_4.out⟩, ⟨by (with_reducible repeat (first | apply Kd.R_alloc | apply Kd.R_drewN | apply Kd.R_drew)); exact HO_5.out⟩, ⟨by repeat (first | (with_reducible first | exact HB.out | apply below_alloc | apply pw_below_drewN | apply below_drew1) | exact HB.out)⟩⟩
                      · rw [if_neg c20] at H
                        have c20b0 : (t179.toList == ([] : List UInt8)) = false := beq_eq_false_iff_ne.mpr c20
                        have c20b1 : (t179.toList != ([] : List UInt8)) = true := bne_iff_ne.mpr c20
                        by_cases c21 : x4_1.length < 2932031007402
                        · rw [if_pos c21] at H
                          have LMc21 := Aside0.mk c21
                          clear c21
                          obtain ⟨y181, hy181⟩ : ∃ y_ : List (S47), y_ = (x4_1 ++ [(⟨t175, (⟨#[61]⟩ : ByteArray), t179⟩ : S47)]) := ⟨_, rfl⟩
                          replace H : (spec_FieldTerms.l0 kj12 y181 t170 (wrap64 (x6_1 + 1))) = some (r1, r2) := by first | (rw [hy181]; with_reducible exact H) | (have H2_ := (Option.bind_some _ _).symm.trans H; rw [hy181]; with_reducible exact H2_) | (have H2_ := (Option.bind_some _ _).symm.trans H; with_reducible exact H2_) | with_reducible exact H | (rw [hy181]; exact H) | exact H
                          have Ny181 := Aside0.mk hy181
                          clear hy181
                          have H' := Aside0.mk H
                          clear H
                          go_wp2_with (first | ((with_reducible refine gate_builtin (b := .append) (xs := #[.tmp 56, .tmp 61]) rfl ?_); at_builtin; refine Kd.R_append k47 (w0 := w) w.heap.size rfl (.tmp 56) (.tmp 61) 23 47 (.agg #[(.string ⟨#[]⟩), (.string ⟨#[]⟩), (.string ⟨#[]⟩)]) 48 rfl Tryd.underlying23 info47 rfl (by decide) (by omega) u4 x4_1 (⟨t175, (⟨#[61]⟩ : ByteArray), t179⟩ : S47) [.string t175, .string (⟨#[61]⟩ : ByteArray), .string t179] (fun _ => True) (fun _ => False) rfl rfl ?aP (fun _ hk => hk.elim) ?aF ?aO ?aB ?aS ?aL ?_; (case aP => exact k47_mkM _ _ _ (⟨t175, (⟨#[61]⟩ : ByteArray), t179⟩ : S47)); (case aB => exact (by repeat (first | (with_reducible first | exact HB.out | apply below_alloc | apply pw_below_drewN | apply below_drew1) | exact HB.out))); (case aF => exact (fun _ _ => trivial)); (case aO => exact (by (with_reducible repeat (first | apply Kd.R_alloc | apply Kd.R_drewN | apply Kd.R_drew)); exact HO_4.out)); (case aS => exact (below_size (by repeat (first | (with_reducible first | exact HB.out | apply below_alloc | apply pw_below_drewN | apply below_drew1) | exact HB.out)))); (case aL => have := LMc21.out; omega); intro v182 w22 ho hb hg hat; rw [← Ny181.out] at ho; have n0_ := Aside0.mk (Kd.R_over' (by (with_reducible repeat (first | apply Kd.R_alloc | apply Kd.R_drewN | apply Kd.R_drew)); exact HO_5.out) (Kd.R_typed (by (with_reducible repeat (first | apply Kd.R_alloc | apply Kd.R_drewN | apply Kd.R_drew)); exact HO_4.out)) (by decide) hg); have n1_ := Aside0.mk (hb); have n2_ := Aside0.mk (ho); clear HO_5; clear HB; clear HO_4; have HO_5 := n0_; have HB := n1_; have HO183 := n2_; clear n0_ n1_ n2_; clear ho hb hg hat))
                          go_roundg kj12
                          case measure => have := HK1.out; have := HJ12.out; omega
                          case rel => exact ⟨(y181), (wrap64 (x6_1 + 1)), (by first | rfl | (simp; done) | (simp [*]; done)), H', ⟨by have := HK1.out; have := HJ12.out; omega⟩, ⟨by (with_reducible repeat (first | apply Kd.R_alloc | apply Kd.R_drewN | apply Kd.R_drew)); exact HO183.out⟩, ⟨by (with_reducible repeat (first | apply Kd.R_alloc | apply Kd.R_drewN | apply Kd.R_drew)); exact HO_5.out⟩, ⟨by repeat (first | (with_reducible first | exact HB.out | apply below_alloc | apply pw_below_drewN | apply below_drew1) | exact HB.out)⟩⟩
                        · rw [if_neg c21] at H
                          exact absurd H (by simp)
                    · rw [if_neg c19] at H
                      have c19b0 : (t175.toList == ([] : List UInt8)) = false := beq_eq_false_iff_ne.mpr c19
                      have c19b1 : (t175.toList != ([] : List UInt8)) = true := bne_iff_ne.mpr c19
                      by_cases c23 : x4_1.length < 2932031007402
                      · rw [if_pos c23] at H
                        have LMc23 := Aside0.mk c23
                        clear c23
                        obtain ⟨y184, hy184⟩ : ∃ y_ : List (S47), y_ = (x4_1 ++ [(⟨t175, (⟨#[61]⟩ : ByteArray), t179⟩ : S47)]) := ⟨_, rfl⟩
                        replace H : (spec_FieldTerms.l0 kj12 y184 t170 (wrap64 (x6_1 + 1))) = some (r1, r2) := by first | (rw [hy184]; with_reducible exact H) | (have H2_ := (Option.bind_some _ _).symm.trans H; rw [hy184]; with_reducible exact H2_) | (have H2_ := (Option.bind_some _ _).symm.trans H; with_reducible exact H2_) | with_reducible exact H | (rw [hy184]; exact H) | exact H
                        have Ny184 := Aside0.mk hy184
                        clear hy184
                        have H' := Aside0.mk H
                        clear H
                        go_wp2_with (first | ((with_reducible refine gate_builtin (b := .append) (xs := #[.tmp 56, .tmp 61]) rfl ?_); at_builtin; refine Kd.R_append k47 (w0 := w) w.heap.size rfl (.tmp 56) (.tmp 61) 23 47 (.agg #[(.string ⟨#[]⟩), (.string ⟨#[]⟩), (.string ⟨#[]⟩)]) 48 rfl Tryd.underlying23 info47 rfl (by decide) (by omega) u4 x4_1 (⟨t175, (⟨#[61]⟩ : ByteArray), t179⟩ : S47) [.string t175, .string (⟨#[61]⟩ : ByteArray), .string t179] (fun _ => True) (fun _ => False) rfl rfl ?aP (fun _ hk => hk.elim) ?aF ?aO ?aB ?aS ?aL ?_; (case aP => exact k47_mkM _ _ _ (⟨t175, (⟨#[61]⟩ : ByteArray), t179⟩ : S47)); (case aB => exact (by repeat (first | (with_reducible first | exact HB.out | apply below_alloc | apply pw_below_drewN | apply below_drew1) | exact HB.out))); (case aF => exact (fun _ _ => trivial)); (case aO => exact (by (with_reducible repeat (first | apply Kd.R_alloc | apply Kd.R_drewN | apply Kd.R_drew)); exact HO_4.out)); (case aS => exact (below_size (by repeat (first | (with_reducible first | exact HB.out | apply below_alloc | apply pw_below_drewN | apply below_drew1) | exact HB.out)))); (case aL => have := LMc23.out; omega); intro v185 w24 ho hb hg hat; rw [← Ny184.out] at ho; have n0_ := Aside0.mk (Kd.R_over' (by (with_reducible repeat (first | apply Kd.R_alloc | apply Kd.R_drewN | apply Kd.R_drew)); exact HO_5.out) (Kd.R_typed (by (with_reducible repeat (first | apply Kd.R_alloc | apply Kd.R_drewN | apply Kd.R_drew)); exact HO_4.out)) (by decide) hg); have n1_ := Aside0.mk (hb); have n2_ := Aside0.mk (ho); clear HO_5; clear HB; clear HO_4; have HO_5 := n0_; have HB := n1_; have HO186 := n2_; clear n0_ n1_ n2_; clear ho hb hg hat))
                        go_roundg kj12
                        case measure => have := HK1.out; have := HJ12.out; omega
                        case rel => exact ⟨(y184), (wrap64 (x6_1 + 1)), (by first | rfl | (simp; done) | (simp [*]; done)), H', ⟨by have := HK1.out; have := HJ12.out; omega⟩, ⟨by (with_reducible repeat (first | apply Kd.R_alloc | apply Kd.R_drewN | apply Kd.R_drew)); exact HO186.out⟩, ⟨by (with_reducible repeat (first | apply Kd.R_alloc | apply Kd.R_drewN | apply Kd.R_drew)); exact HO_5.out⟩, ⟨by repeat (first | (with_reducible first | exact HB.out | apply below_alloc | apply pw_below_drewN | apply below_drew1) | exact HB.out)⟩⟩
                      · rw [if_neg c23] at H
                        exact absurd H (by simp)
                  · rw [if_neg c18] at H
                    have c18b0 : (t176.toList == ([61, 61] : List UInt8)) = false := beq_eq_false_iff_ne.mpr c18
                    have c18b1 : (t176.toList != ([61, 61] : List UInt8)) = true := bne_iff_ne.mpr c18
                    by_cases c25 : t175.toList = ([] : List UInt8)
                    · rw [if_pos c25] at H
                      have c25b0 : (t175.toList == ([] : List UInt8)) = true := beq_iff_eq.mpr c25
                      have c25b1 : (t175.toList != ([] : List UInt8)) = false := bne_eq_false_iff_eq.mpr c25
                      clear c25
                      by_cases c26 : t179.toList = ([] : List UInt8)
                      · rw [if_pos c26] at H
                        have c26b0 : (t179.toList == ([] : List UInt8)) = true := beq_iff_eq.mpr c26
                        have c26b1 : (t179.toList != ([] : List UInt8)) = false := bne_eq_false_iff_eq.mpr c26
                        clear c26
                        have H' := Aside0.mk H
                        clear H
                        go_wp2
                        go_roundg kj12
                        case measure => have := HK1.out; have := HJ12.out; omega
                        case rel => exact ⟨(x4_1), (wrap64 (x6_1 + 1)), (by first | rfl | (simp; done) | (simp [*]; done)), H', ⟨by have := HK1.out; have := HJ12.out; omega⟩, ⟨by (with_reducible repeat (first | apply Kd.R_alloc | apply Kd.R_drewN | apply Kd.R_drew)); exact HO_4.out⟩, ⟨by (with_reducible repeat (first | apply Kd.R_alloc | apply Kd.R_drewN | apply Kd.R_drew)); exact HO_5.out⟩, ⟨by repeat (first | (with_reducible first | exact HB.out | apply below_alloc | apply pw_below_drewN | apply below_drew1) | exact HB.out)⟩⟩
                      · rw [if_neg c26] at H
                        have c26b0 : (t179.toList == ([] : List UInt8)) = false := beq_eq_false_iff_ne.mpr c26
                        have c26b1 : (t179.toList != ([] : List UInt8)) = true := bne_iff_ne.mpr c26
                        by_cases c27 : x4_1.length < 2932031007402
                        · rw [if_pos c27] at H
                          have LMc27 := Aside0.mk c27
                          clear c27
                          obtain ⟨y187, hy187⟩ : ∃ y_ : List (S47), y_ = (x4_1 ++ [(⟨t175, t176, t179⟩ : S47)]) := ⟨_, rfl⟩
                          replace H : (spec_FieldTerms.l0 kj12 y187 t170 (wrap64 (x6_1 + 1))) = some (r1, r2) := by first | (rw [hy187]; with_reducible exact H) | (have H2_ := (Option.bind_some _ _).symm.trans H; rw [hy187]; with_reducible exact H2_) | (have H2_ := (Option.bind_some _ _).symm.trans H; with_reducible exact H2_) | with_reducible exact H | (rw [hy187]; exact H) | exact H
                          have Ny187 := Aside0.mk hy187
                          clear hy187
                          have H' := Aside0.mk H
                          clear H
                          go_wp2_with (first | ((with_reducible refine gate_builtin (b := .append) (xs := #[.tmp 56, .tmp 61]) rfl ?_); at_builtin; refine Kd.R_append k47 (w0 := w) w.heap.size rfl (.tmp 56) (.tmp 61) 23 47 (.agg #[(.string ⟨#[]⟩), (.string ⟨#[]⟩), (.string ⟨#[]⟩)]) 48 rfl Tryd.underlying23 info47 rfl (by decide) (by omega) u4 x4_1 (⟨t175, t176, t179⟩ : S47) [.string t175, .string t176, .string t179] (fun _ => True) (fun _ => False) rfl rfl ?aP (fun _ hk => hk.elim) ?aF ?aO ?aB ?aS ?aL ?_; (case aP => exact k47_mkM _ _ _ (⟨t175, t176, t179⟩ : S47)); (case aB => exact (by repeat (first | (with_reducible first | exact HB.out | apply below_alloc | apply pw_below_drewN | apply below_drew1) | exact HB.out))); (case aF => exact (fun _ _ => trivial)); (case aO => exact (by (with_reducible repeat (first | apply Kd.R_alloc | apply Kd.R_drewN | apply Kd.R_drew)); exact HO_4.out)); (case aS => exact (below_size (by repeat (first | (with_reducible first | exact HB.out | apply below_alloc | apply pw_below_drewN | apply below_drew1) | exact HB.out)))); (case aL => have := LMc27.out; omega); intro v188 w28 ho hb hg hat; rw [← Ny187.out] at ho; have n0_ := Aside0.mk (Kd.R_over' (by (with_reducible repeat (first | apply Kd.R_alloc | apply Kd.R_drewN | apply Kd.R_drew)); exact HO_5.out) (Kd.R_typed (by (with_reducible repeat (first | apply Kd.R_alloc | apply Kd.R_drewN | apply Kd.R_drew)); exact HO_4.out)) (by decide) hg); have n1_ := Aside0.mk (hb); have n2_ := Aside0.mk (ho); clear HO_5; clear HB; clear HO_4; have HO_5 := n0_; have HB := n1_; have HO189 := n2_; clear n0_ n1_ n2_; clear ho hb hg hat))
                          go_roundg kj12
                          case measure => have := HK1.out; have := HJ12.out; omega
                          case rel => exact ⟨(y187), (wrap64 (x6_1 + 1)), (by first | rfl | (simp; done) | (simp [*]; done)), H', ⟨by have := HK1.out; have := HJ12.out; omega⟩, ⟨by (with_reducible repeat (first | apply Kd.R_alloc | apply Kd.R_drewN | apply Kd.R_drew)); exact HO189.out⟩, ⟨by (with_reducible repeat (first | apply Kd.R_alloc | apply Kd.R_drewN | apply Kd.R_drew)); exact HO_5.out⟩, ⟨by repeat (first | (with_reducible first | exact HB.out | apply below_alloc | apply pw_below_drewN | apply below_drew1) | exact HB.out)⟩⟩
                        · rw [if_neg c27] at H
                          exact absurd H (by simp)
                    · rw [if_neg c25] at H
                      have c25b0 : (t175.toList == ([] : List UInt8)) = false := beq_eq_false_iff_ne.mpr c25
                      have c25b1 : (t175.toList != ([] : List UInt8)) = true := bne_iff_ne.mpr c25
                      by_cases c29 : x4_1.length < 2932031007402
                      · rw [if_pos c29] at H
                        have LMc29 := Aside0.mk c29
                        clear c29
                        obtain ⟨y190, hy190⟩ : ∃ y_ : List (S47), y_ = (x4_1 ++ [(⟨t175, t176, t179⟩ : S47)]) := ⟨_, rfl⟩
                        replace H : (spec_FieldTerms.l0 kj12 y190 t170 (wrap64 (x6_1 + 1))) = some (r1, r2) := by first | (rw [hy190]; with_reducible exact H) | (have H2_ := (Option.bind_some _ _).symm.trans H; rw [hy190]; with_reducible exact H2_) | (have H2_ := (Option.bind_some _ _).symm.trans H; with_reducible exact H2_) | with_reducible exact H | (rw [hy190]; exact H) | exact H
                        have Ny190 := Aside0.mk hy190
                        clear hy190
                        have H' := Aside0.mk H
                        clear H
                        go_wp2_with (first | ((with_reducible refine gate_builtin (b := .append) (xs := #[.tmp 56, .tmp 61]) rfl ?_); at_builtin; refine Kd.R_append k47 (w0 := w) w.heap.size rfl (.tmp 56) (.tmp 61) 23 47 (.agg #[(.string ⟨#[]⟩), (.string ⟨#[]⟩), (.string ⟨#[]⟩)]) 48 rfl Tryd.underlying23 info47 rfl (by decide) (by omega) u4 x4_1 (⟨t175, t176, t179⟩ : S47) [.string t175, .string t176, .string t179] (fun _ => True) (fun _ => False) rfl rfl ?aP (fun _ hk => hk.elim) ?aF ?aO ?aB ?aS ?aL ?_; (case aP => exact k47_mkM _ _ _ (⟨t175, t176, t179⟩ : S47)); (case aB => exact (by repeat (first | (with_reducible first | exact HB.out | apply below_alloc | apply pw_below_drewN | apply below_drew1) | exact HB.out))); (case aF => exact (fun _ _ => trivial)); (case aO => exact (by (with_reducible repeat (first | apply Kd.R_alloc | apply Kd.R_drewN | apply Kd.R_drew)); exact HO_4.out)); (case aS => exact (below_size (by repeat (first | (with_reducible first | exact HB.out | apply below_alloc | apply pw_below_drewN | apply below_drew1) | exact HB.out)))); (case aL => have := LMc29.out; omega); intro v191 w30 ho hb hg hat; rw [← Ny190.out] at ho; have n0_ := Aside0.mk (Kd.R_over' (by (with_reducible repeat (first | apply Kd.R_alloc | apply Kd.R_drewN | apply Kd.R_drew)); exact HO_5.out) (Kd.R_typed (by (with_reducible repeat (first | apply Kd.R_alloc | apply Kd.R_drewN | apply Kd.R_drew)); exact HO_4.out)) (by decide) hg); have n1_ := Aside0.mk (hb); have n2_ := Aside0.mk (ho); clear HO_5; clear HB; clear HO_4; have HO_5 := n0_; have HB := n1_; have HO192 := n2_; clear n0_ n1_ n2_; clear ho hb hg hat))
                        go_roundg kj12
                        case measure => have := HK1.out; have := HJ12.out; omega
                        case rel => exact ⟨(y190), (wrap64 (x6_1 + 1)), (by first | rfl | (simp; done) | (simp [*]; done)), H', ⟨by have := HK1.out; have := HJ12.out; omega⟩, ⟨by (with_reducible repeat (first | apply Kd.R_alloc | apply Kd.R_drewN | apply Kd.R_drew)); exact HO192.out⟩, ⟨by (with_reducible repeat (first | apply Kd.R_alloc | apply Kd.R_drewN | apply Kd.R_drew)); exact HO_5.out⟩, ⟨by repeat (first | (with_reducible first | exact HB.out | apply below_alloc | apply pw_below_drewN | apply below_drew1) | exact HB.out)⟩⟩
                      · rw [if_neg c29] at H
                        exact absurd H (by simp)
        · rw [if_neg c8] at H
          exact absurd H (by simp)
      · rw [if_neg c7] at H
        have c7b0 : decide (x6_1 < (t170.length : Int)) = false := decide_eq_false c7
        clear c7
        simp only [Option.some.injEq, Prod.mk.injEq] at H
        obtain ⟨rfl, rfl⟩ := H
        obtain ⟨Ao31, co31, eo31⟩ := Kd.R_slice HO_5.out
        subst eo31
        go_wp2
        go_ret2
        exact ⟨_, by first | rfl | (simp [errW_none, errW_some] <;> rfl) | (simp [*, errW_none, errW_some] <;> rfl), by (with_reducible repeat (first | apply Kd.R_alloc | apply Kd.R_drewN | apply Kd.R_drew)); exact HO_4.out, by repeat (first | (with_reducible first | exact HB.out | apply below_alloc | apply pw_below_drewN | apply below_drew1) | exact HB.out)⟩

/-! ### spec_TermsSame: function 7 -/
def spec_TermsSame.l0 : Nat → List (S47) → List (S47) → Int → Option (Bool)
  | 0, _, _, _ => none
  | k + 1, x0, x1, x5 => if x5 < (x0.length : Int) then (if 0 ≤ x5 then (if x5 < (x1.length : Int) then (if (!((((rd_T47 x0 x5).f0).toList) == (((rd_T47 x1 x5).f0).toList)) || (!((((rd_T47 x0 x5).f1).toList) == (((rd_T47 x1 x5).f1).toList)) || (!((((rd_T47 x0 x5).f2).toList) == (((rd_T47 x1 x5).f2).toList))))) = true then (some false) else (spec_TermsSame.l0 k x0 x1 (wrap64 (x5 + 1)))) else (none)) else (none)) else (some true)
def spec_TermsSame.f (k : Nat) (l0 : List (S47)) (l1 : List (S47)) : Option (Bool) := if (l0.length : Int) = (l1.length : Int) then (spec_TermsSame.l0 k l0 l1 0) else (some false)
theorem spec_TermsSame.mono_l : ∀ k, (∀ y0 y1 y2, LeO (spec_TermsSame.l0 k y0 y1 y2) (spec_TermsSame.l0 (k + 1) y0 y1 y2))
  | 0 => fun _ _ _ r h => by simp [spec_TermsSame.l0] at h
  | k + 1 => by
    have ih0 := spec_TermsSame.mono_l k
    · intro y0 y1 y2
      unfold spec_TermsSame.l0
      repeat' first
      | (with_reducible exact ih0 _ _ _)
      | (with_reducible exact LeO.refl _)
      | (with_reducible exact LeO.none _)
      | (with_reducible refine LeO.ite ?_ ?_)
      | (with_reducible refine LeO.bind ?_ (fun _ => ?_))
      | exact ih0 _ _ _
      | exact LeO.none _
      | refine LeO.ite ?_ ?_
      | refine LeO.bind ?_ (fun _ => ?_)
theorem spec_TermsSame.mono : ∀ a0 a1 k, LeO (spec_TermsSame.f k a0 a1) (spec_TermsSame.f (k + 1) a0 a1) := by
  intro a0 a1 k
  have ih0 := spec_TermsSame.mono_l k
  unfold spec_TermsSame.f
  repeat' first
      | (with_reducible exact ih0 _ _ _)
      | (with_reducible exact LeO.refl _)
      | (with_reducible exact LeO.none _)
      | (with_reducible refine LeO.ite ?_ ?_)
      | (with_reducible refine LeO.bind ?_ (fun _ => ?_))
      | exact ih0 _ _ _
      | exact LeO.none _
      | refine LeO.ite ?_ ?_
      | refine LeO.bind ?_ (fun _ => ?_)
set_option maxHeartbeats 8000000 in
set_option maxRecDepth 100000 in
theorem spec_TermsSame.calls (k : Nat) (A0 : Option Addr) (c0 : Nat) (l0 : List (S47)) (A1 : Option Addr) (c1 : Nat) (l1 : List (S47)) (r : Bool) (w : World) (hr0 : Kd.C k47 w A0 l0.length l0) (hc0 : l0.length ≤ c0) (hr1 : Kd.C k47 w A1 l1.length l1) (hc1 : l1.length ≤ c1) (h : spec_TermsSame.f k l0 l1 = some r) :
    Calls Tryd.prog 7 #[.slice A0 l0.length c0, .slice A1 l1.length c1] w fun e w' => e = .returned (.bool r) ∧ Drawn0 w w' := by
  have hu47 := Tryd.underlying47
  have HR0 := Aside0.mk hr0
  have HC0 := Aside0.mk hc0
  clear hr0 hc0
  have HR1 := Aside0.mk hr1
  have HC1 := Aside0.mk hc1
  clear hr1 hc1
  have H : (if (l0.length : Int) = (l1.length : Int) then (spec_TermsSame.l0 k l0 l1 0) else (some false)) = some r := h
  clear h
  by_cases c3 : (l0.length : Int) = (l1.length : Int)
  · rw [if_pos c3] at H
    have c3b0 : ((l0.length : Int) == (l1.length : Int)) = true := beq_iff_eq.mpr c3
    have c3b1 : ((l0.length : Int) != (l1.length : Int)) = false := bne_eq_false_iff_eq.mpr c3
    have c3b2 : (l0.length == l1.length) = true := by first | simpa using c3 | (simp at c3 ⊢; omega)
    clear c3
    have H' := Aside0.mk H
    clear H
    go_enter Tryd.func7, Tryd.ntmps7
    go_wp2
    repeat (go_quiet (fail); try go_wp2)
    go_loopg [5] k (fun kq v5 w' => ∃ (x5_1 : Int), v5 = .int .i64 x5_1 ∧ Aside0 (spec_TermsSame.l0 kq l0 l1 x5_1 = some r) ∧ Aside0 (kq ≤ k) ∧ Drawn0 w w')
    case atStart => exact ⟨(0), (by first | rfl | (simp; done) | (simp [*]; done)), H', ⟨Nat.le_refl _⟩, by repeat (first | exact Drawn0.refl _ | apply Drawn0.step)⟩
    case round =>
      clear H'
      try clear c1
      try clear p2
      try clear c3
      try clear c3b0
      try clear c3b1
      try clear c3b2
      obtain ⟨x5_1, rfl, HA, HK1, ⟨m1, rfl⟩⟩ := hrel
      cases gk with
      | zero => exact absurd HA.out (by simp [spec_TermsSame.l0])
      | succ k1 =>
        have H := HA.out
        clear HA
        simp only [spec_TermsSame.l0] at H
        by_cases c4 : x5_1 < (l0.length : Int)
        · rw [if_pos c4] at H
          have c4b0 : decide (x5_1 < (l0.length : Int)) = true := decide_eq_true c4
          clear c4
          by_cases c5 : 0 ≤ x5_1
          · rw [if_pos c5] at H
            have c5b0 : decide (0 ≤ x5_1) = true := decide_eq_true c5
            clear c5
            by_cases c6 : x5_1 < (l1.length : Int)
            · rw [if_pos c6] at H
              have c6b0 : decide (x5_1 < (l1.length : Int)) = true := decide_eq_true c6
              clear c6
              by_cases c7 : (!((((rd_T47 l0 x5_1).f0).toList) == (((rd_T47 l1 x5_1).f0).toList)) || (!((((rd_T47 l0 x5_1).f1).toList) == (((rd_T47 l1 x5_1).f1).toList)) || (!((((rd_T47 l0 x5_1).f2).toList) == (((rd_T47 l1 x5_1).f2).toList))))) = true
              · rw [if_pos c7] at H
                have c7b0 : (!((((rd_T47 l0 x5_1).f0).toList) == (((rd_T47 l1 x5_1).f0).toList)) || (!((((rd_T47 l0 x5_1).f1).toList) == (((rd_T47 l1 x5_1).f1).toList)) || (!((((rd_T47 l0 x5_1).f2).toList) == (((rd_T47 l1 x5_1).f2).toList))))) = true := c7
                clear c7
                obtain rfl := Option.some.inj H
                have p193 : 0 ≤ (x5_1 : Int) := of_decide_eq_true (by first | (with_reducible assumption) | assumption)
                have q193 : x5_1 < (l0.length : Int) := of_decide_eq_true (by first | (with_reducible assumption) | assumption)
                obtain ⟨ad193, e193, hx193_0, hx193_1, hx193_2⟩ := at_T47 HR0.out x5_1 p193 q193
                cases e193
                replace p193 := eq_true p193
                replace q193 := eq_true q193
                have p194 : 0 ≤ (x5_1 : Int) := of_decide_eq_true (by first | (with_reducible assumption) | assumption)
                have q194 : x5_1 < (l1.length : Int) := of_decide_eq_true (by first | (with_reducible assumption) | assumption)
                obtain ⟨ad194, e194, hx194_0, hx194_1, hx194_2⟩ := at_T47 HR1.out x5_1 p194 q194
                cases e194
                replace p194 := eq_true p194
                replace q194 := eq_true q194
                go_wp2
                repeat (go_quiet (fail); try go_wp2)
                go_ret
                exact ⟨by first | rfl | (simp; done) | (simp [*]; done), by repeat (first | exact Drawn0.refl _ | apply Drawn0.step)⟩
              · rw [if_neg c7] at H
                have c7b0 : (!((((rd_T47 l0 x5_1).f0).toList) == (((rd_T47 l1 x5_1).f0).toList)) || (!((((rd_T47 l0 x5_1).f1).toList) == (((rd_T47 l1 x5_1).f1).toList)) || (!((((rd_T47 l0 x5_1).f2).toList) == (((rd_T47 l1 x5_1).f2).toList))))) = false := by simpa using c7
                clear c7
                have H' := Aside0.mk H
                clear H
                have p193 : 0 ≤ (x5_1 : Int) := of_decide_eq_true (by first | (with_reducible assumption) | assumption)
                have q193 : x5_1 < (l0.length : Int) := of_decide_eq_true (by first | (with_reducible assumption) | assumption)
                obtain ⟨ad193, e193, hx193_0, hx193_1, hx193_2⟩ := at_T47 HR0.out x5_1 p193 q193
                cases e193
                replace p193 := eq_true p193
                replace q193 := eq_true q193
                have p194 : 0 ≤ (x5_1 : Int) := of_decide_eq_true (by first | (with_reducible assumption) | assumption)
                have q194 : x5_1 < (l1.length : Int) := of_decide_eq_true (by first | (with_reducible assumption) | assumption)
                obtain ⟨ad194, e194, hx194_0, hx194_1, hx194_2⟩ := at_T47 HR1.out x5_1 p194 q194
                cases e194
                replace p194 := eq_true p194
                replace q194 := eq_true q194
                go_wp2
                repeat (go_quiet (fail); try go_wp2)
                go_roundg k1
                case measure => have := HK1.out; omega
                case rel => exact ⟨(wrap64 (x5_1 + 1)), (by first | rfl | (simp; done) | (simp [*]; done)), H', ⟨by have := HK1.out; omega⟩, by repeat (first | exact Drawn0.refl _ | apply Drawn0.step)⟩
            · rw [if_neg c6] at H
              exact absurd H (by simp)
          · rw [if_neg c5] at H
            exact absurd H (by simp)
        · rw [if_neg c4] at H
          have c4b0 : decide (x5_1 < (l0.length : Int)) = false := decide_eq_false c4
          clear c4
          obtain rfl := Option.some.inj H
          go_wp2
          repeat (go_quiet (fail); try go_wp2)
          go_ret
          exact ⟨by first | rfl | (simp; done) | (simp [*]; done), by repeat (first | exact Drawn0.refl _ | apply Drawn0.step)⟩
  · rw [if_neg c3] at H
    have c3b0 : ((l0.length : Int) == (l1.length : Int)) = false := beq_eq_false_iff_ne.mpr c3
    have c3b1 : ((l0.length : Int) != (l1.length : Int)) = true := bne_iff_ne.mpr c3
    have c3b2 : (l0.length == l1.length) = false := by first | simpa using c3 | (simp at c3 ⊢; omega)
    obtain rfl := Option.some.inj H
    go_enter Tryd.func7, Tryd.ntmps7
    go_wp2
    repeat (go_quiet (fail); try go_wp2)
    go_ret
    exact ⟨by first | rfl | (simp; done) | (simp [*]; done), by repeat (first | exact Drawn0.refl _ | apply Drawn0.step)⟩

/-! ### spec_Escape: function 15 -/
def spec_Escape.l0 : Nat → ByteArray → ByteArray → Int → Option (ByteArray)
  | 0, _, _, _ => none
  | k + 1, x0, x3, x4 => if x4 < (x0.size : Int) then (if 0 ≤ x4 then ((spec_fieldSign.f (bt x0 x4)).bind fun t195 => (if t195 = true then (if x3.size + 1 ≤ 9223372036854775807 then ((some (([bt x0 x4] : List Int) : List Int)).bind fun y196 => (if (x3 ++ (⟨#[92]⟩ : ByteArray)).size + (strOfNums y196).size ≤ 9223372036854775807 then (spec_Escape.l0 k x0 ((x3 ++ (⟨#[92]⟩ : ByteArray)) ++ (strOfNums y196)) (wrap64 (x4 + 1))) else (none))) else (none)) else ((some (([bt x0 x4] : List Int) : List Int)).bind fun y199 => (if x3.size + (strOfNums y199).size ≤ 9223372036854775807 then (spec_Escape.l0 k x0 (x3 ++ (strOfNums y199)) (wrap64 (x4 + 1))) else (none))))) else (none)) else (some x3)
def spec_Escape.f (k : Nat) (a0 : ByteArray) : Option (ByteArray) := spec_Escape.l0 k a0 (⟨#[]⟩ : ByteArray) 0
theorem spec_Escape.mono_l : ∀ k, (∀ y0 y1 y2, LeO (spec_Escape.l0 k y0 y1 y2) (spec_Escape.l0 (k + 1) y0 y1 y2))
  | 0 => fun _ _ _ r h => by simp [spec_Escape.l0] at h
  | k + 1 => by
    have ih0 := spec_Escape.mono_l k
    · intro y0 y1 y2
      unfold spec_Escape.l0
      repeat' first
      | (with_reducible exact ih0 _ _ _)
      | (with_reducible exact LeO.refl _)
      | (with_reducible exact LeO.none _)
      | (with_reducible refine LeO.ite ?_ ?_)
      | (with_reducible refine LeO.bind ?_ (fun _ => ?_))
      | exact ih0 _ _ _
      | exact LeO.none _
      | refine LeO.ite ?_ ?_
      | refine LeO.bind ?_ (fun _ => ?_)
theorem spec_Escape.mono : ∀ a0 k, LeO (spec_Escape.f k a0) (spec_Escape.f (k + 1) a0) := by
  intro a0 k
  have ih0 := spec_Escape.mono_l k
  unfold spec_Escape.f
  repeat' first
      | (with_reducible exact ih0 _ _ _)
      | (with_reducible exact LeO.refl _)
      | (with_reducible exact LeO.none _)
      | (with_reducible refine LeO.ite ?_ ?_)
      | (with_reducible refine LeO.bind ?_ (fun _ => ?_))
      | exact ih0 _ _ _
      | exact LeO.none _
      | refine LeO.ite ?_ ?_
      | refine LeO.bind ?_ (fun _ => ?_)
set_option maxHeartbeats 8000000 in
set_option maxRecDepth 100000 in
theorem spec_Escape.calls (k : Nat) (a0 : ByteArray) (r : ByteArray) (w : World) (h : spec_Escape.f k a0 = some r) :
    Calls Tryd.prog 15 #[.string a0] w fun e w' => e = .returned (.string r) ∧ Below w.heap.size w w' := by
  have HB := Aside0.mk (Below.refl w.heap.size w)
  have H : (spec_Escape.l0 k a0 (⟨#[]⟩ : ByteArray) 0) = some r := h
  clear h
  have H' := Aside0.mk H
  clear H
  go_enter Tryd.func15, Tryd.ntmps15
  go_wp2
  go_loopg [3, 4] k (fun kq v3 v4 w' => ∃ (x3_1 : ByteArray) (x4_1 : Int), v3 = .string x3_1 ∧ v4 = .int .i64 x4_1 ∧ Aside0 (spec_Escape.l0 kq a0 x3_1 x4_1 = some r) ∧ Aside0 (kq ≤ k) ∧ Aside0 (Below w.heap.size w w'))
  case atStart => exact ⟨((⟨#[]⟩ : ByteArray)), (0), (by first | rfl | (simp; done) | (simp [*]; done)), (by first | rfl | (simp; done) | (simp [*]; done)), H', ⟨Nat.le_refl _⟩, ⟨by repeat (first | (with_reducible first | exact HB.out | apply below_alloc | apply pw_below_drewN | apply below_drew1) | exact HB.out)⟩⟩
  case round =>
    clear H'
    try clear c1
    obtain ⟨x3_1, x4_1, rfl, rfl, HA, HK1, HB⟩ := hrel
    cases gk with
    | zero => exact absurd HA.out (by simp [spec_Escape.l0])
    | succ k1 =>
      have H := HA.out
      clear HA
      simp only [spec_Escape.l0] at H
      by_cases c2 : x4_1 < (a0.size : Int)
      · rw [if_pos c2] at H
        have c2b0 : decide (x4_1 < (a0.size : Int)) = true := decide_eq_true c2
        clear c2
        by_cases c3 : 0 ≤ x4_1
        · rw [if_pos c3] at H
          have c3b0 : decide (0 ≤ x4_1) = true := decide_eq_true c3
          clear c3
          replace H := Option.bind_eq_some_iff.mp H
          obtain ⟨t195, A50, H⟩ := H
          replace H : (if t195 = true then (if x3_1.size + 1 ≤ 9223372036854775807 then ((some (([bt a0 x4_1] : List Int) : List Int)).bind fun y196 => (if (x3_1 ++ (⟨#[92]⟩ : ByteArray)).size + (strOfNums y196).size ≤ 9223372036854775807 then (spec_Escape.l0 k1 a0 ((x3_1 ++ (⟨#[92]⟩ : ByteArray)) ++ (strOfNums y196)) (wrap64 (x4_1 + 1))) else (none))) else (none)) else ((some (([bt a0 x4_1] : List Int) : List Int)).bind fun y199 => (if x3_1.size + (strOfNums y199).size ≤ 9223372036854775807 then (spec_Escape.l0 k1 a0 (x3_1 ++ (strOfNums y199)) (wrap64 (x4_1 + 1))) else (none)))) = some r := H
          have A5 := Aside0.mk A50
          clear A50
          by_cases c6 : t195 = true
          · subst c6
            have H1 : (if x3_1.size + 1 ≤ 9223372036854775807 then ((some (([bt a0 x4_1] : List Int) : List Int)).bind fun y196 => (if (x3_1 ++ (⟨#[92]⟩ : ByteArray)).size + (strOfNums y196).size ≤ 9223372036854775807 then (spec_Escape.l0 k1 a0 ((x3_1 ++ (⟨#[92]⟩ : ByteArray)) ++ (strOfNums y196)) (wrap64 (x4_1 + 1))) else (none))) else (none)) = some r := by rw [if_pos rfl] at H; exact H
            clear H
            have H := H1
            clear H1
            by_cases c7 : x3_1.size + 1 ≤ 9223372036854775807
            · rw [if_pos c7] at H
              have c7b0 := eq_true c7
              have c7b1 : decide (x3_1.size + 1 ≤ 9223372036854775807) = true := decide_eq_true c7
              try have c7b2 : (9223372036854775807 < x3_1.size + 1) = False := eq_false (Nat.not_lt.2 c7)
              obtain ⟨y196, hy196⟩ : ∃ y_ : List Int, y_ = (([bt a0 x4_1] : List Int)) := ⟨_, rfl⟩
              replace H : (if (x3_1 ++ (⟨#[92]⟩ : ByteArray)).size + (strOfNums y196).size ≤ 9223372036854775807 then (spec_Escape.l0 k1 a0 ((x3_1 ++ (⟨#[92]⟩ : ByteArray)) ++ (strOfNums y196)) (wrap64 (x4_1 + 1))) else (none)) = some r := by first | (rw [hy196]; with_reducible exact H) | (have H2_ := (Option.bind_some _ _).symm.trans H; rw [hy196]; with_reducible exact H2_) | (have H2_ := (Option.bind_some _ _).symm.trans H; with_reducible exact H2_) | with_reducible exact H | (rw [hy196]; exact H) | exact H
              have Ny196 := Aside0.mk hy196
              clear hy196
              by_cases c9 : (x3_1 ++ (⟨#[92]⟩ : ByteArray)).size + (strOfNums y196).size ≤ 9223372036854775807
              · rw [if_pos c9] at H
                have c9b0 := eq_true c9
                have c9b1 : decide ((x3_1 ++ (⟨#[92]⟩ : ByteArray)).size + (strOfNums y196).size ≤ 9223372036854775807) = true := decide_eq_true c9
                try have c9b2 : (9223372036854775807 < (x3_1 ++ (⟨#[92]⟩ : ByteArray)).size + (strOfNums y196).size) = False := eq_false (Nat.not_lt.2 c9)
                have H' := Aside0.mk H
                clear H
                have p4 : 0 ≤ (x4_1 : Int) := of_decide_eq_true (by first | (with_reducible assumption) | assumption)
                have q4 : x4_1 < (a0.size : Int) := of_decide_eq_true (by first | (with_reducible assumption) | assumption)
                have hx4 := bt_at a0 x4_1
                replace p4 := eq_true p4
                replace q4 := eq_true q4
                go_wp2_with (first | ((with_reducible refine gate_callee (f := 18) rfl ?_); refine goesL_ (some 14) rfl rfl Tryd.func18 (by kernel_rfl) rfl #[.int .u8 (bt a0 x4_1)] rfl (by (try simp only [List.map_toArray, List.map_cons, List.map_nil]); first | done | rfl | (simp only [List.length_drop, List.length_take]; rfl)) ?_; (with_reducible refine (spec_fieldSign.calls (bt a0 x4_1) true _ A5.out).mono ?_); rintro e w' ⟨rfl, ⟨nd, rfl⟩⟩; refine ⟨_, rfl, ?_⟩; have p8 : 0 ≤ (x4_1 : Int) := of_decide_eq_true (by first | (with_reducible assumption) | assumption); have q8 : x4_1 < (a0.size : Int) := of_decide_eq_true (by first | (with_reducible assumption) | assumption); have hx8 := bt_at a0 x4_1; replace p8 := eq_true p8; replace q8 := eq_true q8) | ((with_reducible refine gate_dst (N := 21) rfl ?_); refine Kd.R_lit (Kd.int .u8) _ 5 ?hg (N := 21) ?hd (xs := ([bt a0 x4_1] : List Int)) (inner := [.int .u8 (bt a0 x4_1)]) (ok := fun _ => True) (okp := fun _ => True) ?hr ?hp (fun _ hk => hk) trivial (Below.refl _ _) (Nat.le_refl _) (by simp) ?_; (case hd => rfl); (case hg => rfl); (case hr => first | (go_simp; done) | (go_simp; rfl)); (case hp => exact (Reps.one (show Kd.M (Kd.int .u8) _ _ _ (bt a0 x4_1) [.int .u8 (bt a0 x4_1)] from rfl) (Reps.none _ _))); intro v197 w10 ho11 hb hg_ hnew_; clear hg_ hnew_; (first | rw [← Ny196.out] at ho11 | (simp only [Int.reduceToNat] at ho11; rw [← Ny196.out] at ho11)); have n0_ := Aside0.mk (Kd.R_lower ho11 (below_size (by repeat (first | (with_reducible first | exact HB.out | apply below_alloc | apply pw_below_drewN | apply below_drew1) | exact HB.out)))); have n1_ := Aside0.mk (below_step (by repeat (first | (with_reducible first | exact HB.out | apply below_alloc | apply pw_below_drewN | apply below_drew1) | exact HB.out)) hb); clear HB; have HO198 := n0_; have HB := n1_; clear n0_ n1_; clear hb ho11; have hcv12 := own_string (P := Tryd.prog) Tryd.underlying58 Tryd.underlying5 Tryd.underlying9 (Kd.own_of_R HO198.out); have hcv12d := (fun nd_ => own_string (P := Tryd.prog) Tryd.underlying58 Tryd.underlying5 Tryd.underlying9 (Kd.own_of_R (Kd.R_drewN HO198.out nd_)))))
                go_roundg k1
                case measure => have := HK1.out; omega
                case rel => exact ⟨((x3_1 ++ (⟨#[92]⟩ : ByteArray)) ++ (strOfNums y196)), (wrap64 (x4_1 + 1)), (by first | rfl | (simp; done) | (simp [*]; done)), (by first | rfl | (simp; done) | (simp [*]; done)), H', ⟨by have := HK1.out; omega⟩, ⟨by repeat (first | (with_reducible first | exact HB.out | apply below_alloc | apply pw_below_drewN | apply below_drew1) | exact HB.out)⟩⟩
              · rw [if_neg c9] at H
                exact absurd H (by simp)
            · rw [if_neg c7] at H
              exact absurd H (by simp)
          · replace c6 := Bool.eq_false_iff.mpr c6
            subst c6
            have H1 : ((some (([bt a0 x4_1] : List Int) : List Int)).bind fun y199 => (if x3_1.size + (strOfNums y199).size ≤ 9223372036854775807 then (spec_Escape.l0 k1 a0 (x3_1 ++ (strOfNums y199)) (wrap64 (x4_1 + 1))) else (none))) = some r := by rw [if_neg (show ¬ (false = true) by decide)] at H; exact H
            clear H
            have H := H1
            clear H1
            obtain ⟨y199, hy199⟩ : ∃ y_ : List Int, y_ = (([bt a0 x4_1] : List Int)) := ⟨_, rfl⟩
            replace H : (if x3_1.size + (strOfNums y199).size ≤ 9223372036854775807 then (spec_Escape.l0 k1 a0 (x3_1 ++ (strOfNums y199)) (wrap64 (x4_1 + 1))) else (none)) = some r := by first | (rw [hy199]; with_reducible exact H) | (have H2_ := (Option.bind_some _ _).symm.trans H; rw [hy199]; with_reducible exact H2_) | (have H2_ := (Option.bind_some _ _).symm.trans H; with_reducible exact H2_) | with_reducible exact H | (rw [hy199]; exact H) | exact H
            have Ny199 := Aside0.mk hy199
            clear hy199
            by_cases c14 : x3_1.size + (strOfNums y199).size ≤ 9223372036854775807
            · rw [if_pos c14] at H
              have c14b0 := eq_true c14
              have c14b1 : decide (x3_1.size + (strOfNums y199).size ≤ 9223372036854775807) = true := decide_eq_true c14
              try have c14b2 : (9223372036854775807 < x3_1.size + (strOfNums y199).size) = False := eq_false (Nat.not_lt.2 c14)
              have H' := Aside0.mk H
              clear H
              have p4 : 0 ≤ (x4_1 : Int) := of_decide_eq_true (by first | (with_reducible assumption) | assumption)
              have q4 : x4_1 < (a0.size : Int) := of_decide_eq_true (by first | (with_reducible assumption) | assumption)
              have hx4 := bt_at a0 x4_1
              replace p4 := eq_true p4
              replace q4 := eq_true q4
              go_wp2_with (first | ((with_reducible refine gate_callee (f := 18) rfl ?_); refine goesL_ (some 14) rfl rfl Tryd.func18 (by kernel_rfl) rfl #[.int .u8 (bt a0 x4_1)] rfl (by (try simp only [List.map_toArray, List.map_cons, List.map_nil]); first | done | rfl | (simp only [List.length_drop, List.length_take]; rfl)) ?_; (with_reducible refine (spec_fieldSign.calls (bt a0 x4_1) false _ A5.out).mono ?_); rintro e w' ⟨rfl, ⟨nd, rfl⟩⟩; refine ⟨_, rfl, ?_⟩; have p13 : 0 ≤ (x4_1 : Int) := of_decide_eq_true (by first | (with_reducible assumption) | assumption); have q13 : x4_1 < (a0.size : Int) := of_decide_eq_true (by first | (with_reducible assumption) | assumption); have hx13 := bt_at a0 x4_1; replace p13 := eq_true p13; replace q13 := eq_true q13) | ((with_reducible refine gate_dst (N := 21) rfl ?_); refine Kd.R_lit (Kd.int .u8) _ 5 ?hg (N := 21) ?hd (xs := ([bt a0 x4_1] : List Int)) (inner := [.int .u8 (bt a0 x4_1)]) (ok := fun _ => True) (okp := fun _ => True) ?hr ?hp (fun _ hk => hk) trivial (Below.refl _ _) (Nat.le_refl _) (by simp) ?_; (case hd => rfl); (case hg => rfl); (case hr => first | (go_simp; done) | (go_simp; rfl)); (case hp => exact (Reps.one (show Kd.M (Kd.int .u8) _ _ _ (bt a0 x4_1) [.int .u8 (bt a0 x4_1)] from rfl) (Reps.none _ _))); intro v200 w15 ho16 hb hg_ hnew_; clear hg_ hnew_; (first | rw [← Ny199.out] at ho16 | (simp only [Int.reduceToNat] at ho16; rw [← Ny199.out] at ho16)); have n0_ := Aside0.mk (Kd.R_lower ho16 (below_size (by repeat (first | (with_reducible first | exact HB.out | apply below_alloc | apply pw_below_drewN | apply below_drew1) | exact HB.out)))); have n1_ := Aside0.mk (below_step (by repeat (first | (with_reducible first | exact HB.out | apply below_alloc | apply pw_below_drewN | apply below_drew1) | exact HB.out)) hb); clear HB; have HO201 := n0_; have HB := n1_; clear n0_ n1_; clear hb ho16; have hcv17 := own_string (P := Tryd.prog) Tryd.underlying58 Tryd.underlying5 Tryd.underlying9 (Kd.own_of_R HO201.out); have hcv17d := (fun nd_ => own_string (P := Tryd.prog) Tryd.underlying58 Tryd.underlying5 Tryd.underlying9 (Kd.own_of_R (Kd.R_drewN HO201.out nd_)))))
              go_roundg k1
              case measure => have := HK1.out; omega
              case rel => exact ⟨(x3_1 ++ (strOfNums y199)), (wrap64 (x4_1 + 1)), (by first | rfl | (simp; done) | (simp [*]; done)), (by first | rfl | (simp; done) | (simp [*]; done)), H', ⟨by have := HK1.out; omega⟩, ⟨by repeat (first | (with_reducible first | exact HB.out | apply below_alloc | apply pw_below_drewN | apply below_drew1) | exact HB.out)⟩⟩
            · rw [if_neg c14] at H
              exact absurd H (by simp)
        · rw [if_neg c3] at H
          exact absurd H (by simp)
      · rw [if_neg c2] at H
        have c2b0 : decide (x4_1 < (a0.size : Int)) = false := decide_eq_false c2
        clear c2
        obtain rfl := Option.some.inj H
        go_wp2
        go_ret
        exact ⟨by first | rfl | (simp [errW_none, errW_some] <;> rfl) | (simp [*, errW_none, errW_some] <;> rfl) | (exfalso; contradiction), by repeat (first | (with_reducible first | exact HB.out | apply below_alloc | apply pw_below_drewN | apply below_drew1) | exact HB.out)⟩

end Go.Proofs.YtmehecpmhijfmaaDoor.PFnFieldParse
