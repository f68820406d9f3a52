/- Functions of the program as plain Lean functions, and that the machine's calls do what these say: written for this claim by wip/myprint.py over the kit's print.py. -/
import Derived.Test.YtmfdnpccggnfoaaDoorPFnFieldMatchx0
import Derived.Test.YtmfdnpccggnfoaaDoorPFnFieldMatchx1
import Derived.Test.YtmfdnpccggnfoaaDoorPFnFieldMatchx2
import Derived.Test.YtmfdnpccggnfoaaDoorPFnFieldMatchx3
namespace Go.Proofs.YtmfdnpccggnfoaaDoor.PFnFieldMatch
open Go.RowKit Go.Proofs.YtmfdnpccggnfoaaDoorW.PrintWords Go.Proofs.YtmfdnpccggnfoaaDoorW.PrintLast Go.Proofs.YtmfdnpccggnfoaaDoorW.PrintMore
attribute [local go_sem] max2_int min2_int max_two min_two max_three min_three max_four min_four   -- for this text's walks alone
set_option linter.unusedVariables false
set_option linter.unusedSimpArgs false

/-! ### spec_FieldTerms: function 6 -/
mutual
def spec_FieldTerms.l0 : Nat → List (S44) → List ByteArray → Int → Option ((List (S44)) × Bool)
  | 0, _, _, _ => none
  | k + 1, x4, x5, x6 => if x6 < (x5.length : Int) then (if 0 ≤ x6 then (if (rdOf ByteArray.empty x5 x6).toList = ([] : List UInt8) then (spec_FieldTerms.l0 k x4 x5 (wrap64 (x6 + 1))) else ((spec_FieldCut.f k (rdOf ByteArray.empty x5 x6)).bind fun bt178 => ((spec_Unescape.f k bt178.2.2.1).bind fun bt182 => (if bt178.2.2.2 = true then (spec_FieldTerms.j1 k x4 x5 x6 bt178.1 bt178.2.1 bt182.1 (!bt182.2)) else (spec_FieldTerms.j1 k x4 x5 x6 bt178.1 bt178.2.1 bt182.1 true))))) else (none)) else (some (x4, true))
def spec_FieldTerms.j1 : Nat → List (S44) → List ByteArray → Int → ByteArray → ByteArray → ByteArray → Bool → Option ((List (S44)) × Bool)
  | 0, _, _, _, _, _, _, _ => none
  | k + 1, x4, x5, x6, x7, x8, x11, x47 => if x47 = true then (some (([] : List (S44)), false)) else (if x8.toList = ([61, 61] : List UInt8) then (if x7.toList = ([] : List UInt8) then (if x11.toList = ([] : List UInt8) then (spec_FieldTerms.l0 k x4 x5 (wrap64 (x6 + 1))) else (if x4.length < 2932031007402 then (spec_FieldTerms.l0 k (x4 ++ [(⟨x7, (⟨#[61]⟩ : ByteArray), x11⟩ : S44)]) x5 (wrap64 (x6 + 1))) else (none))) else (if x4.length < 2932031007402 then (spec_FieldTerms.l0 k (x4 ++ [(⟨x7, (⟨#[61]⟩ : ByteArray), x11⟩ : S44)]) x5 (wrap64 (x6 + 1))) else (none))) else (if x7.toList = ([] : List UInt8) then (if x11.toList = ([] : List UInt8) then (spec_FieldTerms.l0 k x4 x5 (wrap64 (x6 + 1))) else (if x4.length < 2932031007402 then (spec_FieldTerms.l0 k (x4 ++ [(⟨x7, x8, x11⟩ : S44)]) x5 (wrap64 (x6 + 1))) else (none))) else (if x4.length < 2932031007402 then (spec_FieldTerms.l0 k (x4 ++ [(⟨x7, x8, x11⟩ : S44)]) x5 (wrap64 (x6 + 1))) else (none))))
end
def spec_FieldTerms.f (k : Nat) (a0 : ByteArray) : Option ((List (S44)) × Bool) := (spec_FieldPieces.f k a0).bind fun t170 => ((spec_sorted.f k t170).bind fun t173 => (spec_FieldTerms.l0 k ([] : List (S44)) t173 0))
theorem spec_FieldTerms.mono_l : ∀ k, (∀ y0 y1 y2, LeO (spec_FieldTerms.l0 k y0 y1 y2) (spec_FieldTerms.l0 (k + 1) y0 y1 y2)) ∧ (∀ y0 y1 y2 y3 y4 y5 y6, LeO (spec_FieldTerms.j1 k y0 y1 y2 y3 y4 y5 y6) (spec_FieldTerms.j1 (k + 1) y0 y1 y2 y3 y4 y5 y6))
  | 0 => ⟨fun _ _ _ r h => by simp [spec_FieldTerms.l0] at h, fun _ _ _ _ _ _ _ r h => by simp [spec_FieldTerms.j1] at h⟩
  | k + 1 => by
    obtain ⟨ih0, ih1⟩ := spec_FieldTerms.mono_l k
    refine ⟨?_, ?_⟩
    · intro y0 y1 y2
      unfold spec_FieldTerms.l0
      repeat' first
      | (with_reducible exact ih0 _ _ _)
      | (with_reducible exact ih1 _ _ _ _ _ _ _)
      | (with_reducible exact spec_FieldCut.mono _ _)
      | (with_reducible exact spec_FieldPieces.mono _ _)
      | (with_reducible exact spec_Unescape.mono _ _)
      | (with_reducible exact spec_sorted.mono _ _)
      | (with_reducible exact LeO.refl _)
      | (with_reducible exact LeO.none _)
      | (with_reducible refine LeO.ite ?_ ?_)
      | (with_reducible refine LeO.bind ?_ (fun _ => ?_))
      | exact ih0 _ _ _
      | exact ih1 _ _ _ _ _ _ _
      | exact spec_FieldCut.mono _ _
      | exact spec_FieldPieces.mono _ _
      | exact spec_Unescape.mono _ _
      | exact spec_sorted.mono _ _
      | exact LeO.none _
      | refine LeO.ite ?_ ?_
      | refine LeO.bind ?_ (fun _ => ?_)
    · intro y0 y1 y2 y3 y4 y5 y6
      unfold spec_FieldTerms.j1
      repeat' first
      | (with_reducible exact ih0 _ _ _)
      | (with_reducible exact ih1 _ _ _ _ _ _ _)
      | (with_reducible exact spec_FieldCut.mono _ _)
      | (with_reducible exact spec_FieldPieces.mono _ _)
      | (with_reducible exact spec_Unescape.mono _ _)
      | (with_reducible exact spec_sorted.mono _ _)
      | (with_reducible exact LeO.refl _)
      | (with_reducible exact LeO.none _)
      | (with_reducible refine LeO.ite ?_ ?_)
      | (with_reducible refine LeO.bind ?_ (fun _ => ?_))
      | exact ih0 _ _ _
      | exact ih1 _ _ _ _ _ _ _
      | exact spec_FieldCut.mono _ _
      | exact spec_FieldPieces.mono _ _
      | exact spec_Unescape.mono _ _
      | exact spec_sorted.mono _ _
      | exact LeO.none _
      | refine LeO.ite ?_ ?_
      | refine LeO.bind ?_ (fun _ => ?_)
theorem spec_FieldTerms.mono : ∀ a0 k, LeO (spec_FieldTerms.f k a0) (spec_FieldTerms.f (k + 1) a0) := by
  intro a0 k
  obtain ⟨ih0, ih1⟩ := spec_FieldTerms.mono_l k
  unfold spec_FieldTerms.f
  repeat' first
      | (with_reducible exact ih0 _ _ _)
      | (with_reducible exact ih1 _ _ _ _ _ _ _)
      | (with_reducible exact spec_FieldCut.mono _ _)
      | (with_reducible exact spec_FieldPieces.mono _ _)
      | (with_reducible exact spec_Unescape.mono _ _)
      | (with_reducible exact spec_sorted.mono _ _)
      | (with_reducible exact LeO.refl _)
      | (with_reducible exact LeO.none _)
      | (with_reducible refine LeO.ite ?_ ?_)
      | (with_reducible refine LeO.bind ?_ (fun _ => ?_))
      | exact ih0 _ _ _
      | exact ih1 _ _ _ _ _ _ _
      | exact spec_FieldCut.mono _ _
      | exact spec_FieldPieces.mono _ _
      | exact spec_Unescape.mono _ _
      | exact spec_sorted.mono _ _
      | exact LeO.none _
      | refine LeO.ite ?_ ?_
      | refine LeO.bind ?_ (fun _ => ?_)
set_option maxHeartbeats 8000000 in
set_option maxRecDepth 100000 in
theorem spec_FieldTerms.calls (k : Nat) (a0 : ByteArray) (r1 : List (S44)) (r2 : Bool) (w : World) (h : spec_FieldTerms.f k a0 = some (r1, r2)) :
    Calls Tryd.prog 6 #[.string a0] w fun e w' => ∃ v0_ : Value, e = .returned (.tuple #[v0_, .bool r2]) ∧ Kd.R k44 44 w' w.heap.size (fun _ => True) v0_ r1 ∧ Below w.heap.size w w' := by
  have hu44 := Tryd.underlying44
  have HB := Aside0.mk (Below.refl w.heap.size w)
  have H : ((spec_FieldPieces.f k a0).bind fun t170 => ((spec_sorted.f k t170).bind fun t173 => (spec_FieldTerms.l0 k ([] : List (S44)) t173 0))) = some (r1, r2) := h
  clear h
  replace H := Option.bind_eq_some_iff.mp H
  obtain ⟨t170, A20, H⟩ := H
  replace H : ((spec_sorted.f k t170).bind fun t173 => (spec_FieldTerms.l0 k ([] : List (S44)) t173 0)) = some (r1, r2) := H
  have A2 := Aside0.mk A20
  clear A20
  replace H := Option.bind_eq_some_iff.mp H
  obtain ⟨t173, A30, H⟩ := H
  replace H : (spec_FieldTerms.l0 k ([] : List (S44)) t173 0) = some (r1, r2) := H
  have A3 := Aside0.mk A30
  clear A30
  have H' := Aside0.mk H
  clear H
  go_enter Tryd.func6, Tryd.ntmps6
  go_wp2_with (first | ((with_reducible refine gate_callee (f := 11) rfl ?_); refine goesL_ (some 14) rfl rfl Tryd.func11 (by kernel_rfl) rfl #[.string a0] rfl (by (try simp only [List.map_toArray, List.map_cons, List.map_nil]); first | done | rfl | (simp only [List.length_drop, List.length_take]; rfl)) ?_; (with_reducible refine (spec_FieldPieces.calls k a0 t170 _ A2.out).mono ?_); rintro e w4 ⟨v171, rfl, ho0, hb⟩; refine ⟨_, rfl, ?_⟩; have n0_ := Aside0.mk (Kd.R_lower ho0 (below_size (by repeat (first | (with_reducible first | exact HB.out | apply below_alloc | apply pw_below_drewN | apply below_drew1) | exact HB.out)))); have n1_ := Aside0.mk (below_step (by repeat (first | (with_reducible first | exact HB.out | apply below_alloc | apply pw_below_drewN | apply below_drew1) | exact HB.out)) hb); clear HB; have HO172 := n0_; have HB := n1_; clear n0_ n1_; (try clear hb); (try clear hb2); (try clear hk); (try clear hi); (try clear ho0); obtain ⟨Ao5, co5, eo5⟩ := Kd.R_slice HO172.out; subst eo5) | ((with_reducible refine gate_callee (f := 10) rfl ?_); refine goesL_ (some 15) rfl rfl Tryd.func10 (by kernel_rfl) rfl #[.slice Ao5 t170.length co5] rfl (by (try simp only [List.map_toArray, List.map_cons, List.map_nil]); first | done | rfl | (simp only [List.length_drop, List.length_take]; rfl)) ?_; (with_reducible refine (spec_sorted.calls k _ _ t170 t173 _ ?side1 ?side2 A3.out).mono ?_); (case side1 => repeat (first | exact (Kd.R_reads' HO172.out).2.2 | (with_reducible refine Kd.C_alloc ?_ _) | (with_reducible refine Kd.C_drewN ?_ _) | (with_reducible refine Kd.C_drew ?_))); (case side2 => exact (Kd.R_reads' HO172.out).2.1); rintro e w6 ⟨v174, rfl, ho0, hb⟩; refine ⟨_, rfl, ?_⟩; have n0_ := Aside0.mk (Kd.R_elder' (by (with_reducible repeat (first | apply Kd.R_alloc | apply Kd.R_drewN | apply Kd.R_drew)); exact HO172.out) (Kd.R_base ho0) hb); have n1_ := Aside0.mk (Kd.R_lower (Kd.R_new' ho0 (Kd.R_lt (by (with_reducible repeat (first | apply Kd.R_alloc | apply Kd.R_drewN | apply Kd.R_drew)); exact HO172.out))) (below_size (by repeat (first | (with_reducible first | exact HB.out | apply below_alloc | apply pw_below_drewN | apply below_drew1) | exact HB.out)))); have n2_ := Aside0.mk (below_step (by repeat (first | (with_reducible first | exact HB.out | apply below_alloc | apply pw_below_drewN | apply below_drew1) | exact HB.out)) hb); clear HO172; clear HB; have HO172 := n0_; have HO175 := n1_; have HB := n2_; clear n0_ n1_ n2_; (try clear hb); (try clear hb2); (try clear hk); (try clear hi); (try clear ho0)))
  go_loopg [4, 6] k (fun kq v4 v6 w' => ∃ (x4_1 : List (S44)) (x6_1 : Int), v6 = .int .i64 x6_1 ∧ Aside0 (spec_FieldTerms.l0 kq x4_1 t173 x6_1 = some (r1, r2)) ∧ Aside0 (kq ≤ k) ∧ Aside0 (Kd.R k44 44 w' w.heap.size (fun _ => True) v4 x4_1) ∧ Aside0 (Kd.R Kd.string 9 w' w.heap.size (fun _ => True) v174 t173) ∧ Aside0 (Below w.heap.size w w'))
  case atStart => exact ⟨(([] : List (S44))), (0), (by first | rfl | (simp; done) | (simp [*]; done)), H', ⟨Nat.le_refl _⟩, ⟨by first | exact Kd.R_nil _ _ _ _ _ | exact Kd.N_nil _ _ _ _ _ | exact Kd.V_nil _ _ _ _ _ | exact Kd.Q_nil _ _ _ _ _ | exact Kd.S_nil _ _ _ _ _⟩, ⟨by (with_reducible repeat (first | apply Kd.R_alloc | apply Kd.R_drewN | apply Kd.R_drew)); exact Kd.R_mono HO175.out (fun _ hk => trivial)⟩, ⟨by repeat (first | (with_reducible first | exact HB.out | apply below_alloc | apply pw_below_drewN | apply below_drew1) | exact HB.out)⟩⟩
  case round =>
    clear H'
    try clear c1
    try clear p2
    try clear c6
    obtain ⟨x4_1, x6_1, rfl, HA, HK1, HO_4, HO_5, HB⟩ := hrel
    cases gk with
    | zero => exact absurd HA.out (by simp [spec_FieldTerms.l0])
    | succ k1 =>
      have H := HA.out
      clear HA
      simp only [spec_FieldTerms.l0] at H
      by_cases c7 : x6_1 < (t173.length : Int)
      · rw [if_pos c7] at H
        have c7b0 : decide (x6_1 < (t173.length : Int)) = true := decide_eq_true c7
        clear c7
        by_cases c8 : 0 ≤ x6_1
        · rw [if_pos c8] at H
          have c8b0 : decide (0 ≤ x6_1) = true := decide_eq_true c8
          clear c8
          by_cases c9 : (rdOf ByteArray.empty t173 x6_1).toList = ([] : List UInt8)
          · rw [if_pos c9] at H
            have c9b0 : ((rdOf ByteArray.empty t173 x6_1).toList == ([] : List UInt8)) = true := beq_iff_eq.mpr c9
            have c9b1 : ((rdOf ByteArray.empty t173 x6_1).toList != ([] : List UInt8)) = false := bne_eq_false_iff_eq.mpr c9
            clear c9
            have H' := Aside0.mk H
            clear H
            obtain ⟨Ao10, co10, eo10⟩ := Kd.R_slice HO_5.out
            subst eo10
            have p176 : 0 ≤ (x6_1 : Int) := of_decide_eq_true (by first | (with_reducible assumption) | assumption)
            have q176 : x6_1 < (t173.length : Int) := of_decide_eq_true (by first | (with_reducible assumption) | assumption)
            obtain ⟨ad176, e176, hx176_0⟩ := Kd.at_string (Kd.R_reads' HO_5.out).2.2 x6_1 p176 q176
            cases e176
            replace p176 := eq_true p176
            replace q176 := eq_true q176
            go_wp2
            go_roundg k1
            case measure => have := HK1.out; omega
            case rel => exact ⟨(x4_1), (wrap64 (x6_1 + 1)), (by first | rfl | (simp; done) | (simp [*]; done)), H', ⟨by have := HK1.out; omega⟩, ⟨by (with_reducible repeat (first | apply Kd.R_alloc | apply Kd.R_drewN | apply Kd.R_drew)); exact HO_4.out⟩, ⟨by (with_reducible repeat (first | apply Kd.R_alloc | apply Kd.R_drewN | apply Kd.R_drew)); exact HO_5.out⟩, ⟨by repeat (first | (with_reducible first | exact HB.out | apply below_alloc | apply pw_below_drewN | apply below_drew1) | exact HB.out)⟩⟩
          · rw [if_neg c9] at H
            have c9b0 : ((rdOf ByteArray.empty t173 x6_1).toList == ([] : List UInt8)) = false := beq_eq_false_iff_ne.mpr c9
            have c9b1 : ((rdOf ByteArray.empty t173 x6_1).toList != ([] : List UInt8)) = true := bne_iff_ne.mpr c9
            replace H := Option.bind_eq_some_iff.mp H
            obtain ⟨⟨t178, t179, t180, t181⟩, A110, H⟩ := H
            replace H : ((spec_Unescape.f k1 t180).bind fun bt182 => (if t181 = true then (spec_FieldTerms.j1 k1 x4_1 t173 x6_1 t178 t179 bt182.1 (!bt182.2)) else (spec_FieldTerms.j1 k1 x4_1 t173 x6_1 t178 t179 bt182.1 true))) = some (r1, r2) := H
            have A11 := Aside0.mk A110
            clear A110
            replace H := Option.bind_eq_some_iff.mp H
            obtain ⟨⟨t182, t183⟩, A120, H⟩ := H
            replace H : (if t181 = true then (spec_FieldTerms.j1 k1 x4_1 t173 x6_1 t178 t179 t182 (!t183)) else (spec_FieldTerms.j1 k1 x4_1 t173 x6_1 t178 t179 t182 true)) = some (r1, r2) := H
            have A12 := Aside0.mk A120
            clear A120
            have HC13 := Aside0.mk H
            clear H
            obtain ⟨Ao14, co14, eo14⟩ := Kd.R_slice HO_5.out
            subst eo14
            have p176 : 0 ≤ (x6_1 : Int) := of_decide_eq_true (by first | (with_reducible assumption) | assumption)
            have q176 : x6_1 < (t173.length : Int) := of_decide_eq_true (by first | (with_reducible assumption) | assumption)
            obtain ⟨ad176, e176, hx176_0⟩ := Kd.at_string (Kd.R_reads' HO_5.out).2.2 x6_1 p176 q176
            cases e176
            replace p176 := eq_true p176
            replace q176 := eq_true q176
            have p177 : 0 ≤ (x6_1 : Int) := of_decide_eq_true (by first | (with_reducible assumption) | assumption)
            have q177 : x6_1 < (t173.length : Int) := of_decide_eq_true (by first | (with_reducible assumption) | assumption)
            obtain ⟨ad177, e177, hx177_0⟩ := Kd.at_string (Kd.R_reads' HO_5.out).2.2 x6_1 p177 q177
            obtain rfl : ad176 = ad177 := (by injection e177)
            replace p177 := eq_true p177
            replace q177 := eq_true q177
            go_upto_region 9 with (first | ((with_reducible refine gate_callee (f := 12) rfl ?_); refine goesL_ (some 32) rfl rfl Tryd.func12 (by kernel_rfl) rfl #[.string (rdOf ByteArray.empty t173 x6_1)] rfl (by (try simp only [List.map_toArray, List.map_cons, List.map_nil]); first | done | rfl | (simp only [List.length_drop, List.length_take]; rfl)) ?_; (with_reducible refine (spec_FieldCut.calls k1 (rdOf ByteArray.empty t173 x6_1) t178 t179 t180 t181 _ A11.out).mono ?_); rintro e w' ⟨rfl, ⟨nd, rfl⟩⟩; refine ⟨_, rfl, ?_⟩) | ((with_reducible refine gate_callee (f := 13) rfl ?_); refine goesL_ (some 39) rfl rfl Tryd.func13 (by kernel_rfl) rfl #[.string t180] rfl (by (try simp only [List.map_toArray, List.map_cons, List.map_nil]); first | done | rfl | (simp only [List.length_drop, List.length_take]; rfl)) ?_; (with_reducible refine (spec_Unescape.calls k1 t180 t182 t183 _ A12.out).mono ?_); rintro e w15 ⟨rfl, hb⟩; refine ⟨_, rfl, ?_⟩; have n0_ := Aside0.mk (Kd.R_below (by (with_reducible repeat (first | apply Kd.R_alloc | apply Kd.R_drewN | apply Kd.R_drew)); exact HO_4.out) hb); have n1_ := Aside0.mk (Kd.R_below (by (with_reducible repeat (first | apply Kd.R_alloc | apply Kd.R_drewN | apply Kd.R_drew)); exact HO_5.out) hb); have n2_ := Aside0.mk (below_step (by repeat (first | (with_reducible first | exact HB.out | apply below_alloc | apply pw_below_drewN | apply below_drew1) | exact HB.out)) hb); clear HO_4; clear HO_5; clear HB; have HO_4 := n0_; have HO_5 := n1_; have HB := n2_; clear n0_ n1_ n2_; (try clear hb); (try clear hb2); (try clear hk); (try clear hi)))
            (try simp only [Act.put, List.setIfInBounds_toArray, List.set_cons_zero, List.set_cons_succ])
            go_cut [47] (fun v47 wc => ∃ (kq : Nat) (x47_12 : Bool), v47 = .bool x47_12 ∧ Aside0 (spec_FieldTerms.j1 kq x4_1 t173 x6_1 t178 t179 t182 x47_12 = some (r1, r2)) ∧ Aside0 (kq ≤ k1) ∧ Aside0 (Kd.R k44 44 wc w.heap.size (fun _ => True) u4 x4_1) ∧ Aside0 (Kd.R Kd.string 9 wc w.heap.size (fun _ => True) (.slice (some ad176) t173.length co14) t173) ∧ Aside0 (Below w.heap.size w wc))
            case first =>
              have H := HC13.out
              clear HC13
              by_cases c16 : t181 = true
              · subst c16
                have H1 : (spec_FieldTerms.j1 k1 x4_1 t173 x6_1 t178 t179 t182 (!t183)) = some (r1, r2) := by rw [if_pos rfl] at H; exact H
                clear H
                have H := H1
                clear H1
                have H' := Aside0.mk H
                clear H
                go_wp2
                go_meet
                case rel => exact ⟨_, (!t183), (by first | rfl | (simp; done) | (simp [*]; done)), H', ⟨by have := HK1.out; first | omega | exact Nat.le_refl _⟩, ⟨by (with_reducible repeat (first | apply Kd.R_alloc | apply Kd.R_drewN | apply Kd.R_drew)); exact HO_4.out⟩, ⟨by (with_reducible repeat (first | apply Kd.R_alloc | apply Kd.R_drewN | apply Kd.R_drew)); exact HO_5.out⟩, ⟨by repeat (first | (with_reducible first | exact HB.out | apply below_alloc | apply pw_below_drewN | apply below_drew1) | exact HB.out)⟩⟩
              · replace c16 := Bool.eq_false_iff.mpr c16
                subst c16
                have H1 : (spec_FieldTerms.j1 k1 x4_1 t173 x6_1 t178 t179 t182 true) = some (r1, r2) := by rw [if_neg (show ¬ (false = true) by decide)] at H; exact H
                clear H
                have H := H1
                clear H1
                have H' := Aside0.mk H
                clear H
                go_wp2
                go_meet
                case rel => exact ⟨_, (true), (by first | rfl | (simp; done) | (simp [*]; done)), H', ⟨by have := HK1.out; first | omega | exact Nat.le_refl _⟩, ⟨by (with_reducible repeat (first | apply Kd.R_alloc | apply Kd.R_drewN | apply Kd.R_drew)); exact HO_4.out⟩, ⟨by (with_reducible repeat (first | apply Kd.R_alloc | apply Kd.R_drewN | apply Kd.R_drew)); exact HO_5.out⟩, ⟨by repeat (first | (with_reducible first | exact HB.out | apply below_alloc | apply pw_below_drewN | apply below_drew1) | exact HB.out)⟩⟩
            case rest =>
              clear HC13
              try clear c1
              try clear p1
              try clear q1
              try clear hx1
              try clear p2
              try clear c6
              try clear p6
              try clear c7
              try clear c7b0
              try clear c8
              try clear c8b0
              try clear c9
              try clear c9b0
              try clear c9b1
              try clear c10
              try clear c11
              try clear c12
              try clear c13
              try clear c16
              try clear hx176_0
              try clear hx177_0
              try clear p176
              try clear p177
              try clear p2
              try clear q176
              try clear q177
              obtain ⟨kq, x47_12, rfl, HA, HJ12, HO_4, HO_5, HB⟩ := hcut
              cases kq with
              | zero => exact absurd HA.out (by simp [spec_FieldTerms.j1])
              | succ kj12 =>
                have H := HA.out
                clear HA
                simp only [spec_FieldTerms.j1] at H
                by_cases c17 : x47_12 = true
                · subst c17
                  have H1 : (some (([] : List (S44)), false)) = some (r1, r2) := by rw [if_pos rfl] at H; exact H
                  clear H
                  have H := H1
                  clear H1
                  simp only [Option.some.injEq, Prod.mk.injEq] at H
                  obtain ⟨rfl, rfl⟩ := H
                  go_wp2
                  go_ret2
                  exact ⟨_, by first | rfl | (simp [errW_none, errW_some] <;> rfl) | (simp [*, errW_none, errW_some] <;> rfl), by first | exact Kd.R_nil _ _ _ _ _ | exact Kd.N_nil _ _ _ _ _ | exact Kd.V_nil _ _ _ _ _ | exact Kd.Q_nil _ _ _ _ _ | exact Kd.S_nil _ _ _ _ _, by repeat (first | (with_reducible first | exact HB.out | apply below_alloc | apply pw_below_drewN | apply below_drew1) | exact HB.out)⟩
                · replace c17 := Bool.eq_false_iff.mpr c17
                  subst c17
                  have H1 : (if t179.toList = ([61, 61] : List UInt8) then (if t178.toList = ([] : List UInt8) then (if t182.toList = ([] : List UInt8) then (spec_FieldTerms.l0 kj12 x4_1 t173 (wrap64 (x6_1 + 1))) else (if x4_1.length < 2932031007402 then (spec_FieldTerms.l0 kj12 (x4_1 ++ [(⟨t178, (⟨#[61]⟩ : ByteArray), t182⟩ : S44)]) t173 (wrap64 (x6_1 + 1))) else (none))) else (if x4_1.length < 2932031007402 then (spec_FieldTerms.l0 kj12 (x4_1 ++ [(⟨t178, (⟨#[61]⟩ : ByteArray), t182⟩ : S44)]) t173 (wrap64 (x6_1 + 1))) else (none))) else (if t178.toList = ([] : List UInt8) then (if t182.toList = ([] : List UInt8) then (spec_FieldTerms.l0 kj12 x4_1 t173 (wrap64 (x6_1 + 1))) else (if x4_1.length < 2932031007402 then (spec_FieldTerms.l0 kj12 (x4_1 ++ [(⟨t178, t179, t182⟩ : S44)]) t173 (wrap64 (x6_1 + 1))) else (none))) else (if x4_1.length < 2932031007402 then (spec_FieldTerms.l0 kj12 (x4_1 ++ [(⟨t178, t179, t182⟩ : S44)]) t173 (wrap64 (x6_1 + 1))) else (none)))) = some (r1, r2) := by rw [if_neg (show ¬ (false = true) by decide)] at H; exact H
                  clear H
                  have H := H1
                  clear H1
                  by_cases c18 : t179.toList = ([61, 61] : List UInt8)
                  · rw [if_pos c18] at H
                    have c18b0 : (t179.toList == ([61, 61] : List UInt8)) = true := beq_iff_eq.mpr c18
                    have c18b1 : (t179.toList != ([61, 61] : List UInt8)) = false := bne_eq_false_iff_eq.mpr c18
                    clear c18
                    by_cases c19 : t178.toList = ([] : List UInt8)
                    · rw [if_pos c19] at H
                      have c19b0 : (t178.toList == ([] : List UInt8)) = true := beq_iff_eq.mpr c19
                      have c19b1 : (t178.toList != ([] : List UInt8)) = false := bne_eq_false_iff_eq.mpr c19
                      clear c19
                      by_cases c20 : t182.toList = ([] : List UInt8)
                      · rw [if_pos c20] at H
                        have c20b0 : (t182.toList == ([] : List UInt8)) = true := beq_iff_eq.mpr c20
                        have c20b1 : (t182.toList != ([] : List UInt8)) = false := bne_eq_false_iff_eq.mpr c20
                        clear c20
                        have H' := Aside0.mk H
                        clear H
                        go_wp2
                        go_roundg kj12
                        case measure => have := HK1.out; have := HJ12.out; omega
                        case rel => exact ⟨(x4_1), (wrap64 (x6_1 + 1)), (by first | rfl | (simp; done) | (simp [*]; done)), H', ⟨by have := HK1.out; have := HJ12.out; omega⟩, ⟨by (with_reducible repeat (first | apply Kd.R_alloc | apply Kd.R_drewN | apply Kd.R_drew)); exact HO_4.out⟩, ⟨by (with_reducible repeat (first | apply Kd.R_alloc | apply Kd.R_drewN | apply Kd.R_drew)); exact HO_5.out⟩, ⟨by repeat (first | (with_reducible first | exact HB.out | apply below_alloc | apply pw_below_drewN | apply below_drew1) | exact HB.out)⟩⟩
                      · rw [if_neg c20] at H
                        have c20b0 : (t182.toList == ([] : List UInt8)) = false := beq_eq_false_iff_ne.mpr c20
                        have c20b1 : (t182.toList != ([] : List UInt8)) = true := bne_iff_ne.mpr c20
                        by_cases c21 : x4_1.length < 2932031007402
                        · rw [if_pos c21] at H
                          have LMc21 := Aside0.mk c21
                          clear c21
                          obtain ⟨y184, hy184⟩ : ∃ y_ : List (S44), y_ = (x4_1 ++ [(⟨t178, (⟨#[61]⟩ : ByteArray), t182⟩ : S44)]) := ⟨_, rfl⟩
                          replace H : (spec_FieldTerms.l0 kj12 y184 t173 (wrap64 (x6_1 + 1))) = some (r1, r2) := by first | (rw [hy184]; with_reducible exact H) | (have H2_ := (Option.bind_some _ _).symm.trans H; rw [hy184]; with_reducible exact H2_) | (have H2_ := (Option.bind_some _ _).symm.trans H; with_reducible exact H2_) | with_reducible exact H | (rw [hy184]; exact H) | exact H
                          have Ny184 := Aside0.mk hy184
                          clear hy184
                          have H' := Aside0.mk H
                          clear H
                          go_wp2_with (first | ((with_reducible refine gate_builtin (b := .append) (xs := #[.tmp 56, .tmp 61]) rfl ?_); at_builtin; refine Kd.R_append k44 (w0 := w) w.heap.size rfl (.tmp 56) (.tmp 61) 25 44 (.agg #[(.string ⟨#[]⟩), (.string ⟨#[]⟩), (.string ⟨#[]⟩)]) 48 rfl Tryd.underlying25 info44 rfl (by decide) (by omega) u4 x4_1 (⟨t178, (⟨#[61]⟩ : ByteArray), t182⟩ : S44) [.string t178, .string (⟨#[61]⟩ : ByteArray), .string t182] (fun _ => True) (fun _ => False) rfl rfl ?aP (fun _ hk => hk.elim) ?aF ?aO ?aB ?aS ?aL ?_; (case aP => exact k44_mkM _ _ _ (⟨t178, (⟨#[61]⟩ : ByteArray), t182⟩ : S44)); (case aB => exact (by repeat (first | (with_reducible first | exact HB.out | apply below_alloc | apply pw_below_drewN | apply below_drew1) | exact HB.out))); (case aF => exact (fun _ _ => trivial)); (case aO => exact (by (with_reducible repeat (first | apply Kd.R_alloc | apply Kd.R_drewN | apply Kd.R_drew)); exact HO_4.out)); (case aS => exact (below_size (by repeat (first | (with_reducible first | exact HB.out | apply below_alloc | apply pw_below_drewN | apply below_drew1) | exact HB.out)))); (case aL => have := LMc21.out; omega); intro v185 w22 ho hb hg hat; rw [← Ny184.out] at ho; have n0_ := Aside0.mk (Kd.R_over' (by (with_reducible repeat (first | apply Kd.R_alloc | apply Kd.R_drewN | apply Kd.R_drew)); exact HO_5.out) (Kd.R_typed (by (with_reducible repeat (first | apply Kd.R_alloc | apply Kd.R_drewN | apply Kd.R_drew)); exact HO_4.out)) (by decide) hg); have n1_ := Aside0.mk (hb); have n2_ := Aside0.mk (ho); clear HO_5; clear HB; clear HO_4; have HO_5 := n0_; have HB := n1_; have HO186 := n2_; clear n0_ n1_ n2_; clear ho hb hg hat))
                          go_roundg kj12
                          case measure => have := HK1.out; have := HJ12.out; omega
                          case rel => exact ⟨(y184), (wrap64 (x6_1 + 1)), (by first | rfl | (simp; done) | (simp [*]; done)), H', ⟨by have := HK1.out; have := HJ12.out; omega⟩, ⟨by (with_reducible repeat (first | apply Kd.R_alloc | apply Kd.R_drewN | apply Kd.R_drew)); exact HO186.out⟩, ⟨by (with_reducible repeat (first | apply Kd.R_alloc | apply Kd.R_drewN | apply Kd.R_drew)); exact HO_5.out⟩, ⟨by repeat (first | (with_reducible first | exact HB.out | apply below_alloc | apply pw_below_drewN | apply below_drew1) | exact HB.out)⟩⟩
                        · rw [if_neg c21] at H
                          exact absurd H (by simp)
                    · rw [if_neg c19] at H
                      have c19b0 : (t178.toList == ([] : List UInt8)) = false := beq_eq_false_iff_ne.mpr c19
                      have c19b1 : (t178.toList != ([] : List UInt8)) = true := bne_iff_ne.mpr c19
                      by_cases c23 : x4_1.length < 2932031007402
                      · rw [if_pos c23] at H
                        have LMc23 := Aside0.mk c23
                        clear c23
                        obtain ⟨y187, hy187⟩ : ∃ y_ : List (S44), y_ = (x4_1 ++ [(⟨t178, (⟨#[61]⟩ : ByteArray), t182⟩ : S44)]) := ⟨_, rfl⟩
                        replace H : (spec_FieldTerms.l0 kj12 y187 t173 (wrap64 (x6_1 + 1))) = some (r1, r2) := by first | (rw [hy187]; with_reducible exact H) | (have H2_ := (Option.bind_some _ _).symm.trans H; rw [hy187]; with_reducible exact H2_) | (have H2_ := (Option.bind_some _ _).symm.trans H; with_reducible exact H2_) | with_reducible exact H | (rw [hy187]; exact H) | exact H
                        have Ny187 := Aside0.mk hy187
                        clear hy187
                        have H' := Aside0.mk H
                        clear H
                        go_wp2_with (first | ((with_reducible refine gate_builtin (b := .append) (xs := #[.tmp 56, .tmp 61]) rfl ?_); at_builtin; refine Kd.R_append k44 (w0 := w) w.heap.size rfl (.tmp 56) (.tmp 61) 25 44 (.agg #[(.string ⟨#[]⟩), (.string ⟨#[]⟩), (.string ⟨#[]⟩)]) 48 rfl Tryd.underlying25 info44 rfl (by decide) (by omega) u4 x4_1 (⟨t178, (⟨#[61]⟩ : ByteArray), t182⟩ : S44) [.string t178, .string (⟨#[61]⟩ : ByteArray), .string t182] (fun _ => True) (fun _ => False) rfl rfl ?aP (fun _ hk => hk.elim) ?aF ?aO ?aB ?aS ?aL ?_; (case aP => exact k44_mkM _ _ _ (⟨t178, (⟨#[61]⟩ : ByteArray), t182⟩ : S44)); (case aB => exact (by repeat (first | (with_reducible first | exact HB.out | apply below_alloc | apply pw_below_drewN | apply below_drew1) | exact HB.out))); (case aF => exact (fun _ _ => trivial)); (case aO => exact (by (with_reducible repeat (first | apply Kd.R_alloc | apply Kd.R_drewN | apply Kd.R_drew)); exact HO_4.out)); (case aS => exact (below_size (by repeat (first | (with_reducible first | exact HB.out | apply below_alloc | apply pw_below_drewN | apply below_drew1) | exact HB.out)))); (case aL => have := LMc23.out; omega); intro v188 w24 ho hb hg hat; rw [← Ny187.out] at ho; have n0_ := Aside0.mk (Kd.R_over' (by (with_reducible repeat (first | apply Kd.R_alloc | apply Kd.R_drewN | apply Kd.R_drew)); exact HO_5.out) (Kd.R_typed (by (with_reducible repeat (first | apply Kd.R_alloc | apply Kd.R_drewN | apply Kd.R_drew)); exact HO_4.out)) (by decide) hg); have n1_ := Aside0.mk (hb); have n2_ := Aside0.mk (ho); clear HO_5; clear HB; clear HO_4; have HO_5 := n0_; have HB := n1_; have HO189 := n2_; clear n0_ n1_ n2_; clear ho hb hg hat))
                        go_roundg kj12
                        case measure => have := HK1.out; have := HJ12.out; omega
                        case rel => exact ⟨(y187), (wrap64 (x6_1 + 1)), (by first | rfl | (simp; done) | (simp [*]; done)), H', ⟨by have := HK1.out; have := HJ12.out; omega⟩, ⟨by (with_reducible repeat (first | apply Kd.R_alloc | apply Kd.R_drewN | apply Kd.R_drew)); exact HO189.out⟩, ⟨by (with_reducible repeat (first | apply Kd.R_alloc | apply Kd.R_drewN | apply Kd.R_drew)); exact HO_5.out⟩, ⟨by repeat (first | (with_reducible first | exact HB.out | apply below_alloc | apply pw_below_drewN | apply below_drew1) | exact HB.out)⟩⟩
                      · rw [if_neg c23] at H
                        exact absurd H (by simp)
                  · rw [if_neg c18] at H
                    have c18b0 : (t179.toList == ([61, 61] : List UInt8)) = false := beq_eq_false_iff_ne.mpr c18
                    have c18b1 : (t179.toList != ([61, 61] : List UInt8)) = true := bne_iff_ne.mpr c18
                    by_cases c25 : t178.toList = ([] : List UInt8)
                    · rw [if_pos c25] at H
                      have c25b0 : (t178.toList == ([] : List UInt8)) = true := beq_iff_eq.mpr c25
                      have c25b1 : (t178.toList != ([] : List UInt8)) = false := bne_eq_false_iff_eq.mpr c25
                      clear c25
                      by_cases c26 : t182.toList = ([] : List UInt8)
                      · rw [if_pos c26] at H
                        have c26b0 : (t182.toList == ([] : List UInt8)) = true := beq_iff_eq.mpr c26
                        have c26b1 : (t182.toList != ([] : List UInt8)) = false := bne_eq_false_iff_eq.mpr c26
                        clear c26
                        have H' := Aside0.mk H
                        clear H
                        go_wp2
                        go_roundg kj12
                        case measure => have := HK1.out; have := HJ12.out; omega
                        case rel => exact ⟨(x4_1), (wrap64 (x6_1 + 1)), (by first | rfl | (simp; done) | (simp [*]; done)), H', ⟨by have := HK1.out; have := HJ12.out; omega⟩, ⟨by (with_reducible repeat (first | apply Kd.R_alloc | apply Kd.R_drewN | apply Kd.R_drew)); exact HO_4.out⟩, ⟨by (with_reducible repeat (first | apply Kd.R_alloc | apply Kd.R_drewN | apply Kd.R_drew)); exact HO_5.out⟩, ⟨by repeat (first | (with_reducible first | exact HB.out | apply below_alloc | apply pw_below_drewN | apply below_drew1) | exact HB.out)⟩⟩
                      · rw [if_neg c26] at H
                        have c26b0 : (t182.toList == ([] : List UInt8)) = false := beq_eq_false_iff_ne.mpr c26
                        have c26b1 : (t182.toList != ([] : List UInt8)) = true := bne_iff_ne.mpr c26
                        by_cases c27 : x4_1.length < 2932031007402
                        · rw [if_pos c27] at H
                          have LMc27 := Aside0.mk c27
                          clear c27
                          obtain ⟨y190, hy190⟩ : ∃ y_ : List (S44), y_ = (x4_1 ++ [(⟨t178, t179, t182⟩ : S44)]) := ⟨_, rfl⟩
                          replace H : (spec_FieldTerms.l0 kj12 y190 t173 (wrap64 (x6_1 + 1))) = some (r1, r2) := by first | (rw [hy190]; with_reducible exact H) | (have H2_ := (Option.bind_some _ _).symm.trans H; rw [hy190]; with_reducible exact H2_) | (have H2_ := (Option.bind_some _ _).symm.trans H; with_reducible exact H2_) | with_reducible exact H | (rw [hy190]; exact H) | exact H
                          have Ny190 := Aside0.mk hy190
                          clear hy190
                          have H' := Aside0.mk H
                          clear H
                          go_wp2_with (first | ((with_reducible refine gate_builtin (b := .append) (xs := #[.tmp 56, .tmp 61]) rfl ?_); at_builtin; refine Kd.R_append k44 (w0 := w) w.heap.size rfl (.tmp 56) (.tmp 61) 25 44 (.agg #[(.string ⟨#[]⟩), (.string ⟨#[]⟩), (.string ⟨#[]⟩)]) 48 rfl Tryd.underlying25 info44 rfl (by decide) (by omega) u4 x4_1 (⟨t178, t179, t182⟩ : S44) [.string t178, .string t179, .string t182] (fun _ => True) (fun _ => False) rfl rfl ?aP (fun _ hk => hk.elim) ?aF ?aO ?aB ?aS ?aL ?_; (case aP => exact k44_mkM _ _ _ (⟨t178, t179, t182⟩ : S44)); (case aB => exact (by repeat (first | (with_reducible first | exact HB.out | apply below_alloc | apply pw_below_drewN | apply below_drew1) | exact HB.out))); (case aF => exact (fun _ _ => trivial)); (case aO => exact (by (with_reducible repeat (first | apply Kd.R_alloc | apply Kd.R_drewN | apply Kd.R_drew)); exact HO_4.out)); (case aS => exact (below_size (by repeat (first | (with_reducible first | exact HB.out | apply below_alloc | apply pw_below_drewN | apply below_drew1) | exact HB.out)))); (case aL => have := LMc27.out; omega); intro v191 w28 ho hb hg hat; rw [← Ny190.out] at ho; have n0_ := Aside0.mk (Kd.R_over' (by (with_reducible repeat (first | apply Kd.R_alloc | apply Kd.R_drewN | apply Kd.R_drew)); exact HO_5.out) (Kd.R_typed (by (with_reducible repeat (first | apply Kd.R_alloc | apply Kd.R_drewN | apply Kd.R_drew)); exact HO_4.out)) (by decide) hg); have n1_ := Aside0.mk (hb); have n2_ := Aside0.mk (ho); clear HO_5; clear HB; clear HO_4; have HO_5 := n0_; have HB := n1_; have HO192 := n2_; clear n0_ n1_ n2_; clear ho hb hg hat))
                          go_roundg kj12
                          case measure => have := HK1.out; have := HJ12.out; omega
                          case rel => exact ⟨(y190), (wrap64 (x6_1 + 1)), (by first | rfl | (simp; done) | (simp [*]; done)), H', ⟨by have := HK1.out; have := HJ12.out; omega⟩, ⟨by (with_reducible repeat (first | apply Kd.R_alloc | apply Kd.R_drewN | apply Kd.R_drew)); exact HO192.out⟩, ⟨by (with_reducible repeat (first | apply Kd.R_alloc | apply Kd.R_drewN | apply Kd.R_drew)); exact HO_5.out⟩, ⟨by repeat (first | (with_reducible first | exact HB.out | apply below_alloc | apply pw_below_drewN | apply below_drew1) | exact HB.out)⟩⟩
                        · rw [if_neg c27] at H
                          exact absurd H (by simp)
                    · rw [if_neg c25] at H
                      have c25b0 : (t178.toList == ([] : List UInt8)) = false := beq_eq_false_iff_ne.mpr c25
                      have c25b1 : (t178.toList != ([] : List UInt8)) = true := bne_iff_ne.mpr c25
                      by_cases c29 : x4_1.length < 2932031007402
                      · rw [if_pos c29] at H
                        have LMc29 := Aside0.mk c29
                        clear c29
                        obtain ⟨y193, hy193⟩ : ∃ y_ : List (S44), y_ = (x4_1 ++ [(⟨t178, t179, t182⟩ : S44)]) := ⟨_, rfl⟩
                        replace H : (spec_FieldTerms.l0 kj12 y193 t173 (wrap64 (x6_1 + 1))) = some (r1, r2) := by first | (rw [hy193]; with_reducible exact H) | (have H2_ := (Option.bind_some _ _).symm.trans H; rw [hy193]; with_reducible exact H2_) | (have H2_ := (Option.bind_some _ _).symm.trans H; with_reducible exact H2_) | with_reducible exact H | (rw [hy193]; exact H) | exact H
                        have Ny193 := Aside0.mk hy193
                        clear hy193
                        have H' := Aside0.mk H
                        clear H
                        go_wp2_with (first | ((with_reducible refine gate_builtin (b := .append) (xs := #[.tmp 56, .tmp 61]) rfl ?_); at_builtin; refine Kd.R_append k44 (w0 := w) w.heap.size rfl (.tmp 56) (.tmp 61) 25 44 (.agg #[(.string ⟨#[]⟩), (.string ⟨#[]⟩), (.string ⟨#[]⟩)]) 48 rfl Tryd.underlying25 info44 rfl (by decide) (by omega) u4 x4_1 (⟨t178, t179, t182⟩ : S44) [.string t178, .string t179, .string t182] (fun _ => True) (fun _ => False) rfl rfl ?aP (fun _ hk => hk.elim) ?aF ?aO ?aB ?aS ?aL ?_; (case aP => exact k44_mkM _ _ _ (⟨t178, t179, t182⟩ : S44)); (case aB => exact (by repeat (first | (with_reducible first | exact HB.out | apply below_alloc | apply pw_below_drewN | apply below_drew1) | exact HB.out))); (case aF => exact (fun _ _ => trivial)); (case aO => exact (by (with_reducible repeat (first | apply Kd.R_alloc | apply Kd.R_drewN | apply Kd.R_drew)); exact HO_4.out)); (case aS => exact (below_size (by repeat (first | (with_reducible first | exact HB.out | apply below_alloc | apply pw_below_drewN | apply below_drew1) | exact HB.out)))); (case aL => have := LMc29.out; omega); intro v194 w30 ho hb hg hat; rw [← Ny193.out] at ho; have n0_ := Aside0.mk (Kd.R_over' (by (with_reducible repeat (first | apply Kd.R_alloc | apply Kd.R_drewN | apply Kd.R_drew)); exact HO_5.out) (Kd.R_typed (by (with_reducible repeat (first | apply Kd.R_alloc | apply Kd.R_drewN | apply Kd.R_drew)); exact HO_4.out)) (by decide) hg); have n1_ := Aside0.mk (hb); have n2_ := Aside0.mk (ho); clear HO_5; clear HB; clear HO_4; have HO_5 := n0_; have HB := n1_; have HO195 := n2_; clear n0_ n1_ n2_; clear ho hb hg hat))
                        go_roundg kj12
                        case measure => have := HK1.out; have := HJ12.out; omega
                        case rel => exact ⟨(y193), (wrap64 (x6_1 + 1)), (by first | rfl | (simp; done) | (simp [*]; done)), H', ⟨by have := HK1.out; have := HJ12.out; omega⟩, ⟨by (with_reducible repeat (first | apply Kd.R_alloc | apply Kd.R_drewN | apply Kd.R_drew)); exact HO195.out⟩, ⟨by (with_reducible repeat (first | apply Kd.R_alloc | apply Kd.R_drewN | apply Kd.R_drew)); exact HO_5.out⟩, ⟨by repeat (first | (with_reducible first | exact HB.out | apply below_alloc | apply pw_below_drewN | apply below_drew1) | exact HB.out)⟩⟩
                      · rw [if_neg c29] at H
                        exact absurd H (by simp)
        · rw [if_neg c8] at H
          exact absurd H (by simp)
      · rw [if_neg c7] at H
        have c7b0 : decide (x6_1 < (t173.length : Int)) = false := decide_eq_false c7
        clear c7
        simp only [Option.some.injEq, Prod.mk.injEq] at H
        obtain ⟨rfl, rfl⟩ := H
        obtain ⟨Ao31, co31, eo31⟩ := Kd.R_slice HO_5.out
        subst eo31
        go_wp2
        go_ret2
        exact ⟨_, by first | rfl | (simp [errW_none, errW_some] <;> rfl) | (simp [*, errW_none, errW_some] <;> rfl), by (with_reducible repeat (first | apply Kd.R_alloc | apply Kd.R_drewN | apply Kd.R_drew)); exact HO_4.out, by repeat (first | (with_reducible first | exact HB.out | apply below_alloc | apply pw_below_drewN | apply below_drew1) | exact HB.out)⟩

/-! ### fields_splitTerms: function 20 -/
def spl (s : ByteArray) : Nat → List ByteArray → Nat → Bool → Nat → Option (List ByteArray)
  | 0, _, _, _, _ => none
  | k + 1, ts, st, sl, pos =>
    if pos < s.size then
      if sl = true then spl s k ts st false (pos + (Utf8.decode s pos).2)
      else if (Utf8.decode s pos).1 = 92 then spl s k ts st true (pos + (Utf8.decode s pos).2)
      else if (Utf8.decode s pos).1 = 44 then (if st ≤ pos ∧ ts.length < 8796093022207 then spl s k (ts ++ [s.extract st pos]) (pos + 1) false (pos + (Utf8.decode s pos).2) else none)
      else spl s k ts st false (pos + (Utf8.decode s pos).2)
    else if st ≤ s.size ∧ ts.length < 8796093022207 then some (ts ++ [s.extract st s.size]) else none
theorem spl_mono (s : ByteArray) : ∀ k ts st sl pos, LeO (spl s k ts st sl pos) (spl s (k + 1) ts st sl pos) := by
  intro k
  induction k with
  | zero => intros; exact LeO.none _
  | succ k ih =>
    intro ts st sl pos
    show LeO (spl s (k + 1) ts st sl pos) (spl s (k + 1 + 1) ts st sl pos)
    unfold spl
    exact LeO.ite (LeO.ite (ih _ _ _ _) (LeO.ite (ih _ _ _ _) (LeO.ite (LeO.ite (ih _ _ _ _) (LeO.none _)) (ih _ _ _ _)))) (LeO.refl _)
def fields_splitTerms.f (k : Nat) (a0 : ByteArray) : Option (List ByteArray) := if a0.size = 0 then some [] else if a0.size ≤ 9223372036854775806 then spl a0 k [] 0 false 0 else none
theorem fields_splitTerms.mono : ∀ a0 k, LeO (fields_splitTerms.f k a0) (fields_splitTerms.f (k + 1) a0) := by
  intro a0 k
  unfold fields_splitTerms.f
  exact LeO.ite (LeO.refl _) (LeO.ite (spl_mono _ _ _ _ _ _) (LeO.refl _))
set_option maxHeartbeats 4000000 in
theorem fields_splitTerms.calls (k : Nat) (a0 : ByteArray) (r : List ByteArray) (w : World) (h : fields_splitTerms.f k a0 = some r) :
    Calls Tryd.prog 20 #[.string a0] w fun e w' => ∃ v0_ : Value, e = .returned (v0_) ∧ Kd.R Kd.string 9 w' w.heap.size (fun _ => True) v0_ r ∧ Below w.heap.size w w' := by
  unfold fields_splitTerms.f at h
  by_cases h0 : a0.size = 0
  · rw [if_pos h0] at h
    obtain rfl := Option.some.inj h
    have e0 : ((a0.size : Int) == 0) = true := beq_iff_eq.2 (by omega)
    clear h h0
    go_enter Tryd.func20, Tryd.ntmps20
    go_wp2_with fail
    go_ret
    exact ⟨_, rfl, Kd.R_nil _ _ _ _ _, Below.refl _ _⟩
  · rw [if_neg h0] at h
    have e0 : ((a0.size : Int) == 0) = false := beq_eq_false_iff_ne.2 (by omega)
    by_cases h1 : a0.size ≤ 9223372036854775806
    · rw [if_pos h1] at h
      have HS := Aside0.mk h1
      have H' := Aside0.mk h
      clear h h0 h1
      have hmk : ∀ w0 : World, (Instr.makeSlice 36 (.int .i64 0) (.int .i64 1)).run Tryd.prog w0 = .ok (.slice (some ⟨w0.heap.size, 0, none⟩) 0 1) (w0.alloc (.cells #[.string ⟨#[]⟩] 9)) := by
        intro w0
        obtain ⟨i0, hi, hzz⟩ := Option.map_eq_some_iff.1 info9
        simp only [Prod.mk.injEq] at hzz
        obtain ⟨hz0, hz1, hz2⟩ := hzz
        have := run_make (P := Tryd.prog) w0 36 9 i0 (.string ⟨#[]⟩) Tryd.underlying36 hi hz0 .i64 .i64 0 1 (by omega) (by omega) (by rw [hz2]; omega) (by omega)
        rw [this, hz1]; have ar : Array.range 1 = #[0] := (by decide); simp [madeCells, Value.cells, ar]
      have hmk' := hmk w
      clear hmk
      go_enter Tryd.func20, Tryd.ntmps20
      go_wp2_with fail
      have HR : Aside0 (Kd.R Kd.string 9 (w.alloc (.cells #[.string ⟨#[]⟩] 9)) w.heap.size (fun q => q ≠ w.heap.size + 1) (.slice (some ⟨w.heap.size, 0, none⟩) 0 1) []) := ⟨by
        refine ⟨fun q hq => by simp [Value.ownBlock] at hq; omega, [], ⟨rfl, Or.inr ⟨w.heap.size, 1, #[.string ⟨#[]⟩], rfl, Nat.le_refl _, blk_new w _, by simp, by decide, rfl, rfl⟩⟩, Reps.none _ _⟩⟩
      go_loopg [3, 4, 5] k (fun kq v3 v4 v5 w' => ∃ (xs : List ByteArray) (st : Nat) (sl : Bool) (pos : Nat), v4 = .int .i64 (st : Int) ∧ v5 = .bool sl ∧ Aside0 (spl a0 kq xs st sl pos = some r) ∧ Aside0 (kq ≤ k) ∧ Aside0 (Kd.R Kd.string 9 w' w.heap.size (fun q => q ≠ w.heap.size + 1) v3 xs) ∧ Aside0 (Below w.heap.size w w') ∧ Aside0 (w'.heap[w.heap.size + 1]? = some (.stringIter a0 pos)))
      case atStart => exact ⟨[], 0, false, 0, rfl, rfl, H', ⟨Nat.le_refl _⟩, ⟨Kd.R_alloc HR.out _⟩, ⟨below_alloc (below_alloc (Below.refl _ _) _) _⟩, ⟨by have h := World.iter_heap (w.alloc (.cells #[.string ⟨#[]⟩] 9)) a0 0; have e : (w.alloc (.cells #[.string ⟨#[]⟩] 9)).heap.size = w.heap.size + 1 := (by simp); rw [e] at h; exact h⟩⟩
      case round =>
        clear H' HR hmk'
        obtain ⟨xs, st, sl, pos, rfl, rfl, HA, HK1, HR, HB, HI⟩ := hrel
        cases gk with
        | zero => exact absurd HA.out (by simp [spl])
        | succ k1 =>
          have H := HA.out
          clear HA
          simp only [spl] at H
          have IL : Aside0 (w.heap.size + 1 < wr.heap.size) := ⟨blk_lt HI.out⟩
          by_cases c1 : pos < a0.size
          · rw [if_pos c1] at H
            have hnx := fun ty => Lib.run_next_any_at (P := Tryd.prog) wr (w.heap.size + 1) a0 pos ty HI.out c1
            have RI : Aside0 (Kd.R Kd.string 9 (wr.iterAt (w.heap.size + 1) a0 (pos + (Utf8.decode a0 pos).2)) w.heap.size (fun q => q ≠ w.heap.size + 1) u3 xs) := ⟨Kd.R_step HR.out (fun q hq _ => Lib.iterAt_other wr _ q _ _ hq)⟩
            have BI : Aside0 (Below w.heap.size w (wr.iterAt (w.heap.size + 1) a0 (pos + (Utf8.decode a0 pos).2))) := ⟨Lib.below_iterAt HB.out (Nat.le_succ _) _ _⟩
            have II : Aside0 ((wr.iterAt (w.heap.size + 1) a0 (pos + (Utf8.decode a0 pos).2)).heap[w.heap.size + 1]? = some (.stringIter a0 (pos + (Utf8.decode a0 pos).2))) := ⟨Lib.iterAt_heap _ _ _ _ _ HI.out⟩
            have ZL : Aside0 (w.heap.size + 1 < (wr.iterAt (w.heap.size + 1) a0 (pos + (Utf8.decode a0 pos).2)).heap.size) := ⟨blk_lt II.out⟩
            clear HR HB HI
            cases sl with
            | true =>
              rw [if_pos rfl] at H
              have H' := Aside0.mk H
              clear H
              go_wp2_with fail
              go_roundg k1
              case measure => have := HK1.out; omega
              case rel => exact ⟨xs, st, false, _, rfl, rfl, H', ⟨by have := HK1.out; omega⟩, ⟨RI.out⟩, ⟨BI.out⟩, ⟨II.out⟩⟩
            | false =>
              rw [if_neg (by simp)] at H
              by_cases c2 : (Utf8.decode a0 pos).1 = 92
              · rw [if_pos c2] at H
                have H' := Aside0.mk H
                clear H
                have e2 : (((Utf8.decode a0 pos).1 : Int) == 92) = true := beq_iff_eq.2 (by omega)
                clear c2
                go_wp2_with fail
                go_roundg k1
                case measure => have := HK1.out; omega
                case rel => exact ⟨xs, st, true, _, rfl, rfl, H', ⟨by have := HK1.out; omega⟩, ⟨RI.out⟩, ⟨BI.out⟩, ⟨II.out⟩⟩
              · rw [if_neg c2] at H
                have e2 : (((Utf8.decode a0 pos).1 : Int) == 92) = false := beq_eq_false_iff_ne.2 (by omega)
                clear c2
                by_cases c3 : (Utf8.decode a0 pos).1 = 44
                · rw [if_pos c3] at H
                  have e3 : (((Utf8.decode a0 pos).1 : Int) == 44) = true := beq_iff_eq.2 (by omega)
                  clear c3
                  by_cases c4 : st ≤ pos ∧ xs.length < 8796093022207
                  · rw [if_pos c4] at H
                    have H' := Aside0.mk H
                    clear H
                    have LM : Aside0 (xs.length < 8796093022207) := ⟨c4.2⟩
                    have p1 : (0 ≤ (st : Int)) = True := eq_true (by omega)
                    have p2 : ((st : Int) ≤ (pos : Int)) = True := eq_true (by omega)
                    have p3 : ((pos : Int) ≤ (a0.size : Int)) = True := eq_true (by omega)
                    have p4 : st ≤ pos := c4.1
                    have p5 : pos ≤ a0.size := by omega
                    have hw : wrap64 ((pos : Int) + 1) = ((pos + 1 : Nat) : Int) := by have := HS.out; simp only [wrap64]; omega
                    have hw' := Aside0.mk hw
                    clear c4 hw
                    obtain ⟨Ao, co, eo⟩ := Kd.R_slice RI.out
                    subst eo
                    go_wp2_with (first | ((with_reducible refine gate_builtin (b := .append) (xs := #[.tmp 26, .tmp 31]) rfl ?_); at_builtin; refine Kd.R_append Kd.string (w0 := w) w.heap.size rfl (.tmp 26) (.tmp 31) 36 9 (.string ⟨#[]⟩) 16 rfl Tryd.underlying36 info9 rfl (by decide) (by omega) (.slice Ao xs.length co) xs (a0.extract st pos) [.string (a0.extract st pos)] (fun q => q ≠ w.heap.size + 1) (fun _ => False) rfl rfl ?aP (fun _ hk => hk.elim) ?aF ?aO ?aB ?aS ?aL ?_; (case aP => exact rfl); (case aB => exact BI.out); (case aF => intro q hq; have z1 := ZL.out; omega); (case aO => exact RI.out); (case aS => exact below_size BI.out); (case aL => have := LM.out; omega); intro v9 w9 ho hb hg hat))
                    have RO := Aside0.mk ho
                    have BO := Aside0.mk hb
                    have IO : Aside0 (w9.heap[w.heap.size + 1]? = some (.stringIter a0 (pos + (Utf8.decode a0 pos).2))) := ⟨blk_grown II.out hg (Kd.R_away RI.out (fun q hq => hq)).symm.symm⟩
                    clear ho hb hg hat RI BI II
                    go_wp2_with fail
                    rw [hw'.out]
                    go_roundg k1
                    case measure => have := HK1.out; omega
                    case rel => exact ⟨_, pos + 1, false, _, rfl, rfl, H', ⟨by have := HK1.out; omega⟩, RO, BO, IO⟩
                  · rw [if_neg c4] at H
                    simp at H
                · rw [if_neg c3] at H
                  have H' := Aside0.mk H
                  clear H
                  have e3 : (((Utf8.decode a0 pos).1 : Int) == 44) = false := beq_eq_false_iff_ne.2 (by omega)
                  clear c3
                  go_wp2_with fail
                  go_roundg k1
                  case measure => have := HK1.out; omega
                  case rel => exact ⟨xs, st, false, _, rfl, rfl, H', ⟨by have := HK1.out; omega⟩, ⟨RI.out⟩, ⟨BI.out⟩, ⟨II.out⟩⟩
          · rw [if_neg c1] at H
            have hnx := fun ty => Lib.run_next_end_at (P := Tryd.prog) wr (w.heap.size + 1) a0 pos ty HI.out c1
            by_cases c4 : st ≤ a0.size ∧ xs.length < 8796093022207
            · rw [if_pos c4] at H
              obtain rfl := Option.some.inj H
              clear H
              have LM : Aside0 (xs.length < 8796093022207) := ⟨c4.2⟩
              have p1 : (0 ≤ (st : Int)) = True := eq_true (by omega)
              have p2 : ((st : Int) ≤ (a0.size : Int)) = True := eq_true (by omega)
              have p4 : st ≤ a0.size := c4.1
              clear c4
              obtain ⟨Ao, co, eo⟩ := Kd.R_slice HR.out
              subst eo
              go_wp2_with (first | ((with_reducible refine gate_builtin (b := .append) (xs := #[.tmp 35, .tmp 39]) rfl ?_); at_builtin; refine Kd.R_append Kd.string (w0 := w) w.heap.size rfl (.tmp 35) (.tmp 39) 36 9 (.string ⟨#[]⟩) 16 rfl Tryd.underlying36 info9 rfl (by decide) (by omega) (.slice Ao xs.length co) xs (a0.extract st a0.size) [.string (a0.extract st a0.size)] (fun q => q ≠ w.heap.size + 1) (fun _ => False) rfl rfl ?aP (fun _ hk => hk.elim) ?aF ?aO ?aB ?aS ?aL ?_; (case aP => exact rfl); (case aB => exact HB.out); (case aF => intro q hq; have z1 := IL.out; omega); (case aO => exact HR.out); (case aS => exact below_size HB.out); (case aL => have := LM.out; omega); intro v9 w9 ho hb hg hat))
              have RO := Aside0.mk ho
              have BO := Aside0.mk hb
              clear ho hb hg hat HR HB HI
              go_wp2_with fail
              go_ret
              exact ⟨_, rfl, Kd.R_mono RO.out (fun _ _ => trivial), BO.out⟩
            · rw [if_neg c4] at H
              simp at H
    · rw [if_neg h1] at h
      simp at h
-- NOT PRINTED: function 40 (bits_Len32)

-- NOT PRINTED: function 41 (bits_Len64)

-- NOT PRINTED: function 32 (bits_Len)

-- NOT PRINTED: function 42 (sort_insertionSort)

-- NOT PRINTED: function 54 (sort_siftDown)

-- NOT PRINTED: function 43 (sort_heapSort)

-- NOT PRINTED: function 55 (sort_nextPowerOfTwo)

-- NOT PRINTED: function 56 (sort_xorshift_Next)

-- NOT PRINTED: function 44 (sort_breakPatterns)

-- NOT PRINTED: function 60 (sort_order2)

-- NOT PRINTED: function 58 (sort_median)

-- NOT PRINTED: function 57 (sort_medianAdjacent)

-- NOT PRINTED: function 45 (sort_choosePivot)

-- NOT PRINTED: function 46 (sort_reverseRange)

-- NOT PRINTED: function 47 (sort_partialInsertionSort)

-- NOT PRINTED: function 48 (sort_partitionEqual)

-- NOT PRINTED: function 49 (sort_partition)

-- NOT PRINTED: function 33 (sort_pdqsort)

-- NOT PRINTED: function 26 (sort_Sort)

-- NOT PRINTED: function 21 (sort_StringSlice_Sort)

/-! ### stringslite_HasPrefix: function 34 -/
def stringslite_HasPrefix.f (a0 : ByteArray) (a1 : ByteArray) : Option (Bool) := if (a0.size : Int) ≥ (a1.size : Int) then (if 0 ≤ (a1.size : Int) then (if (a1.size : Int) ≤ (a0.size : Int) then (some ((a0.extract 0 ((a1.size : Int) : Int).toNat).toList == a1.toList)) else (none)) else (none)) else (some false)
set_option maxHeartbeats 8000000 in
set_option maxRecDepth 100000 in
theorem stringslite_HasPrefix.calls (a0 : ByteArray) (a1 : ByteArray) (r : Bool) (w : World) (h : stringslite_HasPrefix.f a0 a1 = some r) :
    Calls Tryd.prog 34 #[.string a0, .string a1] w fun e w' => e = .returned (.bool r) ∧ Drawn0 w w' := by
  have H : (if (a0.size : Int) ≥ (a1.size : Int) then (if 0 ≤ (a1.size : Int) then (if (a1.size : Int) ≤ (a0.size : Int) then (some ((a0.extract 0 ((a1.size : Int) : Int).toNat).toList == a1.toList)) else (none)) else (none)) else (some false)) = some r := h
  clear h
  by_cases c3 : (a0.size : Int) ≥ (a1.size : Int)
  · rw [if_pos c3] at H
    have c3b0 : decide ((a1.size : Int) ≤ (a0.size : Int)) = true := decide_eq_true c3
    have c3b1 : decide (a1.size ≤ a0.size) = true := decide_eq_true (Int.ofNat_le.mp c3)
    clear c3
    by_cases c4 : 0 ≤ (a1.size : Int)
    · rw [if_pos c4] at H
      have c4b0 := eq_true c4
      have c4b1 : decide (0 ≤ (a1.size : Int)) = true := decide_eq_true c4
      clear c4
      by_cases c5 : (a1.size : Int) ≤ (a0.size : Int)
      · rw [if_pos c5] at H
        have c5b0 := eq_true c5
        have c5b1 : decide ((a1.size : Int) ≤ (a0.size : Int)) = true := decide_eq_true c5
        clear c5
        obtain rfl := Option.some.inj H
        go_enter Tryd.func34, Tryd.ntmps34
        go_wp2
        go_ret
        exact ⟨by first | rfl | (simp; done) | (simp [*]; done), by repeat (first | exact Drawn0.refl _ | apply Drawn0.step)⟩
      · rw [if_neg c5] at H
        exact absurd H (by simp)
    · rw [if_neg c4] at H
      exact absurd H (by simp)
  · rw [if_neg c3] at H
    have c3b0 : decide ((a1.size : Int) ≤ (a0.size : Int)) = false := decide_eq_false c3
    have c3b1 : decide (a1.size ≤ a0.size) = false := decide_eq_false (fun h => c3 (Int.ofNat_le.mpr h))
    clear c3
    obtain rfl := Option.some.inj H
    go_enter Tryd.func34, Tryd.ntmps34
    go_wp2
    go_ret
    exact ⟨by first | rfl | (simp; done) | (simp [*]; done), by repeat (first | exact Drawn0.refl _ | apply Drawn0.step)⟩

/-! ### strings_HasPrefix: function 27 -/
def strings_HasPrefix.f (a0 : ByteArray) (a1 : ByteArray) : Option (Bool) := (stringslite_HasPrefix.f a0 a1).bind fun t196 => (some t196)
set_option maxHeartbeats 8000000 in
set_option maxRecDepth 100000 in
theorem strings_HasPrefix.calls (a0 : ByteArray) (a1 : ByteArray) (r : Bool) (w : World) (h : strings_HasPrefix.f a0 a1 = some r) :
    Calls Tryd.prog 27 #[.string a0, .string a1] w fun e w' => e = .returned (.bool r) ∧ Drawn0 w w' := by
  have H : ((stringslite_HasPrefix.f a0 a1).bind fun t196 => (some t196)) = some r := h
  clear h
  replace H := Option.bind_eq_some_iff.mp H
  obtain ⟨t196, A30, H⟩ := H
  replace H : (some t196) = some r := H
  have A3 := Aside0.mk A30
  clear A30
  obtain rfl := Option.some.inj H
  go_enter Tryd.func27, Tryd.ntmps27
  go_wp2_with (first | ((with_reducible refine gate_callee (f := 34) rfl ?_); refine goesL_ (some 7) rfl rfl Tryd.func34 (by kernel_rfl) rfl #[.string a0, .string a1] rfl (by (try simp only [List.map_toArray, List.map_cons, List.map_nil]); first | done | rfl | (simp only [List.length_drop, List.length_take]; rfl)) ?_; (with_reducible refine (stringslite_HasPrefix.calls a0 a1 t196 _ A3.out).mono ?_); rintro e w' ⟨rfl, ⟨nd, rfl⟩⟩; refine ⟨_, rfl, ?_⟩))
  go_ret
  exact ⟨by first | rfl | (simp; done) | (simp [*]; done), by repeat (first | exact Drawn0.refl _ | apply Drawn0.step)⟩

-- NOT PRINTED: function 22 (fields_splitTerm)

/-! ### errors_New: function 23 -/
set_option maxHeartbeats 1000000 in
theorem errors_New.calls (s : ByteArray) (w : World) :
    Calls Tryd.prog 23 #[.string s] w fun e w' => (∃ x, e = .returned (.iface 76 x)) ∧ Below w.heap.size w w' := by
  have hu1 := Tryd.underlying78
  go_enter Tryd.func23, Tryd.ntmps23
  go_wp2_with fail
  go_ret
  exact ⟨⟨_, rfl⟩, by repeat (first | (with_reducible exact Below.refl _ _) | apply below_alloc | apply pw_below_drewN | apply below_drew1)⟩
-- NOT PRINTED: function 35 (fields_zzIndexAny)

-- NOT PRINTED: function 28 (fields_zzContainsAny)

-- NOT PRINTED: function 29 (bytes_NewBuffer)

-- NOT PRINTED: function 37 (bytes_Buffer_tryGrowByReslice)

-- NOT PRINTED: function 50 (bytes_Buffer_Len)

-- NOT PRINTED: function 51 (bytes_Buffer_Reset)

-- NOT PRINTED: function 52 (bytes_growSlice)

-- NOT PRINTED: function 38 (bytes_Buffer_grow)

-- NOT PRINTED: function 36 (bytes_Buffer_WriteByte)

-- NOT PRINTED: function 53 (utf8_appendRuneNonASCII)

-- NOT PRINTED: function 39 (utf8_AppendRune)

-- NOT PRINTED: function 30 (bytes_Buffer_WriteRune)

-- NOT PRINTED: function 31 (bytes_Buffer_String)

-- NOT PRINTED: function 24 (fields_UnescapeValue)

-- NOT PRINTED: function 25 (fields_andTerm_Transform)

-- NOT PRINTED: function 18 (fields_parseSelector)

-- NOT PRINTED: function 14 (fields_ParseSelector)

-- NOT PRINTED: function 15 (impl_fieldSet)

-- NOT PRINTED: function 7 (impl_FieldMatch)

/-! ### spec_Find: function 16 -/
def spec_Find.l0 : Nat → List (S33) → ByteArray → Int → Option (ByteArray × Bool)
  | 0, _, _, _ => none
  | k + 1, x0, x1, x6 => if x6 ≥ 0 then (if 0 ≤ x6 then (if x6 < (x0.length : Int) then (if ((rd_T33 x0 x6).f0).toList = x1.toList then (some ((rd_T33 x0 x6).f1, true)) else (spec_Find.l0 k x0 x1 (wrap64 (x6 - 1)))) else (none)) else (none)) else (some ((⟨#[]⟩ : ByteArray), false))
def spec_Find.f (k : Nat) (l0 : List (S33)) (a1 : ByteArray) : Option (ByteArray × Bool) := spec_Find.l0 k l0 a1 (wrap64 ((l0.length : Int) - 1))
theorem spec_Find.mono_l : ∀ k, (∀ y0 y1 y2, LeO (spec_Find.l0 k y0 y1 y2) (spec_Find.l0 (k + 1) y0 y1 y2))
  | 0 => fun _ _ _ r h => by simp [spec_Find.l0] at h
  | k + 1 => by
    have ih0 := spec_Find.mono_l k
    · intro y0 y1 y2
      unfold spec_Find.l0
      repeat' first
      | (with_reducible exact ih0 _ _ _)
      | (with_reducible exact LeO.refl _)
      | (with_reducible exact LeO.none _)
      | (with_reducible refine LeO.ite ?_ ?_)
      | (with_reducible refine LeO.bind ?_ (fun _ => ?_))
      | exact ih0 _ _ _
      | exact LeO.none _
      | refine LeO.ite ?_ ?_
      | refine LeO.bind ?_ (fun _ => ?_)
theorem spec_Find.mono : ∀ a0 a1 k, LeO (spec_Find.f k a0 a1) (spec_Find.f (k + 1) a0 a1) := by
  intro a0 a1 k
  have ih0 := spec_Find.mono_l k
  unfold spec_Find.f
  repeat' first
      | (with_reducible exact ih0 _ _ _)
      | (with_reducible exact LeO.refl _)
      | (with_reducible exact LeO.none _)
      | (with_reducible refine LeO.ite ?_ ?_)
      | (with_reducible refine LeO.bind ?_ (fun _ => ?_))
      | exact ih0 _ _ _
      | exact LeO.none _
      | refine LeO.ite ?_ ?_
      | refine LeO.bind ?_ (fun _ => ?_)
set_option maxHeartbeats 8000000 in
set_option maxRecDepth 100000 in
theorem spec_Find.calls (k : Nat) (A0 : Option Addr) (c0 : Nat) (l0 : List (S33)) (a1 : ByteArray) (r1 : ByteArray) (r2 : Bool) (w : World) (hr0 : Kd.C k33 w A0 l0.length l0) (hc0 : l0.length ≤ c0) (h : spec_Find.f k l0 a1 = some (r1, r2)) :
    Calls Tryd.prog 16 #[.slice A0 l0.length c0, .string a1] w fun e w' => e = .returned (.tuple #[.string r1, .bool r2]) ∧ Drawn0 w w' := by
  have HR0 := Aside0.mk hr0
  have HC0 := Aside0.mk hc0
  clear hr0 hc0
  have H : (spec_Find.l0 k l0 a1 (wrap64 ((l0.length : Int) - 1))) = some (r1, r2) := h
  clear h
  have H' := Aside0.mk H
  clear H
  go_enter Tryd.func16, Tryd.ntmps16
  go_wp2
  go_loopg [6] k (fun kq v6 w' => ∃ (x6_1 : Int), v6 = .int .i64 x6_1 ∧ Aside0 (spec_Find.l0 kq l0 a1 x6_1 = some (r1, r2)) ∧ Aside0 (kq ≤ k) ∧ Drawn0 w w')
  case atStart => exact ⟨(wrap64 ((l0.length : Int) - 1)), (by first | rfl | (simp; done) | (simp [*]; done)), H', ⟨Nat.le_refl _⟩, by repeat (first | exact Drawn0.refl _ | apply Drawn0.step)⟩
  case round =>
    clear H'
    try clear c1
    try clear p2
    obtain ⟨x6_1, rfl, HA, HK1, ⟨m1, rfl⟩⟩ := hrel
    cases gk with
    | zero => exact absurd HA.out (by simp [spec_Find.l0])
    | succ k1 =>
      have H := HA.out
      clear HA
      simp only [spec_Find.l0] at H
      by_cases c3 : x6_1 ≥ 0
      · rw [if_pos c3] at H
        have c3b0 : decide (0 ≤ x6_1) = true := decide_eq_true c3
        clear c3
        by_cases c4 : 0 ≤ x6_1
        · rw [if_pos c4] at H
          have c4b0 : decide (0 ≤ x6_1) = true := decide_eq_true c4
          clear c4
          by_cases c5 : x6_1 < (l0.length : Int)
          · rw [if_pos c5] at H
            have c5b0 : decide (x6_1 < (l0.length : Int)) = true := decide_eq_true c5
            clear c5
            by_cases c6 : ((rd_T33 l0 x6_1).f0).toList = a1.toList
            · rw [if_pos c6] at H
              have c6b0 : (((rd_T33 l0 x6_1).f0).toList == a1.toList) = true := beq_iff_eq.mpr c6
              have c6b1 : (((rd_T33 l0 x6_1).f0).toList != a1.toList) = false := bne_eq_false_iff_eq.mpr c6
              clear c6
              simp only [Option.some.injEq, Prod.mk.injEq] at H
              obtain ⟨rfl, rfl⟩ := H
              have p197 : 0 ≤ (x6_1 : Int) := of_decide_eq_true (by first | (with_reducible assumption) | assumption)
              have q197 : x6_1 < (l0.length : Int) := of_decide_eq_true (by first | (with_reducible assumption) | assumption)
              obtain ⟨ad197, e197, hx197_0, hx197_1⟩ := at_T33 HR0.out x6_1 p197 q197
              cases e197
              replace p197 := eq_true p197
              replace q197 := eq_true q197
              have p198 : 0 ≤ (x6_1 : Int) := of_decide_eq_true (by first | (with_reducible assumption) | assumption)
              have q198 : x6_1 < (l0.length : Int) := of_decide_eq_true (by first | (with_reducible assumption) | assumption)
              obtain ⟨ad198, e198, hx198_0, hx198_1⟩ := at_T33 HR0.out x6_1 p198 q198
              obtain rfl : ad197 = ad198 := (by injection e198)
              replace p198 := eq_true p198
              replace q198 := eq_true q198
              go_wp2
              go_ret2
              exact ⟨by first | rfl | (simp; done) | (simp [*]; done), by repeat (first | exact Drawn0.refl _ | apply Drawn0.step)⟩
            · rw [if_neg c6] at H
              have c6b0 : (((rd_T33 l0 x6_1).f0).toList == a1.toList) = false := beq_eq_false_iff_ne.mpr c6
              have c6b1 : (((rd_T33 l0 x6_1).f0).toList != a1.toList) = true := bne_iff_ne.mpr c6
              have H' := Aside0.mk H
              clear H
              have p197 : 0 ≤ (x6_1 : Int) := of_decide_eq_true (by first | (with_reducible assumption) | assumption)
              have q197 : x6_1 < (l0.length : Int) := of_decide_eq_true (by first | (with_reducible assumption) | assumption)
              obtain ⟨ad197, e197, hx197_0, hx197_1⟩ := at_T33 HR0.out x6_1 p197 q197
              cases e197
              replace p197 := eq_true p197
              replace q197 := eq_true q197
              go_wp2
              go_roundg k1
              case measure => have := HK1.out; omega
              case rel => exact ⟨(wrap64 (x6_1 - 1)), (by first | rfl | (simp; done) | (simp [*]; done)), H', ⟨by have := HK1.out; omega⟩, by repeat (first | exact Drawn0.refl _ | apply Drawn0.step)⟩
          · rw [if_neg c5] at H
            exact absurd H (by simp)
        · rw [if_neg c4] at H
          exact absurd H (by simp)
      · rw [if_neg c3] at H
        have c3b0 : decide (0 ≤ x6_1) = false := decide_eq_false c3
        clear c3
        simp only [Option.some.injEq, Prod.mk.injEq] at H
        obtain ⟨rfl, rfl⟩ := H
        go_wp2
        go_ret2
        exact ⟨by first | rfl | (simp; done) | (simp [*]; done), by repeat (first | exact Drawn0.refl _ | apply Drawn0.step)⟩

end Go.Proofs.YtmfdnpccggnfoaaDoor.PFnFieldMatch
