/- Functions of the program as plain Lean functions, and that the machine's calls do what these say: written for this claim by wip/myprint.py over the kit's print.py. -/
import Derived.Test.YthejejeginnbdaaGreatDoorPFnFieldTurnx0
namespace Go.Proofs.YthejejeginnbdaaGreatDoor.PFnFieldTurn
open Go.RowKit Go.Proofs.YthejejeginnbdaaGreatDoorW.PrintWords Go.Proofs.YthejejeginnbdaaGreatDoorW.PrintLast Go.Proofs.YthejejeginnbdaaGreatDoorW.PrintMore
attribute [local go_sem] max2_int min2_int max_two min_two max_three min_three max_four min_four   -- for this text's walks alone
set_option linter.unusedVariables false
set_option linter.unusedSimpArgs false

/-! ### spec_FieldPieces: function 26 -/
mutual
def spec_FieldPieces.l0 : Nat → ByteArray → List ByteArray → Int → Option (List ByteArray)
  | 0, _, _, _ => none
  | k + 1, x0, x3, x4 => if x4 < (x0.size : Int) then (if 0 ≤ x4 then (if (bt x0 x4) = 92 then (spec_FieldPieces.j1 k x0 x3 x4 1 (decide ((wrap64 (x4 + 1)) < (x0.size : Int)))) else (spec_FieldPieces.j1 k x0 x3 x4 1 false)) else (none)) else (some x3)
def spec_FieldPieces.j1 : Nat → ByteArray → List ByteArray → Int → Int → Bool → Option (List ByteArray)
  | 0, _, _, _, _, _ => none
  | k + 1, x0, x3, x4, x5, x25 => if x25 = true then (if 0 ≤ x4 then (if x4 < (x0.size : Int) then (if (bt x0 x4) = 44 then (if x3.length < 8796093022208 then (spec_FieldPieces.l0 k x0 (x3 ++ [(⟨#[]⟩ : ByteArray)]) (wrap64 ((wrap64 (x4 + (2 - 1))) + 1))) else (none)) else (if 0 ≤ (wrap64 ((x3.length : Int) - 1)) then (if (wrap64 ((x3.length : Int) - 1)) < (x3.length : Int) then (if x4 ≤ (wrap64 (x4 + 2)) then (if (wrap64 (x4 + 2)) ≤ (x0.size : Int) then (if (rdOf ByteArray.empty x3 (wrap64 ((x3.length : Int) - 1))).size + (x0.extract (x4 : Int).toNat ((wrap64 (x4 + 2)) : Int).toNat).size ≤ 9223372036854775807 then (spec_FieldPieces.l0 k x0 (x3.set ((wrap64 ((x3.length : Int) - 1)) : Int).toNat ((rdOf ByteArray.empty x3 (wrap64 ((x3.length : Int) - 1))) ++ (x0.extract (x4 : Int).toNat ((wrap64 (x4 + 2)) : Int).toNat))) (wrap64 ((wrap64 (x4 + (2 - 1))) + 1))) else (none)) else (none)) else (none)) else (none)) else (none))) else (none)) else (none)) else (if 0 ≤ x4 then (if x4 < (x0.size : Int) then (if (bt x0 x4) = 44 then (if x3.length < 8796093022208 then (spec_FieldPieces.l0 k x0 (x3 ++ [(⟨#[]⟩ : ByteArray)]) (wrap64 ((wrap64 (x4 + (wrap64 (x5 - 1)))) + 1))) else (none)) else (if 0 ≤ (wrap64 ((x3.length : Int) - 1)) then (if (wrap64 ((x3.length : Int) - 1)) < (x3.length : Int) then (if x4 ≤ (wrap64 (x4 + x5)) then (if (wrap64 (x4 + x5)) ≤ (x0.size : Int) then (if (rdOf ByteArray.empty x3 (wrap64 ((x3.length : Int) - 1))).size + (x0.extract (x4 : Int).toNat ((wrap64 (x4 + x5)) : Int).toNat).size ≤ 9223372036854775807 then (spec_FieldPieces.l0 k x0 (x3.set ((wrap64 ((x3.length : Int) - 1)) : Int).toNat ((rdOf ByteArray.empty x3 (wrap64 ((x3.length : Int) - 1))) ++ (x0.extract (x4 : Int).toNat ((wrap64 (x4 + x5)) : Int).toNat))) (wrap64 ((wrap64 (x4 + (wrap64 (x5 - 1)))) + 1))) else (none)) else (none)) else (none)) else (none)) else (none))) else (none)) else (none))
end
def spec_FieldPieces.f (k : Nat) (a0 : ByteArray) : Option (List ByteArray) := if a0.toList = ([] : List UInt8) then (some ([] : List ByteArray)) else (spec_FieldPieces.l0 k a0 (([(⟨#[]⟩ : ByteArray)] : List ByteArray)) 0)
theorem spec_FieldPieces.mono_l : ∀ k, (∀ y0 y1 y2, LeO (spec_FieldPieces.l0 k y0 y1 y2) (spec_FieldPieces.l0 (k + 1) y0 y1 y2)) ∧ (∀ y0 y1 y2 y3 y4, LeO (spec_FieldPieces.j1 k y0 y1 y2 y3 y4) (spec_FieldPieces.j1 (k + 1) y0 y1 y2 y3 y4))
  | 0 => ⟨fun _ _ _ r h => by simp [spec_FieldPieces.l0] at h, fun _ _ _ _ _ r h => by simp [spec_FieldPieces.j1] at h⟩
  | k + 1 => by
    obtain ⟨ih0, ih1⟩ := spec_FieldPieces.mono_l k
    refine ⟨?_, ?_⟩
    · intro y0 y1 y2
      unfold spec_FieldPieces.l0
      repeat' first
      | (with_reducible exact ih0 _ _ _)
      | (with_reducible exact ih1 _ _ _ _ _)
      | (with_reducible exact LeO.refl _)
      | (with_reducible exact LeO.none _)
      | (with_reducible refine LeO.ite ?_ ?_)
      | (with_reducible refine LeO.bind ?_ (fun _ => ?_))
      | exact ih0 _ _ _
      | exact ih1 _ _ _ _ _
      | exact LeO.none _
      | refine LeO.ite ?_ ?_
      | refine LeO.bind ?_ (fun _ => ?_)
    · intro y0 y1 y2 y3 y4
      unfold spec_FieldPieces.j1
      repeat' first
      | (with_reducible exact ih0 _ _ _)
      | (with_reducible exact ih1 _ _ _ _ _)
      | (with_reducible exact LeO.refl _)
      | (with_reducible exact LeO.none _)
      | (with_reducible refine LeO.ite ?_ ?_)
      | (with_reducible refine LeO.bind ?_ (fun _ => ?_))
      | exact ih0 _ _ _
      | exact ih1 _ _ _ _ _
      | exact LeO.none _
      | refine LeO.ite ?_ ?_
      | refine LeO.bind ?_ (fun _ => ?_)
theorem spec_FieldPieces.mono : ∀ a0 k, LeO (spec_FieldPieces.f k a0) (spec_FieldPieces.f (k + 1) a0) := by
  intro a0 k
  obtain ⟨ih0, ih1⟩ := spec_FieldPieces.mono_l k
  unfold spec_FieldPieces.f
  repeat' first
      | (with_reducible exact ih0 _ _ _)
      | (with_reducible exact ih1 _ _ _ _ _)
      | (with_reducible exact LeO.refl _)
      | (with_reducible exact LeO.none _)
      | (with_reducible refine LeO.ite ?_ ?_)
      | (with_reducible refine LeO.bind ?_ (fun _ => ?_))
      | exact ih0 _ _ _
      | exact ih1 _ _ _ _ _
      | exact LeO.none _
      | refine LeO.ite ?_ ?_
      | refine LeO.bind ?_ (fun _ => ?_)
def spec_FieldPieces.T12 : Bool × List (List Nat × List Nat) := (true, [([], []), ([], []), ([1], [1]), ([2], [2]), ([0, 3], [0, 3]), ([4], [4]), ([], []), ([], []), ([], []), ([], []), ([8, 9], [8, 9]), ([6, 7, 10], [6, 7, 10]), ([5, 11], [5, 11]), ([0, 3, 0, 1, 2, 3, 4, 5, 6, 7, 8, 9, 10, 11, 12], [0, 3]), ([13, 12, 0, 1, 2, 3, 4, 5, 6, 7, 8, 9, 10, 11, 12], [12, 13])])
def spec_FieldPieces.B12 : List Nat := [0, 0, 2, 6, 15, 31, 0, 0, 0, 0, 768, 1984, 4095, 8191, 16383]
theorem spec_FieldPieces.tab12 : rtab .any (opsOf Tryz.f26 12) = spec_FieldPieces.T12 := by kernel_rfl
theorem spec_FieldPieces.bits12 : waitsOk spec_FieldPieces.T12.2 spec_FieldPieces.B12 = true := by kernel_rfl
set_option maxHeartbeats 8000000 in
set_option maxRecDepth 100000 in
theorem spec_FieldPieces.calls (k : Nat) (a0 : ByteArray) (r : List ByteArray) (w : World) (h : spec_FieldPieces.f k a0 = some r) :
    Calls Tryz.prog 26 #[.string a0] w fun e w' => ∃ v0_ : Value, e = .returned (v0_) ∧ Kd.R Kd.string 9 w' w.heap.size (fun _ => True) v0_ r ∧ Below w.heap.size w w' := by
  have HB := Aside0.mk (Below.refl w.heap.size w)
  have H : (if a0.toList = ([] : List UInt8) then (some ([] : List ByteArray)) else (spec_FieldPieces.l0 k a0 (([(⟨#[]⟩ : ByteArray)] : List ByteArray)) 0)) = some r := h
  clear h
  by_cases c2 : a0.toList = ([] : List UInt8)
  · rw [if_pos c2] at H
    have c2b0 : (a0.toList == ([] : List UInt8)) = true := beq_iff_eq.mpr c2
    have c2b1 : (a0.toList != ([] : List UInt8)) = false := bne_eq_false_iff_eq.mpr c2
    clear c2
    obtain rfl := Option.some.inj H
    go_enter Tryz.func26, Tryz.ntmps26
    go_wp2
    go_ret
    exact ⟨_, by first | rfl | (simp [errW_none, errW_some] <;> rfl) | (simp [*, errW_none, errW_some] <;> rfl), by first | exact Kd.R_nil _ _ _ _ _ | exact Kd.N_nil _ _ _ _ _ | exact Kd.V_nil _ _ _ _ _ | exact Kd.Q_nil _ _ _ _ _ | exact Kd.S_nil _ _ _ _ _, by repeat (first | (with_reducible first | exact HB.out | apply below_alloc | apply pw_below_drewN | apply below_drew1) | exact HB.out)⟩
  · rw [if_neg c2] at H
    have c2b0 : (a0.toList == ([] : List UInt8)) = false := beq_eq_false_iff_ne.mpr c2
    have c2b1 : (a0.toList != ([] : List UInt8)) = true := bne_iff_ne.mpr c2
    obtain ⟨y166, hy166⟩ : ∃ y_ : List ByteArray, y_ = (([(⟨#[]⟩ : ByteArray)] : List ByteArray)) := ⟨_, rfl⟩
    replace H : (spec_FieldPieces.l0 k a0 y166 0) = some r := by first | (rw [hy166]; with_reducible exact H) | (have H2_ := (Option.bind_some _ _).symm.trans H; rw [hy166]; with_reducible exact H2_) | (have H2_ := (Option.bind_some _ _).symm.trans H; with_reducible exact H2_) | with_reducible exact H | (rw [hy166]; exact H) | exact H
    have Ny166 := Aside0.mk hy166
    clear hy166
    have H' := Aside0.mk H
    clear H
    go_enter Tryz.func26, Tryz.ntmps26
    go_wp2_with (first | ((with_reducible refine gate_dst (N := 8) rfl ?_); (try (refine gate_guard (by rfl) ?_; dsimp only)); refine Kd.R_lit Kd.string _ 9 ?hg (N := 8) ?hd (xs := ([(⟨#[]⟩ : ByteArray)] : List ByteArray)) (inner := [.string (⟨#[]⟩ : ByteArray)]) (ok := fun _ => True) (okp := fun _ => True) ?hr ?hp (fun _ hk => hk) trivial (Below.refl _ _) (Nat.le_refl _) (by simp) ?_; (case hd => rfl); (case hg => rfl); (case hr => first | (go_simp; done) | (go_simp; rfl)); (case hp => exact (Reps.one (show Kd.M Kd.string _ _ _ (⟨#[]⟩ : ByteArray) [.string (⟨#[]⟩ : ByteArray)] from rfl) (Reps.none _ _))); intro v167 w3 ho4 hb hg_ hnew_; clear hg_ hnew_; (first | rw [← Ny166.out] at ho4 | (simp only [Int.reduceToNat] at ho4; rw [← Ny166.out] at ho4)); have n0_ := Aside0.mk (Kd.R_lower ho4 (below_size (by repeat (first | (with_reducible first | exact HB.out | apply below_alloc | apply pw_below_drewN | apply below_drew1) | exact HB.out)))); have n1_ := Aside0.mk (below_step (by repeat (first | (with_reducible first | exact HB.out | apply below_alloc | apply pw_below_drewN | apply below_drew1) | exact HB.out)) hb); clear HB; have HO168 := n0_; have HB := n1_; clear n0_ n1_; clear hb ho4))
    go_loopg [3, 4] k (fun kq v3 v4 w' => ∃ (x3_1 : List ByteArray) (x4_1 : Int), v4 = .int .i64 x4_1 ∧ Aside0 (spec_FieldPieces.l0 kq a0 x3_1 x4_1 = some r) ∧ Aside0 (kq ≤ k) ∧ Aside0 (Kd.R Kd.string 9 w' w.heap.size (fun _ => True) v3 x3_1) ∧ Aside0 (Below w.heap.size w w'))
    case atStart => exact ⟨(y166), (0), (by first | rfl | (simp; done) | (simp [*]; done)), H', ⟨Nat.le_refl _⟩, ⟨by (with_reducible repeat (first | apply Kd.R_alloc | apply Kd.R_drewN | apply Kd.R_drew)); exact HO168.out⟩, ⟨by repeat (first | (with_reducible first | exact HB.out | apply below_alloc | apply pw_below_drewN | apply below_drew1) | exact HB.out)⟩⟩
    case round =>
      clear H'
      try clear c2
      try clear c2b0
      try clear c2b1
      try clear p2
      obtain ⟨x3_1, x4_1, rfl, HA, HK1, HO_3, HB⟩ := hrel
      cases gk with
      | zero => exact absurd HA.out (by simp [spec_FieldPieces.l0])
      | succ k1 =>
        have H := HA.out
        clear HA
        simp only [spec_FieldPieces.l0] at H
        by_cases c5 : x4_1 < (a0.size : Int)
        · rw [if_pos c5] at H
          have c5b0 : decide (x4_1 < (a0.size : Int)) = true := decide_eq_true c5
          clear c5
          have HC6 := Aside0.mk H
          clear H
          go_upto_region 8 with (fail)
          go_cut [25] (fun v25 wc => ∃ (kq : Nat) (x25_5 : Bool), v25 = .bool x25_5 ∧ Aside0 (spec_FieldPieces.j1 kq a0 x3_1 x4_1 1 x25_5 = some r) ∧ Aside0 (kq ≤ k1) ∧ Aside0 (Kd.R Kd.string 9 wc w.heap.size (fun _ => True) u3 x3_1) ∧ Aside0 (Below w.heap.size w wc))
          case first =>
            have H := HC6.out
            clear HC6
            by_cases c7 : 0 ≤ x4_1
            · rw [if_pos c7] at H
              have c7b0 : decide (0 ≤ x4_1) = true := decide_eq_true c7
              clear c7
              (first | rw [c7b0] | (simp only [i64_w, i32_w]; rw [c7b0]) | skip)
              by_cases c9 : (bt a0 x4_1) = 92
              · rw [if_pos c9] at H
                have c9b0 : ((bt a0 x4_1) == 92) = true := beq_iff_eq.mpr c9
                have c9b1 : ((bt a0 x4_1) != 92) = false := bne_eq_false_iff_eq.mpr c9
                clear c9
                have H' := Aside0.mk H
                clear H
                have p8 : 0 ≤ (x4_1 : Int) := of_decide_eq_true (by first | (with_reducible assumption) | assumption)
                have q8 : x4_1 < (a0.size : Int) := of_decide_eq_true (by first | (with_reducible assumption) | assumption)
                have hx8 := bt_at a0 x4_1
                replace p8 := eq_true p8
                replace q8 := eq_true q8
                go_wp2
                go_meet
                case rel => exact ⟨_, (decide ((wrap64 (x4_1 + 1)) < (a0.size : Int))), (by first | rfl | (simp; done) | (simp [*]; done)), H', ⟨by have := HK1.out; first | omega | exact Nat.le_refl _⟩, ⟨by (with_reducible repeat (first | apply Kd.R_alloc | apply Kd.R_drewN | apply Kd.R_drew)); exact HO_3.out⟩, ⟨by repeat (first | (with_reducible first | exact HB.out | apply below_alloc | apply pw_below_drewN | apply below_drew1) | exact HB.out)⟩⟩
              · rw [if_neg c9] at H
                have c9b0 : ((bt a0 x4_1) == 92) = false := beq_eq_false_iff_ne.mpr c9
                have c9b1 : ((bt a0 x4_1) != 92) = true := bne_iff_ne.mpr c9
                have H' := Aside0.mk H
                clear H
                have p8 : 0 ≤ (x4_1 : Int) := of_decide_eq_true (by first | (with_reducible assumption) | assumption)
                have q8 : x4_1 < (a0.size : Int) := of_decide_eq_true (by first | (with_reducible assumption) | assumption)
                have hx8 := bt_at a0 x4_1
                replace p8 := eq_true p8
                replace q8 := eq_true q8
                go_wp2
                go_meet
                case rel => exact ⟨_, (false), (by first | rfl | (simp; done) | (simp [*]; done)), H', ⟨by have := HK1.out; first | omega | exact Nat.le_refl _⟩, ⟨by (with_reducible repeat (first | apply Kd.R_alloc | apply Kd.R_drewN | apply Kd.R_drew)); exact HO_3.out⟩, ⟨by repeat (first | (with_reducible first | exact HB.out | apply below_alloc | apply pw_below_drewN | apply below_drew1) | exact HB.out)⟩⟩
            · rw [if_neg c7] at H
              exact absurd H (by simp)
          case rest =>
            clear HC6
            try clear c2
            try clear c2b0
            try clear c2b1
            try clear p2
            try clear c5
            try clear c5b0
            try clear p6
            try clear c7
            try clear c7b0
            try clear p8
            try clear q8
            try clear hx8
            try clear c9
            try clear c9b0
            try clear c9b1
            try clear p2
            try clear p8
            try clear q8
            obtain ⟨kq, x25_5, rfl, HA, HJ5, HO_3, HB⟩ := hcut
            cases kq with
            | zero => exact absurd HA.out (by simp [spec_FieldPieces.j1])
            | succ kj5 =>
              have H := HA.out
              clear HA
              simp only [spec_FieldPieces.j1] at H
              by_cases c10 : x25_5 = true
              · subst c10
                have H1 : (if 0 ≤ x4_1 then (if x4_1 < (a0.size : Int) then (if (bt a0 x4_1) = 44 then (if x3_1.length < 8796093022208 then (spec_FieldPieces.l0 kj5 a0 (x3_1 ++ [(⟨#[]⟩ : ByteArray)]) (wrap64 ((wrap64 (x4_1 + (2 - 1))) + 1))) else (none)) else (if 0 ≤ (wrap64 ((x3_1.length : Int) - 1)) then (if (wrap64 ((x3_1.length : Int) - 1)) < (x3_1.length : Int) then (if x4_1 ≤ (wrap64 (x4_1 + 2)) then (if (wrap64 (x4_1 + 2)) ≤ (a0.size : Int) then (if (rdOf ByteArray.empty x3_1 (wrap64 ((x3_1.length : Int) - 1))).size + (a0.extract (x4_1 : Int).toNat ((wrap64 (x4_1 + 2)) : Int).toNat).size ≤ 9223372036854775807 then (spec_FieldPieces.l0 kj5 a0 (x3_1.set ((wrap64 ((x3_1.length : Int) - 1)) : Int).toNat ((rdOf ByteArray.empty x3_1 (wrap64 ((x3_1.length : Int) - 1))) ++ (a0.extract (x4_1 : Int).toNat ((wrap64 (x4_1 + 2)) : Int).toNat))) (wrap64 ((wrap64 (x4_1 + (2 - 1))) + 1))) else (none)) else (none)) else (none)) else (none)) else (none))) else (none)) else (none)) = some r := by rw [if_pos rfl] at H; exact H
                clear H
                have H := H1
                clear H1
                by_cases c11 : 0 ≤ x4_1
                · rw [if_pos c11] at H
                  have c11b0 : decide (0 ≤ x4_1) = true := decide_eq_true c11
                  clear c11
                  by_cases c12 : x4_1 < (a0.size : Int)
                  · rw [if_pos c12] at H
                    have c12b0 : decide (x4_1 < (a0.size : Int)) = true := decide_eq_true c12
                    clear c12
                    by_cases c14 : (bt a0 x4_1) = 44
                    · rw [if_pos c14] at H
                      have c14b0 : ((bt a0 x4_1) == 44) = true := beq_iff_eq.mpr c14
                      have c14b1 : ((bt a0 x4_1) != 44) = false := bne_eq_false_iff_eq.mpr c14
                      clear c14
                      by_cases c15 : x3_1.length < 8796093022208
                      · rw [if_pos c15] at H
                        have LMc15 := Aside0.mk c15
                        clear c15
                        obtain ⟨y169, hy169⟩ : ∃ y_ : List ByteArray, y_ = (x3_1 ++ [(⟨#[]⟩ : ByteArray)]) := ⟨_, rfl⟩
                        replace H : (spec_FieldPieces.l0 kj5 a0 y169 (wrap64 ((wrap64 (x4_1 + (2 - 1))) + 1))) = some r := by first | (rw [hy169]; with_reducible exact H) | (have H2_ := (Option.bind_some _ _).symm.trans H; rw [hy169]; with_reducible exact H2_) | (have H2_ := (Option.bind_some _ _).symm.trans H; with_reducible exact H2_) | with_reducible exact H | (rw [hy169]; exact H) | exact H
                        have Ny169 := Aside0.mk hy169
                        clear hy169
                        have H' := Aside0.mk H
                        clear H
                        have p13 : 0 ≤ (x4_1 : Int) := of_decide_eq_true (by first | (with_reducible assumption) | assumption)
                        have q13 : x4_1 < (a0.size : Int) := of_decide_eq_true (by first | (with_reducible assumption) | assumption)
                        have hx13 := bt_at a0 x4_1
                        replace p13 := eq_true p13
                        replace q13 := eq_true q13
                        go_wp2_with (first | ((with_reducible refine gate_builtin (b := .append) (xs := #[.tmp 30, .tmp 31]) rfl ?_); (try (refine gate_guard (by rfl) ?_; dsimp only)); at_builtin; refine Kd.R_append Kd.string (w0 := w) w.heap.size rfl (.tmp 30) (.tmp 31) 63 9 (.string ⟨#[]⟩) 16 rfl Tryz.underlying63 info9 rfl (by decide) (by omega) u3 x3_1 (⟨#[]⟩ : ByteArray) [.string (⟨#[]⟩ : ByteArray)] (fun _ => True) (fun _ => False) rfl rfl ?aP (fun _ hk => hk.elim) ?aF ?aO ?aB ?aS ?aL ?_; (case aP => exact rfl); (case aB => exact (by repeat (first | (with_reducible first | exact HB.out | apply below_alloc | apply pw_below_drewN | apply below_drew1) | exact HB.out))); (case aF => exact (fun _ _ => trivial)); (case aO => exact (by (with_reducible repeat (first | apply Kd.R_alloc | apply Kd.R_drewN | apply Kd.R_drew)); exact HO_3.out)); (case aS => exact (below_size (by repeat (first | (with_reducible first | exact HB.out | apply below_alloc | apply pw_below_drewN | apply below_drew1) | exact HB.out)))); (case aL => have := LMc15.out; omega); intro v170 w16 ho hb hg hat; rw [← Ny169.out] at ho; have n0_ := Aside0.mk (hb); have n1_ := Aside0.mk (ho); clear HB; clear HO_3; have HB := n0_; have HO171 := n1_; clear n0_ n1_; clear ho hb hg hat))
                        go_roundg kj5
                        case measure => have := HK1.out; have := HJ5.out; omega
                        case rel => exact ⟨(y169), (wrap64 ((wrap64 (x4_1 + (2 - 1))) + 1)), (by first | rfl | (simp; done) | (simp [*]; done)), H', ⟨by have := HK1.out; have := HJ5.out; omega⟩, ⟨by (with_reducible repeat (first | apply Kd.R_alloc | apply Kd.R_drewN | apply Kd.R_drew)); exact HO171.out⟩, ⟨by repeat (first | (with_reducible first | exact HB.out | apply below_alloc | apply pw_below_drewN | apply below_drew1) | exact HB.out)⟩⟩
                      · rw [if_neg c15] at H
                        exact absurd H (by simp)
                    · rw [if_neg c14] at H
                      have c14b0 : ((bt a0 x4_1) == 44) = false := beq_eq_false_iff_ne.mpr c14
                      have c14b1 : ((bt a0 x4_1) != 44) = true := bne_iff_ne.mpr c14
                      obtain ⟨ji17, hji17⟩ : ∃ j_ : Int, (wrap64 ((x3_1.length : Int) - 1)) = j_ := ⟨_, rfl⟩
                      replace H : (if 0 ≤ (ji17) then (if (ji17) < (x3_1.length : Int) then (if x4_1 ≤ (wrap64 (x4_1 + 2)) then (if (wrap64 (x4_1 + 2)) ≤ (a0.size : Int) then (if (rdOf ByteArray.empty x3_1 (ji17)).size + (a0.extract (x4_1 : Int).toNat ((wrap64 (x4_1 + 2)) : Int).toNat).size ≤ 9223372036854775807 then (spec_FieldPieces.l0 kj5 a0 (x3_1.set ((ji17) : Int).toNat ((rdOf ByteArray.empty x3_1 (ji17)) ++ (a0.extract (x4_1 : Int).toNat ((wrap64 (x4_1 + 2)) : Int).toNat))) (wrap64 ((wrap64 (x4_1 + (2 - 1))) + 1))) else (none)) else (none)) else (none)) else (none)) else (none)) = some r := by first | (rw [hji17] at H; exact H) | (simp only [hji17] at H ⊢; exact H)
                      have hji17w : (IntKind.i64.wrap ((x3_1.length : Int) - 1)) = ji17 := (i64_w _).trans hji17
                      by_cases c18 : 0 ≤ (ji17)
                      · rw [if_pos c18] at H
                        have c18b0 : decide (0 ≤ (ji17)) = true := decide_eq_true c18
                        clear c18
                        by_cases c19 : (ji17) < (x3_1.length : Int)
                        · rw [if_pos c19] at H
                          have c19b0 : decide ((ji17) < (x3_1.length : Int)) = true := decide_eq_true c19
                          clear c19
                          have c20b0 := eq_true (of_decide_eq_true (by first | (with_reducible assumption) | assumption) : 0 ≤ x4_1)
                          by_cases c21 : x4_1 ≤ (wrap64 (x4_1 + 2))
                          · rw [if_pos c21] at H
                            have c21b0 := eq_true c21
                            have c21b1 : decide (x4_1 ≤ (wrap64 (x4_1 + 2))) = true := decide_eq_true c21
                            by_cases c22 : (wrap64 (x4_1 + 2)) ≤ (a0.size : Int)
                            · rw [if_pos c22] at H
                              have c22b0 := eq_true c22
                              have c22b1 : decide ((wrap64 (x4_1 + 2)) ≤ (a0.size : Int)) = true := decide_eq_true c22
                              by_cases c23 : (rdOf ByteArray.empty x3_1 (ji17)).size + (a0.extract (x4_1 : Int).toNat ((wrap64 (x4_1 + 2)) : Int).toNat).size ≤ 9223372036854775807
                              · rw [if_pos c23] at H
                                have c23b0 := eq_true c23
                                have c23b1 : decide ((rdOf ByteArray.empty x3_1 (ji17)).size + (a0.extract (x4_1 : Int).toNat ((wrap64 (x4_1 + 2)) : Int).toNat).size ≤ 9223372036854775807) = true := decide_eq_true c23
                                try have c23b2 : (9223372036854775807 < (rdOf ByteArray.empty x3_1 (ji17)).size + (a0.extract (x4_1 : Int).toNat ((wrap64 (x4_1 + 2)) : Int).toNat).size) = False := eq_false (Nat.not_lt.2 c23)
                                try have c23b7 : (9223372036854775807 < (rdOf ByteArray.empty x3_1 (ji17)).size + (((wrap64 (x4_1 + 2)) : Int).toNat - (x4_1 : Int).toNat)) = False := eq_false (Nat.not_lt.2 (by have h_ := c23; (try simp only [ByteArray.size_append] at h_); rw [ByteArray.size_extract, Nat.min_eq_left (Int.toNat_le.2 (show (wrap64 (x4_1 + 2)) ≤ (a0.size : Int) by assumption))] at h_; exact h_))
                                obtain ⟨y173, hy173⟩ : ∃ y_ : List ByteArray, y_ = (x3_1.set ((ji17) : Int).toNat ((rdOf ByteArray.empty x3_1 (ji17)) ++ (a0.extract (x4_1 : Int).toNat ((wrap64 (x4_1 + 2)) : Int).toNat))) := ⟨_, rfl⟩
                                replace H : (spec_FieldPieces.l0 kj5 a0 y173 (wrap64 ((wrap64 (x4_1 + (2 - 1))) + 1))) = some r := by first | (rw [hy173]; with_reducible exact H) | (have H2_ := (Option.bind_some _ _).symm.trans H; rw [hy173]; with_reducible exact H2_) | (have H2_ := (Option.bind_some _ _).symm.trans H; with_reducible exact H2_) | with_reducible exact H | (rw [hy173]; exact H) | exact H
                                have Ny173 := Aside0.mk hy173
                                clear hy173
                                have H' := Aside0.mk H
                                clear H
                                have p13 : 0 ≤ (x4_1 : Int) := of_decide_eq_true (by first | (with_reducible assumption) | assumption)
                                have q13 : x4_1 < (a0.size : Int) := of_decide_eq_true (by first | (with_reducible assumption) | assumption)
                                have hx13 := bt_at a0 x4_1
                                replace p13 := eq_true p13
                                replace q13 := eq_true q13
                                try go_wp2
                                have n0_ := Aside0.mk (Kd.R_drew HO_3.out)
                                have n1_ := Aside0.mk (below_drew1 HB.out)
                                clear HO_3
                                clear HB
                                have HO_3 := n0_
                                have HB := n1_
                                clear n0_ n1_
                                obtain ⟨Ao26, co26, eo26⟩ := Kd.R_slice HO_3.out
                                (first | subst eo26 | (injection eo26 with f1_ f2_ f3_; have f4_ := f1_.symm; have f5_ := f3_.symm; clear f1_ f2_ f3_; subst f4_; subst f5_))
                                have p172 : 0 ≤ ((ji17) : Int) := of_decide_eq_true (by first | (with_reducible assumption) | assumption)
                                have q172 : (ji17) < (x3_1.length : Int) := of_decide_eq_true (by first | (with_reducible assumption) | assumption)
                                obtain ⟨ad172, e172, hx172_0⟩ := Kd.at_string (Kd.R_reads' HO_3.out).2.2 (ji17) p172 q172
                                cases e172
                                replace p172 := eq_true p172
                                replace q172 := eq_true q172
                                have p24 : 0 ≤ ((ji17) : Int) := of_decide_eq_true (by first | (with_reducible assumption) | assumption)
                                have q24 : ((ji17) : Int) < ((x3_1.length : Int) : Int) := of_decide_eq_true (by first | (with_reducible assumption) | assumption)
                                obtain ⟨go24, co24, eo24, gb24, gl24, cl24, HG24⟩ := Kd.R_form HO_3.out (by omega)
                                (first | cases eo24 | (injection eo24 with ea_ en_ ec_; (first | subst ea_ | (injection ea_ with ea_; subst ea_)); subst ec_; clear en_))
                                have GB24 := Aside0.mk gb24
                                have GG24 := Aside0.mk HG24
                                clear gb24 gl24 HG24
                                (first | simp only [add_plain] at hx172_0 | skip)
                                obtain ⟨hx24_0, hf24_0⟩ := Kd.R_celln (⟨#[]⟩ : ByteArray) HO_3.out ((ji17) : Int) p24 q24
                                replace p24 := eq_true p24
                                replace q24 := eq_true q24
                                have HP27 := Kd.R_putn HO_3.out ((ji17) : Int) ((rdOf ByteArray.empty x3_1 (ji17)) ++ (a0.extract (x4_1 : Int).toNat ((wrap64 (x4_1 + 2)) : Int).toNat))
                                rw [← Ny173.out] at HP27
                                have HQ27 := Aside0.mk HP27
                                clear HP27
                                refine start_ (n := 15) (S := fun w' => w'.cell? ⟨go24, ((ji17)).toNat, none⟩ = some (.string (rdOf ByteArray.empty x3_1 (ji17)))) (ds := [14]) #[false, false, false, false, false, false, false, false, false, false, false, false, false, false, false] (by kernel_rfl) rfl rfl (hx172_0) (fun hHeld => ?_); refine with_tabW spec_FieldPieces.tab12 spec_FieldPieces.bits12 (fun HT_ HW_ => ?_)
                                generalize wc.drew = w25 at HO_3 HB GG24 HQ27 hf24_0 hx172_0 hx24_0 hHeld ⊢
                                refine pure_ (i := 0) (N := some 33) (v := ?_) (a' := ?_) #[true, false, false, false, false, false, false, false, false, false, false, false, false, false, false] rfl rfl (any_of HT_.out (by kernel_rfl)) (fun _ _ _ h => h) (Or.inl ⟨by rfl, ?_⟩) ?_ ?_
                                rotate_left
                                · intro w'
                                  go_simp
                                  with_reducible rfl
                                rotate_left
                                · simp only [Act.put, List.setIfInBounds_toArray, List.set_cons_zero, List.set_cons_succ, i64_w, i32_w]
                                  rfl
                                refine pure_ (i := 1) (N := some 34) (v := ?_) (a' := ?_) #[true, true, false, false, false, false, false, false, false, false, false, false, false, false, false] rfl rfl (any_of HT_.out (by kernel_rfl)) (fun _ _ _ h => h) (Or.inl ⟨by rfl, ?_⟩) ?_ ?_
                                rotate_left
                                · intro w'
                                  go_simp
                                  with_reducible rfl
                                rotate_left
                                · simp only [Act.put, List.setIfInBounds_toArray, List.set_cons_zero, List.set_cons_succ, i64_w, i32_w]
                                  rfl
                                refine pure_ (i := 2) (N := some 35) (v := ?_) (a' := ?_) #[true, true, true, false, false, false, false, false, false, false, false, false, false, false, false] rfl rfl (any_of HT_.out (by kernel_rfl)) (fun _ _ _ h => h) (Or.inl ⟨by rfl, ?_⟩) ?_ ?_
                                rotate_left
                                · intro w'
                                  go_simp
                                  with_reducible rfl
                                rotate_left
                                · simp only [Act.put, List.setIfInBounds_toArray, List.set_cons_zero, List.set_cons_succ, i64_w, i32_w]
                                  rfl
                                refine pure_ (i := 3) (N := some 36) (v := ?_) (a' := ?_) #[true, true, true, true, false, false, false, false, false, false, false, false, false, false, false] rfl rfl (any_of HT_.out (by kernel_rfl)) (fun _ _ _ h => h) (Or.inl ⟨by rfl, ?_⟩) ?_ ?_
                                rotate_left
                                · intro w'
                                  go_simp
                                  with_reducible rfl
                                rotate_left
                                · simp only [Act.put, List.setIfInBounds_toArray, List.set_cons_zero, List.set_cons_succ, i64_w, i32_w]
                                  rfl
                                refine pure_ (i := 4) (N := some 37) (v := ?_) (a' := ?_) #[true, true, true, true, true, false, false, false, false, false, false, false, false, false, false] rfl rfl (any_of HT_.out (by kernel_rfl)) (fun _ _ _ h => h) (Or.inl ⟨by rfl, ?_⟩) ?_ ?_
                                rotate_left
                                · intro w'
                                  go_simp
                                  with_reducible rfl
                                rotate_left
                                · simp only [Act.put, List.setIfInBounds_toArray, List.set_cons_zero, List.set_cons_succ, i64_w, i32_w]
                                  rfl
                                refine pure_ (i := 6) (N := some 39) (v := ?_) (a' := ?_) #[true, true, true, true, true, false, true, false, false, false, false, false, false, false, false] rfl rfl (any_of HT_.out (by kernel_rfl)) (fun _ _ _ h => h) (Or.inl ⟨by rfl, ?_⟩) ?_ ?_
                                rotate_left
                                · intro w'
                                  go_simp
                                  with_reducible rfl
                                rotate_left
                                · simp only [Act.put, List.setIfInBounds_toArray, List.set_cons_zero, List.set_cons_succ, i64_w, i32_w]
                                  rfl
                                refine pure_ (i := 7) (N := some 40) (v := ?_) (a' := ?_) #[true, true, true, true, true, false, true, true, false, false, false, false, false, false, false] rfl rfl (any_of HT_.out (by kernel_rfl)) (fun _ _ _ h => h) (Or.inl ⟨by rfl, ?_⟩) ?_ ?_
                                rotate_left
                                · intro w'
                                  go_simp
                                  with_reducible rfl
                                rotate_left
                                · simp only [Act.put, List.setIfInBounds_toArray, List.set_cons_zero, List.set_cons_succ, i64_w, i32_w]
                                  rfl
                                refine pure_ (i := 8) (N := some 41) (v := ?_) (a' := ?_) #[true, true, true, true, true, false, true, true, true, false, false, false, false, false, false] rfl rfl (any_of HT_.out (by kernel_rfl)) (fun _ _ _ h => h) (Or.inl ⟨by rfl, ?_⟩) ?_ ?_
                                rotate_left
                                · intro w'
                                  go_simp
                                  with_reducible rfl
                                rotate_left
                                · simp only [Act.put, List.setIfInBounds_toArray, List.set_cons_zero, List.set_cons_succ, i64_w, i32_w]
                                  rfl
                                refine pure_ (i := 9) (N := some 42) (v := ?_) (a' := ?_) #[true, true, true, true, true, false, true, true, true, true, false, false, false, false, false] rfl rfl (any_of HT_.out (by kernel_rfl)) (fun _ _ _ h => h) (Or.inl ⟨by rfl, ?_⟩) ?_ ?_
                                rotate_left
                                · intro w'
                                  go_simp
                                  with_reducible rfl
                                rotate_left
                                · simp only [Act.put, List.setIfInBounds_toArray, List.set_cons_zero, List.set_cons_succ, i64_w, i32_w]
                                  rfl
                                refine pure_ (i := 10) (N := some 43) (v := ?_) (a' := ?_) #[true, true, true, true, true, false, true, true, true, true, true, false, false, false, false] rfl rfl (any_of HT_.out (by kernel_rfl)) (fun _ _ _ h => h) (Or.inl ⟨by rfl, ?_⟩) ?_ ?_
                                rotate_left
                                · intro w'
                                  go_simp
                                  with_reducible rfl
                                rotate_left
                                · simp only [Act.put, List.setIfInBounds_toArray, List.set_cons_zero, List.set_cons_succ, i64_w, i32_w]
                                  rfl
                                refine pure_ (i := 11) (N := some 44) (v := ?_) (a' := ?_) #[true, true, true, true, true, false, true, true, true, true, true, true, false, false, false] rfl rfl (any_of HT_.out (by kernel_rfl)) (fun _ _ _ h => h) (Or.inl ⟨by rfl, ?_⟩) ?_ ?_
                                rotate_left
                                · intro w'
                                  go_simp
                                  with_reducible rfl
                                rotate_left
                                · simp only [Act.put, List.setIfInBounds_toArray, List.set_cons_zero, List.set_cons_succ, i64_w, i32_w]
                                  rfl
                                refine take_ (i := 5) (N := some 38) (v := ?_) (a' := ?_) #[true, true, true, true, true, true, true, true, true, true, true, true, false, false, false] rfl rfl (take_ofW HT_.out HW_.out (by kernel_rfl)) (fun _ _ _ h => h) (Or.inl ⟨by rfl, ?_⟩) hHeld ?_ ?_
                                rotate_left
                                · intro w' s0
                                  go_simp
                                  with_reducible rfl
                                rotate_left
                                · simp only [Act.put, List.setIfInBounds_toArray, List.set_cons_zero, List.set_cons_succ, i64_w, i32_w]
                                  rfl
                                refine pure_ (i := 12) (N := some 45) (v := ?_) (a' := ?_) #[true, true, true, true, true, true, true, true, true, true, true, true, true, false, false] rfl rfl (any_of HT_.out (by kernel_rfl)) (fun _ _ _ h => h) (Or.inl ⟨by rfl, ?_⟩) ?_ ?_
                                rotate_left
                                · intro w'
                                  go_simp
                                  with_reducible rfl
                                rotate_left
                                · simp only [Act.put, List.setIfInBounds_toArray, List.set_cons_zero, List.set_cons_succ, i64_w, i32_w]
                                  rfl
                                refine pure_ (i := 13) (N := some 46) (v := ?_) (a' := ?_) #[true, true, true, true, true, true, true, true, true, true, true, true, true, true, false] rfl rfl (any_of HT_.out (by kernel_rfl)) (fun _ _ _ h => h) (Or.inl ⟨by rfl, ?_⟩) ?_ ?_
                                rotate_left
                                · intro w'
                                  go_simp
                                  with_reducible rfl
                                rotate_left
                                · simp only [Act.put, List.setIfInBounds_toArray, List.set_cons_zero, List.set_cons_succ, i64_w, i32_w]
                                  rfl
                                refine last_ (i := 14) (N := none) #[true, true, true, true, true, true, true, true, true, true, true, true, true, true, true] rfl rfl (one_of HT_.out (by kernel_rfl)) (by decide) (fun K hK => ?_)
                                refine skip_ (w1 := ?_) (by rfl) rfl ?_ ?_
                                rotate_left
                                · go_simp
                                  rfl
                                refine hK.out _ _ ?_
                                clear hK K
                                refine done_ (done_of HT_.out (by kernel_rfl)) ?_
                                try go_wp2
                                go_roundg kj5
                                case measure => have := HK1.out; have := HJ5.out; omega
                                case rel => exact ⟨(y173), (wrap64 ((wrap64 (x4_1 + (2 - 1))) + 1)), (by first | rfl | (simp; done) | (simp [*]; done)), H', ⟨by have := HK1.out; have := HJ5.out; omega⟩, ⟨by (with_reducible repeat (first | apply Kd.R_alloc | apply Kd.R_drewN | apply Kd.R_drew)); exact HQ27.out⟩, ⟨by repeat (first | (with_reducible first | exact HB.out | apply below_alloc | apply pw_below_drewN | apply below_drew1 | refine below_set ?_ GB24.out) | exact HB.out)⟩⟩
                              · rw [if_neg c23] at H
                                exact absurd H (by simp)
                            · rw [if_neg c22] at H
                              exact absurd H (by simp)
                          · rw [if_neg c21] at H
                            exact absurd H (by simp)
                        · rw [if_neg c19] at H
                          exact absurd H (by simp)
                      · rw [if_neg c18] at H
                        exact absurd H (by simp)
                  · rw [if_neg c12] at H
                    exact absurd H (by simp)
                · rw [if_neg c11] at H
                  exact absurd H (by simp)
              · replace c10 := Bool.eq_false_iff.mpr c10
                subst c10
                have H1 : (if 0 ≤ x4_1 then (if x4_1 < (a0.size : Int) then (if (bt a0 x4_1) = 44 then (if x3_1.length < 8796093022208 then (spec_FieldPieces.l0 kj5 a0 (x3_1 ++ [(⟨#[]⟩ : ByteArray)]) (wrap64 ((wrap64 (x4_1 + (wrap64 (1 - 1)))) + 1))) else (none)) else (if 0 ≤ (wrap64 ((x3_1.length : Int) - 1)) then (if (wrap64 ((x3_1.length : Int) - 1)) < (x3_1.length : Int) then (if x4_1 ≤ (wrap64 (x4_1 + 1)) then (if (wrap64 (x4_1 + 1)) ≤ (a0.size : Int) then (if (rdOf ByteArray.empty x3_1 (wrap64 ((x3_1.length : Int) - 1))).size + (a0.extract (x4_1 : Int).toNat ((wrap64 (x4_1 + 1)) : Int).toNat).size ≤ 9223372036854775807 then (spec_FieldPieces.l0 kj5 a0 (x3_1.set ((wrap64 ((x3_1.length : Int) - 1)) : Int).toNat ((rdOf ByteArray.empty x3_1 (wrap64 ((x3_1.length : Int) - 1))) ++ (a0.extract (x4_1 : Int).toNat ((wrap64 (x4_1 + 1)) : Int).toNat))) (wrap64 ((wrap64 (x4_1 + (wrap64 (1 - 1)))) + 1))) else (none)) else (none)) else (none)) else (none)) else (none))) else (none)) else (none)) = some r := by rw [if_neg (show ¬ (false = true) by decide)] at H; exact H
                clear H
                have H := H1
                clear H1
                by_cases c28 : 0 ≤ x4_1
                · rw [if_pos c28] at H
                  have c28b0 : decide (0 ≤ x4_1) = true := decide_eq_true c28
                  clear c28
                  by_cases c29 : x4_1 < (a0.size : Int)
                  · rw [if_pos c29] at H
                    have c29b0 : decide (x4_1 < (a0.size : Int)) = true := decide_eq_true c29
                    clear c29
                    by_cases c31 : (bt a0 x4_1) = 44
                    · rw [if_pos c31] at H
                      have c31b0 : ((bt a0 x4_1) == 44) = true := beq_iff_eq.mpr c31
                      have c31b1 : ((bt a0 x4_1) != 44) = false := bne_eq_false_iff_eq.mpr c31
                      clear c31
                      by_cases c32 : x3_1.length < 8796093022208
                      · rw [if_pos c32] at H
                        have LMc32 := Aside0.mk c32
                        clear c32
                        obtain ⟨y174, hy174⟩ : ∃ y_ : List ByteArray, y_ = (x3_1 ++ [(⟨#[]⟩ : ByteArray)]) := ⟨_, rfl⟩
                        replace H : (spec_FieldPieces.l0 kj5 a0 y174 (wrap64 ((wrap64 (x4_1 + (wrap64 (1 - 1)))) + 1))) = some r := by first | (rw [hy174]; with_reducible exact H) | (have H2_ := (Option.bind_some _ _).symm.trans H; rw [hy174]; with_reducible exact H2_) | (have H2_ := (Option.bind_some _ _).symm.trans H; with_reducible exact H2_) | with_reducible exact H | (rw [hy174]; exact H) | exact H
                        have Ny174 := Aside0.mk hy174
                        clear hy174
                        have H' := Aside0.mk H
                        clear H
                        have p30 : 0 ≤ (x4_1 : Int) := of_decide_eq_true (by first | (with_reducible assumption) | assumption)
                        have q30 : x4_1 < (a0.size : Int) := of_decide_eq_true (by first | (with_reducible assumption) | assumption)
                        have hx30 := bt_at a0 x4_1
                        replace p30 := eq_true p30
                        replace q30 := eq_true q30
                        go_wp2_with (first | ((with_reducible refine gate_builtin (b := .append) (xs := #[.tmp 30, .tmp 31]) rfl ?_); (try (refine gate_guard (by rfl) ?_; dsimp only)); at_builtin; refine Kd.R_append Kd.string (w0 := w) w.heap.size rfl (.tmp 30) (.tmp 31) 63 9 (.string ⟨#[]⟩) 16 rfl Tryz.underlying63 info9 rfl (by decide) (by omega) u3 x3_1 (⟨#[]⟩ : ByteArray) [.string (⟨#[]⟩ : ByteArray)] (fun _ => True) (fun _ => False) rfl rfl ?aP (fun _ hk => hk.elim) ?aF ?aO ?aB ?aS ?aL ?_; (case aP => exact rfl); (case aB => exact (by repeat (first | (with_reducible first | exact HB.out | apply below_alloc | apply pw_below_drewN | apply below_drew1) | exact HB.out))); (case aF => exact (fun _ _ => trivial)); (case aO => exact (by (with_reducible repeat (first | apply Kd.R_alloc | apply Kd.R_drewN | apply Kd.R_drew)); exact HO_3.out)); (case aS => exact (below_size (by repeat (first | (with_reducible first | exact HB.out | apply below_alloc | apply pw_below_drewN | apply below_drew1) | exact HB.out)))); (case aL => have := LMc32.out; omega); intro v175 w33 ho hb hg hat; rw [← Ny174.out] at ho; have n0_ := Aside0.mk (hb); have n1_ := Aside0.mk (ho); clear HB; clear HO_3; have HB := n0_; have HO176 := n1_; clear n0_ n1_; clear ho hb hg hat))
                        go_roundg kj5
                        case measure => have := HK1.out; have := HJ5.out; omega
                        case rel => exact ⟨(y174), (wrap64 ((wrap64 (x4_1 + (wrap64 (1 - 1)))) + 1)), (by first | rfl | (simp; done) | (simp [*]; done) | (simp [show wrap64 0 = 0 from (by unfold wrap64; omega)]; done)), H', ⟨by have := HK1.out; have := HJ5.out; omega⟩, ⟨by (with_reducible repeat (first | apply Kd.R_alloc | apply Kd.R_drewN | apply Kd.R_drew)); exact HO176.out⟩, ⟨by repeat (first | (with_reducible first | exact HB.out | apply below_alloc | apply pw_below_drewN | apply below_drew1) | exact HB.out)⟩⟩
                      · rw [if_neg c32] at H
                        exact absurd H (by simp)
                    · rw [if_neg c31] at H
                      have c31b0 : ((bt a0 x4_1) == 44) = false := beq_eq_false_iff_ne.mpr c31
                      have c31b1 : ((bt a0 x4_1) != 44) = true := bne_iff_ne.mpr c31
                      obtain ⟨ji34, hji34⟩ : ∃ j_ : Int, (wrap64 ((x3_1.length : Int) - 1)) = j_ := ⟨_, rfl⟩
                      replace H : (if 0 ≤ (ji34) then (if (ji34) < (x3_1.length : Int) then (if x4_1 ≤ (wrap64 (x4_1 + 1)) then (if (wrap64 (x4_1 + 1)) ≤ (a0.size : Int) then (if (rdOf ByteArray.empty x3_1 (ji34)).size + (a0.extract (x4_1 : Int).toNat ((wrap64 (x4_1 + 1)) : Int).toNat).size ≤ 9223372036854775807 then (spec_FieldPieces.l0 kj5 a0 (x3_1.set ((ji34) : Int).toNat ((rdOf ByteArray.empty x3_1 (ji34)) ++ (a0.extract (x4_1 : Int).toNat ((wrap64 (x4_1 + 1)) : Int).toNat))) (wrap64 ((wrap64 (x4_1 + (wrap64 (1 - 1)))) + 1))) else (none)) else (none)) else (none)) else (none)) else (none)) = some r := by first | (rw [hji34] at H; exact H) | (simp only [hji34] at H ⊢; exact H)
                      have hji34w : (IntKind.i64.wrap ((x3_1.length : Int) - 1)) = ji34 := (i64_w _).trans hji34
                      by_cases c35 : 0 ≤ (ji34)
                      · rw [if_pos c35] at H
                        have c35b0 : decide (0 ≤ (ji34)) = true := decide_eq_true c35
                        clear c35
                        by_cases c36 : (ji34) < (x3_1.length : Int)
                        · rw [if_pos c36] at H
                          have c36b0 : decide ((ji34) < (x3_1.length : Int)) = true := decide_eq_true c36
                          clear c36
                          have c37b0 := eq_true (of_decide_eq_true (by first | (with_reducible assumption) | assumption) : 0 ≤ x4_1)
                          by_cases c38 : x4_1 ≤ (wrap64 (x4_1 + 1))
                          · rw [if_pos c38] at H
                            have c38b0 := eq_true c38
                            have c38b1 : decide (x4_1 ≤ (wrap64 (x4_1 + 1))) = true := decide_eq_true c38
                            by_cases c39 : (wrap64 (x4_1 + 1)) ≤ (a0.size : Int)
                            · rw [if_pos c39] at H
                              have c39b0 := eq_true c39
                              have c39b1 : decide ((wrap64 (x4_1 + 1)) ≤ (a0.size : Int)) = true := decide_eq_true c39
                              by_cases c40 : (rdOf ByteArray.empty x3_1 (ji34)).size + (a0.extract (x4_1 : Int).toNat ((wrap64 (x4_1 + 1)) : Int).toNat).size ≤ 9223372036854775807
                              · rw [if_pos c40] at H
                                have c40b0 := eq_true c40
                                have c40b1 : decide ((rdOf ByteArray.empty x3_1 (ji34)).size + (a0.extract (x4_1 : Int).toNat ((wrap64 (x4_1 + 1)) : Int).toNat).size ≤ 9223372036854775807) = true := decide_eq_true c40
                                try have c40b2 : (9223372036854775807 < (rdOf ByteArray.empty x3_1 (ji34)).size + (a0.extract (x4_1 : Int).toNat ((wrap64 (x4_1 + 1)) : Int).toNat).size) = False := eq_false (Nat.not_lt.2 c40)
                                try have c40b7 : (9223372036854775807 < (rdOf ByteArray.empty x3_1 (ji34)).size + (((wrap64 (x4_1 + 1)) : Int).toNat - (x4_1 : Int).toNat)) = False := eq_false (Nat.not_lt.2 (by have h_ := c40; (try simp only [ByteArray.size_append] at h_); rw [ByteArray.size_extract, Nat.min_eq_left (Int.toNat_le.2 (show (wrap64 (x4_1 + 1)) ≤ (a0.size : Int) by assumption))] at h_; exact h_))
                                obtain ⟨y178, hy178⟩ : ∃ y_ : List ByteArray, y_ = (x3_1.set ((ji34) : Int).toNat ((rdOf ByteArray.empty x3_1 (ji34)) ++ (a0.extract (x4_1 : Int).toNat ((wrap64 (x4_1 + 1)) : Int).toNat))) := ⟨_, rfl⟩
                                replace H : (spec_FieldPieces.l0 kj5 a0 y178 (wrap64 ((wrap64 (x4_1 + (wrap64 (1 - 1)))) + 1))) = some r := by first | (rw [hy178]; with_reducible exact H) | (have H2_ := (Option.bind_some _ _).symm.trans H; rw [hy178]; with_reducible exact H2_) | (have H2_ := (Option.bind_some _ _).symm.trans H; with_reducible exact H2_) | with_reducible exact H | (rw [hy178]; exact H) | exact H
                                have Ny178 := Aside0.mk hy178
                                clear hy178
                                have H' := Aside0.mk H
                                clear H
                                have p30 : 0 ≤ (x4_1 : Int) := of_decide_eq_true (by first | (with_reducible assumption) | assumption)
                                have q30 : x4_1 < (a0.size : Int) := of_decide_eq_true (by first | (with_reducible assumption) | assumption)
                                have hx30 := bt_at a0 x4_1
                                replace p30 := eq_true p30
                                replace q30 := eq_true q30
                                try go_wp2
                                have n0_ := Aside0.mk (Kd.R_drew HO_3.out)
                                have n1_ := Aside0.mk (below_drew1 HB.out)
                                clear HO_3
                                clear HB
                                have HO_3 := n0_
                                have HB := n1_
                                clear n0_ n1_
                                obtain ⟨Ao43, co43, eo43⟩ := Kd.R_slice HO_3.out
                                (first | subst eo43 | (injection eo43 with f1_ f2_ f3_; have f4_ := f1_.symm; have f5_ := f3_.symm; clear f1_ f2_ f3_; subst f4_; subst f5_))
                                have p177 : 0 ≤ ((ji34) : Int) := of_decide_eq_true (by first | (with_reducible assumption) | assumption)
                                have q177 : (ji34) < (x3_1.length : Int) := of_decide_eq_true (by first | (with_reducible assumption) | assumption)
                                obtain ⟨ad177, e177, hx177_0⟩ := Kd.at_string (Kd.R_reads' HO_3.out).2.2 (ji34) p177 q177
                                cases e177
                                replace p177 := eq_true p177
                                replace q177 := eq_true q177
                                have p41 : 0 ≤ ((ji34) : Int) := of_decide_eq_true (by first | (with_reducible assumption) | assumption)
                                have q41 : ((ji34) : Int) < ((x3_1.length : Int) : Int) := of_decide_eq_true (by first | (with_reducible assumption) | assumption)
                                obtain ⟨go41, co41, eo41, gb41, gl41, cl41, HG41⟩ := Kd.R_form HO_3.out (by omega)
                                (first | cases eo41 | (injection eo41 with ea_ en_ ec_; (first | subst ea_ | (injection ea_ with ea_; subst ea_)); subst ec_; clear en_))
                                have GB41 := Aside0.mk gb41
                                have GG41 := Aside0.mk HG41
                                clear gb41 gl41 HG41
                                (first | simp only [add_plain] at hx177_0 | skip)
                                obtain ⟨hx41_0, hf41_0⟩ := Kd.R_celln (⟨#[]⟩ : ByteArray) HO_3.out ((ji34) : Int) p41 q41
                                replace p41 := eq_true p41
                                replace q41 := eq_true q41
                                have HP44 := Kd.R_putn HO_3.out ((ji34) : Int) ((rdOf ByteArray.empty x3_1 (ji34)) ++ (a0.extract (x4_1 : Int).toNat ((wrap64 (x4_1 + 1)) : Int).toNat))
                                rw [← Ny178.out] at HP44
                                have HQ44 := Aside0.mk HP44
                                clear HP44
                                refine start_ (n := 15) (S := fun w' => w'.cell? ⟨go41, ((ji34)).toNat, none⟩ = some (.string (rdOf ByteArray.empty x3_1 (ji34)))) (ds := [14]) #[false, false, false, false, false, false, false, false, false, false, false, false, false, false, false] (by kernel_rfl) rfl rfl (hx177_0) (fun hHeld => ?_); refine with_tabW spec_FieldPieces.tab12 spec_FieldPieces.bits12 (fun HT_ HW_ => ?_)
                                generalize wc.drew = w42 at HO_3 HB GG41 HQ44 hf41_0 hx177_0 hx41_0 hHeld ⊢
                                refine pure_ (i := 0) (N := some 33) (v := ?_) (a' := ?_) #[true, false, false, false, false, false, false, false, false, false, false, false, false, false, false] rfl rfl (any_of HT_.out (by kernel_rfl)) (fun _ _ _ h => h) (Or.inl ⟨by rfl, ?_⟩) ?_ ?_
                                rotate_left
                                · intro w'
                                  go_simp
                                  with_reducible rfl
                                rotate_left
                                · simp only [Act.put, List.setIfInBounds_toArray, List.set_cons_zero, List.set_cons_succ, i64_w, i32_w]
                                  rfl
                                refine pure_ (i := 1) (N := some 34) (v := ?_) (a' := ?_) #[true, true, false, false, false, false, false, false, false, false, false, false, false, false, false] rfl rfl (any_of HT_.out (by kernel_rfl)) (fun _ _ _ h => h) (Or.inl ⟨by rfl, ?_⟩) ?_ ?_
                                rotate_left
                                · intro w'
                                  go_simp
                                  with_reducible rfl
                                rotate_left
                                · simp only [Act.put, List.setIfInBounds_toArray, List.set_cons_zero, List.set_cons_succ, i64_w, i32_w]
                                  rfl
                                refine pure_ (i := 2) (N := some 35) (v := ?_) (a' := ?_) #[true, true, true, false, false, false, false, false, false, false, false, false, false, false, false] rfl rfl (any_of HT_.out (by kernel_rfl)) (fun _ _ _ h => h) (Or.inl ⟨by rfl, ?_⟩) ?_ ?_
                                rotate_left
                                · intro w'
                                  go_simp
                                  with_reducible rfl
                                rotate_left
                                · simp only [Act.put, List.setIfInBounds_toArray, List.set_cons_zero, List.set_cons_succ, i64_w, i32_w]
                                  rfl
                                refine pure_ (i := 3) (N := some 36) (v := ?_) (a' := ?_) #[true, true, true, true, false, false, false, false, false, false, false, false, false, false, false] rfl rfl (any_of HT_.out (by kernel_rfl)) (fun _ _ _ h => h) (Or.inl ⟨by rfl, ?_⟩) ?_ ?_
                                rotate_left
                                · intro w'
                                  go_simp
                                  with_reducible rfl
                                rotate_left
                                · simp only [Act.put, List.setIfInBounds_toArray, List.set_cons_zero, List.set_cons_succ, i64_w, i32_w]
                                  rfl
                                refine pure_ (i := 4) (N := some 37) (v := ?_) (a' := ?_) #[true, true, true, true, true, false, false, false, false, false, false, false, false, false, false] rfl rfl (any_of HT_.out (by kernel_rfl)) (fun _ _ _ h => h) (Or.inl ⟨by rfl, ?_⟩) ?_ ?_
                                rotate_left
                                · intro w'
                                  go_simp
                                  with_reducible rfl
                                rotate_left
                                · simp only [Act.put, List.setIfInBounds_toArray, List.set_cons_zero, List.set_cons_succ, i64_w, i32_w]
                                  rfl
                                refine pure_ (i := 6) (N := some 39) (v := ?_) (a' := ?_) #[true, true, true, true, true, false, true, false, false, false, false, false, false, false, false] rfl rfl (any_of HT_.out (by kernel_rfl)) (fun _ _ _ h => h) (Or.inl ⟨by rfl, ?_⟩) ?_ ?_
                                rotate_left
                                · intro w'
                                  go_simp
                                  with_reducible rfl
                                rotate_left
                                · simp only [Act.put, List.setIfInBounds_toArray, List.set_cons_zero, List.set_cons_succ, i64_w, i32_w]
                                  rfl
                                refine pure_ (i := 7) (N := some 40) (v := ?_) (a' := ?_) #[true, true, true, true, true, false, true, true, false, false, false, false, false, false, false] rfl rfl (any_of HT_.out (by kernel_rfl)) (fun _ _ _ h => h) (Or.inl ⟨by rfl, ?_⟩) ?_ ?_
                                rotate_left
                                · intro w'
                                  go_simp
                                  with_reducible rfl
                                rotate_left
                                · simp only [Act.put, List.setIfInBounds_toArray, List.set_cons_zero, List.set_cons_succ, i64_w, i32_w]
                                  rfl
                                refine pure_ (i := 8) (N := some 41) (v := ?_) (a' := ?_) #[true, true, true, true, true, false, true, true, true, false, false, false, false, false, false] rfl rfl (any_of HT_.out (by kernel_rfl)) (fun _ _ _ h => h) (Or.inl ⟨by rfl, ?_⟩) ?_ ?_
                                rotate_left
                                · intro w'
                                  go_simp
                                  with_reducible rfl
                                rotate_left
                                · simp only [Act.put, List.setIfInBounds_toArray, List.set_cons_zero, List.set_cons_succ, i64_w, i32_w]
                                  rfl
                                refine pure_ (i := 9) (N := some 42) (v := ?_) (a' := ?_) #[true, true, true, true, true, false, true, true, true, true, false, false, false, false, false] rfl rfl (any_of HT_.out (by kernel_rfl)) (fun _ _ _ h => h) (Or.inl ⟨by rfl, ?_⟩) ?_ ?_
                                rotate_left
                                · intro w'
                                  go_simp
                                  with_reducible rfl
                                rotate_left
                                · simp only [Act.put, List.setIfInBounds_toArray, List.set_cons_zero, List.set_cons_succ, i64_w, i32_w]
                                  rfl
                                refine pure_ (i := 10) (N := some 43) (v := ?_) (a' := ?_) #[true, true, true, true, true, false, true, true, true, true, true, false, false, false, false] rfl rfl (any_of HT_.out (by kernel_rfl)) (fun _ _ _ h => h) (Or.inl ⟨by rfl, ?_⟩) ?_ ?_
                                rotate_left
                                · intro w'
                                  go_simp
                                  with_reducible rfl
                                rotate_left
                                · simp only [Act.put, List.setIfInBounds_toArray, List.set_cons_zero, List.set_cons_succ, i64_w, i32_w]
                                  rfl
                                refine pure_ (i := 11) (N := some 44) (v := ?_) (a' := ?_) #[true, true, true, true, true, false, true, true, true, true, true, true, false, false, false] rfl rfl (any_of HT_.out (by kernel_rfl)) (fun _ _ _ h => h) (Or.inl ⟨by rfl, ?_⟩) ?_ ?_
                                rotate_left
                                · intro w'
                                  go_simp
                                  with_reducible rfl
                                rotate_left
                                · simp only [Act.put, List.setIfInBounds_toArray, List.set_cons_zero, List.set_cons_succ, i64_w, i32_w]
                                  rfl
                                refine take_ (i := 5) (N := some 38) (v := ?_) (a' := ?_) #[true, true, true, true, true, true, true, true, true, true, true, true, false, false, false] rfl rfl (take_ofW HT_.out HW_.out (by kernel_rfl)) (fun _ _ _ h => h) (Or.inl ⟨by rfl, ?_⟩) hHeld ?_ ?_
                                rotate_left
                                · intro w' s0
                                  go_simp
                                  with_reducible rfl
                                rotate_left
                                · simp only [Act.put, List.setIfInBounds_toArray, List.set_cons_zero, List.set_cons_succ, i64_w, i32_w]
                                  rfl
                                refine pure_ (i := 12) (N := some 45) (v := ?_) (a' := ?_) #[true, true, true, true, true, true, true, true, true, true, true, true, true, false, false] rfl rfl (any_of HT_.out (by kernel_rfl)) (fun _ _ _ h => h) (Or.inl ⟨by rfl, ?_⟩) ?_ ?_
                                rotate_left
                                · intro w'
                                  go_simp
                                  with_reducible rfl
                                rotate_left
                                · simp only [Act.put, List.setIfInBounds_toArray, List.set_cons_zero, List.set_cons_succ, i64_w, i32_w]
                                  rfl
                                refine pure_ (i := 13) (N := some 46) (v := ?_) (a' := ?_) #[true, true, true, true, true, true, true, true, true, true, true, true, true, true, false] rfl rfl (any_of HT_.out (by kernel_rfl)) (fun _ _ _ h => h) (Or.inl ⟨by rfl, ?_⟩) ?_ ?_
                                rotate_left
                                · intro w'
                                  go_simp
                                  with_reducible rfl
                                rotate_left
                                · simp only [Act.put, List.setIfInBounds_toArray, List.set_cons_zero, List.set_cons_succ, i64_w, i32_w]
                                  rfl
                                refine last_ (i := 14) (N := none) #[true, true, true, true, true, true, true, true, true, true, true, true, true, true, true] rfl rfl (one_of HT_.out (by kernel_rfl)) (by decide) (fun K hK => ?_)
                                refine skip_ (w1 := ?_) (by rfl) rfl ?_ ?_
                                rotate_left
                                · go_simp
                                  rfl
                                refine hK.out _ _ ?_
                                clear hK K
                                refine done_ (done_of HT_.out (by kernel_rfl)) ?_
                                try go_wp2
                                go_roundg kj5
                                case measure => have := HK1.out; have := HJ5.out; omega
                                case rel => exact ⟨(y178), (wrap64 ((wrap64 (x4_1 + (wrap64 (1 - 1)))) + 1)), (by first | rfl | (simp; done) | (simp [*]; done) | (simp [show wrap64 0 = 0 from (by unfold wrap64; omega)]; done)), H', ⟨by have := HK1.out; have := HJ5.out; omega⟩, ⟨by (with_reducible repeat (first | apply Kd.R_alloc | apply Kd.R_drewN | apply Kd.R_drew)); exact HQ44.out⟩, ⟨by repeat (first | (with_reducible first | exact HB.out | apply below_alloc | apply pw_below_drewN | apply below_drew1 | refine below_set ?_ GB41.out) | exact HB.out)⟩⟩
                              · rw [if_neg c40] at H
                                exact absurd H (by simp)
                            · rw [if_neg c39] at H
                              exact absurd H (by simp)
                          · rw [if_neg c38] at H
                            exact absurd H (by simp)
                        · rw [if_neg c36] at H
                          exact absurd H (by simp)
                      · rw [if_neg c35] at H
                        exact absurd H (by simp)
                  · rw [if_neg c29] at H
                    exact absurd H (by simp)
                · rw [if_neg c28] at H
                  exact absurd H (by simp)
        · rw [if_neg c5] at H
          have c5b0 : decide (x4_1 < (a0.size : Int)) = false := decide_eq_false c5
          clear c5
          obtain rfl := Option.some.inj H
          go_wp2
          go_ret
          exact ⟨_, by first | rfl | (simp [errW_none, errW_some] <;> rfl) | (simp [*, errW_none, errW_some] <;> rfl), by (with_reducible repeat (first | apply Kd.R_alloc | apply Kd.R_drewN | apply Kd.R_drew)); exact HO_3.out, by repeat (first | (with_reducible first | exact HB.out | apply below_alloc | apply pw_below_drewN | apply below_drew1) | exact HB.out)⟩

end Go.Proofs.YthejejeginnbdaaGreatDoor.PFnFieldTurn
