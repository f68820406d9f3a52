/- A value's escaped text: EscapeValue's contract. -/
import Derived.Test.YthejejeginnbdaaGreatDoorPFnFieldTurnx
import Derived.Test.YthejejeginnbdaaGreatDoorEscN
import Derived.Test.YthejejeginnbdaaGreatDoorTxt
import Derived.Test.YthejejeginnbdaaGreatDoorSmall
import Derived.Test.YthejejeginnbdaaGreatDoorEvs
import Derived.Laws.IdiomStrings
import Derived.Laws.BytesArg
import Derived.WalkKit
import Derived.WalkMore
set_option linter.unusedVariables false
set_option linter.unusedSimpArgs false
namespace Go.Proofs.YthejejeginnbdaaGreatDoor.FdE
open Go Go.RowKit Go.Proofs.YthejejeginnbdaaGreatDoorW.PrintWords Go.Proofs.YthejejeginnbdaaGreatDoorW.PrintLast Go.Proofs.YthejejeginnbdaaGreatDoorW.PrintMore Go.Proofs.YthejejeginnbdaaGreatDoor.Txt Go.Proofs.YthejejeginnbdaaGreatDoor Go.Proofs.YthejejeginnbdaaGreatDoor.PFnFieldTurn Go.Proofs.YthejejeginnbdaaGreatDoor.EscN
set_option linter.unusedVariables false
set_option linter.unusedSimpArgs false
theorem infoE : (Tryz.prog.info? 5).map (fun i => (i.zero, i.size, i.bytes)) = some (some (.int .u8 0), 1, 1) := by kernel_rfl
/-! ### fields_EscapeValue: function 8 -/
def fields_EscapeValue.l0 : Nat → ByteArray → List Int → Int → Option (ByteArray)
  | 0, _, _, _ => none
  | k + 1, x0, x3, x4 => if x4 < (x0.size : Int) then (if 0 ≤ x4 then (if (bt x0 x4) = 92 then (if x3.length < 140737488355328 then ((some (x3 ++ [92] : List Int)).bind fun y101 => (if y101.length < 140737488355328 then (fields_EscapeValue.l0 k x0 (y101 ++ [bt x0 x4]) (wrap64 (x4 + 1))) else (none))) else (none)) else (if (bt x0 x4) = 44 then (if x3.length < 140737488355328 then ((some (x3 ++ [92] : List Int)).bind fun y107 => (if y107.length < 140737488355328 then (fields_EscapeValue.l0 k x0 (y107 ++ [bt x0 x4]) (wrap64 (x4 + 1))) else (none))) else (none)) else (if (bt x0 x4) = 61 then (if x3.length < 140737488355328 then ((some (x3 ++ [92] : List Int)).bind fun y113 => (if y113.length < 140737488355328 then (fields_EscapeValue.l0 k x0 (y113 ++ [bt x0 x4]) (wrap64 (x4 + 1))) else (none))) else (none)) else (if x3.length < 140737488355328 then (fields_EscapeValue.l0 k x0 (x3 ++ [bt x0 x4]) (wrap64 (x4 + 1))) else (none))))) else (none)) else (some (strOfNums x3))
def fields_EscapeValue.f (k : Nat) (a0 : ByteArray) : Option (ByteArray) := fields_EscapeValue.l0 k a0 ([] : List Int) 0
theorem fields_EscapeValue.mono_l : ∀ k, (∀ y0 y1 y2, LeO (fields_EscapeValue.l0 k y0 y1 y2) (fields_EscapeValue.l0 (k + 1) y0 y1 y2))
  | 0 => fun _ _ _ r h => by simp [fields_EscapeValue.l0] at h
  | k + 1 => by
    have ih0 := fields_EscapeValue.mono_l k
    · intro y0 y1 y2
      unfold fields_EscapeValue.l0
      repeat' first
      | (with_reducible exact ih0 _ _ _)
      | (with_reducible exact LeO.refl _)
      | (with_reducible exact LeO.none _)
      | (with_reducible refine LeO.ite ?_ ?_)
      | (with_reducible refine LeO.bind ?_ (fun _ => ?_))
      | exact ih0 _ _ _
      | exact LeO.none _
      | refine LeO.ite ?_ ?_
      | refine LeO.bind ?_ (fun _ => ?_)
theorem fields_EscapeValue.mono : ∀ a0 k, LeO (fields_EscapeValue.f k a0) (fields_EscapeValue.f (k + 1) a0) := by
  intro a0 k
  have ih0 := fields_EscapeValue.mono_l k
  unfold fields_EscapeValue.f
  repeat' first
      | (with_reducible exact ih0 _ _ _)
      | (with_reducible exact LeO.refl _)
      | (with_reducible exact LeO.none _)
      | (with_reducible refine LeO.ite ?_ ?_)
      | (with_reducible refine LeO.bind ?_ (fun _ => ?_))
      | exact ih0 _ _ _
      | exact LeO.none _
      | refine LeO.ite ?_ ?_
      | refine LeO.bind ?_ (fun _ => ?_)
set_option maxHeartbeats 8000000 in
set_option maxRecDepth 100000 in
theorem fields_EscapeValue.calls (k : Nat) (a0 : ByteArray) (r : ByteArray) (w : World) (h : fields_EscapeValue.f k a0 = some r) :
    Calls Tryz.prog 104 #[.string a0] w fun e w' => e = .returned (.string r) ∧ Below w.heap.size w w' := by
  have HB := Aside0.mk (Below.refl w.heap.size w)
  have H : (fields_EscapeValue.l0 k a0 ([] : List Int) 0) = some r := h
  clear h
  have H' := Aside0.mk H
  clear H
  go_enter Tryz.func104, Tryz.ntmps104
  go_wp2
  go_loopg [3, 4] k (fun kq v3 v4 w' => ∃ (x3_1 : List Int) (x4_1 : Int), v4 = .int .i64 x4_1 ∧ Aside0 (fields_EscapeValue.l0 kq a0 x3_1 x4_1 = some r) ∧ Aside0 (kq ≤ k) ∧ Aside0 (Kd.R (Kd.int .u8) 5 w' w.heap.size (fun _ => True) v3 x3_1) ∧ Aside0 (Below w.heap.size w w'))
  case atStart => exact ⟨(([] : List Int)), (0), (by first | rfl | (simp; done) | (simp [*]; done)), H', ⟨Nat.le_refl _⟩, ⟨by first | exact Kd.R_nil _ _ _ _ _ | exact Kd.N_nil _ _ _ _ _ | exact Kd.V_nil _ _ _ _ _ | exact Kd.Q_nil _ _ _ _ _ | exact Kd.S_nil _ _ _ _ _⟩, ⟨by repeat (first | (with_reducible first | exact HB.out | apply below_alloc | apply pw_below_drewN | apply below_drew1) | exact HB.out)⟩⟩
  case round =>
    clear H'
    obtain ⟨x3_1, x4_1, rfl, HA, HK1, HO_3, HB⟩ := hrel
    cases gk with
    | zero => exact absurd HA.out (by simp [fields_EscapeValue.l0])
    | succ k1 =>
      have H := HA.out
      clear HA
      simp only [fields_EscapeValue.l0] at H
      by_cases c2 : x4_1 < (a0.size : Int)
      · rw [if_pos c2] at H
        have c2b0 : decide (x4_1 < (a0.size : Int)) = true := decide_eq_true c2
        clear c2
        by_cases c3 : 0 ≤ x4_1
        · rw [if_pos c3] at H
          have c3b0 : decide (0 ≤ x4_1) = true := decide_eq_true c3
          clear c3
          by_cases c5 : (bt a0 x4_1) = 92
          · rw [if_pos c5] at H
            have c5b0 : ((bt a0 x4_1) == 92) = true := beq_iff_eq.mpr c5
            have c5b1 : ((bt a0 x4_1) != 92) = false := bne_eq_false_iff_eq.mpr c5
            clear c5
            by_cases c6 : x3_1.length < 140737488355328
            · rw [if_pos c6] at H
              have LMc6 := Aside0.mk c6
              clear c6
              obtain ⟨y101, hy101⟩ : ∃ y_ : List Int, y_ = (x3_1 ++ [92]) := ⟨_, rfl⟩
              replace H : (if y101.length < 140737488355328 then (fields_EscapeValue.l0 k1 a0 (y101 ++ [bt a0 x4_1]) (wrap64 (x4_1 + 1))) else (none)) = some r := by first | (rw [hy101]; with_reducible exact H) | (have H2_ := (Option.bind_some _ _).symm.trans H; rw [hy101]; with_reducible exact H2_) | (have H2_ := (Option.bind_some _ _).symm.trans H; with_reducible exact H2_) | with_reducible exact H | (rw [hy101]; exact H) | exact H
              have Ny101 := Aside0.mk hy101
              clear hy101
              by_cases c8 : y101.length < 140737488355328
              · rw [if_pos c8] at H
                have LMc8 := Aside0.mk c8
                clear c8
                obtain ⟨y104, hy104⟩ : ∃ y_ : List Int, y_ = (y101 ++ [bt a0 x4_1]) := ⟨_, rfl⟩
                replace H : (fields_EscapeValue.l0 k1 a0 y104 (wrap64 (x4_1 + 1))) = some r := by first | (rw [hy104]; with_reducible exact H) | (have H2_ := (Option.bind_some _ _).symm.trans H; rw [hy104]; with_reducible exact H2_) | (have H2_ := (Option.bind_some _ _).symm.trans H; with_reducible exact H2_) | with_reducible exact H | (rw [hy104]; exact H) | exact H
                have Ny104 := Aside0.mk hy104
                clear hy104
                have H' := Aside0.mk H
                clear H
                have p4 : 0 ≤ (x4_1 : Int) := of_decide_eq_true (by first | (with_reducible assumption) | assumption)
                have q4 : x4_1 < (a0.size : Int) := of_decide_eq_true (by first | (with_reducible assumption) | assumption)
                have hx4 := bt_at a0 x4_1
                replace p4 := eq_true p4
                replace q4 := eq_true q4
                go_wp2_with (first | ((with_reducible refine gate_builtin (b := .append) (xs := #[.tmp 18, .tmp 19]) rfl ?_); at_builtin; refine Kd.R_append (Kd.int .u8) (w0 := w) w.heap.size rfl (.tmp 18) (.tmp 19) 58 5 (.int .u8 0) 1 rfl Tryz.underlying58 infoE rfl (by decide) (by omega) u3 x3_1 92 [.int .u8 92] (fun _ => True) (fun _ => False) rfl rfl ?aP (fun _ hk => hk.elim) ?aF ?aO ?aB ?aS ?aL ?_; (case aP => exact rfl); (case aB => exact (by repeat (first | (with_reducible first | exact HB.out | apply below_alloc | apply pw_below_drewN | apply below_drew1) | exact HB.out))); (case aF => exact (fun _ _ => trivial)); (case aO => exact (by (with_reducible repeat (first | apply Kd.R_alloc | apply Kd.R_drewN | apply Kd.R_drew)); exact HO_3.out)); (case aS => exact (below_size (by repeat (first | (with_reducible first | exact HB.out | apply below_alloc | apply pw_below_drewN | apply below_drew1) | exact HB.out)))); (case aL => have := LMc6.out; omega); intro v102 w9 ho hb hg hat; rw [← Ny101.out] at ho; have n0_ := Aside0.mk (hb); have n1_ := Aside0.mk (ho); clear HB; clear HO_3; have HB := n0_; have HO103 := n1_; clear n0_ n1_; clear ho hb hg hat; have p7 : 0 ≤ (x4_1 : Int) := of_decide_eq_true (by first | (with_reducible assumption) | assumption); have q7 : x4_1 < (a0.size : Int) := of_decide_eq_true (by first | (with_reducible assumption) | assumption); have hx7 := bt_at a0 x4_1; replace p7 := eq_true p7; replace q7 := eq_true q7) | ((with_reducible refine gate_builtin (b := .append) (xs := #[.tmp 21, .tmp 25]) rfl ?_); at_builtin; refine Kd.R_append (Kd.int .u8) (w0 := w) w.heap.size rfl (.tmp 21) (.tmp 25) 58 5 (.int .u8 0) 1 rfl Tryz.underlying58 infoE rfl (by decide) (by omega) v102 y101 (bt a0 x4_1) [.int .u8 (bt a0 x4_1)] (fun _ => True) (fun _ => False) rfl rfl ?aP (fun _ hk => hk.elim) ?aF ?aO ?aB ?aS ?aL ?_; (case aP => exact rfl); (case aB => exact (by repeat (first | (with_reducible first | exact HB.out | apply below_alloc | apply pw_below_drewN | apply below_drew1) | exact HB.out))); (case aF => exact (fun _ _ => trivial)); (case aO => exact (by (with_reducible repeat (first | apply Kd.R_alloc | apply Kd.R_drewN | apply Kd.R_drew)); exact HO103.out)); (case aS => exact (below_size (by repeat (first | (with_reducible first | exact HB.out | apply below_alloc | apply pw_below_drewN | apply below_drew1) | exact HB.out)))); (case aL => have := LMc8.out; omega); intro v105 w10 ho hb hg hat; rw [← Ny104.out] at ho; have n0_ := Aside0.mk (hb); have n1_ := Aside0.mk (ho); clear HB; clear HO103; have HB := n0_; have HO106 := n1_; clear n0_ n1_; clear ho hb hg hat))
                go_roundg k1
                case measure => have := HK1.out; omega
                case rel => exact ⟨(y104), (wrap64 (x4_1 + 1)), (by first | rfl | (simp; done) | (simp [*]; done)), H', ⟨by have := HK1.out; omega⟩, ⟨by (with_reducible repeat (first | apply Kd.R_alloc | apply Kd.R_drewN | apply Kd.R_drew)); exact HO106.out⟩, ⟨by repeat (first | (with_reducible first | exact HB.out | apply below_alloc | apply pw_below_drewN | apply below_drew1) | exact HB.out)⟩⟩
              · rw [if_neg c8] at H
                exact absurd H (by simp)
            · rw [if_neg c6] at H
              exact absurd H (by simp)
          · rw [if_neg c5] at H
            have c5b0 : ((bt a0 x4_1) == 92) = false := beq_eq_false_iff_ne.mpr c5
            have c5b1 : ((bt a0 x4_1) != 92) = true := bne_iff_ne.mpr c5
            by_cases c11 : (bt a0 x4_1) = 44
            · rw [if_pos c11] at H
              have c11b0 : ((bt a0 x4_1) == 44) = true := beq_iff_eq.mpr c11
              have c11b1 : ((bt a0 x4_1) != 44) = false := bne_eq_false_iff_eq.mpr c11
              clear c11
              by_cases c12 : x3_1.length < 140737488355328
              · rw [if_pos c12] at H
                have LMc12 := Aside0.mk c12
                clear c12
                obtain ⟨y107, hy107⟩ : ∃ y_ : List Int, y_ = (x3_1 ++ [92]) := ⟨_, rfl⟩
                replace H : (if y107.length < 140737488355328 then (fields_EscapeValue.l0 k1 a0 (y107 ++ [bt a0 x4_1]) (wrap64 (x4_1 + 1))) else (none)) = some r := by first | (rw [hy107]; with_reducible exact H) | (have H2_ := (Option.bind_some _ _).symm.trans H; rw [hy107]; with_reducible exact H2_) | (have H2_ := (Option.bind_some _ _).symm.trans H; with_reducible exact H2_) | with_reducible exact H | (rw [hy107]; exact H) | exact H
                have Ny107 := Aside0.mk hy107
                clear hy107
                by_cases c14 : y107.length < 140737488355328
                · rw [if_pos c14] at H
                  have LMc14 := Aside0.mk c14
                  clear c14
                  obtain ⟨y110, hy110⟩ : ∃ y_ : List Int, y_ = (y107 ++ [bt a0 x4_1]) := ⟨_, rfl⟩
                  replace H : (fields_EscapeValue.l0 k1 a0 y110 (wrap64 (x4_1 + 1))) = some r := by first | (rw [hy110]; with_reducible exact H) | (have H2_ := (Option.bind_some _ _).symm.trans H; rw [hy110]; with_reducible exact H2_) | (have H2_ := (Option.bind_some _ _).symm.trans H; with_reducible exact H2_) | with_reducible exact H | (rw [hy110]; exact H) | exact H
                  have Ny110 := Aside0.mk hy110
                  clear hy110
                  have H' := Aside0.mk H
                  clear H
                  have p4 : 0 ≤ (x4_1 : Int) := of_decide_eq_true (by first | (with_reducible assumption) | assumption)
                  have q4 : x4_1 < (a0.size : Int) := of_decide_eq_true (by first | (with_reducible assumption) | assumption)
                  have hx4 := bt_at a0 x4_1
                  replace p4 := eq_true p4
                  replace q4 := eq_true q4
                  go_wp2_with (first | ((with_reducible refine gate_builtin (b := .append) (xs := #[.tmp 18, .tmp 19]) rfl ?_); at_builtin; refine Kd.R_append (Kd.int .u8) (w0 := w) w.heap.size rfl (.tmp 18) (.tmp 19) 58 5 (.int .u8 0) 1 rfl Tryz.underlying58 infoE rfl (by decide) (by omega) u3 x3_1 92 [.int .u8 92] (fun _ => True) (fun _ => False) rfl rfl ?aP (fun _ hk => hk.elim) ?aF ?aO ?aB ?aS ?aL ?_; (case aP => exact rfl); (case aB => exact (by repeat (first | (with_reducible first | exact HB.out | apply below_alloc | apply pw_below_drewN | apply below_drew1) | exact HB.out))); (case aF => exact (fun _ _ => trivial)); (case aO => exact (by (with_reducible repeat (first | apply Kd.R_alloc | apply Kd.R_drewN | apply Kd.R_drew)); exact HO_3.out)); (case aS => exact (below_size (by repeat (first | (with_reducible first | exact HB.out | apply below_alloc | apply pw_below_drewN | apply below_drew1) | exact HB.out)))); (case aL => have := LMc12.out; omega); intro v108 w15 ho hb hg hat; rw [← Ny107.out] at ho; have n0_ := Aside0.mk (hb); have n1_ := Aside0.mk (ho); clear HB; clear HO_3; have HB := n0_; have HO109 := n1_; clear n0_ n1_; clear ho hb hg hat; have p13 : 0 ≤ (x4_1 : Int) := of_decide_eq_true (by first | (with_reducible assumption) | assumption); have q13 : x4_1 < (a0.size : Int) := of_decide_eq_true (by first | (with_reducible assumption) | assumption); have hx13 := bt_at a0 x4_1; replace p13 := eq_true p13; replace q13 := eq_true q13) | ((with_reducible refine gate_builtin (b := .append) (xs := #[.tmp 21, .tmp 25]) rfl ?_); at_builtin; refine Kd.R_append (Kd.int .u8) (w0 := w) w.heap.size rfl (.tmp 21) (.tmp 25) 58 5 (.int .u8 0) 1 rfl Tryz.underlying58 infoE rfl (by decide) (by omega) v108 y107 (bt a0 x4_1) [.int .u8 (bt a0 x4_1)] (fun _ => True) (fun _ => False) rfl rfl ?aP (fun _ hk => hk.elim) ?aF ?aO ?aB ?aS ?aL ?_; (case aP => exact rfl); (case aB => exact (by repeat (first | (with_reducible first | exact HB.out | apply below_alloc | apply pw_below_drewN | apply below_drew1) | exact HB.out))); (case aF => exact (fun _ _ => trivial)); (case aO => exact (by (with_reducible repeat (first | apply Kd.R_alloc | apply Kd.R_drewN | apply Kd.R_drew)); exact HO109.out)); (case aS => exact (below_size (by repeat (first | (with_reducible first | exact HB.out | apply below_alloc | apply pw_below_drewN | apply below_drew1) | exact HB.out)))); (case aL => have := LMc14.out; omega); intro v111 w16 ho hb hg hat; rw [← Ny110.out] at ho; have n0_ := Aside0.mk (hb); have n1_ := Aside0.mk (ho); clear HB; clear HO109; have HB := n0_; have HO112 := n1_; clear n0_ n1_; clear ho hb hg hat))
                  go_roundg k1
                  case measure => have := HK1.out; omega
                  case rel => exact ⟨(y110), (wrap64 (x4_1 + 1)), (by first | rfl | (simp; done) | (simp [*]; done)), H', ⟨by have := HK1.out; omega⟩, ⟨by (with_reducible repeat (first | apply Kd.R_alloc | apply Kd.R_drewN | apply Kd.R_drew)); exact HO112.out⟩, ⟨by repeat (first | (with_reducible first | exact HB.out | apply below_alloc | apply pw_below_drewN | apply below_drew1) | exact HB.out)⟩⟩
                · rw [if_neg c14] at H
                  exact absurd H (by simp)
              · rw [if_neg c12] at H
                exact absurd H (by simp)
            · rw [if_neg c11] at H
              have c11b0 : ((bt a0 x4_1) == 44) = false := beq_eq_false_iff_ne.mpr c11
              have c11b1 : ((bt a0 x4_1) != 44) = true := bne_iff_ne.mpr c11
              by_cases c17 : (bt a0 x4_1) = 61
              · rw [if_pos c17] at H
                have c17b0 : ((bt a0 x4_1) == 61) = true := beq_iff_eq.mpr c17
                have c17b1 : ((bt a0 x4_1) != 61) = false := bne_eq_false_iff_eq.mpr c17
                clear c17
                by_cases c18 : x3_1.length < 140737488355328
                · rw [if_pos c18] at H
                  have LMc18 := Aside0.mk c18
                  clear c18
                  obtain ⟨y113, hy113⟩ : ∃ y_ : List Int, y_ = (x3_1 ++ [92]) := ⟨_, rfl⟩
                  replace H : (if y113.length < 140737488355328 then (fields_EscapeValue.l0 k1 a0 (y113 ++ [bt a0 x4_1]) (wrap64 (x4_1 + 1))) else (none)) = some r := by first | (rw [hy113]; with_reducible exact H) | (have H2_ := (Option.bind_some _ _).symm.trans H; rw [hy113]; with_reducible exact H2_) | (have H2_ := (Option.bind_some _ _).symm.trans H; with_reducible exact H2_) | with_reducible exact H | (rw [hy113]; exact H) | exact H
                  have Ny113 := Aside0.mk hy113
                  clear hy113
                  by_cases c20 : y113.length < 140737488355328
                  · rw [if_pos c20] at H
                    have LMc20 := Aside0.mk c20
                    clear c20
                    obtain ⟨y116, hy116⟩ : ∃ y_ : List Int, y_ = (y113 ++ [bt a0 x4_1]) := ⟨_, rfl⟩
                    replace H : (fields_EscapeValue.l0 k1 a0 y116 (wrap64 (x4_1 + 1))) = some r := by first | (rw [hy116]; with_reducible exact H) | (have H2_ := (Option.bind_some _ _).symm.trans H; rw [hy116]; with_reducible exact H2_) | (have H2_ := (Option.bind_some _ _).symm.trans H; with_reducible exact H2_) | with_reducible exact H | (rw [hy116]; exact H) | exact H
                    have Ny116 := Aside0.mk hy116
                    clear hy116
                    have H' := Aside0.mk H
                    clear H
                    have p4 : 0 ≤ (x4_1 : Int) := of_decide_eq_true (by first | (with_reducible assumption) | assumption)
                    have q4 : x4_1 < (a0.size : Int) := of_decide_eq_true (by first | (with_reducible assumption) | assumption)
                    have hx4 := bt_at a0 x4_1
                    replace p4 := eq_true p4
                    replace q4 := eq_true q4
                    go_wp2_with (first | ((with_reducible refine gate_builtin (b := .append) (xs := #[.tmp 18, .tmp 19]) rfl ?_); at_builtin; refine Kd.R_append (Kd.int .u8) (w0 := w) w.heap.size rfl (.tmp 18) (.tmp 19) 58 5 (.int .u8 0) 1 rfl Tryz.underlying58 infoE rfl (by decide) (by omega) u3 x3_1 92 [.int .u8 92] (fun _ => True) (fun _ => False) rfl rfl ?aP (fun _ hk => hk.elim) ?aF ?aO ?aB ?aS ?aL ?_; (case aP => exact rfl); (case aB => exact (by repeat (first | (with_reducible first | exact HB.out | apply below_alloc | apply pw_below_drewN | apply below_drew1) | exact HB.out))); (case aF => exact (fun _ _ => trivial)); (case aO => exact (by (with_reducible repeat (first | apply Kd.R_alloc | apply Kd.R_drewN | apply Kd.R_drew)); exact HO_3.out)); (case aS => exact (below_size (by repeat (first | (with_reducible first | exact HB.out | apply below_alloc | apply pw_below_drewN | apply below_drew1) | exact HB.out)))); (case aL => have := LMc18.out; omega); intro v114 w21 ho hb hg hat; rw [← Ny113.out] at ho; have n0_ := Aside0.mk (hb); have n1_ := Aside0.mk (ho); clear HB; clear HO_3; have HB := n0_; have HO115 := n1_; clear n0_ n1_; clear ho hb hg hat; have p19 : 0 ≤ (x4_1 : Int) := of_decide_eq_true (by first | (with_reducible assumption) | assumption); have q19 : x4_1 < (a0.size : Int) := of_decide_eq_true (by first | (with_reducible assumption) | assumption); have hx19 := bt_at a0 x4_1; replace p19 := eq_true p19; replace q19 := eq_true q19) | ((with_reducible refine gate_builtin (b := .append) (xs := #[.tmp 21, .tmp 25]) rfl ?_); at_builtin; refine Kd.R_append (Kd.int .u8) (w0 := w) w.heap.size rfl (.tmp 21) (.tmp 25) 58 5 (.int .u8 0) 1 rfl Tryz.underlying58 infoE rfl (by decide) (by omega) v114 y113 (bt a0 x4_1) [.int .u8 (bt a0 x4_1)] (fun _ => True) (fun _ => False) rfl rfl ?aP (fun _ hk => hk.elim) ?aF ?aO ?aB ?aS ?aL ?_; (case aP => exact rfl); (case aB => exact (by repeat (first | (with_reducible first | exact HB.out | apply below_alloc | apply pw_below_drewN | apply below_drew1) | exact HB.out))); (case aF => exact (fun _ _ => trivial)); (case aO => exact (by (with_reducible repeat (first | apply Kd.R_alloc | apply Kd.R_drewN | apply Kd.R_drew)); exact HO115.out)); (case aS => exact (below_size (by repeat (first | (with_reducible first | exact HB.out | apply below_alloc | apply pw_below_drewN | apply below_drew1) | exact HB.out)))); (case aL => have := LMc20.out; omega); intro v117 w22 ho hb hg hat; rw [← Ny116.out] at ho; have n0_ := Aside0.mk (hb); have n1_ := Aside0.mk (ho); clear HB; clear HO115; have HB := n0_; have HO118 := n1_; clear n0_ n1_; clear ho hb hg hat))
                    go_roundg k1
                    case measure => have := HK1.out; omega
                    case rel => exact ⟨(y116), (wrap64 (x4_1 + 1)), (by first | rfl | (simp; done) | (simp [*]; done)), H', ⟨by have := HK1.out; omega⟩, ⟨by (with_reducible repeat (first | apply Kd.R_alloc | apply Kd.R_drewN | apply Kd.R_drew)); exact HO118.out⟩, ⟨by repeat (first | (with_reducible first | exact HB.out | apply below_alloc | apply pw_below_drewN | apply below_drew1) | exact HB.out)⟩⟩
                  · rw [if_neg c20] at H
                    exact absurd H (by simp)
                · rw [if_neg c18] at H
                  exact absurd H (by simp)
              · rw [if_neg c17] at H
                have c17b0 : ((bt a0 x4_1) == 61) = false := beq_eq_false_iff_ne.mpr c17
                have c17b1 : ((bt a0 x4_1) != 61) = true := bne_iff_ne.mpr c17
                by_cases c24 : x3_1.length < 140737488355328
                · rw [if_pos c24] at H
                  have LMc24 := Aside0.mk c24
                  clear c24
                  obtain ⟨y119, hy119⟩ : ∃ y_ : List Int, y_ = (x3_1 ++ [bt a0 x4_1]) := ⟨_, rfl⟩
                  replace H : (fields_EscapeValue.l0 k1 a0 y119 (wrap64 (x4_1 + 1))) = some r := by first | (rw [hy119]; with_reducible exact H) | (have H2_ := (Option.bind_some _ _).symm.trans H; rw [hy119]; with_reducible exact H2_) | (have H2_ := (Option.bind_some _ _).symm.trans H; with_reducible exact H2_) | with_reducible exact H | (rw [hy119]; exact H) | exact H
                  have Ny119 := Aside0.mk hy119
                  clear hy119
                  have H' := Aside0.mk H
                  clear H
                  have p4 : 0 ≤ (x4_1 : Int) := of_decide_eq_true (by first | (with_reducible assumption) | assumption)
                  have q4 : x4_1 < (a0.size : Int) := of_decide_eq_true (by first | (with_reducible assumption) | assumption)
                  have hx4 := bt_at a0 x4_1
                  replace p4 := eq_true p4
                  replace q4 := eq_true q4
                  have p23 : 0 ≤ (x4_1 : Int) := of_decide_eq_true (by first | (with_reducible assumption) | assumption)
                  have q23 : x4_1 < (a0.size : Int) := of_decide_eq_true (by first | (with_reducible assumption) | assumption)
                  have hx23 := bt_at a0 x4_1
                  replace p23 := eq_true p23
                  replace q23 := eq_true q23
                  go_wp2_with (first | ((with_reducible refine gate_builtin (b := .append) (xs := #[.tmp 21, .tmp 25]) rfl ?_); at_builtin; refine Kd.R_append (Kd.int .u8) (w0 := w) w.heap.size rfl (.tmp 21) (.tmp 25) 58 5 (.int .u8 0) 1 rfl Tryz.underlying58 infoE rfl (by decide) (by omega) u3 x3_1 (bt a0 x4_1) [.int .u8 (bt a0 x4_1)] (fun _ => True) (fun _ => False) rfl rfl ?aP (fun _ hk => hk.elim) ?aF ?aO ?aB ?aS ?aL ?_; (case aP => exact rfl); (case aB => exact (by repeat (first | (with_reducible first | exact HB.out | apply below_alloc | apply pw_below_drewN | apply below_drew1) | exact HB.out))); (case aF => exact (fun _ _ => trivial)); (case aO => exact (by (with_reducible repeat (first | apply Kd.R_alloc | apply Kd.R_drewN | apply Kd.R_drew)); exact HO_3.out)); (case aS => exact (below_size (by repeat (first | (with_reducible first | exact HB.out | apply below_alloc | apply pw_below_drewN | apply below_drew1) | exact HB.out)))); (case aL => have := LMc24.out; omega); intro v120 w25 ho hb hg hat; rw [← Ny119.out] at ho; have n0_ := Aside0.mk (hb); have n1_ := Aside0.mk (ho); clear HB; clear HO_3; have HB := n0_; have HO121 := n1_; clear n0_ n1_; clear ho hb hg hat))
                  go_roundg k1
                  case measure => have := HK1.out; omega
                  case rel => exact ⟨(y119), (wrap64 (x4_1 + 1)), (by first | rfl | (simp; done) | (simp [*]; done)), H', ⟨by have := HK1.out; omega⟩, ⟨by (with_reducible repeat (first | apply Kd.R_alloc | apply Kd.R_drewN | apply Kd.R_drew)); exact HO121.out⟩, ⟨by repeat (first | (with_reducible first | exact HB.out | apply below_alloc | apply pw_below_drewN | apply below_drew1) | exact HB.out)⟩⟩
                · rw [if_neg c24] at H
                  exact absurd H (by simp)
        · rw [if_neg c3] at H
          exact absurd H (by simp)
      · rw [if_neg c2] at H
        have c2b0 : decide (x4_1 < (a0.size : Int)) = false := decide_eq_false c2
        clear c2
        obtain rfl := Option.some.inj H
        have hcv26 := own_string (P := Tryz.prog) Tryz.underlying58 Tryz.underlying5 Tryz.underlying9 (Kd.own_of_R HO_3.out); have hcv26d := (fun nd_ => own_string (P := Tryz.prog) Tryz.underlying58 Tryz.underlying5 Tryz.underlying9 (Kd.own_of_R (Kd.R_drewN HO_3.out nd_)))
        go_wp2
        go_ret
        exact ⟨by first | rfl | (simp [errW_none, errW_some] <;> rfl) | (simp [*, errW_none, errW_some] <;> rfl) | (exfalso; contradiction), by repeat (first | (with_reducible first | exact HB.out | apply below_alloc | apply pw_below_drewN | apply below_drew1) | exact HB.out)⟩


/-- Bytes as numbers. -/
def nums (l : List UInt8) : List Int := l.map (fun c => (c.toNat : Int))
theorem nums_str (l : List UInt8) : strOfNums (nums l) = ⟨l.toArray⟩ := by
  apply ext
  unfold strOfNums nums
  rw [data_mk, data_mk, List.map_map]
  have : ((fun n : Int => UInt8.ofNat n.toNat) ∘ fun c : UInt8 => (c.toNat : Int)) = id := by
    funext c; simp
  rw [this, List.map_id]
theorem nums_append (a b : List UInt8) : nums (a ++ b) = nums a ++ nums b := by unfold nums; rw [List.map_append]
theorem nums_len (l : List UInt8) : (nums l).length = l.length := by unfold nums; rw [List.length_map]
theorem bt_eq {c d : UInt8} {n : Int} (hn : (d.toNat : Int) = n) : ((c.toNat : Int) = n) ↔ c = d := ⟨fun h => UInt8.toNat_inj.1 (by omega), fun h => by rw [h]; exact hn⟩

theorem eq92 (c : UInt8) : ((c.toNat : Int) = 92) ↔ c = 92 := bt_eq (d := 92) (n := 92) rfl
theorem eq44 (c : UInt8) : ((c.toNat : Int) = 44) ↔ c = 44 := bt_eq (d := 44) (n := 44) rfl
theorem eq61 (c : UInt8) : ((c.toNat : Int) = 61) ↔ c = 61 := bt_eq (d := 61) (n := 61) rfl
theorem escape_f (s : ByteArray) (hs : s.size ≤ 2147483647) : Ev (fun k => fields_EscapeValue.f k s) ⟨(esc s.data.toList).toArray⟩ := by
  have hz := size_len s
  have step : ∀ n i : Nat, i + n = s.data.toList.length → Ev (fun k => fields_EscapeValue.l0 k s (nums (esc (s.data.toList.take i))) (i : Int)) ⟨(esc s.data.toList).toArray⟩ := by
    intro n
    induction n with
    | zero =>
      intro i hi
      refine Evs.at1 fun k => ?_
      rw [fields_EscapeValue.l0, if_neg (by omega), List.take_of_length_le (by omega), nums_str]
    | succ n ih =>
      intro i hi
      have h : i < s.data.toList.length := by omega
      have ht : s.data.toList.take (i + 1) = s.data.toList.take i ++ [s.data.toList[i]] := List.take_succ_eq_append_getElem h
      have go := ih (i + 1) (by omega)
      have hl := esc_len (s.data.toList.take i)
      rw [List.length_take] at hl
      have hll : (nums (esc (s.data.toList.take i))).length ≤ 4294967296 := by rw [nums_len]; omega
      refine Ev.step (fun k => ?_) go
      have hb := bt_nat s i h
      by_cases hc : sign s.data.toList[i] = true
      · have e : nums (esc (s.data.toList.take (i + 1))) = (nums (esc (s.data.toList.take i)) ++ [92]) ++ [(s.data.toList[i].toNat : Int)] := by
          rw [ht, esc_snoc, if_pos hc, nums_append, List.append_assoc]; rfl
        have hl2 : (nums (esc (s.data.toList.take i)) ++ [92]).length < 140737488355328 := by simp; omega
        rcases sign_cases hc with h1 | h1 | h1
        · rw [fields_EscapeValue.l0, if_pos (by omega), if_pos (by omega), hb, if_pos (by rw [h1]; rfl), if_pos (by omega), Option.bind_some, if_pos hl2, ← e, Small.w64s i (by omega)]
        · rw [fields_EscapeValue.l0, if_pos (by omega), if_pos (by omega), hb, if_neg (by rw [h1]; decide), if_pos (by rw [h1]; rfl), if_pos (by omega), Option.bind_some, if_pos hl2, ← e, Small.w64s i (by omega)]
        · rw [fields_EscapeValue.l0, if_pos (by omega), if_pos (by omega), hb, if_neg (by rw [h1]; decide), if_neg (by rw [h1]; decide), if_pos (by rw [h1]; rfl), if_pos (by omega), Option.bind_some, if_pos hl2, ← e, Small.w64s i (by omega)]
      · have e : nums (esc (s.data.toList.take (i + 1))) = nums (esc (s.data.toList.take i)) ++ [(s.data.toList[i].toNat : Int)] := by
          rw [ht, esc_snoc, if_neg hc, nums_append]; rfl
        have hn : s.data.toList[i] ≠ 92 ∧ s.data.toList[i] ≠ 44 ∧ s.data.toList[i] ≠ 61 := by
          unfold sign at hc
          simp only [Bool.or_eq_true, beq_iff_eq, not_or] at hc
          exact ⟨hc.1.1, hc.1.2, hc.2⟩
        rw [fields_EscapeValue.l0, if_pos (by omega), if_pos (by omega), hb, if_neg (fun h => hn.1 ((eq92 _).1 h)), if_neg (fun h => hn.2.1 ((eq44 _).1 h)), if_neg (fun h => hn.2.2 ((eq61 _).1 h)), if_pos (by omega), ← e, Small.w64s i (by omega)]
  exact step s.data.toList.length 0 (by omega)

theorem sign_f (c : UInt8) : spec_fieldSign.f (c.toNat : Int) = some (sign c) := by
  unfold spec_fieldSign.f sign
  by_cases h1 : c = 92
  · rw [if_pos ((eq92 _).2 h1), h1]; rfl
  by_cases h2 : c = 44
  · rw [if_neg (fun h => h1 ((eq92 _).1 h)), if_pos ((eq44 _).2 h2), h2]; rfl
  rw [if_neg (fun h => h1 ((eq92 _).1 h)), if_neg (fun h => h2 ((eq44 _).1 h)), beq_eq_false_iff_ne.2 h1, beq_eq_false_iff_ne.2 h2, Bool.false_or, Bool.false_or]
  congr 1
  rw [Bool.eq_iff_iff, beq_iff_eq, beq_iff_eq]
  exact eq61 c
theorem spec_f (s : ByteArray) (hs : s.size ≤ 2147483647) : Ev (fun k => spec_Escape.f k s) ⟨(esc s.data.toList).toArray⟩ := by
  have hz := size_len s
  have step : ∀ n i : Nat, i + n = s.data.toList.length → Ev (fun k => spec_Escape.l0 k s ⟨(esc (s.data.toList.take i)).toArray⟩ (i : Int)) ⟨(esc s.data.toList).toArray⟩ := by
    intro n
    induction n with
    | zero =>
      intro i hi
      refine Evs.at1 fun k => ?_
      rw [spec_Escape.l0, if_neg (by omega), List.take_of_length_le (by omega)]
    | succ n ih =>
      intro i hi
      have h : i < s.data.toList.length := by omega
      have ht : s.data.toList.take (i + 1) = s.data.toList.take i ++ [s.data.toList[i]] := List.take_succ_eq_append_getElem h
      have go := ih (i + 1) (by omega)
      have hl := esc_len (s.data.toList.take i)
      rw [List.length_take] at hl
      have hsz : (⟨(esc (s.data.toList.take i)).toArray⟩ : ByteArray).size ≤ 4294967296 := by rw [size_len, data_mk]; omega
      have hone : strOfNums [(s.data.toList[i].toNat : Int)] = ⟨#[s.data.toList[i]]⟩ := nums_str [s.data.toList[i]]
      refine Ev.step (fun k => ?_) go
      have hb := bt_nat s i h
      have h92 : (⟨#[92]⟩ : ByteArray).size = 1 := rfl
      have hc1 : (⟨#[s.data.toList[i]]⟩ : ByteArray).size = 1 := rfl
      by_cases hc : sign s.data.toList[i] = true
      · have e : (⟨(esc (s.data.toList.take (i + 1))).toArray⟩ : ByteArray) = ((⟨(esc (s.data.toList.take i)).toArray⟩ : ByteArray) ++ (⟨#[92]⟩ : ByteArray)) ++ (⟨#[s.data.toList[i]]⟩ : ByteArray) := by
          apply ext
          rw [data_append, data_append]
          show esc _ = (esc _ ++ [92]) ++ [s.data.toList[i]]
          rw [ht, esc_snoc, if_pos hc, List.append_assoc]; rfl
        rw [spec_Escape.l0, if_pos (by omega), if_pos (by omega), hb, sign_f, Option.bind_some, hc, if_pos rfl, if_pos (by omega), Option.bind_some, hone, if_pos (by rw [ByteArray.size_append]; omega), ← e, Small.w64s i (by omega)]
      · have e : (⟨(esc (s.data.toList.take (i + 1))).toArray⟩ : ByteArray) = (⟨(esc (s.data.toList.take i)).toArray⟩ : ByteArray) ++ (⟨#[s.data.toList[i]]⟩ : ByteArray) := by
          apply ext
          rw [data_append]
          show esc _ = esc _ ++ [s.data.toList[i]]
          rw [ht, esc_snoc, if_neg hc]
        rw [spec_Escape.l0, if_pos (by omega), if_pos (by omega), hb, sign_f, Option.bind_some, if_neg hc, Option.bind_some, hone, if_pos (by omega), ← e, Small.w64s i (by omega)]
  exact step s.data.toList.length 0 (by omega)

theorem escape_any (s : ByteArray) (hs : s.size ≤ 2147483647) (w : World) : Calls Tryz.prog 104 #[.string s] w fun e w' => e = .returned (.string ⟨(esc s.data.toList).toArray⟩) ∧ Below w.heap.size w w' := by
  obtain ⟨K, hK⟩ := escape_f s hs
  exact fields_EscapeValue.calls K s _ w (hK K (Nat.le_refl _))
end Go.Proofs.YthejejeginnbdaaGreatDoor.FdE
