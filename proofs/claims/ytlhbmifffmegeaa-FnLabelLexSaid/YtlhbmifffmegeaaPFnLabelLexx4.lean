/- Functions of the program as plain Lean functions, and that the machine's calls do what these say: written for this claim by wip/myprint.py over the kit's print.py. -/
import Derived.Test.YtlhbmifffmegeaaPFnLabelLexx0
import Derived.Test.YtlhbmifffmegeaaPFnLabelLexx3
namespace Go.Proofs.Ytlhbmifffmegeaa.PFnLabelLex
open Go.RowKit Go.Proofs.YtlhbmifffmegeaaW.PrintWords Go.Proofs.YtlhbmifffmegeaaW.PrintLast Go.Proofs.YtlhbmifffmegeaaW.PrintMore
attribute [local go_sem] max2_int min2_int max_two min_two max_three min_three max_four min_four   -- for this text's walks alone
set_option linter.unusedVariables false
set_option linter.unusedSimpArgs false

/-! ### spec_Pieces: function 5 -/
mutual
def spec_Pieces.l0 : Nat → ByteArray → List (S25) → Int → Option ((List (S25)))
  | 0, _, _, _ => none
  | k + 1, x0, x3, x4 => if x4 < (x0.size : Int) then (if 0 ≤ x4 then ((spec_blank.f (bt x0 x4)).bind fun t175 => (if t175 = true then (spec_Pieces.l0 k x0 x3 (wrap64 (x4 + 1))) else ((spec_sign.f k (bt x0 x4)).bind fun t176 => (if t176 = true then (if (wrap64 (x4 + 1)) < (x0.size : Int) then (if x4 ≤ (wrap64 (x4 + 2)) then (if (wrap64 (x4 + 2)) ≤ (x0.size : Int) then ((spec_pieceOf.f (x0.extract (x4 : Int).toNat ((wrap64 (x4 + 2)) : Int).toNat)).bind fun t177 => (if t177 > 0 then ((spec_pieceOf.f (x0.extract (x4 : Int).toNat ((wrap64 (x4 + 2)) : Int).toNat)).bind fun t178 => (if x3.length < 5864062014805 then (spec_Pieces.l0 k x0 (x3 ++ [(⟨t178, x0.extract (x4 : Int).toNat ((wrap64 (x4 + 2)) : Int).toNat⟩ : S25)]) (wrap64 (x4 + 2))) else (none))) else (if x4 ≤ (wrap64 (x4 + 1)) then (if (wrap64 (x4 + 1)) ≤ (x0.size : Int) then ((spec_pieceOf.f (x0.extract (x4 : Int).toNat ((wrap64 (x4 + 1)) : Int).toNat)).bind fun t182 => (if x3.length < 5864062014805 then (spec_Pieces.l0 k x0 (x3 ++ [(⟨t182, x0.extract (x4 : Int).toNat ((wrap64 (x4 + 1)) : Int).toNat⟩ : S25)]) (wrap64 (x4 + 1))) else (none))) else (none)) else (none)))) else (none)) else (none)) else (if x4 ≤ (wrap64 (x4 + 1)) then (if (wrap64 (x4 + 1)) ≤ (x0.size : Int) then ((spec_pieceOf.f (x0.extract (x4 : Int).toNat ((wrap64 (x4 + 1)) : Int).toNat)).bind fun t186 => (if x3.length < 5864062014805 then (spec_Pieces.l0 k x0 (x3 ++ [(⟨t186, x0.extract (x4 : Int).toNat ((wrap64 (x4 + 1)) : Int).toNat⟩ : S25)]) (wrap64 (x4 + 1))) else (none))) else (none)) else (none))) else (spec_Pieces.l1 k x0 x3 x4 1))))) else (none)) else (some x3)
def spec_Pieces.j2 : Nat → ByteArray → List (S25) → Int → Int → Option ((List (S25)))
  | 0, _, _, _, _ => none
  | k + 1, x0, x3, x4, x5 => if 0 ≤ x4 then (if x4 ≤ (wrap64 (x4 + x5)) then (if (wrap64 (x4 + x5)) ≤ (x0.size : Int) then (if (x0.extract (x4 : Int).toNat ((wrap64 (x4 + x5)) : Int).toNat).toList = ([105, 110] : List UInt8) then (if (x0.extract (x4 : Int).toNat ((wrap64 (x4 + x5)) : Int).toNat).toList = ([110, 111, 116, 105, 110] : List UInt8) then (if x3.length < 5864062014805 then (spec_Pieces.l0 k x0 (x3 ++ [(⟨12, x0.extract (x4 : Int).toNat ((wrap64 (x4 + x5)) : Int).toNat⟩ : S25)]) (wrap64 (x4 + x5))) else (none)) else (if x3.length < 5864062014805 then (spec_Pieces.l0 k x0 (x3 ++ [(⟨9, x0.extract (x4 : Int).toNat ((wrap64 (x4 + x5)) : Int).toNat⟩ : S25)]) (wrap64 (x4 + x5))) else (none))) else (if (x0.extract (x4 : Int).toNat ((wrap64 (x4 + x5)) : Int).toNat).toList = ([110, 111, 116, 105, 110] : List UInt8) then (if x3.length < 5864062014805 then (spec_Pieces.l0 k x0 (x3 ++ [(⟨12, x0.extract (x4 : Int).toNat ((wrap64 (x4 + x5)) : Int).toNat⟩ : S25)]) (wrap64 (x4 + x5))) else (none)) else (if x3.length < 5864062014805 then (spec_Pieces.l0 k x0 (x3 ++ [(⟨8, x0.extract (x4 : Int).toNat ((wrap64 (x4 + x5)) : Int).toNat⟩ : S25)]) (wrap64 (x4 + x5))) else (none)))) else (none)) else (none)) else (none)
def spec_Pieces.l1 : Nat → ByteArray → List (S25) → Int → Int → Option ((List (S25)))
  | 0, _, _, _, _ => none
  | k + 1, x0, x3, x4, x5 => if (wrap64 (x4 + x5)) < (x0.size : Int) then (if 0 ≤ (wrap64 (x4 + x5)) then ((spec_blank.f (bt x0 (wrap64 (x4 + x5)))).bind fun t190 => (if t190 = true then (spec_Pieces.j2 k x0 x3 x4 x5) else ((spec_sign.f k (bt x0 (wrap64 (x4 + x5)))).bind fun t191 => (if t191 = true then (spec_Pieces.j2 k x0 x3 x4 x5) else (spec_Pieces.l1 k x0 x3 x4 (wrap64 (x5 + 1))))))) else (none)) else (spec_Pieces.j2 k x0 x3 x4 x5)
end
def spec_Pieces.f (k : Nat) (a0 : ByteArray) : Option ((List (S25))) := spec_Pieces.l0 k a0 ([] : List (S25)) 0
theorem spec_Pieces.mono_l : ∀ k, (∀ y0 y1 y2, LeO (spec_Pieces.l0 k y0 y1 y2) (spec_Pieces.l0 (k + 1) y0 y1 y2)) ∧ (∀ y0 y1 y2 y3, LeO (spec_Pieces.j2 k y0 y1 y2 y3) (spec_Pieces.j2 (k + 1) y0 y1 y2 y3)) ∧ (∀ y0 y1 y2 y3, LeO (spec_Pieces.l1 k y0 y1 y2 y3) (spec_Pieces.l1 (k + 1) y0 y1 y2 y3))
  | 0 => ⟨fun _ _ _ r h => by simp [spec_Pieces.l0] at h, fun _ _ _ _ r h => by simp [spec_Pieces.j2] at h, fun _ _ _ _ r h => by simp [spec_Pieces.l1] at h⟩
  | k + 1 => by
    obtain ⟨ih0, ih1, ih2⟩ := spec_Pieces.mono_l k
    refine ⟨?_, ?_, ?_⟩
    · intro y0 y1 y2
      unfold spec_Pieces.l0
      repeat' first
      | (with_reducible exact ih0 _ _ _)
      | (with_reducible exact ih1 _ _ _ _)
      | (with_reducible exact ih2 _ _ _ _)
      | (with_reducible exact spec_sign.mono _ _)
      | (with_reducible exact LeO.refl _)
      | (with_reducible exact LeO.none _)
      | (with_reducible refine LeO.ite ?_ ?_)
      | (with_reducible refine LeO.bind ?_ (fun _ => ?_))
      | exact ih0 _ _ _
      | exact ih1 _ _ _ _
      | exact ih2 _ _ _ _
      | exact spec_sign.mono _ _
      | exact LeO.none _
      | refine LeO.ite ?_ ?_
      | refine LeO.bind ?_ (fun _ => ?_)
    · intro y0 y1 y2 y3
      unfold spec_Pieces.j2
      repeat' first
      | (with_reducible exact ih0 _ _ _)
      | (with_reducible exact ih1 _ _ _ _)
      | (with_reducible exact ih2 _ _ _ _)
      | (with_reducible exact spec_sign.mono _ _)
      | (with_reducible exact LeO.refl _)
      | (with_reducible exact LeO.none _)
      | (with_reducible refine LeO.ite ?_ ?_)
      | (with_reducible refine LeO.bind ?_ (fun _ => ?_))
      | exact ih0 _ _ _
      | exact ih1 _ _ _ _
      | exact ih2 _ _ _ _
      | exact spec_sign.mono _ _
      | exact LeO.none _
      | refine LeO.ite ?_ ?_
      | refine LeO.bind ?_ (fun _ => ?_)
    · intro y0 y1 y2 y3
      unfold spec_Pieces.l1
      repeat' first
      | (with_reducible exact ih0 _ _ _)
      | (with_reducible exact ih1 _ _ _ _)
      | (with_reducible exact ih2 _ _ _ _)
      | (with_reducible exact spec_sign.mono _ _)
      | (with_reducible exact LeO.refl _)
      | (with_reducible exact LeO.none _)
      | (with_reducible refine LeO.ite ?_ ?_)
      | (with_reducible refine LeO.bind ?_ (fun _ => ?_))
      | exact ih0 _ _ _
      | exact ih1 _ _ _ _
      | exact ih2 _ _ _ _
      | exact spec_sign.mono _ _
      | exact LeO.none _
      | refine LeO.ite ?_ ?_
      | refine LeO.bind ?_ (fun _ => ?_)
theorem spec_Pieces.mono : ∀ a0 k, LeO (spec_Pieces.f k a0) (spec_Pieces.f (k + 1) a0) := by
  intro a0 k
  obtain ⟨ih0, ih1, ih2⟩ := spec_Pieces.mono_l k
  unfold spec_Pieces.f
  repeat' first
      | (with_reducible exact ih0 _ _ _)
      | (with_reducible exact ih1 _ _ _ _)
      | (with_reducible exact ih2 _ _ _ _)
      | (with_reducible exact spec_sign.mono _ _)
      | (with_reducible exact LeO.refl _)
      | (with_reducible exact LeO.none _)
      | (with_reducible refine LeO.ite ?_ ?_)
      | (with_reducible refine LeO.bind ?_ (fun _ => ?_))
      | exact ih0 _ _ _
      | exact ih1 _ _ _ _
      | exact ih2 _ _ _ _
      | exact spec_sign.mono _ _
      | exact LeO.none _
      | refine LeO.ite ?_ ?_
      | refine LeO.bind ?_ (fun _ => ?_)
def spec_Pieces.T18 : Bool × List (List Nat × List Nat) := (true, [([], []), ([], []), ([], []), ([], []), ([], []), ([3, 4], [3, 4]), ([1, 2, 5], [1, 2, 5]), ([6], [6]), ([], []), ([], []), ([], []), ([], []), ([10, 11], [10, 11]), ([8, 9, 12], [8, 9, 12]), ([7, 13], [7, 13]), ([14], [14]), ([0, 15, 7], [0, 15]), ([16, 16, 0, 1, 2, 3, 4, 5, 6, 7, 8, 9, 10, 11, 12, 13, 14, 15, 16], [0, 16])])
def spec_Pieces.B18 : List Nat := [0, 0, 0, 0, 0, 24, 62, 126, 0, 0, 0, 0, 3072, 7936, 16382, 32766, 65535, 131071]
theorem spec_Pieces.tab18 : rtab .any (opsOf Try.f5 18) = spec_Pieces.T18 := by kernel_rfl
theorem spec_Pieces.bits18 : waitsOk spec_Pieces.T18.2 spec_Pieces.B18 = true := by kernel_rfl
set_option maxHeartbeats 8000000 in
set_option maxRecDepth 100000 in
theorem spec_Pieces.calls (k : Nat) (a0 : ByteArray) (r : List (S25)) (w : World) (h : spec_Pieces.f k a0 = some r) :
    Calls Try.prog 5 #[.string a0] w fun e w' => ∃ v0_ : Value, e = .returned (v0_) ∧ Kd.R k25 25 w' w.heap.size (fun _ => True) v0_ r ∧ Below w.heap.size w w' := by
  have hu25 := Try.underlying25
  have HB := Aside0.mk (Below.refl w.heap.size w)
  have H : (spec_Pieces.l0 k a0 ([] : List (S25)) 0) = some r := h
  clear h
  have H' := Aside0.mk H
  clear H
  go_enter Try.func5, Try.ntmps5
  go_wp2
  go_loopg [3, 4] k (fun kq v3 v4 w' => ∃ (x3_1 : List (S25)) (x4_1 : Int), v4 = .int .i64 x4_1 ∧ Aside0 (spec_Pieces.l0 kq a0 x3_1 x4_1 = some r) ∧ Aside0 (kq ≤ k) ∧ Aside0 (Kd.R k25 25 w' w.heap.size (fun _ => True) v3 x3_1) ∧ Aside0 (Below w.heap.size w w'))
  case atStart => exact ⟨(([] : List (S25))), (0), (by first | rfl | (simp; done) | (simp [*]; done)), H', ⟨Nat.le_refl _⟩, ⟨by first | exact Kd.R_nil _ _ _ _ _ | exact Kd.N_nil _ _ _ _ _ | exact Kd.V_nil _ _ _ _ _ | exact Kd.Q_nil _ _ _ _ _ | exact Kd.S_nil _ _ _ _ _⟩, ⟨by repeat (first | (with_reducible first | exact HB.out | apply below_alloc | apply pw_below_drewN | apply below_drew1) | exact HB.out)⟩⟩
  case round =>
    clear H'
    obtain ⟨x3_1, x4_1, rfl, HA, HK1, HO_3, HB⟩ := hrel
    cases gk with
    | zero => exact absurd HA.out (by simp [spec_Pieces.l0])
    | succ k1 =>
      have H := HA.out
      clear HA
      simp only [spec_Pieces.l0] at H
      by_cases c2 : x4_1 < (a0.size : Int)
      · rw [if_pos c2] at H
        have c2b0 : decide (x4_1 < (a0.size : Int)) = true := decide_eq_true c2
        clear c2
        by_cases c3 : 0 ≤ x4_1
        · rw [if_pos c3] at H
          have c3b0 : decide (0 ≤ x4_1) = true := decide_eq_true c3
          clear c3
          replace H := Option.bind_eq_some_iff.mp H
          obtain ⟨t175, A50, H⟩ := H
          replace H : (if t175 = true then (spec_Pieces.l0 k1 a0 x3_1 (wrap64 (x4_1 + 1))) else ((spec_sign.f k1 (bt a0 x4_1)).bind fun t176 => (if t176 = true then (if (wrap64 (x4_1 + 1)) < (a0.size : Int) then (if x4_1 ≤ (wrap64 (x4_1 + 2)) then (if (wrap64 (x4_1 + 2)) ≤ (a0.size : Int) then ((spec_pieceOf.f (a0.extract (x4_1 : Int).toNat ((wrap64 (x4_1 + 2)) : Int).toNat)).bind fun t177 => (if t177 > 0 then ((spec_pieceOf.f (a0.extract (x4_1 : Int).toNat ((wrap64 (x4_1 + 2)) : Int).toNat)).bind fun t178 => (if x3_1.length < 5864062014805 then (spec_Pieces.l0 k1 a0 (x3_1 ++ [(⟨t178, a0.extract (x4_1 : Int).toNat ((wrap64 (x4_1 + 2)) : Int).toNat⟩ : S25)]) (wrap64 (x4_1 + 2))) else (none))) else (if x4_1 ≤ (wrap64 (x4_1 + 1)) then (if (wrap64 (x4_1 + 1)) ≤ (a0.size : Int) then ((spec_pieceOf.f (a0.extract (x4_1 : Int).toNat ((wrap64 (x4_1 + 1)) : Int).toNat)).bind fun t182 => (if x3_1.length < 5864062014805 then (spec_Pieces.l0 k1 a0 (x3_1 ++ [(⟨t182, a0.extract (x4_1 : Int).toNat ((wrap64 (x4_1 + 1)) : Int).toNat⟩ : S25)]) (wrap64 (x4_1 + 1))) else (none))) else (none)) else (none)))) else (none)) else (none)) else (if x4_1 ≤ (wrap64 (x4_1 + 1)) then (if (wrap64 (x4_1 + 1)) ≤ (a0.size : Int) then ((spec_pieceOf.f (a0.extract (x4_1 : Int).toNat ((wrap64 (x4_1 + 1)) : Int).toNat)).bind fun t186 => (if x3_1.length < 5864062014805 then (spec_Pieces.l0 k1 a0 (x3_1 ++ [(⟨t186, a0.extract (x4_1 : Int).toNat ((wrap64 (x4_1 + 1)) : Int).toNat⟩ : S25)]) (wrap64 (x4_1 + 1))) else (none))) else (none)) else (none))) else (spec_Pieces.l1 k1 a0 x3_1 x4_1 1)))) = some r := H
          have A5 := Aside0.mk A50
          clear A50
          by_cases c6 : t175 = true
          · subst c6
            have H1 : (spec_Pieces.l0 k1 a0 x3_1 (wrap64 (x4_1 + 1))) = some r := by rw [if_pos rfl] at H; exact H
            clear H
            have H := H1
            clear H1
            have H' := Aside0.mk H
            clear H
            have p4 : 0 ≤ (x4_1 : Int) := of_decide_eq_true (by first | (with_reducible assumption) | assumption)
            have q4 : x4_1 < (a0.size : Int) := of_decide_eq_true (by first | (with_reducible assumption) | assumption)
            have hx4 := bt_at a0 x4_1
            replace p4 := eq_true p4
            replace q4 := eq_true q4
            go_wp2_with (first | ((with_reducible refine gate_callee (f := 8) rfl ?_); refine goesL_ (some 66) rfl rfl Try.func8 (by kernel_rfl) rfl #[.int .u8 (bt a0 x4_1)] rfl (by (try simp only [List.map_toArray, List.map_cons, List.map_nil]); first | done | rfl | (simp only [List.length_drop, List.length_take]; rfl)) ?_; (with_reducible refine (spec_blank.calls (bt a0 x4_1) true _ A5.out).mono ?_); rintro e w' ⟨rfl, ⟨nd, rfl⟩⟩; refine ⟨_, rfl, ?_⟩))
            go_roundg k1
            case measure => have := HK1.out; omega
            case rel => exact ⟨(x3_1), (wrap64 (x4_1 + 1)), (by first | rfl | (simp; done) | (simp [*]; done)), H', ⟨by have := HK1.out; omega⟩, ⟨by (with_reducible repeat (first | apply Kd.R_alloc | apply Kd.R_drewN | apply Kd.R_drew)); exact HO_3.out⟩, ⟨by repeat (first | (with_reducible first | exact HB.out | apply below_alloc | apply pw_below_drewN | apply below_drew1) | exact HB.out)⟩⟩
          · replace c6 := Bool.eq_false_iff.mpr c6
            subst c6
            have H1 : ((spec_sign.f k1 (bt a0 x4_1)).bind fun t176 => (if t176 = true then (if (wrap64 (x4_1 + 1)) < (a0.size : Int) then (if x4_1 ≤ (wrap64 (x4_1 + 2)) then (if (wrap64 (x4_1 + 2)) ≤ (a0.size : Int) then ((spec_pieceOf.f (a0.extract (x4_1 : Int).toNat ((wrap64 (x4_1 + 2)) : Int).toNat)).bind fun t177 => (if t177 > 0 then ((spec_pieceOf.f (a0.extract (x4_1 : Int).toNat ((wrap64 (x4_1 + 2)) : Int).toNat)).bind fun t178 => (if x3_1.length < 5864062014805 then (spec_Pieces.l0 k1 a0 (x3_1 ++ [(⟨t178, a0.extract (x4_1 : Int).toNat ((wrap64 (x4_1 + 2)) : Int).toNat⟩ : S25)]) (wrap64 (x4_1 + 2))) else (none))) else (if x4_1 ≤ (wrap64 (x4_1 + 1)) then (if (wrap64 (x4_1 + 1)) ≤ (a0.size : Int) then ((spec_pieceOf.f (a0.extract (x4_1 : Int).toNat ((wrap64 (x4_1 + 1)) : Int).toNat)).bind fun t182 => (if x3_1.length < 5864062014805 then (spec_Pieces.l0 k1 a0 (x3_1 ++ [(⟨t182, a0.extract (x4_1 : Int).toNat ((wrap64 (x4_1 + 1)) : Int).toNat⟩ : S25)]) (wrap64 (x4_1 + 1))) else (none))) else (none)) else (none)))) else (none)) else (none)) else (if x4_1 ≤ (wrap64 (x4_1 + 1)) then (if (wrap64 (x4_1 + 1)) ≤ (a0.size : Int) then ((spec_pieceOf.f (a0.extract (x4_1 : Int).toNat ((wrap64 (x4_1 + 1)) : Int).toNat)).bind fun t186 => (if x3_1.length < 5864062014805 then (spec_Pieces.l0 k1 a0 (x3_1 ++ [(⟨t186, a0.extract (x4_1 : Int).toNat ((wrap64 (x4_1 + 1)) : Int).toNat⟩ : S25)]) (wrap64 (x4_1 + 1))) else (none))) else (none)) else (none))) else (spec_Pieces.l1 k1 a0 x3_1 x4_1 1))) = some r := by rw [if_neg (show ¬ (false = true) by decide)] at H; exact H
            clear H
            have H := H1
            clear H1
            replace H := Option.bind_eq_some_iff.mp H
            obtain ⟨t176, A80, H⟩ := H
            replace H : (if t176 = true then (if (wrap64 (x4_1 + 1)) < (a0.size : Int) then (if x4_1 ≤ (wrap64 (x4_1 + 2)) then (if (wrap64 (x4_1 + 2)) ≤ (a0.size : Int) then ((spec_pieceOf.f (a0.extract (x4_1 : Int).toNat ((wrap64 (x4_1 + 2)) : Int).toNat)).bind fun t177 => (if t177 > 0 then ((spec_pieceOf.f (a0.extract (x4_1 : Int).toNat ((wrap64 (x4_1 + 2)) : Int).toNat)).bind fun t178 => (if x3_1.length < 5864062014805 then (spec_Pieces.l0 k1 a0 (x3_1 ++ [(⟨t178, a0.extract (x4_1 : Int).toNat ((wrap64 (x4_1 + 2)) : Int).toNat⟩ : S25)]) (wrap64 (x4_1 + 2))) else (none))) else (if x4_1 ≤ (wrap64 (x4_1 + 1)) then (if (wrap64 (x4_1 + 1)) ≤ (a0.size : Int) then ((spec_pieceOf.f (a0.extract (x4_1 : Int).toNat ((wrap64 (x4_1 + 1)) : Int).toNat)).bind fun t182 => (if x3_1.length < 5864062014805 then (spec_Pieces.l0 k1 a0 (x3_1 ++ [(⟨t182, a0.extract (x4_1 : Int).toNat ((wrap64 (x4_1 + 1)) : Int).toNat⟩ : S25)]) (wrap64 (x4_1 + 1))) else (none))) else (none)) else (none)))) else (none)) else (none)) else (if x4_1 ≤ (wrap64 (x4_1 + 1)) then (if (wrap64 (x4_1 + 1)) ≤ (a0.size : Int) then ((spec_pieceOf.f (a0.extract (x4_1 : Int).toNat ((wrap64 (x4_1 + 1)) : Int).toNat)).bind fun t186 => (if x3_1.length < 5864062014805 then (spec_Pieces.l0 k1 a0 (x3_1 ++ [(⟨t186, a0.extract (x4_1 : Int).toNat ((wrap64 (x4_1 + 1)) : Int).toNat⟩ : S25)]) (wrap64 (x4_1 + 1))) else (none))) else (none)) else (none))) else (spec_Pieces.l1 k1 a0 x3_1 x4_1 1)) = some r := H
            have A8 := Aside0.mk A80
            clear A80
            by_cases c9 : t176 = true
            · subst c9
              have H1 : (if (wrap64 (x4_1 + 1)) < (a0.size : Int) then (if x4_1 ≤ (wrap64 (x4_1 + 2)) then (if (wrap64 (x4_1 + 2)) ≤ (a0.size : Int) then ((spec_pieceOf.f (a0.extract (x4_1 : Int).toNat ((wrap64 (x4_1 + 2)) : Int).toNat)).bind fun t177 => (if t177 > 0 then ((spec_pieceOf.f (a0.extract (x4_1 : Int).toNat ((wrap64 (x4_1 + 2)) : Int).toNat)).bind fun t178 => (if x3_1.length < 5864062014805 then (spec_Pieces.l0 k1 a0 (x3_1 ++ [(⟨t178, a0.extract (x4_1 : Int).toNat ((wrap64 (x4_1 + 2)) : Int).toNat⟩ : S25)]) (wrap64 (x4_1 + 2))) else (none))) else (if x4_1 ≤ (wrap64 (x4_1 + 1)) then (if (wrap64 (x4_1 + 1)) ≤ (a0.size : Int) then ((spec_pieceOf.f (a0.extract (x4_1 : Int).toNat ((wrap64 (x4_1 + 1)) : Int).toNat)).bind fun t182 => (if x3_1.length < 5864062014805 then (spec_Pieces.l0 k1 a0 (x3_1 ++ [(⟨t182, a0.extract (x4_1 : Int).toNat ((wrap64 (x4_1 + 1)) : Int).toNat⟩ : S25)]) (wrap64 (x4_1 + 1))) else (none))) else (none)) else (none)))) else (none)) else (none)) else (if x4_1 ≤ (wrap64 (x4_1 + 1)) then (if (wrap64 (x4_1 + 1)) ≤ (a0.size : Int) then ((spec_pieceOf.f (a0.extract (x4_1 : Int).toNat ((wrap64 (x4_1 + 1)) : Int).toNat)).bind fun t186 => (if x3_1.length < 5864062014805 then (spec_Pieces.l0 k1 a0 (x3_1 ++ [(⟨t186, a0.extract (x4_1 : Int).toNat ((wrap64 (x4_1 + 1)) : Int).toNat⟩ : S25)]) (wrap64 (x4_1 + 1))) else (none))) else (none)) else (none))) = some r := by rw [if_pos rfl] at H; exact H
              clear H
              have H := H1
              clear H1
              by_cases c10 : (wrap64 (x4_1 + 1)) < (a0.size : Int)
              · rw [if_pos c10] at H
                have c10b0 : decide ((wrap64 (x4_1 + 1)) < (a0.size : Int)) = true := decide_eq_true c10
                clear c10
                have c11b0 := eq_true (of_decide_eq_true (by first | (with_reducible assumption) | assumption) : 0 ≤ x4_1)
                by_cases c12 : x4_1 ≤ (wrap64 (x4_1 + 2))
                · rw [if_pos c12] at H
                  have c12b0 := eq_true c12
                  have c12b1 : decide (x4_1 ≤ (wrap64 (x4_1 + 2))) = true := decide_eq_true c12
                  by_cases c13 : (wrap64 (x4_1 + 2)) ≤ (a0.size : Int)
                  · rw [if_pos c13] at H
                    have c13b0 := eq_true c13
                    have c13b1 : decide ((wrap64 (x4_1 + 2)) ≤ (a0.size : Int)) = true := decide_eq_true c13
                    replace H := Option.bind_eq_some_iff.mp H
                    obtain ⟨t177, A140, H⟩ := H
                    replace H : (if t177 > 0 then ((spec_pieceOf.f (a0.extract (x4_1 : Int).toNat ((wrap64 (x4_1 + 2)) : Int).toNat)).bind fun t178 => (if x3_1.length < 5864062014805 then (spec_Pieces.l0 k1 a0 (x3_1 ++ [(⟨t178, a0.extract (x4_1 : Int).toNat ((wrap64 (x4_1 + 2)) : Int).toNat⟩ : S25)]) (wrap64 (x4_1 + 2))) else (none))) else (if x4_1 ≤ (wrap64 (x4_1 + 1)) then (if (wrap64 (x4_1 + 1)) ≤ (a0.size : Int) then ((spec_pieceOf.f (a0.extract (x4_1 : Int).toNat ((wrap64 (x4_1 + 1)) : Int).toNat)).bind fun t182 => (if x3_1.length < 5864062014805 then (spec_Pieces.l0 k1 a0 (x3_1 ++ [(⟨t182, a0.extract (x4_1 : Int).toNat ((wrap64 (x4_1 + 1)) : Int).toNat⟩ : S25)]) (wrap64 (x4_1 + 1))) else (none))) else (none)) else (none))) = some r := H
                    have A14 := Aside0.mk A140
                    clear A140
                    by_cases c15 : t177 > 0
                    · rw [if_pos c15] at H
                      have c15b0 : decide (0 < t177) = true := decide_eq_true c15
                      clear c15
                      have c16b0 := eq_true (of_decide_eq_true (by first | (with_reducible assumption) | assumption) : 0 ≤ x4_1)
                      have c17b0 := eq_true (of_decide_eq_true (by first | (with_reducible assumption) | assumption) : x4_1 ≤ (wrap64 (x4_1 + 2)))
                      have c18b0 := eq_true (of_decide_eq_true (by first | (with_reducible assumption) | assumption) : (wrap64 (x4_1 + 2)) ≤ (a0.size : Int))
                      replace H := Option.bind_eq_some_iff.mp H
                      obtain ⟨t178, A190, H⟩ := H
                      replace H : (if x3_1.length < 5864062014805 then (spec_Pieces.l0 k1 a0 (x3_1 ++ [(⟨t178, a0.extract (x4_1 : Int).toNat ((wrap64 (x4_1 + 2)) : Int).toNat⟩ : S25)]) (wrap64 (x4_1 + 2))) else (none)) = some r := H
                      have A19 := Aside0.mk A190
                      clear A190
                      have c20b0 := eq_true (of_decide_eq_true (by first | (with_reducible assumption) | assumption) : 0 ≤ x4_1)
                      have c21b0 := eq_true (of_decide_eq_true (by first | (with_reducible assumption) | assumption) : x4_1 ≤ (wrap64 (x4_1 + 2)))
                      have c22b0 := eq_true (of_decide_eq_true (by first | (with_reducible assumption) | assumption) : (wrap64 (x4_1 + 2)) ≤ (a0.size : Int))
                      by_cases c23 : x3_1.length < 5864062014805
                      · rw [if_pos c23] at H
                        have LMc23 := Aside0.mk c23
                        clear c23
                        obtain ⟨y179, hy179⟩ : ∃ y_ : List (S25), y_ = (x3_1 ++ [(⟨t178, a0.extract (x4_1 : Int).toNat ((wrap64 (x4_1 + 2)) : Int).toNat⟩ : S25)]) := ⟨_, rfl⟩
                        replace H : (spec_Pieces.l0 k1 a0 y179 (wrap64 (x4_1 + 2))) = some r := by first | (rw [hy179]; with_reducible exact H) | (have H2_ := (Option.bind_some _ _).symm.trans H; rw [hy179]; with_reducible exact H2_) | (have H2_ := (Option.bind_some _ _).symm.trans H; with_reducible exact H2_) | with_reducible exact H | (rw [hy179]; exact H) | exact H
                        have Ny179 := Aside0.mk hy179
                        clear hy179
                        have H' := Aside0.mk H
                        clear H
                        have p4 : 0 ≤ (x4_1 : Int) := of_decide_eq_true (by first | (with_reducible assumption) | assumption)
                        have q4 : x4_1 < (a0.size : Int) := of_decide_eq_true (by first | (with_reducible assumption) | assumption)
                        have hx4 := bt_at a0 x4_1
                        replace p4 := eq_true p4
                        replace q4 := eq_true q4
                        try go_wp2_with (first | ((with_reducible refine gate_callee (f := 8) rfl ?_); refine goesL_ (some 66) rfl rfl Try.func8 (by kernel_rfl) rfl #[.int .u8 (bt a0 x4_1)] rfl (by (try simp only [List.map_toArray, List.map_cons, List.map_nil]); first | done | rfl | (simp only [List.length_drop, List.length_take]; rfl)) ?_; (with_reducible refine (spec_blank.calls (bt a0 x4_1) false _ A5.out).mono ?_); rintro e w' ⟨rfl, ⟨nd, rfl⟩⟩; refine ⟨_, rfl, ?_⟩; have p7 : 0 ≤ (x4_1 : Int) := of_decide_eq_true (by first | (with_reducible assumption) | assumption); have q7 : x4_1 < (a0.size : Int) := of_decide_eq_true (by first | (with_reducible assumption) | assumption); have hx7 := bt_at a0 x4_1; replace p7 := eq_true p7; replace q7 := eq_true q7) | ((with_reducible refine gate_callee (f := 9) rfl ?_); refine goesL_ (some 73) rfl rfl Try.func9 (by kernel_rfl) rfl #[.int .u8 (bt a0 x4_1)] rfl (by (try simp only [List.map_toArray, List.map_cons, List.map_nil]); first | done | rfl | (simp only [List.length_drop, List.length_take]; rfl)) ?_; (with_reducible refine (spec_sign.calls k1 (bt a0 x4_1) true _ A8.out).mono ?_); rintro e w24 ⟨rfl, hb⟩; refine ⟨_, rfl, ?_⟩; have n0_ := Aside0.mk (Kd.R_below (by (with_reducible repeat (first | apply Kd.R_alloc | apply Kd.R_drewN | apply Kd.R_drew)); exact HO_3.out) hb); have n1_ := Aside0.mk (below_step (by repeat (first | (with_reducible first | exact HB.out | apply below_alloc | apply pw_below_drewN | apply below_drew1) | exact HB.out)) hb); clear HO_3; clear HB; have HO_3 := n0_; have HB := n1_; clear n0_ n1_; (try clear hb); (try clear hb2); (try clear hk); (try clear hi)) | (go_at_call 10; (with_reducible refine (spec_pieceOf.calls (a0.extract (x4_1 : Int).toNat ((wrap64 (x4_1 + 2)) : Int).toNat) t177 _ A14.out).mono ?_); rintro e w' ⟨rfl, ⟨nd, rfl⟩⟩))
                        (try (rw [drewN_self w24]; generalize hq_ : World.drewN w24 _ = w24; have n0_ : Aside0 (Kd.R k25 25 w24 w.heap.size (fun _ => True) u3 x3_1) := ⟨by rw [← hq_]; exact (by (with_reducible repeat (first | apply Kd.R_alloc | apply Kd.R_drewN | apply Kd.R_drew)); exact HO_3.out)⟩; have n1_ : Aside0 (Below w.heap.size w w24) := ⟨by rw [← hq_]; exact (by repeat (first | (with_reducible first | exact HB.out | apply below_alloc | apply pw_below_drewN | apply below_drew1) | exact HB.out))⟩; clear HO_3 HB hq_; have HO_3 := n0_; have HB := n1_; clear n0_ n1_))
                        have n0_ := Aside0.mk (Kd.R_drew HO_3.out)
                        have n1_ := Aside0.mk (below_drew1 HB.out)
                        clear HO_3
                        clear HB
                        have HO_3 := n0_
                        have HB := n1_
                        clear n0_ n1_
                        refine start_ (n := 18) (S := fun w' => True) (ds := []) #[false, false, false, false, false, false, false, false, false, false, false, false, false, false, false, false, false, false] (by kernel_rfl) rfl rfl trivial (fun hHeld => ?_); refine with_tabW spec_Pieces.tab18 spec_Pieces.bits18 (fun HT_ HW_ => ?_)
                        generalize w24.drew = w25 at HO_3 HB hHeld ⊢
                        refine pure_ (i := 0) (N := some 88) (v := ?_) (a' := ?_) #[true, false, false, false, false, false, false, false, false, false, false, false, false, false, false, false, false, false] rfl rfl (any_of HT_.out (by kernel_rfl)) (fun _ _ _ h => h) (Or.inl ⟨by rfl, ?_⟩) ?_ ?_
                        rotate_left
                        · intro w'
                          go_simp
                          with_reducible rfl
                        rotate_left
                        · simp only [Act.put, List.setIfInBounds_toArray, List.set_cons_zero, List.set_cons_succ, i64_w, i32_w]
                          rfl
                        refine pure_ (i := 1) (N := some 89) (v := ?_) (a' := ?_) #[true, true, false, false, false, false, false, false, false, false, false, false, false, false, false, false, false, false] rfl rfl (any_of HT_.out (by kernel_rfl)) (fun _ _ _ h => h) (Or.inl ⟨by rfl, ?_⟩) ?_ ?_
                        rotate_left
                        · intro w'
                          go_simp
                          with_reducible rfl
                        rotate_left
                        · simp only [Act.put, List.setIfInBounds_toArray, List.set_cons_zero, List.set_cons_succ, i64_w, i32_w]
                          rfl
                        refine pure_ (i := 2) (N := some 90) (v := ?_) (a' := ?_) #[true, true, true, false, false, false, false, false, false, false, false, false, false, false, false, false, false, false] rfl rfl (any_of HT_.out (by kernel_rfl)) (fun _ _ _ h => h) (Or.inl ⟨by rfl, ?_⟩) ?_ ?_
                        rotate_left
                        · intro w'
                          go_simp
                          with_reducible rfl
                        rotate_left
                        · simp only [Act.put, List.setIfInBounds_toArray, List.set_cons_zero, List.set_cons_succ, i64_w, i32_w]
                          rfl
                        refine pure_ (i := 3) (N := some 91) (v := ?_) (a' := ?_) #[true, true, true, true, false, false, false, false, false, false, false, false, false, false, false, false, false, false] rfl rfl (any_of HT_.out (by kernel_rfl)) (fun _ _ _ h => h) (Or.inl ⟨by rfl, ?_⟩) ?_ ?_
                        rotate_left
                        · intro w'
                          go_simp
                          with_reducible rfl
                        rotate_left
                        · simp only [Act.put, List.setIfInBounds_toArray, List.set_cons_zero, List.set_cons_succ, i64_w, i32_w]
                          rfl
                        refine pure_ (i := 4) (N := some 92) (v := ?_) (a' := ?_) #[true, true, true, true, true, false, false, false, false, false, false, false, false, false, false, false, false, false] rfl rfl (any_of HT_.out (by kernel_rfl)) (fun _ _ _ h => h) (Or.inl ⟨by rfl, ?_⟩) ?_ ?_
                        rotate_left
                        · intro w'
                          go_simp
                          with_reducible rfl
                        rotate_left
                        · simp only [Act.put, List.setIfInBounds_toArray, List.set_cons_zero, List.set_cons_succ, i64_w, i32_w]
                          rfl
                        refine pure_ (i := 5) (N := some 93) (v := ?_) (a' := ?_) #[true, true, true, true, true, true, false, false, false, false, false, false, false, false, false, false, false, false] rfl rfl (any_of HT_.out (by kernel_rfl)) (fun _ _ _ h => h) (Or.inl ⟨by rfl, ?_⟩) ?_ ?_
                        rotate_left
                        · intro w'
                          go_simp
                          with_reducible rfl
                        rotate_left
                        · simp only [Act.put, List.setIfInBounds_toArray, List.set_cons_zero, List.set_cons_succ, i64_w, i32_w]
                          rfl
                        refine pure_ (i := 6) (N := some 94) (v := ?_) (a' := ?_) #[true, true, true, true, true, true, true, false, false, false, false, false, false, false, false, false, false, false] rfl rfl (any_of HT_.out (by kernel_rfl)) (fun _ _ _ h => h) (Or.inl ⟨by rfl, ?_⟩) ?_ ?_
                        rotate_left
                        · intro w'
                          go_simp
                          with_reducible rfl
                        rotate_left
                        · simp only [Act.put, List.setIfInBounds_toArray, List.set_cons_zero, List.set_cons_succ, i64_w, i32_w]
                          rfl
                        refine pure_ (i := 8) (N := some 96) (v := ?_) (a' := ?_) #[true, true, true, true, true, true, true, false, true, false, false, false, false, false, false, false, false, false] rfl rfl (any_of HT_.out (by kernel_rfl)) (fun _ _ _ h => h) (Or.inl ⟨by rfl, ?_⟩) ?_ ?_
                        rotate_left
                        · intro w'
                          go_simp
                          with_reducible rfl
                        rotate_left
                        · simp only [Act.put, List.setIfInBounds_toArray, List.set_cons_zero, List.set_cons_succ, i64_w, i32_w]
                          rfl
                        refine pure_ (i := 9) (N := some 97) (v := ?_) (a' := ?_) #[true, true, true, true, true, true, true, false, true, true, false, false, false, false, false, false, false, false] rfl rfl (any_of HT_.out (by kernel_rfl)) (fun _ _ _ h => h) (Or.inl ⟨by rfl, ?_⟩) ?_ ?_
                        rotate_left
                        · intro w'
                          go_simp
                          with_reducible rfl
                        rotate_left
                        · simp only [Act.put, List.setIfInBounds_toArray, List.set_cons_zero, List.set_cons_succ, i64_w, i32_w]
                          rfl
                        refine pure_ (i := 10) (N := some 98) (v := ?_) (a' := ?_) #[true, true, true, true, true, true, true, false, true, true, true, false, false, false, false, false, false, false] rfl rfl (any_of HT_.out (by kernel_rfl)) (fun _ _ _ h => h) (Or.inl ⟨by rfl, ?_⟩) ?_ ?_
                        rotate_left
                        · intro w'
                          go_simp
                          with_reducible rfl
                        rotate_left
                        · simp only [Act.put, List.setIfInBounds_toArray, List.set_cons_zero, List.set_cons_succ, i64_w, i32_w]
                          rfl
                        refine pure_ (i := 11) (N := some 99) (v := ?_) (a' := ?_) #[true, true, true, true, true, true, true, false, true, true, true, true, false, false, false, false, false, false] rfl rfl (any_of HT_.out (by kernel_rfl)) (fun _ _ _ h => h) (Or.inl ⟨by rfl, ?_⟩) ?_ ?_
                        rotate_left
                        · intro w'
                          go_simp
                          with_reducible rfl
                        rotate_left
                        · simp only [Act.put, List.setIfInBounds_toArray, List.set_cons_zero, List.set_cons_succ, i64_w, i32_w]
                          rfl
                        refine pure_ (i := 12) (N := some 100) (v := ?_) (a' := ?_) #[true, true, true, true, true, true, true, false, true, true, true, true, true, false, false, false, false, false] rfl rfl (any_of HT_.out (by kernel_rfl)) (fun _ _ _ h => h) (Or.inl ⟨by rfl, ?_⟩) ?_ ?_
                        rotate_left
                        · intro w'
                          go_simp
                          with_reducible rfl
                        rotate_left
                        · simp only [Act.put, List.setIfInBounds_toArray, List.set_cons_zero, List.set_cons_succ, i64_w, i32_w]
                          rfl
                        refine pure_ (i := 13) (N := some 101) (v := ?_) (a' := ?_) #[true, true, true, true, true, true, true, false, true, true, true, true, true, true, false, false, false, false] rfl rfl (any_of HT_.out (by kernel_rfl)) (fun _ _ _ h => h) (Or.inl ⟨by rfl, ?_⟩) ?_ ?_
                        rotate_left
                        · intro w'
                          go_simp
                          with_reducible rfl
                        rotate_left
                        · simp only [Act.put, List.setIfInBounds_toArray, List.set_cons_zero, List.set_cons_succ, i64_w, i32_w]
                          rfl
                        refine one_ (i := 7) (N := some 95) #[true, true, true, true, true, true, true, true, true, true, true, true, true, true, false, false, false, false] rfl rfl (one_of HT_.out (by kernel_rfl)) (by decide) (fun K hK => ?_)
                        refine goes_ Try.func10 (by kernel_rfl) rfl #[.string (a0.extract (x4_1 : Int).toNat ((wrap64 (x4_1 + 2)) : Int).toNat)] (by rfl) rfl rfl (by (try simp only [List.map_toArray, List.map_cons, List.map_nil]); first | done | rfl | (simp only [List.length_drop, List.length_take]; rfl)) ?_
                        with_reducible refine (spec_pieceOf.calls (a0.extract (x4_1 : Int).toNat ((wrap64 (x4_1 + 2)) : Int).toNat) t178 _ A19.out).mono ?_
                        rintro e w' ⟨rfl, ⟨nd, rfl⟩⟩
                        refine ⟨_, rfl, ?_⟩
                        refine hK.out _ _ trivial (fun hHeld => ?_)
                        clear hK K
                        refine norm_ (a' := ?_) ?_ ?_
                        rotate_left
                        · show Act.put _ (some 95) _ = _
                          simp only [Act.put, List.setIfInBounds_toArray, List.set_cons_zero, List.set_cons_succ, i64_w, i32_w]
                          rfl
                        refine pure_ (i := 14) (N := some 102) (v := ?_) (a' := ?_) #[true, true, true, true, true, true, true, true, true, true, true, true, true, true, true, false, false, false] rfl rfl (any_of HT_.out (by kernel_rfl)) (fun _ _ _ h => h) (Or.inl ⟨by rfl, ?_⟩) ?_ ?_
                        rotate_left
                        · intro w'
                          go_simp
                          with_reducible rfl
                        rotate_left
                        · simp only [Act.put, List.setIfInBounds_toArray, List.set_cons_zero, List.set_cons_succ, i64_w, i32_w]
                          rfl
                        refine one_ (i := 15) (N := some 103) #[true, true, true, true, true, true, true, true, true, true, true, true, true, true, true, true, false, false] rfl rfl (one_of HT_.out (by kernel_rfl)) (by decide) (fun K hK => ?_)
                        refine value_ (w1 := ?_) (v := ?_) (by rfl) rfl ?_ ?_
                        rotate_left 2
                        · go_simp
                          constructor
                          · rfl
                          · rfl
                        refine hK.out _ _ trivial (fun hHeld => ?_)
                        clear hK K
                        refine norm_ (a' := ?_) ?_ ?_
                        rotate_left
                        · show Act.put _ (some 103) _ = _
                          simp only [Act.put, List.setIfInBounds_toArray, List.set_cons_zero, List.set_cons_succ, i64_w, i32_w]
                          rfl
                        refine one_ (i := 16) (N := some 104) #[true, true, true, true, true, true, true, true, true, true, true, true, true, true, true, true, true, false] rfl rfl (one_of HT_.out (by kernel_rfl)) (by decide) (fun K hK => ?_)
                        refine Kd.R_append_step k25 (w0 := w) w.heap.size (by rfl) (.tmp 88) (.tmp 103) 22 25 (.agg #[(.int .i64 0), (.string ⟨#[]⟩)]) 24 rfl Try.underlying22 info25 rfl (by decide) (by omega) u3 x3_1 (⟨t178, a0.extract (x4_1 : Int).toNat ((wrap64 (x4_1 + 2)) : Int).toNat⟩ : S25) [.int .i64 t178, .string (a0.extract (x4_1 : Int).toNat ((wrap64 (x4_1 + 2)) : Int).toNat)] (fun _ => True) (fun _ => False) rfl rfl ?aP (fun _ hk => hk.elim) ?aF ?aO ?aB ?aS ?aL ?_
                        (case aP => exact k25_mkM _ _ _ (⟨t178, a0.extract (x4_1 : Int).toNat ((wrap64 (x4_1 + 2)) : Int).toNat⟩ : S25))
                        (case aB => exact (by repeat (first | (with_reducible first | exact HB.out | apply below_alloc | apply pw_below_drewN | apply below_drew1) | exact HB.out)))
                        (case aF => exact (fun _ _ => trivial))
                        (case aO => exact (by (with_reducible repeat (first | apply Kd.R_alloc | apply Kd.R_drewN | apply Kd.R_drew)); exact HO_3.out))
                        (case aS => exact (below_size (by repeat (first | (with_reducible first | exact HB.out | apply below_alloc | apply pw_below_drewN | apply below_drew1) | exact HB.out))))
                        (case aL => have := LMc23.out; omega)
                        intro v180 w26 ho hb hg hat
                        rw [← Ny179.out] at ho
                        have n0_ := Aside0.mk (hb)
                        have n1_ := Aside0.mk (ho)
                        clear HB
                        clear HO_3
                        have HB := n0_
                        have HO181 := n1_
                        clear n0_ n1_
                        clear ho hb hg hat
                        refine hK.out _ _ trivial (fun hHeld => ?_)
                        clear hK K
                        refine norm_ (a' := ?_) ?_ ?_
                        rotate_left
                        · show Act.put _ (some 104) _ = _
                          simp only [Act.put, List.setIfInBounds_toArray, List.set_cons_zero, List.set_cons_succ, i64_w, i32_w]
                          rfl
                        refine pure_ (i := 17) (N := some 3) (v := ?_) (a' := ?_) #[true, true, true, true, true, true, true, true, true, true, true, true, true, true, true, true, true, true] rfl rfl (any_of HT_.out (by kernel_rfl)) (fun _ _ _ h => h) (Or.inl ⟨by rfl, ?_⟩) ?_ ?_
                        rotate_left
                        · intro w'
                          go_simp
                          with_reducible rfl
                        rotate_left
                        · simp only [Act.put, List.setIfInBounds_toArray, List.set_cons_zero, List.set_cons_succ, i64_w, i32_w]
                          rfl
                        refine done_ (done_of HT_.out (by kernel_rfl)) ?_
                        try go_wp2
                        go_roundg k1
                        case measure => have := HK1.out; omega
                        case rel => exact ⟨(y179), (wrap64 (x4_1 + 2)), (by first | rfl | (simp; done) | (simp [*]; done)), H', ⟨by have := HK1.out; omega⟩, ⟨by (with_reducible repeat (first | apply Kd.R_alloc | apply Kd.R_drewN | apply Kd.R_drew)); exact HO181.out⟩, ⟨by repeat (first | (with_reducible first | exact HB.out | apply below_alloc | apply pw_below_drewN | apply below_drew1) | exact HB.out)⟩⟩
                      · rw [if_neg c23] at H
                        exact absurd H (by simp)
                    · rw [if_neg c15] at H
                      have c15b0 : decide (0 < t177) = false := decide_eq_false c15
                      clear c15
                      have c27b0 := eq_true (of_decide_eq_true (by first | (with_reducible assumption) | assumption) : 0 ≤ x4_1)
                      by_cases c28 : x4_1 ≤ (wrap64 (x4_1 + 1))
                      · rw [if_pos c28] at H
                        have c28b0 := eq_true c28
                        have c28b1 : decide (x4_1 ≤ (wrap64 (x4_1 + 1))) = true := decide_eq_true c28
                        by_cases c29 : (wrap64 (x4_1 + 1)) ≤ (a0.size : Int)
                        · rw [if_pos c29] at H
                          have c29b0 := eq_true c29
                          have c29b1 : decide ((wrap64 (x4_1 + 1)) ≤ (a0.size : Int)) = true := decide_eq_true c29
                          replace H := Option.bind_eq_some_iff.mp H
                          obtain ⟨t182, A300, H⟩ := H
                          replace H : (if x3_1.length < 5864062014805 then (spec_Pieces.l0 k1 a0 (x3_1 ++ [(⟨t182, a0.extract (x4_1 : Int).toNat ((wrap64 (x4_1 + 1)) : Int).toNat⟩ : S25)]) (wrap64 (x4_1 + 1))) else (none)) = some r := H
                          have A30 := Aside0.mk A300
                          clear A300
                          have c31b0 := eq_true (of_decide_eq_true (by first | (with_reducible assumption) | assumption) : 0 ≤ x4_1)
                          have c32b0 := eq_true (of_decide_eq_true (by first | (with_reducible assumption) | assumption) : x4_1 ≤ (wrap64 (x4_1 + 1)))
                          have c33b0 := eq_true (of_decide_eq_true (by first | (with_reducible assumption) | assumption) : (wrap64 (x4_1 + 1)) ≤ (a0.size : Int))
                          by_cases c34 : x3_1.length < 5864062014805
                          · rw [if_pos c34] at H
                            have LMc34 := Aside0.mk c34
                            clear c34
                            obtain ⟨y183, hy183⟩ : ∃ y_ : List (S25), y_ = (x3_1 ++ [(⟨t182, a0.extract (x4_1 : Int).toNat ((wrap64 (x4_1 + 1)) : Int).toNat⟩ : S25)]) := ⟨_, rfl⟩
                            replace H : (spec_Pieces.l0 k1 a0 y183 (wrap64 (x4_1 + 1))) = some r := by first | (rw [hy183]; with_reducible exact H) | (have H2_ := (Option.bind_some _ _).symm.trans H; rw [hy183]; with_reducible exact H2_) | (have H2_ := (Option.bind_some _ _).symm.trans H; with_reducible exact H2_) | with_reducible exact H | (rw [hy183]; exact H) | exact H
                            have Ny183 := Aside0.mk hy183
                            clear hy183
                            have H' := Aside0.mk H
                            clear H
                            have p4 : 0 ≤ (x4_1 : Int) := of_decide_eq_true (by first | (with_reducible assumption) | assumption)
                            have q4 : x4_1 < (a0.size : Int) := of_decide_eq_true (by first | (with_reducible assumption) | assumption)
                            have hx4 := bt_at a0 x4_1
                            replace p4 := eq_true p4
                            replace q4 := eq_true q4
                            try go_wp2_with (first | ((with_reducible refine gate_callee (f := 8) rfl ?_); refine goesL_ (some 66) rfl rfl Try.func8 (by kernel_rfl) rfl #[.int .u8 (bt a0 x4_1)] rfl (by (try simp only [List.map_toArray, List.map_cons, List.map_nil]); first | done | rfl | (simp only [List.length_drop, List.length_take]; rfl)) ?_; (with_reducible refine (spec_blank.calls (bt a0 x4_1) false _ A5.out).mono ?_); rintro e w' ⟨rfl, ⟨nd, rfl⟩⟩; refine ⟨_, rfl, ?_⟩; have p7 : 0 ≤ (x4_1 : Int) := of_decide_eq_true (by first | (with_reducible assumption) | assumption); have q7 : x4_1 < (a0.size : Int) := of_decide_eq_true (by first | (with_reducible assumption) | assumption); have hx7 := bt_at a0 x4_1; replace p7 := eq_true p7; replace q7 := eq_true q7) | ((with_reducible refine gate_callee (f := 9) rfl ?_); refine goesL_ (some 73) rfl rfl Try.func9 (by kernel_rfl) rfl #[.int .u8 (bt a0 x4_1)] rfl (by (try simp only [List.map_toArray, List.map_cons, List.map_nil]); first | done | rfl | (simp only [List.length_drop, List.length_take]; rfl)) ?_; (with_reducible refine (spec_sign.calls k1 (bt a0 x4_1) true _ A8.out).mono ?_); rintro e w35 ⟨rfl, hb⟩; refine ⟨_, rfl, ?_⟩; have n0_ := Aside0.mk (Kd.R_below (by (with_reducible repeat (first | apply Kd.R_alloc | apply Kd.R_drewN | apply Kd.R_drew)); exact HO_3.out) hb); have n1_ := Aside0.mk (below_step (by repeat (first | (with_reducible first | exact HB.out | apply below_alloc | apply pw_below_drewN | apply below_drew1) | exact HB.out)) hb); clear HO_3; clear HB; have HO_3 := n0_; have HB := n1_; clear n0_ n1_; (try clear hb); (try clear hb2); (try clear hk); (try clear hi)) | (go_at_call 10; (with_reducible refine (spec_pieceOf.calls (a0.extract (x4_1 : Int).toNat ((wrap64 (x4_1 + 2)) : Int).toNat) t177 _ A14.out).mono ?_); rintro e w' ⟨rfl, ⟨nd, rfl⟩⟩))
                            (try (rw [drewN_self w35]; generalize hq_ : World.drewN w35 _ = w35; have n0_ : Aside0 (Kd.R k25 25 w35 w.heap.size (fun _ => True) u3 x3_1) := ⟨by rw [← hq_]; exact (by (with_reducible repeat (first | apply Kd.R_alloc | apply Kd.R_drewN | apply Kd.R_drew)); exact HO_3.out)⟩; have n1_ : Aside0 (Below w.heap.size w w35) := ⟨by rw [← hq_]; exact (by repeat (first | (with_reducible first | exact HB.out | apply below_alloc | apply pw_below_drewN | apply below_drew1) | exact HB.out))⟩; clear HO_3 HB hq_; have HO_3 := n0_; have HB := n1_; clear n0_ n1_))
                            have n0_ := Aside0.mk (Kd.R_drew HO_3.out)
                            have n1_ := Aside0.mk (below_drew1 HB.out)
                            clear HO_3
                            clear HB
                            have HO_3 := n0_
                            have HB := n1_
                            clear n0_ n1_
                            refine start_ (n := 18) (S := fun w' => True) (ds := []) #[false, false, false, false, false, false, false, false, false, false, false, false, false, false, false, false, false, false] (by kernel_rfl) rfl rfl trivial (fun hHeld => ?_); refine with_tabW spec_Pieces.tab18 spec_Pieces.bits18 (fun HT_ HW_ => ?_)
                            generalize w35.drew = w36 at HO_3 HB hHeld ⊢
                            refine pure_ (i := 0) (N := some 88) (v := ?_) (a' := ?_) #[true, false, false, false, false, false, false, false, false, false, false, false, false, false, false, false, false, false] rfl rfl (any_of HT_.out (by kernel_rfl)) (fun _ _ _ h => h) (Or.inl ⟨by rfl, ?_⟩) ?_ ?_
                            rotate_left
                            · intro w'
                              go_simp
                              with_reducible rfl
                            rotate_left
                            · simp only [Act.put, List.setIfInBounds_toArray, List.set_cons_zero, List.set_cons_succ, i64_w, i32_w]
                              rfl
                            refine pure_ (i := 1) (N := some 89) (v := ?_) (a' := ?_) #[true, true, false, false, false, false, false, false, false, false, false, false, false, false, false, false, false, false] rfl rfl (any_of HT_.out (by kernel_rfl)) (fun _ _ _ h => h) (Or.inl ⟨by rfl, ?_⟩) ?_ ?_
                            rotate_left
                            · intro w'
                              go_simp
                              with_reducible rfl
                            rotate_left
                            · simp only [Act.put, List.setIfInBounds_toArray, List.set_cons_zero, List.set_cons_succ, i64_w, i32_w]
                              rfl
                            refine pure_ (i := 2) (N := some 90) (v := ?_) (a' := ?_) #[true, true, true, false, false, false, false, false, false, false, false, false, false, false, false, false, false, false] rfl rfl (any_of HT_.out (by kernel_rfl)) (fun _ _ _ h => h) (Or.inl ⟨by rfl, ?_⟩) ?_ ?_
                            rotate_left
                            · intro w'
                              go_simp
                              with_reducible rfl
                            rotate_left
                            · simp only [Act.put, List.setIfInBounds_toArray, List.set_cons_zero, List.set_cons_succ, i64_w, i32_w]
                              rfl
                            refine pure_ (i := 3) (N := some 91) (v := ?_) (a' := ?_) #[true, true, true, true, false, false, false, false, false, false, false, false, false, false, false, false, false, false] rfl rfl (any_of HT_.out (by kernel_rfl)) (fun _ _ _ h => h) (Or.inl ⟨by rfl, ?_⟩) ?_ ?_
                            rotate_left
                            · intro w'
                              go_simp
                              with_reducible rfl
                            rotate_left
                            · simp only [Act.put, List.setIfInBounds_toArray, List.set_cons_zero, List.set_cons_succ, i64_w, i32_w]
                              rfl
                            refine pure_ (i := 4) (N := some 92) (v := ?_) (a' := ?_) #[true, true, true, true, true, false, false, false, false, false, false, false, false, false, false, false, false, false] rfl rfl (any_of HT_.out (by kernel_rfl)) (fun _ _ _ h => h) (Or.inl ⟨by rfl, ?_⟩) ?_ ?_
                            rotate_left
                            · intro w'
                              go_simp
                              with_reducible rfl
                            rotate_left
                            · simp only [Act.put, List.setIfInBounds_toArray, List.set_cons_zero, List.set_cons_succ, i64_w, i32_w]
                              rfl
                            refine pure_ (i := 5) (N := some 93) (v := ?_) (a' := ?_) #[true, true, true, true, true, true, false, false, false, false, false, false, false, false, false, false, false, false] rfl rfl (any_of HT_.out (by kernel_rfl)) (fun _ _ _ h => h) (Or.inl ⟨by rfl, ?_⟩) ?_ ?_
                            rotate_left
                            · intro w'
                              go_simp
                              with_reducible rfl
                            rotate_left
                            · simp only [Act.put, List.setIfInBounds_toArray, List.set_cons_zero, List.set_cons_succ, i64_w, i32_w]
                              rfl
                            refine pure_ (i := 6) (N := some 94) (v := ?_) (a' := ?_) #[true, true, true, true, true, true, true, false, false, false, false, false, false, false, false, false, false, false] rfl rfl (any_of HT_.out (by kernel_rfl)) (fun _ _ _ h => h) (Or.inl ⟨by rfl, ?_⟩) ?_ ?_
                            rotate_left
                            · intro w'
                              go_simp
                              with_reducible rfl
                            rotate_left
                            · simp only [Act.put, List.setIfInBounds_toArray, List.set_cons_zero, List.set_cons_succ, i64_w, i32_w]
                              rfl
                            refine pure_ (i := 8) (N := some 96) (v := ?_) (a' := ?_) #[true, true, true, true, true, true, true, false, true, false, false, false, false, false, false, false, false, false] rfl rfl (any_of HT_.out (by kernel_rfl)) (fun _ _ _ h => h) (Or.inl ⟨by rfl, ?_⟩) ?_ ?_
                            rotate_left
                            · intro w'
                              go_simp
                              with_reducible rfl
                            rotate_left
                            · simp only [Act.put, List.setIfInBounds_toArray, List.set_cons_zero, List.set_cons_succ, i64_w, i32_w]
                              rfl
                            refine pure_ (i := 9) (N := some 97) (v := ?_) (a' := ?_) #[true, true, true, true, true, true, true, false, true, true, false, false, false, false, false, false, false, false] rfl rfl (any_of HT_.out (by kernel_rfl)) (fun _ _ _ h => h) (Or.inl ⟨by rfl, ?_⟩) ?_ ?_
                            rotate_left
                            · intro w'
                              go_simp
                              with_reducible rfl
                            rotate_left
                            · simp only [Act.put, List.setIfInBounds_toArray, List.set_cons_zero, List.set_cons_succ, i64_w, i32_w]
                              rfl
                            refine pure_ (i := 10) (N := some 98) (v := ?_) (a' := ?_) #[true, true, true, true, true, true, true, false, true, true, true, false, false, false, false, false, false, false] rfl rfl (any_of HT_.out (by kernel_rfl)) (fun _ _ _ h => h) (Or.inl ⟨by rfl, ?_⟩) ?_ ?_
                            rotate_left
                            · intro w'
                              go_simp
                              with_reducible rfl
                            rotate_left
                            · simp only [Act.put, List.setIfInBounds_toArray, List.set_cons_zero, List.set_cons_succ, i64_w, i32_w]
                              rfl
                            refine pure_ (i := 11) (N := some 99) (v := ?_) (a' := ?_) #[true, true, true, true, true, true, true, false, true, true, true, true, false, false, false, false, false, false] rfl rfl (any_of HT_.out (by kernel_rfl)) (fun _ _ _ h => h) (Or.inl ⟨by rfl, ?_⟩) ?_ ?_
                            rotate_left
                            · intro w'
                              go_simp
                              with_reducible rfl
                            rotate_left
                            · simp only [Act.put, List.setIfInBounds_toArray, List.set_cons_zero, List.set_cons_succ, i64_w, i32_w]
                              rfl
                            refine pure_ (i := 12) (N := some 100) (v := ?_) (a' := ?_) #[true, true, true, true, true, true, true, false, true, true, true, true, true, false, false, false, false, false] rfl rfl (any_of HT_.out (by kernel_rfl)) (fun _ _ _ h => h) (Or.inl ⟨by rfl, ?_⟩) ?_ ?_
                            rotate_left
                            · intro w'
                              go_simp
                              with_reducible rfl
                            rotate_left
                            · simp only [Act.put, List.setIfInBounds_toArray, List.set_cons_zero, List.set_cons_succ, i64_w, i32_w]
                              rfl
                            refine pure_ (i := 13) (N := some 101) (v := ?_) (a' := ?_) #[true, true, true, true, true, true, true, false, true, true, true, true, true, true, false, false, false, false] rfl rfl (any_of HT_.out (by kernel_rfl)) (fun _ _ _ h => h) (Or.inl ⟨by rfl, ?_⟩) ?_ ?_
                            rotate_left
                            · intro w'
                              go_simp
                              with_reducible rfl
                            rotate_left
                            · simp only [Act.put, List.setIfInBounds_toArray, List.set_cons_zero, List.set_cons_succ, i64_w, i32_w]
                              rfl
                            refine one_ (i := 7) (N := some 95) #[true, true, true, true, true, true, true, true, true, true, true, true, true, true, false, false, false, false] rfl rfl (one_of HT_.out (by kernel_rfl)) (by decide) (fun K hK => ?_)
                            refine goes_ Try.func10 (by kernel_rfl) rfl #[.string (a0.extract (x4_1 : Int).toNat ((wrap64 (x4_1 + 1)) : Int).toNat)] (by rfl) rfl rfl (by (try simp only [List.map_toArray, List.map_cons, List.map_nil]); first | done | rfl | (simp only [List.length_drop, List.length_take]; rfl)) ?_
                            with_reducible refine (spec_pieceOf.calls (a0.extract (x4_1 : Int).toNat ((wrap64 (x4_1 + 1)) : Int).toNat) t182 _ A30.out).mono ?_
                            rintro e w' ⟨rfl, ⟨nd, rfl⟩⟩
                            refine ⟨_, rfl, ?_⟩
                            refine hK.out _ _ trivial (fun hHeld => ?_)
                            clear hK K
                            refine norm_ (a' := ?_) ?_ ?_
                            rotate_left
                            · show Act.put _ (some 95) _ = _
                              simp only [Act.put, List.setIfInBounds_toArray, List.set_cons_zero, List.set_cons_succ, i64_w, i32_w]
                              rfl
                            refine pure_ (i := 14) (N := some 102) (v := ?_) (a' := ?_) #[true, true, true, true, true, true, true, true, true, true, true, true, true, true, true, false, false, false] rfl rfl (any_of HT_.out (by kernel_rfl)) (fun _ _ _ h => h) (Or.inl ⟨by rfl, ?_⟩) ?_ ?_
                            rotate_left
                            · intro w'
                              go_simp
                              with_reducible rfl
                            rotate_left
                            · simp only [Act.put, List.setIfInBounds_toArray, List.set_cons_zero, List.set_cons_succ, i64_w, i32_w]
                              rfl
                            refine one_ (i := 15) (N := some 103) #[true, true, true, true, true, true, true, true, true, true, true, true, true, true, true, true, false, false] rfl rfl (one_of HT_.out (by kernel_rfl)) (by decide) (fun K hK => ?_)
                            refine value_ (w1 := ?_) (v := ?_) (by rfl) rfl ?_ ?_
                            rotate_left 2
                            · go_simp
                              constructor
                              · rfl
                              · rfl
                            refine hK.out _ _ trivial (fun hHeld => ?_)
                            clear hK K
                            refine norm_ (a' := ?_) ?_ ?_
                            rotate_left
                            · show Act.put _ (some 103) _ = _
                              simp only [Act.put, List.setIfInBounds_toArray, List.set_cons_zero, List.set_cons_succ, i64_w, i32_w]
                              rfl
                            refine one_ (i := 16) (N := some 104) #[true, true, true, true, true, true, true, true, true, true, true, true, true, true, true, true, true, false] rfl rfl (one_of HT_.out (by kernel_rfl)) (by decide) (fun K hK => ?_)
                            refine Kd.R_append_step k25 (w0 := w) w.heap.size (by rfl) (.tmp 88) (.tmp 103) 22 25 (.agg #[(.int .i64 0), (.string ⟨#[]⟩)]) 24 rfl Try.underlying22 info25 rfl (by decide) (by omega) u3 x3_1 (⟨t182, a0.extract (x4_1 : Int).toNat ((wrap64 (x4_1 + 1)) : Int).toNat⟩ : S25) [.int .i64 t182, .string (a0.extract (x4_1 : Int).toNat ((wrap64 (x4_1 + 1)) : Int).toNat)] (fun _ => True) (fun _ => False) rfl rfl ?aP (fun _ hk => hk.elim) ?aF ?aO ?aB ?aS ?aL ?_
                            (case aP => exact k25_mkM _ _ _ (⟨t182, a0.extract (x4_1 : Int).toNat ((wrap64 (x4_1 + 1)) : Int).toNat⟩ : S25))
                            (case aB => exact (by repeat (first | (with_reducible first | exact HB.out | apply below_alloc | apply pw_below_drewN | apply below_drew1) | exact HB.out)))
                            (case aF => exact (fun _ _ => trivial))
                            (case aO => exact (by (with_reducible repeat (first | apply Kd.R_alloc | apply Kd.R_drewN | apply Kd.R_drew)); exact HO_3.out))
                            (case aS => exact (below_size (by repeat (first | (with_reducible first | exact HB.out | apply below_alloc | apply pw_below_drewN | apply below_drew1) | exact HB.out))))
                            (case aL => have := LMc34.out; omega)
                            intro v184 w37 ho hb hg hat
                            rw [← Ny183.out] at ho
                            have n0_ := Aside0.mk (hb)
                            have n1_ := Aside0.mk (ho)
                            clear HB
                            clear HO_3
                            have HB := n0_
                            have HO185 := n1_
                            clear n0_ n1_
                            clear ho hb hg hat
                            refine hK.out _ _ trivial (fun hHeld => ?_)
                            clear hK K
                            refine norm_ (a' := ?_) ?_ ?_
                            rotate_left
                            · show Act.put _ (some 104) _ = _
                              simp only [Act.put, List.setIfInBounds_toArray, List.set_cons_zero, List.set_cons_succ, i64_w, i32_w]
                              rfl
                            refine pure_ (i := 17) (N := some 3) (v := ?_) (a' := ?_) #[true, true, true, true, true, true, true, true, true, true, true, true, true, true, true, true, true, true] rfl rfl (any_of HT_.out (by kernel_rfl)) (fun _ _ _ h => h) (Or.inl ⟨by rfl, ?_⟩) ?_ ?_
                            rotate_left
                            · intro w'
                              go_simp
                              with_reducible rfl
                            rotate_left
                            · simp only [Act.put, List.setIfInBounds_toArray, List.set_cons_zero, List.set_cons_succ, i64_w, i32_w]
                              rfl
                            refine done_ (done_of HT_.out (by kernel_rfl)) ?_
                            try go_wp2
                            go_roundg k1
                            case measure => have := HK1.out; omega
                            case rel => exact ⟨(y183), (wrap64 (x4_1 + 1)), (by first | rfl | (simp; done) | (simp [*]; done)), H', ⟨by have := HK1.out; omega⟩, ⟨by (with_reducible repeat (first | apply Kd.R_alloc | apply Kd.R_drewN | apply Kd.R_drew)); exact HO185.out⟩, ⟨by repeat (first | (with_reducible first | exact HB.out | apply below_alloc | apply pw_below_drewN | apply below_drew1) | exact HB.out)⟩⟩
                          · rw [if_neg c34] at H
                            exact absurd H (by simp)
                        · rw [if_neg c29] at H
                          exact absurd H (by simp)
                      · rw [if_neg c28] at H
                        exact absurd H (by simp)
                  · rw [if_neg c13] at H
                    exact absurd H (by simp)
                · rw [if_neg c12] at H
                  exact absurd H (by simp)
              · rw [if_neg c10] at H
                have c10b0 : decide ((wrap64 (x4_1 + 1)) < (a0.size : Int)) = false := decide_eq_false c10
                clear c10
                have c38b0 := eq_true (of_decide_eq_true (by first | (with_reducible assumption) | assumption) : 0 ≤ x4_1)
                by_cases c39 : x4_1 ≤ (wrap64 (x4_1 + 1))
                · rw [if_pos c39] at H
                  have c39b0 := eq_true c39
                  have c39b1 : decide (x4_1 ≤ (wrap64 (x4_1 + 1))) = true := decide_eq_true c39
                  by_cases c40 : (wrap64 (x4_1 + 1)) ≤ (a0.size : Int)
                  · rw [if_pos c40] at H
                    have c40b0 := eq_true c40
                    have c40b1 : decide ((wrap64 (x4_1 + 1)) ≤ (a0.size : Int)) = true := decide_eq_true c40
                    replace H := Option.bind_eq_some_iff.mp H
                    obtain ⟨t186, A410, H⟩ := H
                    replace H : (if x3_1.length < 5864062014805 then (spec_Pieces.l0 k1 a0 (x3_1 ++ [(⟨t186, a0.extract (x4_1 : Int).toNat ((wrap64 (x4_1 + 1)) : Int).toNat⟩ : S25)]) (wrap64 (x4_1 + 1))) else (none)) = some r := H
                    have A41 := Aside0.mk A410
                    clear A410
                    have c42b0 := eq_true (of_decide_eq_true (by first | (with_reducible assumption) | assumption) : 0 ≤ x4_1)
                    have c43b0 := eq_true (of_decide_eq_true (by first | (with_reducible assumption) | assumption) : x4_1 ≤ (wrap64 (x4_1 + 1)))
                    have c44b0 := eq_true (of_decide_eq_true (by first | (with_reducible assumption) | assumption) : (wrap64 (x4_1 + 1)) ≤ (a0.size : Int))
                    by_cases c45 : x3_1.length < 5864062014805
                    · rw [if_pos c45] at H
                      have LMc45 := Aside0.mk c45
                      clear c45
                      obtain ⟨y187, hy187⟩ : ∃ y_ : List (S25), y_ = (x3_1 ++ [(⟨t186, a0.extract (x4_1 : Int).toNat ((wrap64 (x4_1 + 1)) : Int).toNat⟩ : S25)]) := ⟨_, rfl⟩
                      replace H : (spec_Pieces.l0 k1 a0 y187 (wrap64 (x4_1 + 1))) = some r := by first | (rw [hy187]; with_reducible exact H) | (have H2_ := (Option.bind_some _ _).symm.trans H; rw [hy187]; with_reducible exact H2_) | (have H2_ := (Option.bind_some _ _).symm.trans H; with_reducible exact H2_) | with_reducible exact H | (rw [hy187]; exact H) | exact H
                      have Ny187 := Aside0.mk hy187
                      clear hy187
                      have H' := Aside0.mk H
                      clear H
                      have p4 : 0 ≤ (x4_1 : Int) := of_decide_eq_true (by first | (with_reducible assumption) | assumption)
                      have q4 : x4_1 < (a0.size : Int) := of_decide_eq_true (by first | (with_reducible assumption) | assumption)
                      have hx4 := bt_at a0 x4_1
                      replace p4 := eq_true p4
                      replace q4 := eq_true q4
                      try go_wp2_with (first | ((with_reducible refine gate_callee (f := 8) rfl ?_); refine goesL_ (some 66) rfl rfl Try.func8 (by kernel_rfl) rfl #[.int .u8 (bt a0 x4_1)] rfl (by (try simp only [List.map_toArray, List.map_cons, List.map_nil]); first | done | rfl | (simp only [List.length_drop, List.length_take]; rfl)) ?_; (with_reducible refine (spec_blank.calls (bt a0 x4_1) false _ A5.out).mono ?_); rintro e w' ⟨rfl, ⟨nd, rfl⟩⟩; refine ⟨_, rfl, ?_⟩; have p7 : 0 ≤ (x4_1 : Int) := of_decide_eq_true (by first | (with_reducible assumption) | assumption); have q7 : x4_1 < (a0.size : Int) := of_decide_eq_true (by first | (with_reducible assumption) | assumption); have hx7 := bt_at a0 x4_1; replace p7 := eq_true p7; replace q7 := eq_true q7) | ((with_reducible refine gate_callee (f := 9) rfl ?_); refine goesL_ (some 73) rfl rfl Try.func9 (by kernel_rfl) rfl #[.int .u8 (bt a0 x4_1)] rfl (by (try simp only [List.map_toArray, List.map_cons, List.map_nil]); first | done | rfl | (simp only [List.length_drop, List.length_take]; rfl)) ?_; (with_reducible refine (spec_sign.calls k1 (bt a0 x4_1) true _ A8.out).mono ?_); rintro e w46 ⟨rfl, hb⟩; refine ⟨_, rfl, ?_⟩; have n0_ := Aside0.mk (Kd.R_below (by (with_reducible repeat (first | apply Kd.R_alloc | apply Kd.R_drewN | apply Kd.R_drew)); exact HO_3.out) hb); have n1_ := Aside0.mk (below_step (by repeat (first | (with_reducible first | exact HB.out | apply below_alloc | apply pw_below_drewN | apply below_drew1) | exact HB.out)) hb); clear HO_3; clear HB; have HO_3 := n0_; have HB := n1_; clear n0_ n1_; (try clear hb); (try clear hb2); (try clear hk); (try clear hi)))
                      have n0_ := Aside0.mk (Kd.R_drew HO_3.out)
                      have n1_ := Aside0.mk (below_drew1 HB.out)
                      clear HO_3
                      clear HB
                      have HO_3 := n0_
                      have HB := n1_
                      clear n0_ n1_
                      refine start_ (n := 18) (S := fun w' => True) (ds := []) #[false, false, false, false, false, false, false, false, false, false, false, false, false, false, false, false, false, false] (by kernel_rfl) rfl rfl trivial (fun hHeld => ?_); refine with_tabW spec_Pieces.tab18 spec_Pieces.bits18 (fun HT_ HW_ => ?_)
                      generalize w46.drew = w47 at HO_3 HB hHeld ⊢
                      refine pure_ (i := 0) (N := some 88) (v := ?_) (a' := ?_) #[true, false, false, false, false, false, false, false, false, false, false, false, false, false, false, false, false, false] rfl rfl (any_of HT_.out (by kernel_rfl)) (fun _ _ _ h => h) (Or.inl ⟨by rfl, ?_⟩) ?_ ?_
                      rotate_left
                      · intro w'
                        go_simp
                        with_reducible rfl
                      rotate_left
                      · simp only [Act.put, List.setIfInBounds_toArray, List.set_cons_zero, List.set_cons_succ, i64_w, i32_w]
                        rfl
                      refine pure_ (i := 1) (N := some 89) (v := ?_) (a' := ?_) #[true, true, false, false, false, false, false, false, false, false, false, false, false, false, false, false, false, false] rfl rfl (any_of HT_.out (by kernel_rfl)) (fun _ _ _ h => h) (Or.inl ⟨by rfl, ?_⟩) ?_ ?_
                      rotate_left
                      · intro w'
                        go_simp
                        with_reducible rfl
                      rotate_left
                      · simp only [Act.put, List.setIfInBounds_toArray, List.set_cons_zero, List.set_cons_succ, i64_w, i32_w]
                        rfl
                      refine pure_ (i := 2) (N := some 90) (v := ?_) (a' := ?_) #[true, true, true, false, false, false, false, false, false, false, false, false, false, false, false, false, false, false] rfl rfl (any_of HT_.out (by kernel_rfl)) (fun _ _ _ h => h) (Or.inl ⟨by rfl, ?_⟩) ?_ ?_
                      rotate_left
                      · intro w'
                        go_simp
                        with_reducible rfl
                      rotate_left
                      · simp only [Act.put, List.setIfInBounds_toArray, List.set_cons_zero, List.set_cons_succ, i64_w, i32_w]
                        rfl
                      refine pure_ (i := 3) (N := some 91) (v := ?_) (a' := ?_) #[true, true, true, true, false, false, false, false, false, false, false, false, false, false, false, false, false, false] rfl rfl (any_of HT_.out (by kernel_rfl)) (fun _ _ _ h => h) (Or.inl ⟨by rfl, ?_⟩) ?_ ?_
                      rotate_left
                      · intro w'
                        go_simp
                        with_reducible rfl
                      rotate_left
                      · simp only [Act.put, List.setIfInBounds_toArray, List.set_cons_zero, List.set_cons_succ, i64_w, i32_w]
                        rfl
                      refine pure_ (i := 4) (N := some 92) (v := ?_) (a' := ?_) #[true, true, true, true, true, false, false, false, false, false, false, false, false, false, false, false, false, false] rfl rfl (any_of HT_.out (by kernel_rfl)) (fun _ _ _ h => h) (Or.inl ⟨by rfl, ?_⟩) ?_ ?_
                      rotate_left
                      · intro w'
                        go_simp
                        with_reducible rfl
                      rotate_left
                      · simp only [Act.put, List.setIfInBounds_toArray, List.set_cons_zero, List.set_cons_succ, i64_w, i32_w]
                        rfl
                      refine pure_ (i := 5) (N := some 93) (v := ?_) (a' := ?_) #[true, true, true, true, true, true, false, false, false, false, false, false, false, false, false, false, false, false] rfl rfl (any_of HT_.out (by kernel_rfl)) (fun _ _ _ h => h) (Or.inl ⟨by rfl, ?_⟩) ?_ ?_
                      rotate_left
                      · intro w'
                        go_simp
                        with_reducible rfl
                      rotate_left
                      · simp only [Act.put, List.setIfInBounds_toArray, List.set_cons_zero, List.set_cons_succ, i64_w, i32_w]
                        rfl
                      refine pure_ (i := 6) (N := some 94) (v := ?_) (a' := ?_) #[true, true, true, true, true, true, true, false, false, false, false, false, false, false, false, false, false, false] rfl rfl (any_of HT_.out (by kernel_rfl)) (fun _ _ _ h => h) (Or.inl ⟨by rfl, ?_⟩) ?_ ?_
                      rotate_left
                      · intro w'
                        go_simp
                        with_reducible rfl
                      rotate_left
                      · simp only [Act.put, List.setIfInBounds_toArray, List.set_cons_zero, List.set_cons_succ, i64_w, i32_w]
                        rfl
                      refine pure_ (i := 8) (N := some 96) (v := ?_) (a' := ?_) #[true, true, true, true, true, true, true, false, true, false, false, false, false, false, false, false, false, false] rfl rfl (any_of HT_.out (by kernel_rfl)) (fun _ _ _ h => h) (Or.inl ⟨by rfl, ?_⟩) ?_ ?_
                      rotate_left
                      · intro w'
                        go_simp
                        with_reducible rfl
                      rotate_left
                      · simp only [Act.put, List.setIfInBounds_toArray, List.set_cons_zero, List.set_cons_succ, i64_w, i32_w]
                        rfl
                      refine pure_ (i := 9) (N := some 97) (v := ?_) (a' := ?_) #[true, true, true, true, true, true, true, false, true, true, false, false, false, false, false, false, false, false] rfl rfl (any_of HT_.out (by kernel_rfl)) (fun _ _ _ h => h) (Or.inl ⟨by rfl, ?_⟩) ?_ ?_
                      rotate_left
                      · intro w'
                        go_simp
                        with_reducible rfl
                      rotate_left
                      · simp only [Act.put, List.setIfInBounds_toArray, List.set_cons_zero, List.set_cons_succ, i64_w, i32_w]
                        rfl
                      refine pure_ (i := 10) (N := some 98) (v := ?_) (a' := ?_) #[true, true, true, true, true, true, true, false, true, true, true, false, false, false, false, false, false, false] rfl rfl (any_of HT_.out (by kernel_rfl)) (fun _ _ _ h => h) (Or.inl ⟨by rfl, ?_⟩) ?_ ?_
                      rotate_left
                      · intro w'
                        go_simp
                        with_reducible rfl
                      rotate_left
                      · simp only [Act.put, List.setIfInBounds_toArray, List.set_cons_zero, List.set_cons_succ, i64_w, i32_w]
                        rfl
                      refine pure_ (i := 11) (N := some 99) (v := ?_) (a' := ?_) #[true, true, true, true, true, true, true, false, true, true, true, true, false, false, false, false, false, false] rfl rfl (any_of HT_.out (by kernel_rfl)) (fun _ _ _ h => h) (Or.inl ⟨by rfl, ?_⟩) ?_ ?_
                      rotate_left
                      · intro w'
                        go_simp
                        with_reducible rfl
                      rotate_left
                      · simp only [Act.put, List.setIfInBounds_toArray, List.set_cons_zero, List.set_cons_succ, i64_w, i32_w]
                        rfl
                      refine pure_ (i := 12) (N := some 100) (v := ?_) (a' := ?_) #[true, true, true, true, true, true, true, false, true, true, true, true, true, false, false, false, false, false] rfl rfl (any_of HT_.out (by kernel_rfl)) (fun _ _ _ h => h) (Or.inl ⟨by rfl, ?_⟩) ?_ ?_
                      rotate_left
                      · intro w'
                        go_simp
                        with_reducible rfl
                      rotate_left
                      · simp only [Act.put, List.setIfInBounds_toArray, List.set_cons_zero, List.set_cons_succ, i64_w, i32_w]
                        rfl
                      refine pure_ (i := 13) (N := some 101) (v := ?_) (a' := ?_) #[true, true, true, true, true, true, true, false, true, true, true, true, true, true, false, false, false, false] rfl rfl (any_of HT_.out (by kernel_rfl)) (fun _ _ _ h => h) (Or.inl ⟨by rfl, ?_⟩) ?_ ?_
                      rotate_left
                      · intro w'
                        go_simp
                        with_reducible rfl
                      rotate_left
                      · simp only [Act.put, List.setIfInBounds_toArray, List.set_cons_zero, List.set_cons_succ, i64_w, i32_w]
                        rfl
                      refine one_ (i := 7) (N := some 95) #[true, true, true, true, true, true, true, true, true, true, true, true, true, true, false, false, false, false] rfl rfl (one_of HT_.out (by kernel_rfl)) (by decide) (fun K hK => ?_)
                      refine goes_ Try.func10 (by kernel_rfl) rfl #[.string (a0.extract (x4_1 : Int).toNat ((wrap64 (x4_1 + 1)) : Int).toNat)] (by rfl) rfl rfl (by (try simp only [List.map_toArray, List.map_cons, List.map_nil]); first | done | rfl | (simp only [List.length_drop, List.length_take]; rfl)) ?_
                      with_reducible refine (spec_pieceOf.calls (a0.extract (x4_1 : Int).toNat ((wrap64 (x4_1 + 1)) : Int).toNat) t186 _ A41.out).mono ?_
                      rintro e w' ⟨rfl, ⟨nd, rfl⟩⟩
                      refine ⟨_, rfl, ?_⟩
                      refine hK.out _ _ trivial (fun hHeld => ?_)
                      clear hK K
                      refine norm_ (a' := ?_) ?_ ?_
                      rotate_left
                      · show Act.put _ (some 95) _ = _
                        simp only [Act.put, List.setIfInBounds_toArray, List.set_cons_zero, List.set_cons_succ, i64_w, i32_w]
                        rfl
                      refine pure_ (i := 14) (N := some 102) (v := ?_) (a' := ?_) #[true, true, true, true, true, true, true, true, true, true, true, true, true, true, true, false, false, false] rfl rfl (any_of HT_.out (by kernel_rfl)) (fun _ _ _ h => h) (Or.inl ⟨by rfl, ?_⟩) ?_ ?_
                      rotate_left
                      · intro w'
                        go_simp
                        with_reducible rfl
                      rotate_left
                      · simp only [Act.put, List.setIfInBounds_toArray, List.set_cons_zero, List.set_cons_succ, i64_w, i32_w]
                        rfl
                      refine one_ (i := 15) (N := some 103) #[true, true, true, true, true, true, true, true, true, true, true, true, true, true, true, true, false, false] rfl rfl (one_of HT_.out (by kernel_rfl)) (by decide) (fun K hK => ?_)
                      refine value_ (w1 := ?_) (v := ?_) (by rfl) rfl ?_ ?_
                      rotate_left 2
                      · go_simp
                        constructor
                        · rfl
                        · rfl
                      refine hK.out _ _ trivial (fun hHeld => ?_)
                      clear hK K
                      refine norm_ (a' := ?_) ?_ ?_
                      rotate_left
                      · show Act.put _ (some 103) _ = _
                        simp only [Act.put, List.setIfInBounds_toArray, List.set_cons_zero, List.set_cons_succ, i64_w, i32_w]
                        rfl
                      refine one_ (i := 16) (N := some 104) #[true, true, true, true, true, true, true, true, true, true, true, true, true, true, true, true, true, false] rfl rfl (one_of HT_.out (by kernel_rfl)) (by decide) (fun K hK => ?_)
                      refine Kd.R_append_step k25 (w0 := w) w.heap.size (by rfl) (.tmp 88) (.tmp 103) 22 25 (.agg #[(.int .i64 0), (.string ⟨#[]⟩)]) 24 rfl Try.underlying22 info25 rfl (by decide) (by omega) u3 x3_1 (⟨t186, a0.extract (x4_1 : Int).toNat ((wrap64 (x4_1 + 1)) : Int).toNat⟩ : S25) [.int .i64 t186, .string (a0.extract (x4_1 : Int).toNat ((wrap64 (x4_1 + 1)) : Int).toNat)] (fun _ => True) (fun _ => False) rfl rfl ?aP (fun _ hk => hk.elim) ?aF ?aO ?aB ?aS ?aL ?_
                      (case aP => exact k25_mkM _ _ _ (⟨t186, a0.extract (x4_1 : Int).toNat ((wrap64 (x4_1 + 1)) : Int).toNat⟩ : S25))
                      (case aB => exact (by repeat (first | (with_reducible first | exact HB.out | apply below_alloc | apply pw_below_drewN | apply below_drew1) | exact HB.out)))
                      (case aF => exact (fun _ _ => trivial))
                      (case aO => exact (by (with_reducible repeat (first | apply Kd.R_alloc | apply Kd.R_drewN | apply Kd.R_drew)); exact HO_3.out))
                      (case aS => exact (below_size (by repeat (first | (with_reducible first | exact HB.out | apply below_alloc | apply pw_below_drewN | apply below_drew1) | exact HB.out))))
                      (case aL => have := LMc45.out; omega)
                      intro v188 w48 ho hb hg hat
                      rw [← Ny187.out] at ho
                      have n0_ := Aside0.mk (hb)
                      have n1_ := Aside0.mk (ho)
                      clear HB
                      clear HO_3
                      have HB := n0_
                      have HO189 := n1_
                      clear n0_ n1_
                      clear ho hb hg hat
                      refine hK.out _ _ trivial (fun hHeld => ?_)
                      clear hK K
                      refine norm_ (a' := ?_) ?_ ?_
                      rotate_left
                      · show Act.put _ (some 104) _ = _
                        simp only [Act.put, List.setIfInBounds_toArray, List.set_cons_zero, List.set_cons_succ, i64_w, i32_w]
                        rfl
                      refine pure_ (i := 17) (N := some 3) (v := ?_) (a' := ?_) #[true, true, true, true, true, true, true, true, true, true, true, true, true, true, true, true, true, true] rfl rfl (any_of HT_.out (by kernel_rfl)) (fun _ _ _ h => h) (Or.inl ⟨by rfl, ?_⟩) ?_ ?_
                      rotate_left
                      · intro w'
                        go_simp
                        with_reducible rfl
                      rotate_left
                      · simp only [Act.put, List.setIfInBounds_toArray, List.set_cons_zero, List.set_cons_succ, i64_w, i32_w]
                        rfl
                      refine done_ (done_of HT_.out (by kernel_rfl)) ?_
                      try go_wp2
                      go_roundg k1
                      case measure => have := HK1.out; omega
                      case rel => exact ⟨(y187), (wrap64 (x4_1 + 1)), (by first | rfl | (simp; done) | (simp [*]; done)), H', ⟨by have := HK1.out; omega⟩, ⟨by (with_reducible repeat (first | apply Kd.R_alloc | apply Kd.R_drewN | apply Kd.R_drew)); exact HO189.out⟩, ⟨by repeat (first | (with_reducible first | exact HB.out | apply below_alloc | apply pw_below_drewN | apply below_drew1) | exact HB.out)⟩⟩
                    · rw [if_neg c45] at H
                      exact absurd H (by simp)
                  · rw [if_neg c40] at H
                    exact absurd H (by simp)
                · rw [if_neg c39] at H
                  exact absurd H (by simp)
            · replace c9 := Bool.eq_false_iff.mpr c9
              subst c9
              have H1 : (spec_Pieces.l1 k1 a0 x3_1 x4_1 1) = some r := by rw [if_neg (show ¬ (false = true) by decide)] at H; exact H
              clear H
              have H := H1
              clear H1
              have HC49 := Aside0.mk H
              clear H
              have p4 : 0 ≤ (x4_1 : Int) := of_decide_eq_true (by first | (with_reducible assumption) | assumption)
              have q4 : x4_1 < (a0.size : Int) := of_decide_eq_true (by first | (with_reducible assumption) | assumption)
              have hx4 := bt_at a0 x4_1
              replace p4 := eq_true p4
              replace q4 := eq_true q4
              go_upto_block 3 with (first | ((with_reducible refine gate_callee (f := 8) rfl ?_); refine goesL_ (some 66) rfl rfl Try.func8 (by kernel_rfl) rfl #[.int .u8 (bt a0 x4_1)] rfl (by (try simp only [List.map_toArray, List.map_cons, List.map_nil]); first | done | rfl | (simp only [List.length_drop, List.length_take]; rfl)) ?_; (with_reducible refine (spec_blank.calls (bt a0 x4_1) false _ A5.out).mono ?_); rintro e w' ⟨rfl, ⟨nd, rfl⟩⟩; refine ⟨_, rfl, ?_⟩; have p7 : 0 ≤ (x4_1 : Int) := of_decide_eq_true (by first | (with_reducible assumption) | assumption); have q7 : x4_1 < (a0.size : Int) := of_decide_eq_true (by first | (with_reducible assumption) | assumption); have hx7 := bt_at a0 x4_1; replace p7 := eq_true p7; replace q7 := eq_true q7) | ((with_reducible refine gate_callee (f := 9) rfl ?_); refine goesL_ (some 73) rfl rfl Try.func9 (by kernel_rfl) rfl #[.int .u8 (bt a0 x4_1)] rfl (by (try simp only [List.map_toArray, List.map_cons, List.map_nil]); first | done | rfl | (simp only [List.length_drop, List.length_take]; rfl)) ?_; (with_reducible refine (spec_sign.calls k1 (bt a0 x4_1) false _ A8.out).mono ?_); rintro e w50 ⟨rfl, hb⟩; refine ⟨_, rfl, ?_⟩; have n0_ := Aside0.mk (Kd.R_below (by (with_reducible repeat (first | apply Kd.R_alloc | apply Kd.R_drewN | apply Kd.R_drew)); exact HO_3.out) hb); have n1_ := Aside0.mk (below_step (by repeat (first | (with_reducible first | exact HB.out | apply below_alloc | apply pw_below_drewN | apply below_drew1) | exact HB.out)) hb); clear HO_3; clear HB; have HO_3 := n0_; have HB := n1_; clear n0_ n1_; (try clear hb); (try clear hb2); (try clear hk); (try clear hi)))
              (try simp only [Act.put, List.setIfInBounds_toArray, List.set_cons_zero, List.set_cons_succ])
              go_cut [5] (fun v5 wc => ∃ (kq : Nat) (x5_48 : Int), v5 = .int .i64 x5_48 ∧ Aside0 (spec_Pieces.j2 kq a0 x3_1 x4_1 x5_48 = some r) ∧ Aside0 (kq ≤ k1) ∧ Aside0 (Kd.R k25 25 wc w.heap.size (fun _ => True) u3 x3_1) ∧ Aside0 (Below w.heap.size w wc))
              case first =>
                have H := HC49.out
                clear HC49
                have H' := Aside0.mk H
                clear H
                go_wp2
                go_loopg [5] k1 (fun kq v5 w' => ∃ (x5_2 : Int), v5 = .int .i64 x5_2 ∧ Aside0 (spec_Pieces.l1 kq a0 x3_1 x4_1 x5_2 = some r) ∧ Aside0 (kq ≤ k1) ∧ Aside0 (Kd.R k25 25 w' w.heap.size (fun _ => True) u3 x3_1) ∧ Aside0 (Below w.heap.size w w'))
                case atStart => exact ⟨(1), (by first | rfl | (simp; done) | (simp [*]; done)), H', ⟨Nat.le_refl _⟩, ⟨by (with_reducible repeat (first | apply Kd.R_alloc | apply Kd.R_drewN | apply Kd.R_drew)); exact HO_3.out⟩, ⟨by repeat (first | (with_reducible first | exact HB.out | apply below_alloc | apply pw_below_drewN | apply below_drew1) | exact HB.out)⟩⟩
                case round =>
                  clear H'
                  try clear c1
                  try clear c2
                  try clear p2
                  try clear c3
                  try clear c4
                  try clear p4
                  try clear q4
                  try clear hx4
                  try clear p6
                  try clear p7
                  try clear q7
                  try clear hx7
                  try clear c8
                  try clear c9
                  try clear c10
                  try clear c10b0
                  try clear c12
                  try clear c13
                  try clear c15
                  try clear c15b0
                  try clear c23
                  try clear c27
                  try clear c27b0
                  try clear c28
                  try clear c28b0
                  try clear c28b1
                  try clear c29
                  try clear c29b0
                  try clear c29b1
                  try clear c31
                  try clear c31b0
                  try clear c32
                  try clear c32b0
                  try clear c33
                  try clear c33b0
                  try clear c34
                  try clear c38
                  try clear c38b0
                  try clear c39
                  try clear c39b0
                  try clear c39b1
                  try clear c40
                  try clear c40b0
                  try clear c40b1
                  try clear c42
                  try clear c42b0
                  try clear c43
                  try clear c43b0
                  try clear c44
                  try clear c44b0
                  try clear c45
                  try clear p4
                  try clear p7
                  try clear q4
                  try clear q7
                  obtain ⟨x5_2, rfl, HA, HK2, HO_3, HB⟩ := hrel
                  cases gk with
                  | zero => exact absurd HA.out (by simp [spec_Pieces.l1])
                  | succ k2 =>
                    have H := HA.out
                    clear HA
                    simp only [spec_Pieces.l1] at H
                    by_cases c51 : (wrap64 (x4_1 + x5_2)) < (a0.size : Int)
                    · rw [if_pos c51] at H
                      have c51b0 : decide ((wrap64 (x4_1 + x5_2)) < (a0.size : Int)) = true := decide_eq_true c51
                      clear c51
                      (first | rw [c51b0] | (simp only [i64_w, i32_w]; rw [c51b0]) | skip)
                      obtain ⟨ji52, hji52⟩ : ∃ j_ : Int, (wrap64 (x4_1 + x5_2)) = j_ := ⟨_, rfl⟩
                      replace H : (if 0 ≤ (ji52) then ((spec_blank.f (bt a0 (ji52))).bind fun t190 => (if t190 = true then (spec_Pieces.j2 k2 a0 x3_1 x4_1 x5_2) else ((spec_sign.f k2 (bt a0 (ji52))).bind fun t191 => (if t191 = true then (spec_Pieces.j2 k2 a0 x3_1 x4_1 x5_2) else (spec_Pieces.l1 k2 a0 x3_1 x4_1 (wrap64 (x5_2 + 1))))))) else (none)) = some r := by first | (rw [hji52] at H; exact H) | (simp only [hji52] at H ⊢; exact H)
                      (try rw [hji52] at c51b0)
                      have hji52w : (IntKind.i64.wrap (x4_1 + x5_2)) = ji52 := (i64_w _).trans hji52
                      by_cases c53 : 0 ≤ (ji52)
                      · rw [if_pos c53] at H
                        have c53b0 : decide (0 ≤ (ji52)) = true := decide_eq_true c53
                        clear c53
                        replace H := Option.bind_eq_some_iff.mp H
                        obtain ⟨t190, A550, H⟩ := H
                        replace H : (if t190 = true then (spec_Pieces.j2 k2 a0 x3_1 x4_1 x5_2) else ((spec_sign.f k2 (bt a0 (ji52))).bind fun t191 => (if t191 = true then (spec_Pieces.j2 k2 a0 x3_1 x4_1 x5_2) else (spec_Pieces.l1 k2 a0 x3_1 x4_1 (wrap64 (x5_2 + 1)))))) = some r := H
                        have A55 := Aside0.mk A550
                        clear A550
                        by_cases c56 : t190 = true
                        · subst c56
                          have H1 : (spec_Pieces.j2 k2 a0 x3_1 x4_1 x5_2) = some r := by rw [if_pos rfl] at H; exact H
                          clear H
                          have H := H1
                          clear H1
                          have H' := Aside0.mk H
                          clear H
                          have p54 : 0 ≤ ((ji52) : Int) := of_decide_eq_true (by first | (with_reducible assumption) | assumption)
                          have q54 : (ji52) < (a0.size : Int) := of_decide_eq_true (by first | (with_reducible assumption) | assumption)
                          have hx54 := bt_at a0 (ji52)
                          replace p54 := eq_true p54
                          replace q54 := eq_true q54
                          go_wp2_with (first | (go_at_call 8; (with_reducible refine (spec_blank.calls (bt a0 (ji52)) true _ A55.out).mono ?_); rintro e w' ⟨rfl, ⟨nd, rfl⟩⟩))
                          go_meet
                          case rel => exact ⟨_, (x5_2), (by first | rfl | (simp; done) | (simp [*]; done)), H', ⟨by have := HK1.out; have := HK2.out; first | omega | exact Nat.le_refl _⟩, ⟨by (with_reducible repeat (first | apply Kd.R_alloc | apply Kd.R_drewN | apply Kd.R_drew)); exact HO_3.out⟩, ⟨by repeat (first | (with_reducible first | exact HB.out | apply below_alloc | apply pw_below_drewN | apply below_drew1) | exact HB.out)⟩⟩
                        · replace c56 := Bool.eq_false_iff.mpr c56
                          subst c56
                          have H1 : ((spec_sign.f k2 (bt a0 (ji52))).bind fun t191 => (if t191 = true then (spec_Pieces.j2 k2 a0 x3_1 x4_1 x5_2) else (spec_Pieces.l1 k2 a0 x3_1 x4_1 (wrap64 (x5_2 + 1))))) = some r := by rw [if_neg (show ¬ (false = true) by decide)] at H; exact H
                          clear H
                          have H := H1
                          clear H1
                          replace H := Option.bind_eq_some_iff.mp H
                          obtain ⟨t191, A580, H⟩ := H
                          replace H : (if t191 = true then (spec_Pieces.j2 k2 a0 x3_1 x4_1 x5_2) else (spec_Pieces.l1 k2 a0 x3_1 x4_1 (wrap64 (x5_2 + 1)))) = some r := H
                          have A58 := Aside0.mk A580
                          clear A580
                          by_cases c59 : t191 = true
                          · subst c59
                            have H1 : (spec_Pieces.j2 k2 a0 x3_1 x4_1 x5_2) = some r := by rw [if_pos rfl] at H; exact H
                            clear H
                            have H := H1
                            clear H1
                            have H' := Aside0.mk H
                            clear H
                            have p54 : 0 ≤ ((ji52) : Int) := of_decide_eq_true (by first | (with_reducible assumption) | assumption)
                            have q54 : (ji52) < (a0.size : Int) := of_decide_eq_true (by first | (with_reducible assumption) | assumption)
                            have hx54 := bt_at a0 (ji52)
                            replace p54 := eq_true p54
                            replace q54 := eq_true q54
                            go_wp2_with (first | (go_at_call 8; (with_reducible refine (spec_blank.calls (bt a0 (ji52)) false _ A55.out).mono ?_); rintro e w' ⟨rfl, ⟨nd, rfl⟩⟩; have p57 : 0 ≤ ((ji52) : Int) := of_decide_eq_true (by first | (with_reducible assumption) | assumption); have q57 : (ji52) < (a0.size : Int) := of_decide_eq_true (by first | (with_reducible assumption) | assumption); have hx57 := bt_at a0 (ji52); replace p57 := eq_true p57; replace q57 := eq_true q57) | (go_at_call 9; (with_reducible refine (spec_sign.calls k2 (bt a0 (ji52)) true _ A58.out).mono ?_); rintro e w60 ⟨rfl, hb⟩; have n0_ := Aside0.mk (Kd.R_below (by (with_reducible repeat (first | apply Kd.R_alloc | apply Kd.R_drewN | apply Kd.R_drew)); exact HO_3.out) hb); have n1_ := Aside0.mk (below_step (by repeat (first | (with_reducible first | exact HB.out | apply below_alloc | apply pw_below_drewN | apply below_drew1) | exact HB.out)) hb); clear HO_3; clear HB; have HO_3 := n0_; have HB := n1_; clear n0_ n1_; (try clear hb); (try clear hb2); (try clear hk); (try clear hi)))
                            go_meet
                            case rel => exact ⟨_, (x5_2), (by first | rfl | (simp; done) | (simp [*]; done)), H', ⟨by have := HK1.out; have := HK2.out; first | omega | exact Nat.le_refl _⟩, ⟨by (with_reducible repeat (first | apply Kd.R_alloc | apply Kd.R_drewN | apply Kd.R_drew)); exact HO_3.out⟩, ⟨by repeat (first | (with_reducible first | exact HB.out | apply below_alloc | apply pw_below_drewN | apply below_drew1) | exact HB.out)⟩⟩
                          · replace c59 := Bool.eq_false_iff.mpr c59
                            subst c59
                            have H1 : (spec_Pieces.l1 k2 a0 x3_1 x4_1 (wrap64 (x5_2 + 1))) = some r := by rw [if_neg (show ¬ (false = true) by decide)] at H; exact H
                            clear H
                            have H := H1
                            clear H1
                            have H' := Aside0.mk H
                            clear H
                            have p54 : 0 ≤ ((ji52) : Int) := of_decide_eq_true (by first | (with_reducible assumption) | assumption)
                            have q54 : (ji52) < (a0.size : Int) := of_decide_eq_true (by first | (with_reducible assumption) | assumption)
                            have hx54 := bt_at a0 (ji52)
                            replace p54 := eq_true p54
                            replace q54 := eq_true q54
                            go_wp2_with (first | (go_at_call 8; (with_reducible refine (spec_blank.calls (bt a0 (ji52)) false _ A55.out).mono ?_); rintro e w' ⟨rfl, ⟨nd, rfl⟩⟩; have p57 : 0 ≤ ((ji52) : Int) := of_decide_eq_true (by first | (with_reducible assumption) | assumption); have q57 : (ji52) < (a0.size : Int) := of_decide_eq_true (by first | (with_reducible assumption) | assumption); have hx57 := bt_at a0 (ji52); replace p57 := eq_true p57; replace q57 := eq_true q57) | (go_at_call 9; (with_reducible refine (spec_sign.calls k2 (bt a0 (ji52)) false _ A58.out).mono ?_); rintro e w61 ⟨rfl, hb⟩; have n0_ := Aside0.mk (Kd.R_below (by (with_reducible repeat (first | apply Kd.R_alloc | apply Kd.R_drewN | apply Kd.R_drew)); exact HO_3.out) hb); have n1_ := Aside0.mk (below_step (by repeat (first | (with_reducible first | exact HB.out | apply below_alloc | apply pw_below_drewN | apply below_drew1) | exact HB.out)) hb); clear HO_3; clear HB; have HO_3 := n0_; have HB := n1_; clear n0_ n1_; (try clear hb); (try clear hb2); (try clear hk); (try clear hi)))
                            go_roundg k2
                            case measure => have := HK1.out; have := HK2.out; omega
                            case rel => exact ⟨(wrap64 (x5_2 + 1)), (by first | rfl | (simp; done) | (simp [*]; done)), H', ⟨by have := HK1.out; have := HK2.out; omega⟩, ⟨by (with_reducible repeat (first | apply Kd.R_alloc | apply Kd.R_drewN | apply Kd.R_drew)); exact HO_3.out⟩, ⟨by repeat (first | (with_reducible first | exact HB.out | apply below_alloc | apply pw_below_drewN | apply below_drew1) | exact HB.out)⟩⟩
                      · rw [if_neg c53] at H
                        exact absurd H (by simp)
                    · rw [if_neg c51] at H
                      have c51b0 : decide ((wrap64 (x4_1 + x5_2)) < (a0.size : Int)) = false := decide_eq_false c51
                      clear c51
                      (first | rw [c51b0] | (simp only [i64_w, i32_w]; rw [c51b0]) | skip)
                      have H' := Aside0.mk H
                      clear H
                      go_wp2
                      go_meet
                      case rel => exact ⟨_, (x5_2), (by first | rfl | (simp; done) | (simp [*]; done)), H', ⟨by have := HK1.out; have := HK2.out; first | omega | exact Nat.le_refl _⟩, ⟨by (with_reducible repeat (first | apply Kd.R_alloc | apply Kd.R_drewN | apply Kd.R_drew)); exact HO_3.out⟩, ⟨by repeat (first | (with_reducible first | exact HB.out | apply below_alloc | apply pw_below_drewN | apply below_drew1) | exact HB.out)⟩⟩
              case rest =>
                clear HC49
                try clear c1
                try clear c2
                try clear p2
                try clear c3
                try clear c4
                try clear p4
                try clear q4
                try clear hx4
                try clear c5
                try clear p5
                try clear q5
                try clear hx5
                try clear p6
                try clear p7
                try clear q7
                try clear hx7
                try clear c8
                try clear c9
                try clear c10
                try clear c10b0
                try clear c12
                try clear c13
                try clear c15
                try clear c15b0
                try clear c23
                try clear c27
                try clear c27b0
                try clear c28
                try clear c28b0
                try clear c28b1
                try clear c29
                try clear c29b0
                try clear c29b1
                try clear c31
                try clear c31b0
                try clear c32
                try clear c32b0
                try clear c33
                try clear c33b0
                try clear c34
                try clear c38
                try clear c38b0
                try clear c39
                try clear c39b0
                try clear c39b1
                try clear c40
                try clear c40b0
                try clear c40b1
                try clear c42
                try clear c42b0
                try clear c43
                try clear c43b0
                try clear c44
                try clear c44b0
                try clear c45
                try clear c51
                try clear c51b0
                try clear c53
                try clear c53b0
                try clear p54
                try clear q54
                try clear hx54
                try clear c56
                try clear p57
                try clear q57
                try clear hx57
                try clear c59
                try clear p2
                try clear p4
                try clear p54
                try clear p57
                try clear p6
                try clear p7
                try clear q4
                try clear q54
                try clear q57
                try clear q7
                obtain ⟨kq, x5_48, rfl, HA, HJ48, HO_3, HB⟩ := hcut
                cases kq with
                | zero => exact absurd HA.out (by simp [spec_Pieces.j2])
                | succ kj48 =>
                  have H := HA.out
                  clear HA
                  simp only [spec_Pieces.j2] at H
                  by_cases c62 : 0 ≤ x4_1
                  · rw [if_pos c62] at H
                    have c62b0 := eq_true c62
                    have c62b1 : decide (0 ≤ x4_1) = true := decide_eq_true c62
                    clear c62
                    by_cases c63 : x4_1 ≤ (wrap64 (x4_1 + x5_48))
                    · rw [if_pos c63] at H
                      have c63b0 := eq_true c63
                      have c63b1 : decide (x4_1 ≤ (wrap64 (x4_1 + x5_48))) = true := decide_eq_true c63
                      by_cases c64 : (wrap64 (x4_1 + x5_48)) ≤ (a0.size : Int)
                      · rw [if_pos c64] at H
                        have c64b0 := eq_true c64
                        have c64b1 : decide ((wrap64 (x4_1 + x5_48)) ≤ (a0.size : Int)) = true := decide_eq_true c64
                        by_cases c65 : (a0.extract (x4_1 : Int).toNat ((wrap64 (x4_1 + x5_48)) : Int).toNat).toList = ([105, 110] : List UInt8)
                        · rw [if_pos c65] at H
                          have c65b0 : ((a0.extract (x4_1 : Int).toNat ((wrap64 (x4_1 + x5_48)) : Int).toNat).toList == ([105, 110] : List UInt8)) = true := beq_iff_eq.mpr c65
                          have c65b1 : ((a0.extract (x4_1 : Int).toNat ((wrap64 (x4_1 + x5_48)) : Int).toNat).toList != ([105, 110] : List UInt8)) = false := bne_eq_false_iff_eq.mpr c65
                          clear c65
                          have c66b0 := eq_true (of_decide_eq_true (by first | (with_reducible assumption) | assumption) : 0 ≤ x4_1)
                          have c67b0 := eq_true (of_decide_eq_true (by first | (with_reducible assumption) | assumption) : x4_1 ≤ (wrap64 (x4_1 + x5_48)))
                          have c68b0 := eq_true (of_decide_eq_true (by first | (with_reducible assumption) | assumption) : (wrap64 (x4_1 + x5_48)) ≤ (a0.size : Int))
                          by_cases c69 : (a0.extract (x4_1 : Int).toNat ((wrap64 (x4_1 + x5_48)) : Int).toNat).toList = ([110, 111, 116, 105, 110] : List UInt8)
                          · rw [if_pos c69] at H
                            have c69b0 : ((a0.extract (x4_1 : Int).toNat ((wrap64 (x4_1 + x5_48)) : Int).toNat).toList == ([110, 111, 116, 105, 110] : List UInt8)) = true := beq_iff_eq.mpr c69
                            have c69b1 : ((a0.extract (x4_1 : Int).toNat ((wrap64 (x4_1 + x5_48)) : Int).toNat).toList != ([110, 111, 116, 105, 110] : List UInt8)) = false := bne_eq_false_iff_eq.mpr c69
                            clear c69
                            have c70b0 := eq_true (of_decide_eq_true (by first | (with_reducible assumption) | assumption) : 0 ≤ x4_1)
                            have c71b0 := eq_true (of_decide_eq_true (by first | (with_reducible assumption) | assumption) : x4_1 ≤ (wrap64 (x4_1 + x5_48)))
                            have c72b0 := eq_true (of_decide_eq_true (by first | (with_reducible assumption) | assumption) : (wrap64 (x4_1 + x5_48)) ≤ (a0.size : Int))
                            by_cases c73 : x3_1.length < 5864062014805
                            · rw [if_pos c73] at H
                              have LMc73 := Aside0.mk c73
                              clear c73
                              obtain ⟨y192, hy192⟩ : ∃ y_ : List (S25), y_ = (x3_1 ++ [(⟨12, a0.extract (x4_1 : Int).toNat ((wrap64 (x4_1 + x5_48)) : Int).toNat⟩ : S25)]) := ⟨_, rfl⟩
                              replace H : (spec_Pieces.l0 kj48 a0 y192 (wrap64 (x4_1 + x5_48))) = some r := by first | (rw [hy192]; with_reducible exact H) | (have H2_ := (Option.bind_some _ _).symm.trans H; rw [hy192]; with_reducible exact H2_) | (have H2_ := (Option.bind_some _ _).symm.trans H; with_reducible exact H2_) | with_reducible exact H | (rw [hy192]; exact H) | exact H
                              have Ny192 := Aside0.mk hy192
                              clear hy192
                              have H' := Aside0.mk H
                              clear H
                              go_wp2_with (first | ((with_reducible refine gate_builtin (b := .append) (xs := #[.tmp 51, .tmp 60]) rfl ?_); at_builtin; refine Kd.R_append k25 (w0 := w) w.heap.size rfl (.tmp 51) (.tmp 60) 22 25 (.agg #[(.int .i64 0), (.string ⟨#[]⟩)]) 24 rfl Try.underlying22 info25 rfl (by decide) (by omega) u3 x3_1 (⟨12, a0.extract (x4_1 : Int).toNat ((wrap64 (x4_1 + x5_48)) : Int).toNat⟩ : S25) [.int .i64 12, .string (a0.extract (x4_1 : Int).toNat ((wrap64 (x4_1 + x5_48)) : Int).toNat)] (fun _ => True) (fun _ => False) rfl rfl ?aP (fun _ hk => hk.elim) ?aF ?aO ?aB ?aS ?aL ?_; (case aP => exact k25_mkM _ _ _ (⟨12, a0.extract (x4_1 : Int).toNat ((wrap64 (x4_1 + x5_48)) : Int).toNat⟩ : S25)); (case aB => exact (by repeat (first | (with_reducible first | exact HB.out | apply below_alloc | apply pw_below_drewN | apply below_drew1) | exact HB.out))); (case aF => exact (fun _ _ => trivial)); (case aO => exact (by (with_reducible repeat (first | apply Kd.R_alloc | apply Kd.R_drewN | apply Kd.R_drew)); exact HO_3.out)); (case aS => exact (below_size (by repeat (first | (with_reducible first | exact HB.out | apply below_alloc | apply pw_below_drewN | apply below_drew1) | exact HB.out)))); (case aL => have := LMc73.out; omega); intro v193 w74 ho hb hg hat; rw [← Ny192.out] at ho; have n0_ := Aside0.mk (hb); have n1_ := Aside0.mk (ho); clear HB; clear HO_3; have HB := n0_; have HO194 := n1_; clear n0_ n1_; clear ho hb hg hat))
                              go_roundg kj48
                              case measure => have := HK1.out; have := HJ48.out; omega
                              case rel => exact ⟨(y192), (wrap64 (x4_1 + x5_48)), (by first | rfl | (simp; done) | (simp [*]; done)), H', ⟨by have := HK1.out; have := HJ48.out; omega⟩, ⟨by (with_reducible repeat (first | apply Kd.R_alloc | apply Kd.R_drewN | apply Kd.R_drew)); exact HO194.out⟩, ⟨by repeat (first | (with_reducible first | exact HB.out | apply below_alloc | apply pw_below_drewN | apply below_drew1) | exact HB.out)⟩⟩
                            · rw [if_neg c73] at H
                              exact absurd H (by simp)
                          · rw [if_neg c69] at H
                            have c69b0 : ((a0.extract (x4_1 : Int).toNat ((wrap64 (x4_1 + x5_48)) : Int).toNat).toList == ([110, 111, 116, 105, 110] : List UInt8)) = false := beq_eq_false_iff_ne.mpr c69
                            have c69b1 : ((a0.extract (x4_1 : Int).toNat ((wrap64 (x4_1 + x5_48)) : Int).toNat).toList != ([110, 111, 116, 105, 110] : List UInt8)) = true := bne_iff_ne.mpr c69
                            have c75b0 := eq_true (of_decide_eq_true (by first | (with_reducible assumption) | assumption) : 0 ≤ x4_1)
                            have c76b0 := eq_true (of_decide_eq_true (by first | (with_reducible assumption) | assumption) : x4_1 ≤ (wrap64 (x4_1 + x5_48)))
                            have c77b0 := eq_true (of_decide_eq_true (by first | (with_reducible assumption) | assumption) : (wrap64 (x4_1 + x5_48)) ≤ (a0.size : Int))
                            by_cases c78 : x3_1.length < 5864062014805
                            · rw [if_pos c78] at H
                              have LMc78 := Aside0.mk c78
                              clear c78
                              obtain ⟨y195, hy195⟩ : ∃ y_ : List (S25), y_ = (x3_1 ++ [(⟨9, a0.extract (x4_1 : Int).toNat ((wrap64 (x4_1 + x5_48)) : Int).toNat⟩ : S25)]) := ⟨_, rfl⟩
                              replace H : (spec_Pieces.l0 kj48 a0 y195 (wrap64 (x4_1 + x5_48))) = some r := by first | (rw [hy195]; with_reducible exact H) | (have H2_ := (Option.bind_some _ _).symm.trans H; rw [hy195]; with_reducible exact H2_) | (have H2_ := (Option.bind_some _ _).symm.trans H; with_reducible exact H2_) | with_reducible exact H | (rw [hy195]; exact H) | exact H
                              have Ny195 := Aside0.mk hy195
                              clear hy195
                              have H' := Aside0.mk H
                              clear H
                              go_wp2_with (first | ((with_reducible refine gate_builtin (b := .append) (xs := #[.tmp 51, .tmp 60]) rfl ?_); at_builtin; refine Kd.R_append k25 (w0 := w) w.heap.size rfl (.tmp 51) (.tmp 60) 22 25 (.agg #[(.int .i64 0), (.string ⟨#[]⟩)]) 24 rfl Try.underlying22 info25 rfl (by decide) (by omega) u3 x3_1 (⟨9, a0.extract (x4_1 : Int).toNat ((wrap64 (x4_1 + x5_48)) : Int).toNat⟩ : S25) [.int .i64 9, .string (a0.extract (x4_1 : Int).toNat ((wrap64 (x4_1 + x5_48)) : Int).toNat)] (fun _ => True) (fun _ => False) rfl rfl ?aP (fun _ hk => hk.elim) ?aF ?aO ?aB ?aS ?aL ?_; (case aP => exact k25_mkM _ _ _ (⟨9, a0.extract (x4_1 : Int).toNat ((wrap64 (x4_1 + x5_48)) : Int).toNat⟩ : S25)); (case aB => exact (by repeat (first | (with_reducible first | exact HB.out | apply below_alloc | apply pw_below_drewN | apply below_drew1) | exact HB.out))); (case aF => exact (fun _ _ => trivial)); (case aO => exact (by (with_reducible repeat (first | apply Kd.R_alloc | apply Kd.R_drewN | apply Kd.R_drew)); exact HO_3.out)); (case aS => exact (below_size (by repeat (first | (with_reducible first | exact HB.out | apply below_alloc | apply pw_below_drewN | apply below_drew1) | exact HB.out)))); (case aL => have := LMc78.out; omega); intro v196 w79 ho hb hg hat; rw [← Ny195.out] at ho; have n0_ := Aside0.mk (hb); have n1_ := Aside0.mk (ho); clear HB; clear HO_3; have HB := n0_; have HO197 := n1_; clear n0_ n1_; clear ho hb hg hat))
                              go_roundg kj48
                              case measure => have := HK1.out; have := HJ48.out; omega
                              case rel => exact ⟨(y195), (wrap64 (x4_1 + x5_48)), (by first | rfl | (simp; done) | (simp [*]; done)), H', ⟨by have := HK1.out; have := HJ48.out; omega⟩, ⟨by (with_reducible repeat (first | apply Kd.R_alloc | apply Kd.R_drewN | apply Kd.R_drew)); exact HO197.out⟩, ⟨by repeat (first | (with_reducible first | exact HB.out | apply below_alloc | apply pw_below_drewN | apply below_drew1) | exact HB.out)⟩⟩
                            · rw [if_neg c78] at H
                              exact absurd H (by simp)
                        · rw [if_neg c65] at H
                          have c65b0 : ((a0.extract (x4_1 : Int).toNat ((wrap64 (x4_1 + x5_48)) : Int).toNat).toList == ([105, 110] : List UInt8)) = false := beq_eq_false_iff_ne.mpr c65
                          have c65b1 : ((a0.extract (x4_1 : Int).toNat ((wrap64 (x4_1 + x5_48)) : Int).toNat).toList != ([105, 110] : List UInt8)) = true := bne_iff_ne.mpr c65
                          have c80b0 := eq_true (of_decide_eq_true (by first | (with_reducible assumption) | assumption) : 0 ≤ x4_1)
                          have c81b0 := eq_true (of_decide_eq_true (by first | (with_reducible assumption) | assumption) : x4_1 ≤ (wrap64 (x4_1 + x5_48)))
                          have c82b0 := eq_true (of_decide_eq_true (by first | (with_reducible assumption) | assumption) : (wrap64 (x4_1 + x5_48)) ≤ (a0.size : Int))
                          by_cases c83 : (a0.extract (x4_1 : Int).toNat ((wrap64 (x4_1 + x5_48)) : Int).toNat).toList = ([110, 111, 116, 105, 110] : List UInt8)
                          · rw [if_pos c83] at H
                            have c83b0 : ((a0.extract (x4_1 : Int).toNat ((wrap64 (x4_1 + x5_48)) : Int).toNat).toList == ([110, 111, 116, 105, 110] : List UInt8)) = true := beq_iff_eq.mpr c83
                            have c83b1 : ((a0.extract (x4_1 : Int).toNat ((wrap64 (x4_1 + x5_48)) : Int).toNat).toList != ([110, 111, 116, 105, 110] : List UInt8)) = false := bne_eq_false_iff_eq.mpr c83
                            clear c83
                            have c84b0 := eq_true (of_decide_eq_true (by first | (with_reducible assumption) | assumption) : 0 ≤ x4_1)
                            have c85b0 := eq_true (of_decide_eq_true (by first | (with_reducible assumption) | assumption) : x4_1 ≤ (wrap64 (x4_1 + x5_48)))
                            have c86b0 := eq_true (of_decide_eq_true (by first | (with_reducible assumption) | assumption) : (wrap64 (x4_1 + x5_48)) ≤ (a0.size : Int))
                            by_cases c87 : x3_1.length < 5864062014805
                            · rw [if_pos c87] at H
                              have LMc87 := Aside0.mk c87
                              clear c87
                              obtain ⟨y198, hy198⟩ : ∃ y_ : List (S25), y_ = (x3_1 ++ [(⟨12, a0.extract (x4_1 : Int).toNat ((wrap64 (x4_1 + x5_48)) : Int).toNat⟩ : S25)]) := ⟨_, rfl⟩
                              replace H : (spec_Pieces.l0 kj48 a0 y198 (wrap64 (x4_1 + x5_48))) = some r := by first | (rw [hy198]; with_reducible exact H) | (have H2_ := (Option.bind_some _ _).symm.trans H; rw [hy198]; with_reducible exact H2_) | (have H2_ := (Option.bind_some _ _).symm.trans H; with_reducible exact H2_) | with_reducible exact H | (rw [hy198]; exact H) | exact H
                              have Ny198 := Aside0.mk hy198
                              clear hy198
                              have H' := Aside0.mk H
                              clear H
                              go_wp2_with (first | ((with_reducible refine gate_builtin (b := .append) (xs := #[.tmp 51, .tmp 60]) rfl ?_); at_builtin; refine Kd.R_append k25 (w0 := w) w.heap.size rfl (.tmp 51) (.tmp 60) 22 25 (.agg #[(.int .i64 0), (.string ⟨#[]⟩)]) 24 rfl Try.underlying22 info25 rfl (by decide) (by omega) u3 x3_1 (⟨12, a0.extract (x4_1 : Int).toNat ((wrap64 (x4_1 + x5_48)) : Int).toNat⟩ : S25) [.int .i64 12, .string (a0.extract (x4_1 : Int).toNat ((wrap64 (x4_1 + x5_48)) : Int).toNat)] (fun _ => True) (fun _ => False) rfl rfl ?aP (fun _ hk => hk.elim) ?aF ?aO ?aB ?aS ?aL ?_; (case aP => exact k25_mkM _ _ _ (⟨12, a0.extract (x4_1 : Int).toNat ((wrap64 (x4_1 + x5_48)) : Int).toNat⟩ : S25)); (case aB => exact (by repeat (first | (with_reducible first | exact HB.out | apply below_alloc | apply pw_below_drewN | apply below_drew1) | exact HB.out))); (case aF => exact (fun _ _ => trivial)); (case aO => exact (by (with_reducible repeat (first | apply Kd.R_alloc | apply Kd.R_drewN | apply Kd.R_drew)); exact HO_3.out)); (case aS => exact (below_size (by repeat (first | (with_reducible first | exact HB.out | apply below_alloc | apply pw_below_drewN | apply below_drew1) | exact HB.out)))); (case aL => have := LMc87.out; omega); intro v199 w88 ho hb hg hat; rw [← Ny198.out] at ho; have n0_ := Aside0.mk (hb); have n1_ := Aside0.mk (ho); clear HB; clear HO_3; have HB := n0_; have HO200 := n1_; clear n0_ n1_; clear ho hb hg hat))
                              go_roundg kj48
                              case measure => have := HK1.out; have := HJ48.out; omega
                              case rel => exact ⟨(y198), (wrap64 (x4_1 + x5_48)), (by first | rfl | (simp; done) | (simp [*]; done)), H', ⟨by have := HK1.out; have := HJ48.out; omega⟩, ⟨by (with_reducible repeat (first | apply Kd.R_alloc | apply Kd.R_drewN | apply Kd.R_drew)); exact HO200.out⟩, ⟨by repeat (first | (with_reducible first | exact HB.out | apply below_alloc | apply pw_below_drewN | apply below_drew1) | exact HB.out)⟩⟩
                            · rw [if_neg c87] at H
                              exact absurd H (by simp)
                          · rw [if_neg c83] at H
                            have c83b0 : ((a0.extract (x4_1 : Int).toNat ((wrap64 (x4_1 + x5_48)) : Int).toNat).toList == ([110, 111, 116, 105, 110] : List UInt8)) = false := beq_eq_false_iff_ne.mpr c83
                            have c83b1 : ((a0.extract (x4_1 : Int).toNat ((wrap64 (x4_1 + x5_48)) : Int).toNat).toList != ([110, 111, 116, 105, 110] : List UInt8)) = true := bne_iff_ne.mpr c83
                            have c89b0 := eq_true (of_decide_eq_true (by first | (with_reducible assumption) | assumption) : 0 ≤ x4_1)
                            have c90b0 := eq_true (of_decide_eq_true (by first | (with_reducible assumption) | assumption) : x4_1 ≤ (wrap64 (x4_1 + x5_48)))
                            have c91b0 := eq_true (of_decide_eq_true (by first | (with_reducible assumption) | assumption) : (wrap64 (x4_1 + x5_48)) ≤ (a0.size : Int))
                            by_cases c92 : x3_1.length < 5864062014805
                            · rw [if_pos c92] at H
                              have LMc92 := Aside0.mk c92
                              clear c92
                              obtain ⟨y201, hy201⟩ : ∃ y_ : List (S25), y_ = (x3_1 ++ [(⟨8, a0.extract (x4_1 : Int).toNat ((wrap64 (x4_1 + x5_48)) : Int).toNat⟩ : S25)]) := ⟨_, rfl⟩
                              replace H : (spec_Pieces.l0 kj48 a0 y201 (wrap64 (x4_1 + x5_48))) = some r := by first | (rw [hy201]; with_reducible exact H) | (have H2_ := (Option.bind_some _ _).symm.trans H; rw [hy201]; with_reducible exact H2_) | (have H2_ := (Option.bind_some _ _).symm.trans H; with_reducible exact H2_) | with_reducible exact H | (rw [hy201]; exact H) | exact H
                              have Ny201 := Aside0.mk hy201
                              clear hy201
                              have H' := Aside0.mk H
                              clear H
                              go_wp2_with (first | ((with_reducible refine gate_builtin (b := .append) (xs := #[.tmp 51, .tmp 60]) rfl ?_); at_builtin; refine Kd.R_append k25 (w0 := w) w.heap.size rfl (.tmp 51) (.tmp 60) 22 25 (.agg #[(.int .i64 0), (.string ⟨#[]⟩)]) 24 rfl Try.underlying22 info25 rfl (by decide) (by omega) u3 x3_1 (⟨8, a0.extract (x4_1 : Int).toNat ((wrap64 (x4_1 + x5_48)) : Int).toNat⟩ : S25) [.int .i64 8, .string (a0.extract (x4_1 : Int).toNat ((wrap64 (x4_1 + x5_48)) : Int).toNat)] (fun _ => True) (fun _ => False) rfl rfl ?aP (fun _ hk => hk.elim) ?aF ?aO ?aB ?aS ?aL ?_; (case aP => exact k25_mkM _ _ _ (⟨8, a0.extract (x4_1 : Int).toNat ((wrap64 (x4_1 + x5_48)) : Int).toNat⟩ : S25)); (case aB => exact (by repeat (first | (with_reducible first | exact HB.out | apply below_alloc | apply pw_below_drewN | apply below_drew1) | exact HB.out))); (case aF => exact (fun _ _ => trivial)); (case aO => exact (by (with_reducible repeat (first | apply Kd.R_alloc | apply Kd.R_drewN | apply Kd.R_drew)); exact HO_3.out)); (case aS => exact (below_size (by repeat (first | (with_reducible first | exact HB.out | apply below_alloc | apply pw_below_drewN | apply below_drew1) | exact HB.out)))); (case aL => have := LMc92.out; omega); intro v202 w93 ho hb hg hat; rw [← Ny201.out] at ho; have n0_ := Aside0.mk (hb); have n1_ := Aside0.mk (ho); clear HB; clear HO_3; have HB := n0_; have HO203 := n1_; clear n0_ n1_; clear ho hb hg hat))
                              go_roundg kj48
                              case measure => have := HK1.out; have := HJ48.out; omega
                              case rel => exact ⟨(y201), (wrap64 (x4_1 + x5_48)), (by first | rfl | (simp; done) | (simp [*]; done)), H', ⟨by have := HK1.out; have := HJ48.out; omega⟩, ⟨by (with_reducible repeat (first | apply Kd.R_alloc | apply Kd.R_drewN | apply Kd.R_drew)); exact HO203.out⟩, ⟨by repeat (first | (with_reducible first | exact HB.out | apply below_alloc | apply pw_below_drewN | apply below_drew1) | exact HB.out)⟩⟩
                            · rw [if_neg c92] at H
                              exact absurd H (by simp)
                      · rw [if_neg c64] at H
                        exact absurd H (by simp)
                    · rw [if_neg c63] at H
                      exact absurd H (by simp)
                  · rw [if_neg c62] at H
                    exact absurd H (by simp)
        · rw [if_neg c3] at H
          exact absurd H (by simp)
      · rw [if_neg c2] at H
        have c2b0 : decide (x4_1 < (a0.size : Int)) = false := decide_eq_false c2
        clear c2
        obtain rfl := Option.some.inj H
        go_wp2
        go_ret
        exact ⟨_, by first | rfl | (simp [errW_none, errW_some] <;> rfl) | (simp [*, errW_none, errW_some] <;> rfl), by (with_reducible repeat (first | apply Kd.R_alloc | apply Kd.R_drewN | apply Kd.R_drew)); exact HO_3.out, by repeat (first | (with_reducible first | exact HB.out | apply below_alloc | apply pw_below_drewN | apply below_drew1) | exact HB.out)⟩

end Go.Proofs.Ytlhbmifffmegeaa.PFnLabelLex
