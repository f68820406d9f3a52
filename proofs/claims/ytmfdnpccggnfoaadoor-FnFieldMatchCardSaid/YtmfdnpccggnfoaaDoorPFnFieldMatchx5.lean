/- Functions of the program as plain Lean functions, and that the machine's calls do what these say: written for this claim by wip/myprint.py over the kit's print.py. -/
import Derived.Test.YtmfdnpccggnfoaaDoorPFnFieldMatchx0
import Derived.Test.YtmfdnpccggnfoaaDoorPFnFieldMatchx4
namespace Go.Proofs.YtmfdnpccggnfoaaDoor.PFnFieldMatch
open Go.RowKit Go.Proofs.YtmfdnpccggnfoaaDoorW.PrintWords Go.Proofs.YtmfdnpccggnfoaaDoorW.PrintLast Go.Proofs.YtmfdnpccggnfoaaDoorW.PrintMore
attribute [local go_sem] max2_int min2_int max_two min_two max_three min_three max_four min_four   -- for this text's walks alone
set_option linter.unusedVariables false
set_option linter.unusedSimpArgs false

/-! ### spec_FieldMatch: function 8 -/
def spec_FieldMatch.l0 : Nat → List (S44) → List (S33) → Int → Option (Bool)
  | 0, _, _, _ => none
  | k + 1, x0, x1, x5 => if x5 < (x0.length : Int) then (if 0 ≤ x5 then ((spec_Find.f k x1 ((rd_T44 x0 x5).f0)).bind fun bt200 => (if ((bt200.1.toList == ((rd_T44 x0 x5).f2).toList) != (((rd_T44 x0 x5).f1).toList == ([61] : List UInt8))) = true then (some false) else (spec_FieldMatch.l0 k x0 x1 (wrap64 (x5 + 1))))) else (none)) else (some true)
def spec_FieldMatch.f (k : Nat) (l0 : List (S44)) (l1 : List (S33)) : Option (Bool) := spec_FieldMatch.l0 k l0 l1 0
theorem spec_FieldMatch.mono_l : ∀ k, (∀ y0 y1 y2, LeO (spec_FieldMatch.l0 k y0 y1 y2) (spec_FieldMatch.l0 (k + 1) y0 y1 y2))
  | 0 => fun _ _ _ r h => by simp [spec_FieldMatch.l0] at h
  | k + 1 => by
    have ih0 := spec_FieldMatch.mono_l k
    · intro y0 y1 y2
      unfold spec_FieldMatch.l0
      repeat' first
      | (with_reducible exact ih0 _ _ _)
      | (with_reducible exact spec_Find.mono _ _ _)
      | (with_reducible exact LeO.refl _)
      | (with_reducible exact LeO.none _)
      | (with_reducible refine LeO.ite ?_ ?_)
      | (with_reducible refine LeO.bind ?_ (fun _ => ?_))
      | exact ih0 _ _ _
      | exact spec_Find.mono _ _ _
      | exact LeO.none _
      | refine LeO.ite ?_ ?_
      | refine LeO.bind ?_ (fun _ => ?_)
theorem spec_FieldMatch.mono : ∀ a0 a1 k, LeO (spec_FieldMatch.f k a0 a1) (spec_FieldMatch.f (k + 1) a0 a1) := by
  intro a0 a1 k
  have ih0 := spec_FieldMatch.mono_l k
  unfold spec_FieldMatch.f
  repeat' first
      | (with_reducible exact ih0 _ _ _)
      | (with_reducible exact spec_Find.mono _ _ _)
      | (with_reducible exact LeO.refl _)
      | (with_reducible exact LeO.none _)
      | (with_reducible refine LeO.ite ?_ ?_)
      | (with_reducible refine LeO.bind ?_ (fun _ => ?_))
      | exact ih0 _ _ _
      | exact spec_Find.mono _ _ _
      | exact LeO.none _
      | refine LeO.ite ?_ ?_
      | refine LeO.bind ?_ (fun _ => ?_)
set_option maxHeartbeats 8000000 in
set_option maxRecDepth 100000 in
theorem spec_FieldMatch.calls (k : Nat) (A0 : Option Addr) (c0 : Nat) (l0 : List (S44)) (A1 : Option Addr) (c1 : Nat) (l1 : List (S33)) (r : Bool) (w : World) (hr0 : Kd.C k44 w A0 l0.length l0) (hc0 : l0.length ≤ c0) (hr1 : Kd.C k33 w A1 l1.length l1) (hc1 : l1.length ≤ c1) (h : spec_FieldMatch.f k l0 l1 = some r) :
    Calls Tryd.prog 8 #[.slice A0 l0.length c0, .slice A1 l1.length c1] w fun e w' => e = .returned (.bool r) ∧ Drawn0 w w' := by
  have HR0 := Aside0.mk hr0
  have HC0 := Aside0.mk hc0
  clear hr0 hc0
  have HR1 := Aside0.mk hr1
  have HC1 := Aside0.mk hc1
  clear hr1 hc1
  have H : (spec_FieldMatch.l0 k l0 l1 0) = some r := h
  clear h
  have H' := Aside0.mk H
  clear H
  go_enter Tryd.func8, Tryd.ntmps8
  go_wp2
  repeat (go_quiet (fail); try go_wp2)
  go_loopg [5] k (fun kq v5 w' => ∃ (x5_1 : Int), v5 = .int .i64 x5_1 ∧ Aside0 (spec_FieldMatch.l0 kq l0 l1 x5_1 = some r) ∧ Aside0 (kq ≤ k) ∧ Drawn0 w w')
  case atStart => exact ⟨(0), (by first | rfl | (simp; done) | (simp [*]; done)), H', ⟨Nat.le_refl _⟩, by repeat (first | exact Drawn0.refl _ | apply Drawn0.step)⟩
  case round =>
    clear H'
    try clear c1
    try clear p2
    obtain ⟨x5_1, rfl, HA, HK1, ⟨m1, rfl⟩⟩ := hrel
    cases gk with
    | zero => exact absurd HA.out (by simp [spec_FieldMatch.l0])
    | succ k1 =>
      have H := HA.out
      clear HA
      simp only [spec_FieldMatch.l0] at H
      by_cases c3 : x5_1 < (l0.length : Int)
      · rw [if_pos c3] at H
        have c3b0 : decide (x5_1 < (l0.length : Int)) = true := decide_eq_true c3
        clear c3
        by_cases c4 : 0 ≤ x5_1
        · rw [if_pos c4] at H
          have c4b0 : decide (0 ≤ x5_1) = true := decide_eq_true c4
          clear c4
          replace H := Option.bind_eq_some_iff.mp H
          obtain ⟨⟨t200, t201⟩, A50, H⟩ := H
          replace H : (if ((t200.toList == ((rd_T44 l0 x5_1).f2).toList) != (((rd_T44 l0 x5_1).f1).toList == ([61] : List UInt8))) = true then (some false) else (spec_FieldMatch.l0 k1 l0 l1 (wrap64 (x5_1 + 1)))) = some r := H
          have A5 := Aside0.mk A50
          clear A50
          by_cases c6 : ((t200.toList == ((rd_T44 l0 x5_1).f2).toList) != (((rd_T44 l0 x5_1).f1).toList == ([61] : List UInt8))) = true
          · rw [if_pos c6] at H
            have c6b0 : ((t200.toList == ((rd_T44 l0 x5_1).f2).toList) != (((rd_T44 l0 x5_1).f1).toList == ([61] : List UInt8))) = true := c6
            (try (have c6b1 : decide ((t200.toList == ((rd_T44 l0 x5_1).f2).toList) = (((rd_T44 l0 x5_1).f1).toList == ([61] : List UInt8))) = false := by simpa using c6))
            (try (have c6b2 : ((t200.toList == ((rd_T44 l0 x5_1).f2).toList) == (((rd_T44 l0 x5_1).f1).toList == ([61] : List UInt8))) = false := by simpa using c6))
            (try (have c6b3 : ¬ ((t200.toList == ((rd_T44 l0 x5_1).f2).toList) = (((rd_T44 l0 x5_1).f1).toList == ([61] : List UInt8))) := by simpa using c6))
            clear c6
            obtain rfl := Option.some.inj H
            have p199 : 0 ≤ (x5_1 : Int) := of_decide_eq_true (by first | (with_reducible assumption) | assumption)
            have q199 : x5_1 < (l0.length : Int) := of_decide_eq_true (by first | (with_reducible assumption) | assumption)
            obtain ⟨ad199, e199, hx199_0, hx199_1, hx199_2⟩ := at_T44 HR0.out x5_1 p199 q199
            cases e199
            replace p199 := eq_true p199
            replace q199 := eq_true q199
            go_wp2_with (first | (go_at_call 16; (with_reducible refine (spec_Find.calls k1 _ _ l1 ((rd_T44 l0 x5_1).f0) t200 t201 _ ?side1 ?side2 A5.out).mono ?_); (case side1 => repeat (first | exact HR1.out | (with_reducible refine Kd.C_alloc ?_ _) | (with_reducible refine Kd.C_drewN ?_ _) | (with_reducible refine Kd.C_drew ?_))); (case side2 => exact HC1.out); rintro e w' ⟨rfl, ⟨nd, rfl⟩⟩; (try first | exact ⟨rfl, _, World.drewN_drewN _ _ _⟩ | exact ⟨rfl, _, Eq.trans (World.drewN_drewN _ _ _) (congrArg (World.drewN _) (Nat.add_assoc _ _ _))⟩); have p202 : 0 ≤ (x5_1 : Int) := of_decide_eq_true (by first | (with_reducible assumption) | assumption); have q202 : x5_1 < (l0.length : Int) := of_decide_eq_true (by first | (with_reducible assumption) | assumption); obtain ⟨ad202, e202, hx202_0, hx202_1, hx202_2⟩ := at_T44 HR0.out x5_1 p202 q202; obtain rfl : ad199 = ad202 := (by injection e202); replace p202 := eq_true p202; replace q202 := eq_true q202; have p203 : 0 ≤ (x5_1 : Int) := of_decide_eq_true (by first | (with_reducible assumption) | assumption); have q203 : x5_1 < (l0.length : Int) := of_decide_eq_true (by first | (with_reducible assumption) | assumption); obtain ⟨ad203, e203, hx203_0, hx203_1, hx203_2⟩ := at_T44 HR0.out x5_1 p203 q203; obtain rfl : ad199 = ad203 := (by injection e203); replace p203 := eq_true p203; replace q203 := eq_true q203))
            repeat (go_quiet (first | (go_at_call 16; (with_reducible refine (spec_Find.calls k1 _ _ l1 ((rd_T44 l0 x5_1).f0) t200 t201 _ ?side1 ?side2 A5.out).mono ?_); (case side1 => repeat (first | exact HR1.out | (with_reducible refine Kd.C_alloc ?_ _) | (with_reducible refine Kd.C_drewN ?_ _) | (with_reducible refine Kd.C_drew ?_))); (case side2 => exact HC1.out); rintro e w' ⟨rfl, ⟨nd, rfl⟩⟩; (try first | exact ⟨rfl, _, World.drewN_drewN _ _ _⟩ | exact ⟨rfl, _, Eq.trans (World.drewN_drewN _ _ _) (congrArg (World.drewN _) (Nat.add_assoc _ _ _))⟩); have p202 : 0 ≤ (x5_1 : Int) := of_decide_eq_true (by first | (with_reducible assumption) | assumption); have q202 : x5_1 < (l0.length : Int) := of_decide_eq_true (by first | (with_reducible assumption) | assumption); obtain ⟨ad202, e202, hx202_0, hx202_1, hx202_2⟩ := at_T44 HR0.out x5_1 p202 q202; obtain rfl : ad199 = ad202 := (by injection e202); replace p202 := eq_true p202; replace q202 := eq_true q202; have p203 : 0 ≤ (x5_1 : Int) := of_decide_eq_true (by first | (with_reducible assumption) | assumption); have q203 : x5_1 < (l0.length : Int) := of_decide_eq_true (by first | (with_reducible assumption) | assumption); obtain ⟨ad203, e203, hx203_0, hx203_1, hx203_2⟩ := at_T44 HR0.out x5_1 p203 q203; obtain rfl : ad199 = ad203 := (by injection e203); replace p203 := eq_true p203; replace q203 := eq_true q203)); try go_wp2_with (first | (go_at_call 16; (with_reducible refine (spec_Find.calls k1 _ _ l1 ((rd_T44 l0 x5_1).f0) t200 t201 _ ?side1 ?side2 A5.out).mono ?_); (case side1 => repeat (first | exact HR1.out | (with_reducible refine Kd.C_alloc ?_ _) | (with_reducible refine Kd.C_drewN ?_ _) | (with_reducible refine Kd.C_drew ?_))); (case side2 => exact HC1.out); rintro e w' ⟨rfl, ⟨nd, rfl⟩⟩; (try first | exact ⟨rfl, _, World.drewN_drewN _ _ _⟩ | exact ⟨rfl, _, Eq.trans (World.drewN_drewN _ _ _) (congrArg (World.drewN _) (Nat.add_assoc _ _ _))⟩); have p202 : 0 ≤ (x5_1 : Int) := of_decide_eq_true (by first | (with_reducible assumption) | assumption); have q202 : x5_1 < (l0.length : Int) := of_decide_eq_true (by first | (with_reducible assumption) | assumption); obtain ⟨ad202, e202, hx202_0, hx202_1, hx202_2⟩ := at_T44 HR0.out x5_1 p202 q202; obtain rfl : ad199 = ad202 := (by injection e202); replace p202 := eq_true p202; replace q202 := eq_true q202; have p203 : 0 ≤ (x5_1 : Int) := of_decide_eq_true (by first | (with_reducible assumption) | assumption); have q203 : x5_1 < (l0.length : Int) := of_decide_eq_true (by first | (with_reducible assumption) | assumption); obtain ⟨ad203, e203, hx203_0, hx203_1, hx203_2⟩ := at_T44 HR0.out x5_1 p203 q203; obtain rfl : ad199 = ad203 := (by injection e203); replace p203 := eq_true p203; replace q203 := eq_true q203)))
            go_ret
            exact ⟨by first | rfl | (simp; done) | (simp [*]; done), by repeat (first | exact Drawn0.refl _ | apply Drawn0.step)⟩
          · rw [if_neg c6] at H
            have c6b0 : ((t200.toList == ((rd_T44 l0 x5_1).f2).toList) != (((rd_T44 l0 x5_1).f1).toList == ([61] : List UInt8))) = false := by simpa using c6
            (try (have c6b1 : decide ((t200.toList == ((rd_T44 l0 x5_1).f2).toList) = (((rd_T44 l0 x5_1).f1).toList == ([61] : List UInt8))) = true := by simpa using c6))
            (try (have c6b2 : ((t200.toList == ((rd_T44 l0 x5_1).f2).toList) == (((rd_T44 l0 x5_1).f1).toList == ([61] : List UInt8))) = true := by simpa using c6))
            clear c6
            have H' := Aside0.mk H
            clear H
            have p199 : 0 ≤ (x5_1 : Int) := of_decide_eq_true (by first | (with_reducible assumption) | assumption)
            have q199 : x5_1 < (l0.length : Int) := of_decide_eq_true (by first | (with_reducible assumption) | assumption)
            obtain ⟨ad199, e199, hx199_0, hx199_1, hx199_2⟩ := at_T44 HR0.out x5_1 p199 q199
            cases e199
            replace p199 := eq_true p199
            replace q199 := eq_true q199
            go_wp2_with (first | (go_at_call 16; (with_reducible refine (spec_Find.calls k1 _ _ l1 ((rd_T44 l0 x5_1).f0) t200 t201 _ ?side1 ?side2 A5.out).mono ?_); (case side1 => repeat (first | exact HR1.out | (with_reducible refine Kd.C_alloc ?_ _) | (with_reducible refine Kd.C_drewN ?_ _) | (with_reducible refine Kd.C_drew ?_))); (case side2 => exact HC1.out); rintro e w' ⟨rfl, ⟨nd, rfl⟩⟩; (try first | exact ⟨rfl, _, World.drewN_drewN _ _ _⟩ | exact ⟨rfl, _, Eq.trans (World.drewN_drewN _ _ _) (congrArg (World.drewN _) (Nat.add_assoc _ _ _))⟩); have p202 : 0 ≤ (x5_1 : Int) := of_decide_eq_true (by first | (with_reducible assumption) | assumption); have q202 : x5_1 < (l0.length : Int) := of_decide_eq_true (by first | (with_reducible assumption) | assumption); obtain ⟨ad202, e202, hx202_0, hx202_1, hx202_2⟩ := at_T44 HR0.out x5_1 p202 q202; obtain rfl : ad199 = ad202 := (by injection e202); replace p202 := eq_true p202; replace q202 := eq_true q202; have p203 : 0 ≤ (x5_1 : Int) := of_decide_eq_true (by first | (with_reducible assumption) | assumption); have q203 : x5_1 < (l0.length : Int) := of_decide_eq_true (by first | (with_reducible assumption) | assumption); obtain ⟨ad203, e203, hx203_0, hx203_1, hx203_2⟩ := at_T44 HR0.out x5_1 p203 q203; obtain rfl : ad199 = ad203 := (by injection e203); replace p203 := eq_true p203; replace q203 := eq_true q203))
            repeat (go_quiet (first | (go_at_call 16; (with_reducible refine (spec_Find.calls k1 _ _ l1 ((rd_T44 l0 x5_1).f0) t200 t201 _ ?side1 ?side2 A5.out).mono ?_); (case side1 => repeat (first | exact HR1.out | (with_reducible refine Kd.C_alloc ?_ _) | (with_reducible refine Kd.C_drewN ?_ _) | (with_reducible refine Kd.C_drew ?_))); (case side2 => exact HC1.out); rintro e w' ⟨rfl, ⟨nd, rfl⟩⟩; (try first | exact ⟨rfl, _, World.drewN_drewN _ _ _⟩ | exact ⟨rfl, _, Eq.trans (World.drewN_drewN _ _ _) (congrArg (World.drewN _) (Nat.add_assoc _ _ _))⟩); have p202 : 0 ≤ (x5_1 : Int) := of_decide_eq_true (by first | (with_reducible assumption) | assumption); have q202 : x5_1 < (l0.length : Int) := of_decide_eq_true (by first | (with_reducible assumption) | assumption); obtain ⟨ad202, e202, hx202_0, hx202_1, hx202_2⟩ := at_T44 HR0.out x5_1 p202 q202; obtain rfl : ad199 = ad202 := (by injection e202); replace p202 := eq_true p202; replace q202 := eq_true q202; have p203 : 0 ≤ (x5_1 : Int) := of_decide_eq_true (by first | (with_reducible assumption) | assumption); have q203 : x5_1 < (l0.length : Int) := of_decide_eq_true (by first | (with_reducible assumption) | assumption); obtain ⟨ad203, e203, hx203_0, hx203_1, hx203_2⟩ := at_T44 HR0.out x5_1 p203 q203; obtain rfl : ad199 = ad203 := (by injection e203); replace p203 := eq_true p203; replace q203 := eq_true q203)); try go_wp2_with (first | (go_at_call 16; (with_reducible refine (spec_Find.calls k1 _ _ l1 ((rd_T44 l0 x5_1).f0) t200 t201 _ ?side1 ?side2 A5.out).mono ?_); (case side1 => repeat (first | exact HR1.out | (with_reducible refine Kd.C_alloc ?_ _) | (with_reducible refine Kd.C_drewN ?_ _) | (with_reducible refine Kd.C_drew ?_))); (case side2 => exact HC1.out); rintro e w' ⟨rfl, ⟨nd, rfl⟩⟩; (try first | exact ⟨rfl, _, World.drewN_drewN _ _ _⟩ | exact ⟨rfl, _, Eq.trans (World.drewN_drewN _ _ _) (congrArg (World.drewN _) (Nat.add_assoc _ _ _))⟩); have p202 : 0 ≤ (x5_1 : Int) := of_decide_eq_true (by first | (with_reducible assumption) | assumption); have q202 : x5_1 < (l0.length : Int) := of_decide_eq_true (by first | (with_reducible assumption) | assumption); obtain ⟨ad202, e202, hx202_0, hx202_1, hx202_2⟩ := at_T44 HR0.out x5_1 p202 q202; obtain rfl : ad199 = ad202 := (by injection e202); replace p202 := eq_true p202; replace q202 := eq_true q202; have p203 : 0 ≤ (x5_1 : Int) := of_decide_eq_true (by first | (with_reducible assumption) | assumption); have q203 : x5_1 < (l0.length : Int) := of_decide_eq_true (by first | (with_reducible assumption) | assumption); obtain ⟨ad203, e203, hx203_0, hx203_1, hx203_2⟩ := at_T44 HR0.out x5_1 p203 q203; obtain rfl : ad199 = ad203 := (by injection e203); replace p203 := eq_true p203; replace q203 := eq_true q203)))
            go_roundg k1
            case measure => have := HK1.out; omega
            case rel => exact ⟨(wrap64 (x5_1 + 1)), (by first | rfl | (simp; done) | (simp [*]; done)), H', ⟨by have := HK1.out; omega⟩, by repeat (first | exact Drawn0.refl _ | apply Drawn0.step)⟩
        · rw [if_neg c4] at H
          exact absurd H (by simp)
      · rw [if_neg c3] at H
        have c3b0 : decide (x5_1 < (l0.length : Int)) = false := decide_eq_false c3
        clear c3
        obtain rfl := Option.some.inj H
        go_wp2
        repeat (go_quiet (fail); try go_wp2)
        go_ret
        exact ⟨by first | rfl | (simp; done) | (simp [*]; done), by repeat (first | exact Drawn0.refl _ | apply Drawn0.step)⟩

-- NOT PRINTED: function 3 (laws_FnFieldMatch)

end Go.Proofs.YtmfdnpccggnfoaaDoor.PFnFieldMatch
