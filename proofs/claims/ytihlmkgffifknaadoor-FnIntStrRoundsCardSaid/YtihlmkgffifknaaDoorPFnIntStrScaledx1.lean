/- Functions of the program as plain Lean functions, and that the machine's calls do what these say: written for this claim by wip/myprint.py over the kit's print.py. -/
import Derived.Test.YtihlmkgffifknaaDoorPFnIntStrScaledx0
namespace Go.Proofs.YtihlmkgffifknaaDoor.PFnIntStrScaled
open Go.RowKit Go.Proofs.YtihlmkgffifknaaDoorW.PrintWords Go.Proofs.YtihlmkgffifknaaDoorW.PrintLast Go.Proofs.YtihlmkgffifknaaDoorW.PrintMore
attribute [local go_sem] max2_int min2_int max_two min_two max_three min_three max_four min_four   -- for this text's walks alone
set_option linter.unusedVariables false
set_option linter.unusedSimpArgs false

/-! ### laws_intSmall: function 14 -/
def laws_intSmall.j0 : Nat → Int → Int → Bool → Option (Bool)
  | 0, _, _, _ => none
  | k + 1, x0, x1, x18 => if x18 = true then (some false) else (if x0 < 0 then (if x1 < 0 then (if (wrap64 (-x0)) = 0 then (some true) else (some (decide ((wrap64 (-x1)) ≤ (wrap64 ((9007199254740991 : Int) / (wrap64 (-x0)))))))) else (if (wrap64 (-x0)) = 0 then (some true) else (some (decide (x1 ≤ (wrap64 ((9007199254740991 : Int) / (wrap64 (-x0))))))))) else (if x1 < 0 then (if x0 = 0 then (some true) else (some (decide ((wrap64 (-x1)) ≤ (wrap64 ((9007199254740991 : Int) / x0)))))) else (if x0 = 0 then (some true) else (some (decide (x1 ≤ (wrap64 ((9007199254740991 : Int) / x0))))))))
def laws_intSmall.f (k : Nat) (a0 : Int) (a1 : Int) : Option (Bool) := if a0 < (-2147483648) then (laws_intSmall.j0 k a0 a1 true) else (if a0 > 2147483648 then (laws_intSmall.j0 k a0 a1 true) else (if a1 < (-2147483648) then (laws_intSmall.j0 k a0 a1 true) else (laws_intSmall.j0 k a0 a1 (decide (a1 > 2147483648)))))
theorem laws_intSmall.mono_l : ∀ k, (∀ y0 y1 y2, LeO (laws_intSmall.j0 k y0 y1 y2) (laws_intSmall.j0 (k + 1) y0 y1 y2))
  | 0 => fun _ _ _ r h => by simp [laws_intSmall.j0] at h
  | k + 1 => by
    have ih0 := laws_intSmall.mono_l k
    · intro y0 y1 y2
      unfold laws_intSmall.j0
      repeat' first
      | (with_reducible exact ih0 _ _ _)
      | (with_reducible exact LeO.refl _)
      | (with_reducible exact LeO.none _)
      | (with_reducible refine LeO.ite ?_ ?_)
      | (with_reducible refine LeO.bind ?_ (fun _ => ?_))
      | exact ih0 _ _ _
      | exact LeO.none _
      | refine LeO.ite ?_ ?_
      | refine LeO.bind ?_ (fun _ => ?_)
theorem laws_intSmall.mono : ∀ a0 a1 k, LeO (laws_intSmall.f k a0 a1) (laws_intSmall.f (k + 1) a0 a1) := by
  intro a0 a1 k
  have ih0 := laws_intSmall.mono_l k
  unfold laws_intSmall.f
  repeat' first
      | (with_reducible exact ih0 _ _ _)
      | (with_reducible exact LeO.refl _)
      | (with_reducible exact LeO.none _)
      | (with_reducible refine LeO.ite ?_ ?_)
      | (with_reducible refine LeO.bind ?_ (fun _ => ?_))
      | exact ih0 _ _ _
      | exact LeO.none _
      | refine LeO.ite ?_ ?_
      | refine LeO.bind ?_ (fun _ => ?_)
set_option maxHeartbeats 8000000 in
set_option maxRecDepth 100000 in
theorem laws_intSmall.calls (k : Nat) (a0 : Int) (a1 : Int) (r : Bool) (w : World) (h : laws_intSmall.f k a0 a1 = some r) :
    Calls Tryd.prog 14 #[.int .i64 a0, .int .i64 a1] w fun e w' => e = .returned (.bool r) ∧ Drawn0 w w' := by
  have H : (if a0 < (-2147483648) then (laws_intSmall.j0 k a0 a1 true) else (if a0 > 2147483648 then (laws_intSmall.j0 k a0 a1 true) else (if a1 < (-2147483648) then (laws_intSmall.j0 k a0 a1 true) else (laws_intSmall.j0 k a0 a1 (decide (a1 > 2147483648)))))) = some r := h
  clear h
  have HC3 := Aside0.mk H
  clear H
  go_enter Tryd.func14, Tryd.ntmps14
  go_upto_region 1 with (fail)
  go_cut [18] (fun v18 wc => ∃ (kq : Nat) (x18_2 : Bool), v18 = .bool x18_2 ∧ Aside0 (laws_intSmall.j0 kq a0 a1 x18_2 = some r) ∧ Aside0 (kq ≤ k) ∧ Drawn0 w wc)
  case first =>
    have H := HC3.out
    clear HC3
    by_cases c4 : a0 < (-2147483648)
    · rw [if_pos c4] at H
      have c4b0 : decide (a0 < (-2147483648)) = true := decide_eq_true c4
      clear c4
      (first | rw [c4b0] | (simp only [i64_w, i32_w]; rw [c4b0]) | skip)
      have H' := Aside0.mk H
      clear H
      go_wp2
      go_meet
      case rel => exact ⟨_, (true), (by first | rfl | (simp; done) | (simp only [Int.tdiv_eq_ediv_of_nonneg (show (0 : Int) ≤ 9007199254740991 by omega)]; done) | (simp [Int.tdiv_eq_ediv_of_nonneg (show (0 : Int) ≤ 9007199254740991 by omega)]; done) | (simp [*]; done)), H', ⟨by first | omega | exact Nat.le_refl _⟩, by repeat (first | exact Drawn0.refl _ | apply Drawn0.step)⟩
    · rw [if_neg c4] at H
      have c4b0 : decide (a0 < (-2147483648)) = false := decide_eq_false c4
      clear c4
      (first | rw [c4b0] | (simp only [i64_w, i32_w]; rw [c4b0]) | skip)
      by_cases c5 : a0 > 2147483648
      · rw [if_pos c5] at H
        have c5b0 : decide (2147483648 < a0) = true := decide_eq_true c5
        clear c5
        have H' := Aside0.mk H
        clear H
        go_wp2
        go_meet
        case rel => exact ⟨_, (true), (by first | rfl | (simp; done) | (simp only [Int.tdiv_eq_ediv_of_nonneg (show (0 : Int) ≤ 9007199254740991 by omega)]; done) | (simp [Int.tdiv_eq_ediv_of_nonneg (show (0 : Int) ≤ 9007199254740991 by omega)]; done) | (simp [*]; done)), H', ⟨by first | omega | exact Nat.le_refl _⟩, by repeat (first | exact Drawn0.refl _ | apply Drawn0.step)⟩
      · rw [if_neg c5] at H
        have c5b0 : decide (2147483648 < a0) = false := decide_eq_false c5
        clear c5
        by_cases c6 : a1 < (-2147483648)
        · rw [if_pos c6] at H
          have c6b0 : decide (a1 < (-2147483648)) = true := decide_eq_true c6
          clear c6
          have H' := Aside0.mk H
          clear H
          go_wp2
          go_meet
          case rel => exact ⟨_, (true), (by first | rfl | (simp; done) | (simp only [Int.tdiv_eq_ediv_of_nonneg (show (0 : Int) ≤ 9007199254740991 by omega)]; done) | (simp [Int.tdiv_eq_ediv_of_nonneg (show (0 : Int) ≤ 9007199254740991 by omega)]; done) | (simp [*]; done)), H', ⟨by first | omega | exact Nat.le_refl _⟩, by repeat (first | exact Drawn0.refl _ | apply Drawn0.step)⟩
        · rw [if_neg c6] at H
          have c6b0 : decide (a1 < (-2147483648)) = false := decide_eq_false c6
          clear c6
          have H' := Aside0.mk H
          clear H
          go_wp2
          go_meet
          case rel => exact ⟨_, (decide (a1 > 2147483648)), (by first | rfl | (simp; done) | (simp only [Int.tdiv_eq_ediv_of_nonneg (show (0 : Int) ≤ 9007199254740991 by omega)]; done) | (simp [Int.tdiv_eq_ediv_of_nonneg (show (0 : Int) ≤ 9007199254740991 by omega)]; done) | (simp [*]; done)), H', ⟨by first | omega | exact Nat.le_refl _⟩, by repeat (first | exact Drawn0.refl _ | apply Drawn0.step)⟩
  case rest =>
    clear HC3
    try clear c1
    try clear p2
    try clear c4
    try clear c4b0
    try clear c5
    try clear c5b0
    try clear c6
    try clear c6b0
    obtain ⟨kq, x18_2, rfl, HA, HJ2, ⟨mc2, rfl⟩⟩ := hcut
    cases kq with
    | zero => exact absurd HA.out (by simp [laws_intSmall.j0])
    | succ kj2 =>
      have H := HA.out
      clear HA
      simp only [laws_intSmall.j0] at H
      by_cases c7 : x18_2 = true
      · subst c7
        have H1 : (some false) = some r := by rw [if_pos rfl] at H; exact H
        clear H
        have H := H1
        clear H1
        obtain rfl := Option.some.inj H
        go_wp2
        go_ret
        exact ⟨by first | rfl | (simp; done) | (simp only [Int.tdiv_eq_ediv_of_nonneg (show (0 : Int) ≤ 9007199254740991 by omega)]; done) | (simp [Int.tdiv_eq_ediv_of_nonneg (show (0 : Int) ≤ 9007199254740991 by omega)]; done) | (simp [*]; done), by repeat (first | exact Drawn0.refl _ | apply Drawn0.step)⟩
      · replace c7 := Bool.eq_false_iff.mpr c7
        subst c7
        have H1 : (if a0 < 0 then (if a1 < 0 then (if (wrap64 (-a0)) = 0 then (some true) else (some (decide ((wrap64 (-a1)) ≤ (wrap64 ((9007199254740991 : Int) / (wrap64 (-a0)))))))) else (if (wrap64 (-a0)) = 0 then (some true) else (some (decide (a1 ≤ (wrap64 ((9007199254740991 : Int) / (wrap64 (-a0))))))))) else (if a1 < 0 then (if a0 = 0 then (some true) else (some (decide ((wrap64 (-a1)) ≤ (wrap64 ((9007199254740991 : Int) / a0)))))) else (if a0 = 0 then (some true) else (some (decide (a1 ≤ (wrap64 ((9007199254740991 : Int) / a0)))))))) = some r := by rw [if_neg (show ¬ (false = true) by decide)] at H; exact H
        clear H
        have H := H1
        clear H1
        by_cases c8 : a0 < 0
        · rw [if_pos c8] at H
          have c8b0 : decide (a0 < 0) = true := decide_eq_true c8
          clear c8
          by_cases c9 : a1 < 0
          · rw [if_pos c9] at H
            have c9b0 : decide (a1 < 0) = true := decide_eq_true c9
            clear c9
            by_cases c10 : (wrap64 (-a0)) = 0
            · rw [if_pos c10] at H
              have c10b0 : ((wrap64 (-a0)) == 0) = true := beq_iff_eq.mpr c10
              have c10b1 : ((wrap64 (-a0)) != 0) = false := bne_eq_false_iff_eq.mpr c10
              clear c10
              obtain rfl := Option.some.inj H
              go_wp2
              go_ret
              exact ⟨by first | rfl | (simp; done) | (simp only [Int.tdiv_eq_ediv_of_nonneg (show (0 : Int) ≤ 9007199254740991 by omega)]; done) | (simp [Int.tdiv_eq_ediv_of_nonneg (show (0 : Int) ≤ 9007199254740991 by omega)]; done) | (simp [*]; done), by repeat (first | exact Drawn0.refl _ | apply Drawn0.step)⟩
            · rw [if_neg c10] at H
              have c10b0 : ((wrap64 (-a0)) == 0) = false := beq_eq_false_iff_ne.mpr c10
              have c10b1 : ((wrap64 (-a0)) != 0) = true := bne_iff_ne.mpr c10
              obtain rfl := Option.some.inj H
              go_wp2
              go_ret
              exact ⟨by first | rfl | (simp; done) | (simp only [Int.tdiv_eq_ediv_of_nonneg (show (0 : Int) ≤ 9007199254740991 by omega)]; done) | (simp [Int.tdiv_eq_ediv_of_nonneg (show (0 : Int) ≤ 9007199254740991 by omega)]; done) | (simp [*]; done), by repeat (first | exact Drawn0.refl _ | apply Drawn0.step)⟩
          · rw [if_neg c9] at H
            have c9b0 : decide (a1 < 0) = false := decide_eq_false c9
            clear c9
            by_cases c11 : (wrap64 (-a0)) = 0
            · rw [if_pos c11] at H
              have c11b0 : ((wrap64 (-a0)) == 0) = true := beq_iff_eq.mpr c11
              have c11b1 : ((wrap64 (-a0)) != 0) = false := bne_eq_false_iff_eq.mpr c11
              clear c11
              obtain rfl := Option.some.inj H
              go_wp2
              go_ret
              exact ⟨by first | rfl | (simp; done) | (simp only [Int.tdiv_eq_ediv_of_nonneg (show (0 : Int) ≤ 9007199254740991 by omega)]; done) | (simp [Int.tdiv_eq_ediv_of_nonneg (show (0 : Int) ≤ 9007199254740991 by omega)]; done) | (simp [*]; done), by repeat (first | exact Drawn0.refl _ | apply Drawn0.step)⟩
            · rw [if_neg c11] at H
              have c11b0 : ((wrap64 (-a0)) == 0) = false := beq_eq_false_iff_ne.mpr c11
              have c11b1 : ((wrap64 (-a0)) != 0) = true := bne_iff_ne.mpr c11
              obtain rfl := Option.some.inj H
              go_wp2
              go_ret
              exact ⟨by first | rfl | (simp; done) | (simp only [Int.tdiv_eq_ediv_of_nonneg (show (0 : Int) ≤ 9007199254740991 by omega)]; done) | (simp [Int.tdiv_eq_ediv_of_nonneg (show (0 : Int) ≤ 9007199254740991 by omega)]; done) | (simp [*]; done), by repeat (first | exact Drawn0.refl _ | apply Drawn0.step)⟩
        · rw [if_neg c8] at H
          have c8b0 : decide (a0 < 0) = false := decide_eq_false c8
          clear c8
          by_cases c12 : a1 < 0
          · rw [if_pos c12] at H
            have c12b0 : decide (a1 < 0) = true := decide_eq_true c12
            clear c12
            by_cases c13 : a0 = 0
            · rw [if_pos c13] at H
              have c13b0 : (a0 == 0) = true := beq_iff_eq.mpr c13
              have c13b1 : (a0 != 0) = false := bne_eq_false_iff_eq.mpr c13
              clear c13
              obtain rfl := Option.some.inj H
              go_wp2
              go_ret
              exact ⟨by first | rfl | (simp; done) | (simp only [Int.tdiv_eq_ediv_of_nonneg (show (0 : Int) ≤ 9007199254740991 by omega)]; done) | (simp [Int.tdiv_eq_ediv_of_nonneg (show (0 : Int) ≤ 9007199254740991 by omega)]; done) | (simp [*]; done), by repeat (first | exact Drawn0.refl _ | apply Drawn0.step)⟩
            · rw [if_neg c13] at H
              have c13b0 : (a0 == 0) = false := beq_eq_false_iff_ne.mpr c13
              have c13b1 : (a0 != 0) = true := bne_iff_ne.mpr c13
              obtain rfl := Option.some.inj H
              go_wp2
              go_ret
              exact ⟨by first | rfl | (simp; done) | (simp only [Int.tdiv_eq_ediv_of_nonneg (show (0 : Int) ≤ 9007199254740991 by omega)]; done) | (simp [Int.tdiv_eq_ediv_of_nonneg (show (0 : Int) ≤ 9007199254740991 by omega)]; done) | (simp [*]; done), by repeat (first | exact Drawn0.refl _ | apply Drawn0.step)⟩
          · rw [if_neg c12] at H
            have c12b0 : decide (a1 < 0) = false := decide_eq_false c12
            clear c12
            by_cases c14 : a0 = 0
            · rw [if_pos c14] at H
              have c14b0 : (a0 == 0) = true := beq_iff_eq.mpr c14
              have c14b1 : (a0 != 0) = false := bne_eq_false_iff_eq.mpr c14
              clear c14
              obtain rfl := Option.some.inj H
              go_wp2
              go_ret
              exact ⟨by first | rfl | (simp; done) | (simp only [Int.tdiv_eq_ediv_of_nonneg (show (0 : Int) ≤ 9007199254740991 by omega)]; done) | (simp [Int.tdiv_eq_ediv_of_nonneg (show (0 : Int) ≤ 9007199254740991 by omega)]; done) | (simp [*]; done), by repeat (first | exact Drawn0.refl _ | apply Drawn0.step)⟩
            · rw [if_neg c14] at H
              have c14b0 : (a0 == 0) = false := beq_eq_false_iff_ne.mpr c14
              have c14b1 : (a0 != 0) = true := bne_iff_ne.mpr c14
              obtain rfl := Option.some.inj H
              go_wp2
              go_ret
              exact ⟨by first | rfl | (simp; done) | (simp only [Int.tdiv_eq_ediv_of_nonneg (show (0 : Int) ≤ 9007199254740991 by omega)]; done) | (simp [Int.tdiv_eq_ediv_of_nonneg (show (0 : Int) ≤ 9007199254740991 by omega)]; done) | (simp [*]; done), by repeat (first | exact Drawn0.refl _ | apply Drawn0.step)⟩

/-- A state of type 51 at block g of W; what its slices lead to came in by w0. -/
def IsS51 (w0 W : World) (g : Nat) (f0 : Int) (f1 : Int) (f2 : ByteArray) : Prop := W.heap[g]? = some (.cells #[.int .i64 f0, .int .i32 f1, .string f2] 51 (0, 0)) ∧ w0.heap.size ≤ g
theorem IsS51.grown {w0 W : World} {g : Nat} {f0 : Int} {f1 : Int} {f2 : ByteArray} {W1 : World} {row : Option Nat} (h : IsS51 w0 W g f0 f1 f2) (hw : W.grownBy W1 row) (hne : some g ≠ row) : IsS51 w0 W1 g f0 f1 f2 := by
  obtain ⟨hb, hg⟩ := h
  exact ⟨blk_grown hb hw hne, hg⟩
theorem IsS51.own_neN {w0 W : World} {g : Nat} {f0 : Int} {f1 : Int} {f2 : ByteArray} {α : Type} {d : Kd α} {e : Nat} {base : Nat} {ok : Nat → Prop} {v : Value} {xs : List α} (h : IsS51 w0 W g f0 f1 f2) (ho : Kd.N d e W base ok v xs) (ht : e ≠ 51) : some g ≠ v.ownBlock := by
  obtain ⟨hb, hg⟩ := h
  exact Kd.N_ne ho hb ht
theorem IsS51.fresh {w0 W : World} {g : Nat} {f0 : Int} {f1 : Int} {f2 : ByteArray} (h : IsS51 w0 W g f0 f1 f2) : ∀ k, W.heap.size ≤ k → k ≠ g := by
  obtain ⟨hb, hg⟩ := h
  exact Kd.freshB hb
theorem IsS51.kept {w0 W : World} {g : Nat} {f0 : Int} {f1 : Int} {f2 : ByteArray} {W1 : World} {S : Nat → Prop} (h : IsS51 w0 W g f0 f1 f2) (hk : Kept W W1 S) (hne : ¬ S g) : IsS51 w0 W1 g f0 f1 f2 := by
  obtain ⟨hb, hg⟩ := h
  exact ⟨blk_kept hb hk hne, hg⟩
theorem IsS51.below {w0 W : World} {g : Nat} {f0 : Int} {f1 : Int} {f2 : ByteArray} {W1 : World} (h : IsS51 w0 W g f0 f1 f2) (hw : Below W.heap.size W W1) : IsS51 w0 W1 g f0 f1 f2 := h.grown (grown_of_below hw none) (by simp)
theorem IsS51.alloc {w0 W : World} {g : Nat} {f0 : Int} {f1 : Int} {f2 : ByteArray} (h : IsS51 w0 W g f0 f1 f2) (o : Obj) : IsS51 w0 (W.alloc o) g f0 f1 f2 := h.below (below_alloc (Below.refl _ _) o)
theorem IsS51.drewN {w0 W : World} {g : Nat} {f0 : Int} {f1 : Int} {f2 : ByteArray} (h : IsS51 w0 W g f0 f1 f2) (m : Nat) : IsS51 w0 (W.drewN m) g f0 f1 f2 := h
theorem IsS51.drew {w0 W : World} {g : Nat} {f0 : Int} {f1 : Int} {f2 : ByteArray} (h : IsS51 w0 W g f0 f1 f2) : IsS51 w0 W.drew g f0 f1 f2 := h
theorem IsS51.at_ {w0 W : World} {g : Nat} {f0 : Int} {f1 : Int} {f2 : ByteArray} {w' : World} {m : Nat} (hq : W.drewN m = w') (h : IsS51 w0 W g f0 f1 f2) : IsS51 w0 w' g f0 f1 f2 := by subst hq; exact IsS51.drewN h m
theorem IsS51.apart {w0 W : World} {g : Nat} {f0 : Int} {f1 : Int} {f2 : ByteArray} {α : Type} {d : Kd α} {e : Nat} {base : Nat} {ok : Nat → Prop} {v : Value} {xs : List α} (h : IsS51 w0 W g f0 f1 f2) (ho : d.R e W base ok v xs) (ht : ∀ q, q ∈ e :: d.E → q ≠ 51) : d.R e W base (fun k => ok k ∧ k ≠ g) v xs := by
  obtain ⟨hb, hg⟩ := h
  exact Kd.R_types ho hb ht
theorem IsS51.own_ne {w0 W : World} {g : Nat} {f0 : Int} {f1 : Int} {f2 : ByteArray} {α : Type} {d : Kd α} {e : Nat} {base : Nat} {ok : Nat → Prop} {v : Value} {xs : List α} (h : IsS51 w0 W g f0 f1 f2) (ho : d.R e W base ok v xs) (ht : e ≠ 51) : some g ≠ v.ownBlock := by
  obtain ⟨hb, hg⟩ := h
  exact Kd.R_ne ho hb ht
theorem IsS51.apartQ {w0 W : World} {g : Nat} {f0 : Int} {f1 : Int} {f2 : ByteArray} {α : Type} {d : Kd α} {e : Nat} {base : Nat} {ok : Nat → Prop} {v : Value} {xs : List α} (h : IsS51 w0 W g f0 f1 f2) (ho : d.Q e W base ok v xs) (ht : ∀ q, q ∈ e :: d.E → q ≠ 51) : d.Q e W base (fun k => ok k ∧ k ≠ g) v xs := by
  obtain ⟨hb, hg⟩ := h
  exact Kd.Q_types ho hb ht
theorem IsS51.own_neQ {w0 W : World} {g : Nat} {f0 : Int} {f1 : Int} {f2 : ByteArray} {α : Type} {d : Kd α} {e : Nat} {base : Nat} {ok : Nat → Prop} {v : Value} {xs : List α} (h : IsS51 w0 W g f0 f1 f2) (ho : d.Q e W base ok v xs) (ht : e ≠ 51) : some g ≠ v.ownBlock := by
  obtain ⟨hb, hg⟩ := h
  exact Kd.Q_ne ho hb ht
theorem IsS51.apartS {w0 W : World} {g : Nat} {f0 : Int} {f1 : Int} {f2 : ByteArray} {α : Type} {d : Kd α} {e : Nat} {base : Nat} {ok : Nat → Prop} {v : Value} {xs : List α} (h : IsS51 w0 W g f0 f1 f2) (ho : d.S e W base ok v xs) (ht : ∀ q, q ∈ e :: d.E → q ≠ 51) : d.S e W base (fun k => ok k ∧ k ≠ g) v xs := by
  obtain ⟨hb, hg⟩ := h
  exact Kd.S_types ho hb ht
theorem IsS51.own_neS {w0 W : World} {g : Nat} {f0 : Int} {f1 : Int} {f2 : ByteArray} {α : Type} {d : Kd α} {e : Nat} {base : Nat} {ok : Nat → Prop} {v : Value} {xs : List α} (h : IsS51 w0 W g f0 f1 f2) (ho : d.S e W base ok v xs) (ht : e ≠ 51) : some g ≠ v.ownBlock := by
  obtain ⟨hb, hg⟩ := h
  exact Kd.S_ne ho hb ht
theorem IsS51.lt {w0 W : World} {g : Nat} {f0 : Int} {f1 : Int} {f2 : ByteArray} (h : IsS51 w0 W g f0 f1 f2) : g < W.heap.size := by
  obtain ⟨hb, hg⟩ := h
  exact blk_lt hb
theorem IsS51.ge {w0 W : World} {g : Nat} {f0 : Int} {f1 : Int} {f2 : ByteArray} (h : IsS51 w0 W g f0 f1 f2) : w0.heap.size ≤ g := by
  obtain ⟨hb, hg⟩ := h
  exact hg
theorem IsS51.ne_blk {w0 W : World} {g : Nat} {f0 : Int} {f1 : Int} {f2 : ByteArray} {a : Nat} {cs : Array Value} {t : TypeId} {fr : Nat × Nat} (h : IsS51 w0 W g f0 f1 f2) (hb2 : W.heap[a]? = some (.cells cs t fr)) (ht : t ≠ 51) : g ≠ a := by
  obtain ⟨hb, hg⟩ := h
  rintro rfl
  rw [hb] at hb2
  injection hb2 with hb2
  injection hb2 with _ ht2
  exact ht ht2.symm
theorem IsS51.far {w0 W : World} {g : Nat} {f0 : Int} {f1 : Int} {f2 : ByteArray} {p : Addr} (h : IsS51 w0 W g f0 f1 f2) (hne : g ≠ p.block) (u : Value) : IsS51 w0 (W.setCell p u) g f0 f1 f2 := by
  obtain ⟨hb, hg⟩ := h
  exact ⟨blk_far hb hne u, hg⟩
theorem cellS51_0 {W : World} {g : Nat} {f0 : Int} {f1 : Int} {f2 : ByteArray} (h : W.heap[g]? = some (.cells #[.int .i64 f0, .int .i32 f1, .string f2] 51 (0, 0))) : W.cell? ⟨g, 0, none⟩ = some (.int .i64 f0) := (blk_cell h 0).trans rfl
theorem IsS51.set_0 {w0 W : World} {g : Nat} {f0 : Int} {f1 : Int} {f2 : ByteArray} (h : IsS51 w0 W g f0 f1 f2) (x : Int) : IsS51 w0 (W.setCell ⟨g, 0, none⟩ (.int .i64 x)) g x f1 f2 := by
  obtain ⟨hb, hg⟩ := h
  exact ⟨by simpa using blk_set hb 0 (.int .i64 x), hg⟩
theorem cellS51_1 {W : World} {g : Nat} {f0 : Int} {f1 : Int} {f2 : ByteArray} (h : W.heap[g]? = some (.cells #[.int .i64 f0, .int .i32 f1, .string f2] 51 (0, 0))) : W.cell? ⟨g, 1, none⟩ = some (.int .i32 f1) := (blk_cell h 1).trans rfl
theorem IsS51.set_1 {w0 W : World} {g : Nat} {f0 : Int} {f1 : Int} {f2 : ByteArray} (h : IsS51 w0 W g f0 f1 f2) (x : Int) : IsS51 w0 (W.setCell ⟨g, 1, none⟩ (.int .i32 x)) g f0 x f2 := by
  obtain ⟨hb, hg⟩ := h
  exact ⟨by simpa using blk_set hb 1 (.int .i32 x), hg⟩
theorem cellS51_2 {W : World} {g : Nat} {f0 : Int} {f1 : Int} {f2 : ByteArray} (h : W.heap[g]? = some (.cells #[.int .i64 f0, .int .i32 f1, .string f2] 51 (0, 0))) : W.cell? ⟨g, 2, none⟩ = some (.string f2) := (blk_cell h 2).trans rfl
theorem IsS51.set_2 {w0 W : World} {g : Nat} {f0 : Int} {f1 : Int} {f2 : ByteArray} (h : IsS51 w0 W g f0 f1 f2) (x : ByteArray) : IsS51 w0 (W.setCell ⟨g, 2, none⟩ (.string x)) g f0 f1 x := by
  obtain ⟨hb, hg⟩ := h
  exact ⟨by simpa using blk_set hb 2 (.string x), hg⟩
theorem IsS51.new (w0 W : World) (f0 : Int) (f1 : Int) (f2 : ByteArray) (hB : Below w0.heap.size w0 W) : IsS51 w0 (W.alloc (.cells #[.int .i64 f0, .int .i32 f1, .string f2] 51)) W.heap.size f0 f1 f2 := ⟨by simpa using heap_alloc_new W _, hB.size⟩

/-! ### impl_intStr: function 25 -/
def impl_intStr.f (a0_0 : Int) (a0_1 : Int) (a0_2 : ByteArray) : Option (Int × Int × ByteArray) := some (a0_0, a0_1, a0_2)
set_option maxHeartbeats 8000000 in
set_option maxRecDepth 100000 in
theorem impl_intStr.calls (a0_0 : Int) (a0_1 : Int) (a0_2 : ByteArray) (r1 : Int) (r2 : Int) (r3 : ByteArray) (w0 w : World) (hB : Below w0.heap.size w0 w) (h : impl_intStr.f a0_0 a0_1 a0_2 = some (r1, r2, r3)) :
    Calls Tryd.prog 25 #[.agg #[.int .i64 a0_0, .int .i32 a0_1, .string a0_2]] w fun e w' => ∃ g_ : Nat, e = .returned (.pointer (some ⟨g_, 0, none⟩)) ∧ IsS51 w0 w' g_ r1 r2 r3 ∧ Below w0.heap.size w0 w' ∧ Below w.heap.size w w' := by
  have hu24 := Tryd.underlying24
  have hu51 := Tryd.underlying51
  have HBW := Aside0.mk (Below.refl w.heap.size w)
  have HW0 := Aside0.mk hB.size
  have HB := Aside0.mk hB
  clear hB
  have H : (some (a0_0, a0_1, a0_2)) = some (r1, r2, r3) := h
  clear h
  simp only [Option.some.injEq, Prod.mk.injEq] at H
  obtain ⟨rfl, rfl, rfl⟩ := H
  go_enter Tryd.func25, Tryd.ntmps25
  go_wp2_with (first | ((with_reducible refine gate_dst (N := 1) rfl ?_); refine box_event ?hg (N := 1) ?hd (cs := #[.int .i64 a0_0, .int .i32 a0_1, .string a0_2]) (t := 24) ?hr ?_; (case hd => rfl); (case hg => rfl); (case hr => first | (go_simp; done) | (go_simp; rfl)); intro gb101 hg w2 hbox hb; have n0_ := Aside0.mk (below_step HBW.out hb); have n1_ := Aside0.mk (below_step (by repeat (first | (with_reducible first | exact HB.out | apply below_alloc | apply pw_below_drewN | apply below_drew1) | exact HB.out)) hb); have n2_ := Aside0.mk (hbox); have n3_ := Aside0.mk ((by rw [hg]; exact (below_size (by repeat (first | (with_reducible first | exact HBW.out | apply below_alloc | apply pw_below_drewN | apply below_drew1) | exact HBW.out))) : w.heap.size ≤ gb101)); have n4_ := Aside0.mk ((Nat.le_trans HW0.out (by rw [hg]; exact (below_size (by repeat (first | (with_reducible first | exact HBW.out | apply below_alloc | apply pw_below_drewN | apply below_drew1) | exact HBW.out))) : w.heap.size ≤ gb101) : w0.heap.size ≤ gb101)); clear HBW; clear HB; have HBW := n0_; have HB := n1_; have BK101 := n2_; have GW101 := n3_; have GE101 := n4_; clear n0_ n1_ n2_ n3_ n4_; clear hb hbox hg; have hcz3_0 : w2.cell? ⟨gb101, 0, none⟩ = some (.int .i64 a0_0) := (blk_cell BK101.out 0).trans rfl; have hcz3_1 : w2.cell? ⟨gb101, 1, none⟩ = some (.int .i32 a0_1) := (blk_cell BK101.out 1).trans rfl; have hcz3_2 : w2.cell? ⟨gb101, 2, none⟩ = some (.string a0_2) := (blk_cell BK101.out 2).trans rfl; have hfz3_0 := blk_frozen BK101.out 0; have hfz3_1 := blk_frozen BK101.out 1; have hfz3_2 := blk_frozen BK101.out 2) | ((with_reducible refine gate_dst (N := 10) rfl ?_); refine box_event ?hg (N := 10) ?hd (cs := #[.int .i64 a0_0, .int .i32 a0_1, .string a0_2]) (t := 51) ?hr ?_; (case hd => rfl); (case hg => rfl); (case hr => first | (go_simp; done) | (go_simp; rfl)); intro gb102 hg w4 hbox hb; have n0_ := Aside0.mk (blk_below (g := gb101) (o := .cells #[.int .i64 a0_0, .int .i32 a0_1, .string a0_2] 24 (0, 0)) (by (with_reducible repeat (first | refine blk_drewN ?_ _ | refine blk_drew ?_ | refine blk_alloc ?_ _)); exact BK101.out) hb); have n1_ := Aside0.mk (below_step HBW.out hb); have n2_ := Aside0.mk (below_step (by repeat (first | (with_reducible first | exact HB.out | apply below_alloc | apply pw_below_drewN | apply below_drew1 | refine below_set ?_ GE101.out) | exact HB.out)) hb); have n3_ := Aside0.mk (hbox); have n4_ := Aside0.mk ((by rw [hg]; exact (below_size (by repeat (first | (with_reducible first | exact HBW.out | apply below_alloc | apply pw_below_drewN | apply below_drew1 | refine below_set ?_ GW101.out) | exact HBW.out))) : w.heap.size ≤ gb102)); have n5_ := Aside0.mk ((Nat.le_trans HW0.out (by rw [hg]; exact (below_size (by repeat (first | (with_reducible first | exact HBW.out | apply below_alloc | apply pw_below_drewN | apply below_drew1 | refine below_set ?_ GW101.out) | exact HBW.out))) : w.heap.size ≤ gb102) : w0.heap.size ≤ gb102)); have n6_ := Aside0.mk ((by rw [hg]; exact Nat.ne_of_lt (blk_lt (g := gb101) (o := .cells #[.int .i64 a0_0, .int .i32 a0_1, .string a0_2] 24 (0, 0)) (by (with_reducible repeat (first | refine blk_drewN ?_ _ | refine blk_drew ?_ | refine blk_alloc ?_ _)); exact BK101.out)) : gb101 ≠ gb102)); have n7_ := Aside0.mk ((by rw [hg]; exact Nat.ne_of_gt (blk_lt (g := gb101) (o := .cells #[.int .i64 a0_0, .int .i32 a0_1, .string a0_2] 24 (0, 0)) (by (with_reducible repeat (first | refine blk_drewN ?_ _ | refine blk_drew ?_ | refine blk_alloc ?_ _)); exact BK101.out)) : gb102 ≠ gb101)); clear BK101; clear HBW; clear HB; have BK101 := n0_; have HBW := n1_; have HB := n2_; have BK102 := n3_; have GW102 := n4_; have GE102 := n5_; have NB101_102 := n6_; have NB102_101 := n7_; clear n0_ n1_ n2_ n3_ n4_ n5_ n6_ n7_; clear hb hbox hg))
  go_ret
  exact ⟨_, rfl, (show IsS51 w0 _ gb102 a0_0 a0_1 a0_2 from ⟨by (with_reducible repeat (first | refine blk_drewN ?_ _ | refine blk_drew ?_ | refine blk_alloc ?_ _)); exact BK102.out, GE102.out⟩), by repeat (first | (with_reducible first | exact HB.out | apply below_alloc | apply pw_below_drewN | apply below_drew1 | refine below_set ?_ GE101.out | refine below_set ?_ GE102.out) | exact HB.out), by repeat (first | (with_reducible first | exact HBW.out | apply below_alloc | apply pw_below_drewN | apply below_drew1 | refine below_set ?_ GW101.out | refine below_set ?_ GW102.out) | exact HBW.out)⟩

/-! ### errors_New: function 29 -/
set_option maxHeartbeats 1000000 in
theorem errors_New.calls (s : ByteArray) (w : World) :
    Calls Tryd.prog 29 #[.string s] w fun e w' => (∃ x, e = .returned (.iface 72 x)) ∧ Below w.heap.size w w' := by
  have hu1 := Tryd.underlying74
  go_enter Tryd.func29, Tryd.ntmps29
  go_wp2_with fail
  go_ret
  exact ⟨⟨_, rfl⟩, by repeat (first | (with_reducible exact Below.refl _ _) | apply below_alloc | apply pw_below_drewN | apply below_drew1)⟩
-- NOT PRINTED: function 66 (stringslite_Clone)

-- NOT PRINTED: function 51 (strconv_syntaxError)

-- NOT PRINTED: function 52 (strconv_rangeError)

-- NOT PRINTED: function 60 (strconv_small)

-- NOT PRINTED: function 70 (strconv_log10Pow2)

-- NOT PRINTED: function 71 (bits_Len64)

-- NOT PRINTED: function 72 (strconv_bool2_int)

-- NOT PRINTED: function 61 (strconv_numDigits)

-- NOT PRINTED: function 62 (strconv_formatBase10)

-- NOT PRINTED: function 73 (strconv_isPowerOfTwo)

-- NOT PRINTED: function 79 (bits_TrailingZeros32)

-- NOT PRINTED: function 80 (bits_TrailingZeros64)

-- NOT PRINTED: function 74 (bits_TrailingZeros)

-- NOT PRINTED: function 63 (strconv_formatBits)

-- NOT PRINTED: function 48 (strconv_FormatInt)

-- NOT PRINTED: function 38 (strconv_Itoa_38)

-- NOT PRINTED: function 31 (strconv_Itoa_31)

-- NOT PRINTED: function 53 (strconv_baseError)

-- NOT PRINTED: function 54 (strconv_bitSizeError)

-- NOT PRINTED: function 41 (strconv_toError)

-- NOT PRINTED: function 64 (strconv_lower)

-- NOT PRINTED: function 65 (strconv_underscoreOK)

-- NOT PRINTED: function 50 (strconv_ParseUint)

-- NOT PRINTED: function 40 (strconv_ParseInt)

-- NOT PRINTED: function 49 (strconv_Atoi_49)

-- NOT PRINTED: function 39 (strconv_Atoi_39)

-- NOT PRINTED: function 32 (intstr_IntOrString_IntValue)

/-! ### stringslite_HasSuffix: function 55 -/
def stringslite_HasSuffix.f (a0 : ByteArray) (a1 : ByteArray) : Option (Bool) := if (a0.size : Int) ≥ (a1.size : Int) then (if 0 ≤ (wrap64 ((a0.size : Int) - (a1.size : Int))) then (if (wrap64 ((a0.size : Int) - (a1.size : Int))) ≤ (a0.size : Int) then (some ((a0.extract ((wrap64 ((a0.size : Int) - (a1.size : Int))) : Int).toNat a0.size).toList == a1.toList)) else (none)) else (none)) else (some false)
set_option maxHeartbeats 8000000 in
set_option maxRecDepth 100000 in
theorem stringslite_HasSuffix.calls (a0 : ByteArray) (a1 : ByteArray) (r : Bool) (w : World) (h : stringslite_HasSuffix.f a0 a1 = some r) :
    Calls Tryd.prog 55 #[.string a0, .string a1] w fun e w' => e = .returned (.bool r) ∧ Drawn0 w w' := by
  have H : (if (a0.size : Int) ≥ (a1.size : Int) then (if 0 ≤ (wrap64 ((a0.size : Int) - (a1.size : Int))) then (if (wrap64 ((a0.size : Int) - (a1.size : Int))) ≤ (a0.size : Int) then (some ((a0.extract ((wrap64 ((a0.size : Int) - (a1.size : Int))) : Int).toNat a0.size).toList == a1.toList)) else (none)) else (none)) else (some false)) = some r := h
  clear h
  by_cases c3 : (a0.size : Int) ≥ (a1.size : Int)
  · rw [if_pos c3] at H
    have c3b0 : decide ((a1.size : Int) ≤ (a0.size : Int)) = true := decide_eq_true c3
    have c3b1 : decide (a1.size ≤ a0.size) = true := decide_eq_true (Int.ofNat_le.mp c3)
    clear c3
    obtain ⟨ji4, hji4⟩ : ∃ j_ : Int, (wrap64 ((a0.size : Int) - (a1.size : Int))) = j_ := ⟨_, rfl⟩
    replace H : (if 0 ≤ (ji4) then (if (ji4) ≤ (a0.size : Int) then (some ((a0.extract ((ji4) : Int).toNat a0.size).toList == a1.toList)) else (none)) else (none)) = some r := by first | (rw [hji4] at H; exact H) | (simp only [hji4] at H ⊢; exact H)
    have hji4w : (IntKind.i64.wrap ((a0.size : Int) - (a1.size : Int))) = ji4 := (i64_w _).trans hji4
    by_cases c5 : 0 ≤ (ji4)
    · rw [if_pos c5] at H
      have c5b0 := eq_true c5
      have c5b1 : decide (0 ≤ (ji4)) = true := decide_eq_true c5
      clear c5
      by_cases c6 : (ji4) ≤ (a0.size : Int)
      · rw [if_pos c6] at H
        have c6b0 := eq_true c6
        have c6b1 : decide ((ji4) ≤ (a0.size : Int)) = true := decide_eq_true c6
        clear c6
        obtain rfl := Option.some.inj H
        go_enter Tryd.func55, Tryd.ntmps55
        go_wp2
        go_ret
        exact ⟨by first | rfl | (simp; done) | (simp only [← hji4] <;> (first | rfl | simp)) | (simp [*]; done), by repeat (first | exact Drawn0.refl _ | apply Drawn0.step)⟩
      · rw [if_neg c6] at H
        exact absurd H (by simp)
    · rw [if_neg c5] at H
      exact absurd H (by simp)
  · rw [if_neg c3] at H
    have c3b0 : decide ((a1.size : Int) ≤ (a0.size : Int)) = false := decide_eq_false c3
    have c3b1 : decide (a1.size ≤ a0.size) = false := decide_eq_false (fun h => c3 (Int.ofNat_le.mpr h))
    clear c3
    obtain rfl := Option.some.inj H
    go_enter Tryd.func55, Tryd.ntmps55
    go_wp2
    go_ret
    exact ⟨by first | rfl | (simp; done) | (simp [*]; done), by repeat (first | exact Drawn0.refl _ | apply Drawn0.step)⟩

/-! ### strings_HasSuffix: function 42 -/
def strings_HasSuffix.f (a0 : ByteArray) (a1 : ByteArray) : Option (Bool) := (stringslite_HasSuffix.f a0 a1).bind fun t106 => (some t106)
set_option maxHeartbeats 8000000 in
set_option maxRecDepth 100000 in
theorem strings_HasSuffix.calls (a0 : ByteArray) (a1 : ByteArray) (r : Bool) (w : World) (h : strings_HasSuffix.f a0 a1 = some r) :
    Calls Tryd.prog 42 #[.string a0, .string a1] w fun e w' => e = .returned (.bool r) ∧ Drawn0 w w' := by
  have H : ((stringslite_HasSuffix.f a0 a1).bind fun t106 => (some t106)) = some r := h
  clear h
  replace H := Option.bind_eq_some_iff.mp H
  obtain ⟨t106, A30, H⟩ := H
  replace H : (some t106) = some r := H
  have A3 := Aside0.mk A30
  clear A30
  obtain rfl := Option.some.inj H
  go_enter Tryd.func42, Tryd.ntmps42
  go_wp2_with (first | ((with_reducible refine gate_callee (f := 55) rfl ?_); refine goesL_ (some 7) rfl rfl Tryd.func55 (by kernel_rfl) rfl #[.string a0, .string a1] rfl (by (try simp only [List.map_toArray, List.map_cons, List.map_nil]); first | done | rfl | (simp only [List.length_drop, List.length_take]; rfl)) ?_; (with_reducible refine (stringslite_HasSuffix.calls a0 a1 t106 _ A3.out).mono ?_); rintro e w' ⟨rfl, ⟨nd, rfl⟩⟩; refine ⟨_, rfl, ?_⟩))
  go_ret
  exact ⟨by first | rfl | (simp; done) | (simp [*]; done), by repeat (first | exact Drawn0.refl _ | apply Drawn0.step)⟩

/-! ### stringslite_TrimSuffix: function 56 -/
def stringslite_TrimSuffix.f (a0 : ByteArray) (a1 : ByteArray) : Option (ByteArray) := (stringslite_HasSuffix.f a0 a1).bind fun t107 => (if t107 = true then (if 0 ≤ (wrap64 ((a0.size : Int) - (a1.size : Int))) then (if (wrap64 ((a0.size : Int) - (a1.size : Int))) ≤ (a0.size : Int) then (some (a0.extract 0 ((wrap64 ((a0.size : Int) - (a1.size : Int))) : Int).toNat)) else (none)) else (none)) else (some a0))
set_option maxHeartbeats 8000000 in
set_option maxRecDepth 100000 in
theorem stringslite_TrimSuffix.calls (a0 : ByteArray) (a1 : ByteArray) (r : ByteArray) (w : World) (h : stringslite_TrimSuffix.f a0 a1 = some r) :
    Calls Tryd.prog 56 #[.string a0, .string a1] w fun e w' => e = .returned (.string r) ∧ Drawn0 w w' := by
  have H : ((stringslite_HasSuffix.f a0 a1).bind fun t107 => (if t107 = true then (if 0 ≤ (wrap64 ((a0.size : Int) - (a1.size : Int))) then (if (wrap64 ((a0.size : Int) - (a1.size : Int))) ≤ (a0.size : Int) then (some (a0.extract 0 ((wrap64 ((a0.size : Int) - (a1.size : Int))) : Int).toNat)) else (none)) else (none)) else (some a0))) = some r := h
  clear h
  replace H := Option.bind_eq_some_iff.mp H
  obtain ⟨t107, A30, H⟩ := H
  replace H : (if t107 = true then (if 0 ≤ (wrap64 ((a0.size : Int) - (a1.size : Int))) then (if (wrap64 ((a0.size : Int) - (a1.size : Int))) ≤ (a0.size : Int) then (some (a0.extract 0 ((wrap64 ((a0.size : Int) - (a1.size : Int))) : Int).toNat)) else (none)) else (none)) else (some a0)) = some r := H
  have A3 := Aside0.mk A30
  clear A30
  by_cases c4 : t107 = true
  · subst c4
    have H1 : (if 0 ≤ (wrap64 ((a0.size : Int) - (a1.size : Int))) then (if (wrap64 ((a0.size : Int) - (a1.size : Int))) ≤ (a0.size : Int) then (some (a0.extract 0 ((wrap64 ((a0.size : Int) - (a1.size : Int))) : Int).toNat)) else (none)) else (none)) = some r := by rw [if_pos rfl] at H; exact H
    clear H
    have H := H1
    clear H1
    obtain ⟨ji5, hji5⟩ : ∃ j_ : Int, (wrap64 ((a0.size : Int) - (a1.size : Int))) = j_ := ⟨_, rfl⟩
    replace H : (if 0 ≤ (ji5) then (if (ji5) ≤ (a0.size : Int) then (some (a0.extract 0 ((ji5) : Int).toNat)) else (none)) else (none)) = some r := by first | (rw [hji5] at H; exact H) | (simp only [hji5] at H ⊢; exact H)
    (try rw [hji5] at A3)
    have hji5w : (IntKind.i64.wrap ((a0.size : Int) - (a1.size : Int))) = ji5 := (i64_w _).trans hji5
    by_cases c6 : 0 ≤ (ji5)
    · rw [if_pos c6] at H
      have c6b0 := eq_true c6
      have c6b1 : decide (0 ≤ (ji5)) = true := decide_eq_true c6
      clear c6
      by_cases c7 : (ji5) ≤ (a0.size : Int)
      · rw [if_pos c7] at H
        have c7b0 := eq_true c7
        have c7b1 : decide ((ji5) ≤ (a0.size : Int)) = true := decide_eq_true c7
        clear c7
        obtain rfl := Option.some.inj H
        go_enter Tryd.func56, Tryd.ntmps56
        go_wp2_with (first | ((with_reducible refine gate_callee (f := 55) rfl ?_); refine goesL_ (some 7) rfl rfl Tryd.func55 (by kernel_rfl) rfl #[.string a0, .string a1] rfl (by (try simp only [List.map_toArray, List.map_cons, List.map_nil]); first | done | rfl | (simp only [List.length_drop, List.length_take]; rfl)) ?_; (with_reducible refine (stringslite_HasSuffix.calls a0 a1 true _ A3.out).mono ?_); rintro e w' ⟨rfl, ⟨nd, rfl⟩⟩; refine ⟨_, rfl, ?_⟩))
        go_ret
        exact ⟨by first | rfl | (simp; done) | (simp only [← hji5] <;> (first | rfl | simp)) | (simp [*]; done), by repeat (first | exact Drawn0.refl _ | apply Drawn0.step)⟩
      · rw [if_neg c7] at H
        exact absurd H (by simp)
    · rw [if_neg c6] at H
      exact absurd H (by simp)
  · replace c4 := Bool.eq_false_iff.mpr c4
    subst c4
    have H1 : (some a0) = some r := by rw [if_neg (show ¬ (false = true) by decide)] at H; exact H
    clear H
    have H := H1
    clear H1
    obtain rfl := Option.some.inj H
    go_enter Tryd.func56, Tryd.ntmps56
    go_wp2_with (first | ((with_reducible refine gate_callee (f := 55) rfl ?_); refine goesL_ (some 7) rfl rfl Tryd.func55 (by kernel_rfl) rfl #[.string a0, .string a1] rfl (by (try simp only [List.map_toArray, List.map_cons, List.map_nil]); first | done | rfl | (simp only [List.length_drop, List.length_take]; rfl)) ?_; (with_reducible refine (stringslite_HasSuffix.calls a0 a1 false _ A3.out).mono ?_); rintro e w' ⟨rfl, ⟨nd, rfl⟩⟩; refine ⟨_, rfl, ?_⟩))
    go_ret
    exact ⟨by first | rfl | (simp; done) | (simp [*]; done), by repeat (first | exact Drawn0.refl _ | apply Drawn0.step)⟩

/-! ### strings_TrimSuffix: function 43 -/
def strings_TrimSuffix.f (a0 : ByteArray) (a1 : ByteArray) : Option (ByteArray) := (stringslite_TrimSuffix.f a0 a1).bind fun t108 => (some t108)
set_option maxHeartbeats 8000000 in
set_option maxRecDepth 100000 in
theorem strings_TrimSuffix.calls (a0 : ByteArray) (a1 : ByteArray) (r : ByteArray) (w : World) (h : strings_TrimSuffix.f a0 a1 = some r) :
    Calls Tryd.prog 43 #[.string a0, .string a1] w fun e w' => e = .returned (.string r) ∧ Drawn0 w w' := by
  have H : ((stringslite_TrimSuffix.f a0 a1).bind fun t108 => (some t108)) = some r := h
  clear h
  replace H := Option.bind_eq_some_iff.mp H
  obtain ⟨t108, A30, H⟩ := H
  replace H : (some t108) = some r := H
  have A3 := Aside0.mk A30
  clear A30
  obtain rfl := Option.some.inj H
  go_enter Tryd.func43, Tryd.ntmps43
  go_wp2_with (first | ((with_reducible refine gate_callee (f := 56) rfl ?_); refine goesL_ (some 7) rfl rfl Tryd.func56 (by kernel_rfl) rfl #[.string a0, .string a1] rfl (by (try simp only [List.map_toArray, List.map_cons, List.map_nil]); first | done | rfl | (simp only [List.length_drop, List.length_take]; rfl)) ?_; (with_reducible refine (stringslite_TrimSuffix.calls a0 a1 t108 _ A3.out).mono ?_); rintro e w' ⟨rfl, ⟨nd, rfl⟩⟩; refine ⟨_, rfl, ?_⟩))
  go_ret
  exact ⟨by first | rfl | (simp; done) | (simp [*]; done), by repeat (first | exact Drawn0.refl _ | apply Drawn0.step)⟩

-- NOT PRINTED: function 35 (intstr_getIntOrPercentValueSafely)

-- NOT PRINTED: function 44 (math_archCeil)

-- NOT PRINTED: function 46 (math_archFloor)

-- NOT PRINTED: function 57 (math_IsNaN)

-- NOT PRINTED: function 75 (math_Float64frombits)

-- NOT PRINTED: function 76 (math_Float64bits)

-- NOT PRINTED: function 67 (math_Abs)

-- NOT PRINTED: function 58 (math_IsInf)

-- NOT PRINTED: function 77 (math_archTrunc)

-- NOT PRINTED: function 69 (math_Copysign)

-- NOT PRINTED: function 78 (math_trunc)

-- NOT PRINTED: function 68 (math_Trunc)

-- NOT PRINTED: function 59 (math_Modf)

-- NOT PRINTED: function 47 (math_floor)

-- NOT PRINTED: function 37 (math_Floor)

-- NOT PRINTED: function 45 (math_ceil)

-- NOT PRINTED: function 36 (math_Ceil)

-- NOT PRINTED: function 28 (intstr_GetScaledValueFromIntOrPercent)

-- NOT PRINTED: function 16 (impl_IntStrScaled)

/-! ### laws_zzFits5: function 18 -/
def laws_zzFits5.f (a0_0 : Int) (a0_1 : Int) (a0_2 : ByteArray) : Option (Bool) := if (a0_2.size : Int) > 2147483647 then (some false) else (some true)
set_option maxHeartbeats 8000000 in
set_option maxRecDepth 100000 in
theorem laws_zzFits5.calls (a0_0 : Int) (a0_1 : Int) (a0_2 : ByteArray) (r : Bool) (w : World) (h : laws_zzFits5.f a0_0 a0_1 a0_2 = some r) :
    Calls Tryd.prog 18 #[.agg #[.int .i64 a0_0, .int .i32 a0_1, .string a0_2]] w fun e w' => e = .returned (.bool r) ∧ Below w.heap.size w w' := by
  have hu24 := Tryd.underlying24
  have HB := Aside0.mk (Below.refl w.heap.size w)
  have H : (if (a0_2.size : Int) > 2147483647 then (some false) else (some true)) = some r := h
  clear h
  by_cases c2 : (a0_2.size : Int) > 2147483647
  · rw [if_pos c2] at H
    have c2b0 : decide (2147483647 < (a0_2.size : Int)) = true := decide_eq_true c2
    have c2b1 : decide (2147483647 < a0_2.size) = true := decide_eq_true (by omega)
    clear c2
    obtain rfl := Option.some.inj H
    go_enter Tryd.func18, Tryd.ntmps18
    go_wp2_with (first | ((with_reducible refine gate_dst (N := 1) rfl ?_); refine box_event ?hg (N := 1) ?hd (cs := #[.int .i64 a0_0, .int .i32 a0_1, .string a0_2]) (t := 24) ?hr ?_; (case hd => rfl); (case hg => rfl); (case hr => first | (go_simp; done) | (go_simp; rfl)); intro gb114 hg w3 hbox hb; have n0_ := Aside0.mk (below_step (by repeat (first | (with_reducible first | exact HB.out | apply below_alloc | apply pw_below_drewN | apply below_drew1) | exact HB.out)) hb); have n1_ := Aside0.mk (hbox); have n2_ := Aside0.mk ((by rw [hg]; exact (below_size (by repeat (first | (with_reducible first | exact HB.out | apply below_alloc | apply pw_below_drewN | apply below_drew1) | exact HB.out))) : w.heap.size ≤ gb114)); have n3_ := Aside0.mk ((by rw [hg]; exact (below_size (by repeat (first | (with_reducible first | exact HB.out | apply below_alloc | apply pw_below_drewN | apply below_drew1) | exact HB.out))) : w.heap.size ≤ gb114)); clear HB; have HB := n0_; have BK114 := n1_; have GW114 := n2_; have GE114 := n3_; clear n0_ n1_ n2_ n3_; clear hb hbox hg; have hcz4_0 : w3.cell? ⟨gb114, 0, none⟩ = some (.int .i64 a0_0) := (blk_cell BK114.out 0).trans rfl; have hcz4_1 : w3.cell? ⟨gb114, 1, none⟩ = some (.int .i32 a0_1) := (blk_cell BK114.out 1).trans rfl; have hcz4_2 : w3.cell? ⟨gb114, 2, none⟩ = some (.string a0_2) := (blk_cell BK114.out 2).trans rfl; have hfz4_0 := blk_frozen BK114.out 0; have hfz4_1 := blk_frozen BK114.out 1; have hfz4_2 := blk_frozen BK114.out 2))
    go_ret
    exact ⟨by first | rfl | (simp [errW_none, errW_some] <;> rfl) | (simp [*, errW_none, errW_some] <;> rfl) | (exfalso; contradiction), by repeat (first | (with_reducible first | exact HB.out | apply below_alloc | apply pw_below_drewN | apply below_drew1 | refine below_set ?_ GE114.out) | exact HB.out)⟩
  · rw [if_neg c2] at H
    have c2b0 : decide (2147483647 < (a0_2.size : Int)) = false := decide_eq_false c2
    have c2b1 : decide (2147483647 < a0_2.size) = false := decide_eq_false (by omega)
    clear c2
    obtain rfl := Option.some.inj H
    go_enter Tryd.func18, Tryd.ntmps18
    go_wp2_with (first | ((with_reducible refine gate_dst (N := 1) rfl ?_); refine box_event ?hg (N := 1) ?hd (cs := #[.int .i64 a0_0, .int .i32 a0_1, .string a0_2]) (t := 24) ?hr ?_; (case hd => rfl); (case hg => rfl); (case hr => first | (go_simp; done) | (go_simp; rfl)); intro gb114 hg w5 hbox hb; have n0_ := Aside0.mk (below_step (by repeat (first | (with_reducible first | exact HB.out | apply below_alloc | apply pw_below_drewN | apply below_drew1) | exact HB.out)) hb); have n1_ := Aside0.mk (hbox); have n2_ := Aside0.mk ((by rw [hg]; exact (below_size (by repeat (first | (with_reducible first | exact HB.out | apply below_alloc | apply pw_below_drewN | apply below_drew1) | exact HB.out))) : w.heap.size ≤ gb114)); have n3_ := Aside0.mk ((by rw [hg]; exact (below_size (by repeat (first | (with_reducible first | exact HB.out | apply below_alloc | apply pw_below_drewN | apply below_drew1) | exact HB.out))) : w.heap.size ≤ gb114)); clear HB; have HB := n0_; have BK114 := n1_; have GW114 := n2_; have GE114 := n3_; clear n0_ n1_ n2_ n3_; clear hb hbox hg; have hcz6_0 : w5.cell? ⟨gb114, 0, none⟩ = some (.int .i64 a0_0) := (blk_cell BK114.out 0).trans rfl; have hcz6_1 : w5.cell? ⟨gb114, 1, none⟩ = some (.int .i32 a0_1) := (blk_cell BK114.out 1).trans rfl; have hcz6_2 : w5.cell? ⟨gb114, 2, none⟩ = some (.string a0_2) := (blk_cell BK114.out 2).trans rfl; have hfz6_0 := blk_frozen BK114.out 0; have hfz6_1 := blk_frozen BK114.out 1; have hfz6_2 := blk_frozen BK114.out 2))
    go_ret
    exact ⟨by first | rfl | (simp [errW_none, errW_some] <;> rfl) | (simp [*, errW_none, errW_some] <;> rfl) | (exfalso; contradiction), by repeat (first | (with_reducible first | exact HB.out | apply below_alloc | apply pw_below_drewN | apply below_drew1 | refine below_set ?_ GE114.out) | exact HB.out)⟩

end Go.Proofs.YtihlmkgffifknaaDoor.PFnIntStrScaled
