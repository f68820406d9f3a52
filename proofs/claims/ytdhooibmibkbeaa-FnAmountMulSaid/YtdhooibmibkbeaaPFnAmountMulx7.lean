/- Functions of the program as plain Lean functions, and that the machine's calls do what these say: written for this claim by wip/myprint.py over the kit's print.py. -/
import Derived.Test.YtdhooibmibkbeaaPFnAmountMulx0
import Derived.Test.YtdhooibmibkbeaaPFnAmountMulx1
import Derived.Test.YtdhooibmibkbeaaPFnAmountMulx4
import Derived.Test.YtdhooibmibkbeaaPFnAmountMulx6
namespace Go.Proofs.Ytdhooibmibkbeaa.PFnAmountMul
open Go.RowKit Go.Proofs.YtdhooibmibkbeaaW.PrintWords Go.Proofs.YtdhooibmibkbeaaW.PrintLast Go.Proofs.YtdhooibmibkbeaaW.PrintMore
attribute [local go_sem] max2_int min2_int max_two min_two max_three min_three max_four min_four   -- for this text's walks alone
set_option linter.unusedVariables false
set_option linter.unusedSimpArgs false

/-! ### resource_positiveScaleInt64: function 29 -/
def resource_positiveScaleInt64.l0 : Nat → Int → Int → Int → Option (Int × Bool)
 | 0, _, _, _ => none
 | k + 1, x1, x6, x8 => if x8 < x1 then ((resource_int64MultiplyScale.f k x6 10).bind fun bt212 => (if bt212.2 = true then (resource_positiveScaleInt64.l0 k x1 bt212.1 (wrap32 (x8 + 1))) else (some (0, false)))) else (some (x6, true))
def resource_positiveScaleInt64.f (k : Nat) (a0 : Int) (a1 : Int) : Option (Int × Bool) := if a1 = 0 then (some (a0, true)) else (if a1 = 1 then ((resource_int64MultiplyScale10.f k a0).bind fun bt202 => (some (bt202.1, bt202.2))) else (if a1 = 2 then ((resource_int64MultiplyScale100.f k a0).bind fun bt204 => (some (bt204.1, bt204.2))) else (if a1 = 3 then ((resource_int64MultiplyScale1000.f k a0).bind fun bt206 => (some (bt206.1, bt206.2))) else (if a1 = 6 then ((resource_int64MultiplyScale.f k a0 1000000).bind fun bt208 => (some (bt208.1, bt208.2))) else (if a1 = 9 then ((resource_int64MultiplyScale.f k a0 1000000000).bind fun bt210 => (some (bt210.1, bt210.2))) else (resource_positiveScaleInt64.l0 k a1 a0 0))))))
theorem resource_positiveScaleInt64.mono_l : ∀ k, (∀ y0 y1 y2, LeO (resource_positiveScaleInt64.l0 k y0 y1 y2) (resource_positiveScaleInt64.l0 (k + 1) y0 y1 y2))
 | 0 => fun _ _ _ r h => by simp [resource_positiveScaleInt64.l0] at h
 | k + 1 => by
  have ih0 := resource_positiveScaleInt64.mono_l k
  ·
   intro y0 y1 y2
   unfold resource_positiveScaleInt64.l0
   repeat' first
   | (with_reducible exact ih0 _ _ _)
   | (with_reducible exact resource_int64MultiplyScale.mono _ _ _)
   | (with_reducible exact resource_int64MultiplyScale10.mono _ _)
   | (with_reducible exact resource_int64MultiplyScale100.mono _ _)
   | (with_reducible exact resource_int64MultiplyScale1000.mono _ _)
   | (with_reducible exact LeO.refl _)
   | (with_reducible exact LeO.none _)
   | (with_reducible refine LeO.ite ?_ ?_)
   | (with_reducible refine LeO.bind ?_ (fun _ => ?_))
   | exact ih0 _ _ _
   | exact resource_int64MultiplyScale.mono _ _ _
   | exact resource_int64MultiplyScale10.mono _ _
   | exact resource_int64MultiplyScale100.mono _ _
   | exact resource_int64MultiplyScale1000.mono _ _
   | exact LeO.none _
   | refine LeO.ite ?_ ?_
   | refine LeO.bind ?_ (fun _ => ?_)
theorem resource_positiveScaleInt64.mono : ∀ a0 a1 k, LeO (resource_positiveScaleInt64.f k a0 a1) (resource_positiveScaleInt64.f (k + 1) a0 a1) := by
 intro a0 a1 k
 have ih0 := resource_positiveScaleInt64.mono_l k
 unfold resource_positiveScaleInt64.f
 repeat' first
   | (with_reducible exact ih0 _ _ _)
   | (with_reducible exact resource_int64MultiplyScale.mono _ _ _)
   | (with_reducible exact resource_int64MultiplyScale10.mono _ _)
   | (with_reducible exact resource_int64MultiplyScale100.mono _ _)
   | (with_reducible exact resource_int64MultiplyScale1000.mono _ _)
   | (with_reducible exact LeO.refl _)
   | (with_reducible exact LeO.none _)
   | (with_reducible refine LeO.ite ?_ ?_)
   | (with_reducible refine LeO.bind ?_ (fun _ => ?_))
   | exact ih0 _ _ _
   | exact resource_int64MultiplyScale.mono _ _ _
   | exact resource_int64MultiplyScale10.mono _ _
   | exact resource_int64MultiplyScale100.mono _ _
   | exact resource_int64MultiplyScale1000.mono _ _
   | exact LeO.none _
   | refine LeO.ite ?_ ?_
   | refine LeO.bind ?_ (fun _ => ?_)
set_option maxHeartbeats 8000000 in
set_option maxRecDepth 100000 in
theorem resource_positiveScaleInt64.calls (k : Nat) (a0 : Int) (a1 : Int) (r1 : Int) (r2 : Bool) (w : World) (h : resource_positiveScaleInt64.f k a0 a1 = some (r1, r2)) :
  Calls Try.prog 29 #[.int .i64 a0, .int .i32 a1] w fun e w' => e = .returned (.tuple #[.int .i64 r1, .bool r2]) ∧ Drawn0 w w' := by
 have H : (if a1 = 0 then (some (a0, true)) else (if a1 = 1 then ((resource_int64MultiplyScale10.f k a0).bind fun bt202 => (some (bt202.1, bt202.2))) else (if a1 = 2 then ((resource_int64MultiplyScale100.f k a0).bind fun bt204 => (some (bt204.1, bt204.2))) else (if a1 = 3 then ((resource_int64MultiplyScale1000.f k a0).bind fun bt206 => (some (bt206.1, bt206.2))) else (if a1 = 6 then ((resource_int64MultiplyScale.f k a0 1000000).bind fun bt208 => (some (bt208.1, bt208.2))) else (if a1 = 9 then ((resource_int64MultiplyScale.f k a0 1000000000).bind fun bt210 => (some (bt210.1, bt210.2))) else (resource_positiveScaleInt64.l0 k a1 a0 0))))))) = some (r1, r2) := h
 clear h
 by_cases c3 : a1 = 0
 ·
  rw [if_pos c3] at H
  have c3b0 : (a1 == 0) = true := beq_iff_eq.mpr c3
  have c3b1 : (a1 != 0) = false := bne_eq_false_iff_eq.mpr c3
  clear c3
  simp only [Option.some.injEq, Prod.mk.injEq] at H
  obtain ⟨rfl, rfl⟩ := H
  go_enter Try.func29, Try.ntmps29
  go_wp2
  go_ret2
  exact ⟨by first | rfl | (simp; done) | (simp [*]; done), by repeat (first | exact Drawn0.refl _ | apply Drawn0.step)⟩
 ·
  rw [if_neg c3] at H
  have c3b0 : (a1 == 0) = false := beq_eq_false_iff_ne.mpr c3
  have c3b1 : (a1 != 0) = true := bne_iff_ne.mpr c3
  by_cases c4 : a1 = 1
  ·
   rw [if_pos c4] at H
   have c4b0 : (a1 == 1) = true := beq_iff_eq.mpr c4
   have c4b1 : (a1 != 1) = false := bne_eq_false_iff_eq.mpr c4
   clear c4
   replace H := Option.bind_eq_some_iff.mp H
   obtain ⟨⟨t202, t203⟩, A50, H⟩ := H
   replace H : (some (t202, t203)) = some (r1, r2) := H
   have A5 := aM_ A50
   clear A50
   simp only [Option.some.injEq, Prod.mk.injEq] at H
   obtain ⟨rfl, rfl⟩ := H
   go_enter Try.func29, Try.ntmps29
   go_wp2_with (first | ((with_reducible refine gate_callee (f := 33) rfl ?_); refine goesL_ (some 30) rfl rfl Try.func33 (by kernel_rfl) rfl #[.int .i64 a0] rfl (by (try simp only [List.map_toArray, List.map_cons, List.map_nil]); first | done | rfl | (simp only [List.length_drop, List.length_take]; rfl)) ?_; (with_reducible refine (resource_int64MultiplyScale10.calls k a0 t202 t203 _ A5.out).mono ?_); rintro e w' ⟨rfl, ⟨nd, rfl⟩⟩; refine ⟨_, rfl, ?_⟩))
   go_ret2
   exact ⟨by first | rfl | (simp; done) | (simp [*]; done), by repeat (first | exact Drawn0.refl _ | apply Drawn0.step)⟩
  ·
   rw [if_neg c4] at H
   have c4b0 : (a1 == 1) = false := beq_eq_false_iff_ne.mpr c4
   have c4b1 : (a1 != 1) = true := bne_iff_ne.mpr c4
   by_cases c6 : a1 = 2
   ·
    rw [if_pos c6] at H
    have c6b0 : (a1 == 2) = true := beq_iff_eq.mpr c6
    have c6b1 : (a1 != 2) = false := bne_eq_false_iff_eq.mpr c6
    clear c6
    replace H := Option.bind_eq_some_iff.mp H
    obtain ⟨⟨t204, t205⟩, A70, H⟩ := H
    replace H : (some (t204, t205)) = some (r1, r2) := H
    have A7 := aM_ A70
    clear A70
    simp only [Option.some.injEq, Prod.mk.injEq] at H
    obtain ⟨rfl, rfl⟩ := H
    go_enter Try.func29, Try.ntmps29
    go_wp2_with (first | ((with_reducible refine gate_callee (f := 34) rfl ?_); refine goesL_ (some 36) rfl rfl Try.func34 (by kernel_rfl) rfl #[.int .i64 a0] rfl (by (try simp only [List.map_toArray, List.map_cons, List.map_nil]); first | done | rfl | (simp only [List.length_drop, List.length_take]; rfl)) ?_; (with_reducible refine (resource_int64MultiplyScale100.calls k a0 t204 t205 _ A7.out).mono ?_); rintro e w' ⟨rfl, ⟨nd, rfl⟩⟩; refine ⟨_, rfl, ?_⟩))
    go_ret2
    exact ⟨by first | rfl | (simp; done) | (simp [*]; done), by repeat (first | exact Drawn0.refl _ | apply Drawn0.step)⟩
   ·
    rw [if_neg c6] at H
    have c6b0 : (a1 == 2) = false := beq_eq_false_iff_ne.mpr c6
    have c6b1 : (a1 != 2) = true := bne_iff_ne.mpr c6
    by_cases c8 : a1 = 3
    ·
     rw [if_pos c8] at H
     have c8b0 : (a1 == 3) = true := beq_iff_eq.mpr c8
     have c8b1 : (a1 != 3) = false := bne_eq_false_iff_eq.mpr c8
     clear c8
     replace H := Option.bind_eq_some_iff.mp H
     obtain ⟨⟨t206, t207⟩, A90, H⟩ := H
     replace H : (some (t206, t207)) = some (r1, r2) := H
     have A9 := aM_ A90
     clear A90
     simp only [Option.some.injEq, Prod.mk.injEq] at H
     obtain ⟨rfl, rfl⟩ := H
     go_enter Try.func29, Try.ntmps29
     go_wp2_with (first | ((with_reducible refine gate_callee (f := 35) rfl ?_); refine goesL_ (some 42) rfl rfl Try.func35 (by kernel_rfl) rfl #[.int .i64 a0] rfl (by (try simp only [List.map_toArray, List.map_cons, List.map_nil]); first | done | rfl | (simp only [List.length_drop, List.length_take]; rfl)) ?_; (with_reducible refine (resource_int64MultiplyScale1000.calls k a0 t206 t207 _ A9.out).mono ?_); rintro e w' ⟨rfl, ⟨nd, rfl⟩⟩; refine ⟨_, rfl, ?_⟩))
     go_ret2
     exact ⟨by first | rfl | (simp; done) | (simp [*]; done), by repeat (first | exact Drawn0.refl _ | apply Drawn0.step)⟩
    ·
     rw [if_neg c8] at H
     have c8b0 : (a1 == 3) = false := beq_eq_false_iff_ne.mpr c8
     have c8b1 : (a1 != 3) = true := bne_iff_ne.mpr c8
     by_cases c10 : a1 = 6
     ·
      rw [if_pos c10] at H
      have c10b0 : (a1 == 6) = true := beq_iff_eq.mpr c10
      have c10b1 : (a1 != 6) = false := bne_eq_false_iff_eq.mpr c10
      clear c10
      replace H := Option.bind_eq_some_iff.mp H
      obtain ⟨⟨t208, t209⟩, A110, H⟩ := H
      replace H : (some (t208, t209)) = some (r1, r2) := H
      have A11 := aM_ A110
      clear A110
      simp only [Option.some.injEq, Prod.mk.injEq] at H
      obtain ⟨rfl, rfl⟩ := H
      go_enter Try.func29, Try.ntmps29
      go_wp2_with (first | ((with_reducible refine gate_callee (f := 36) rfl ?_); refine goesL_ (some 48) rfl rfl Try.func36 (by kernel_rfl) rfl #[.int .i64 a0, .int .i64 1000000] rfl (by (try simp only [List.map_toArray, List.map_cons, List.map_nil]); first | done | rfl | (simp only [List.length_drop, List.length_take]; rfl)) ?_; (with_reducible refine (resource_int64MultiplyScale.calls k a0 1000000 t208 t209 _ A11.out).mono ?_); rintro e w' ⟨rfl, ⟨nd, rfl⟩⟩; refine ⟨_, rfl, ?_⟩))
      go_ret2
      exact ⟨by first | rfl | (simp; done) | (simp [*]; done), by repeat (first | exact Drawn0.refl _ | apply Drawn0.step)⟩
     ·
      rw [if_neg c10] at H
      have c10b0 : (a1 == 6) = false := beq_eq_false_iff_ne.mpr c10
      have c10b1 : (a1 != 6) = true := bne_iff_ne.mpr c10
      by_cases c12 : a1 = 9
      ·
       rw [if_pos c12] at H
       have c12b0 : (a1 == 9) = true := beq_iff_eq.mpr c12
       have c12b1 : (a1 != 9) = false := bne_eq_false_iff_eq.mpr c12
       clear c12
       replace H := Option.bind_eq_some_iff.mp H
       obtain ⟨⟨t210, t211⟩, A130, H⟩ := H
       replace H : (some (t210, t211)) = some (r1, r2) := H
       have A13 := aM_ A130
       clear A130
       simp only [Option.some.injEq, Prod.mk.injEq] at H
       obtain ⟨rfl, rfl⟩ := H
       go_enter Try.func29, Try.ntmps29
       go_wp2_with (first | ((with_reducible refine gate_callee (f := 36) rfl ?_); refine goesL_ (some 54) rfl rfl Try.func36 (by kernel_rfl) rfl #[.int .i64 a0, .int .i64 1000000000] rfl (by (try simp only [List.map_toArray, List.map_cons, List.map_nil]); first | done | rfl | (simp only [List.length_drop, List.length_take]; rfl)) ?_; (with_reducible refine (resource_int64MultiplyScale.calls k a0 1000000000 t210 t211 _ A13.out).mono ?_); rintro e w' ⟨rfl, ⟨nd, rfl⟩⟩; refine ⟨_, rfl, ?_⟩))
       go_ret2
       exact ⟨by first | rfl | (simp; done) | (simp [*]; done), by repeat (first | exact Drawn0.refl _ | apply Drawn0.step)⟩
      ·
       rw [if_neg c12] at H
       have c12b0 : (a1 == 9) = false := beq_eq_false_iff_ne.mpr c12
       have c12b1 : (a1 != 9) = true := bne_iff_ne.mpr c12
       have H' := aM_ H
       clear H
       go_enter Try.func29, Try.ntmps29
       go_wp2
       go_loopg [6, 8] k (fun kq v6 v8 w' => ∃ (x6_1 : Int) (x8_1 : Int), v6 = .int .i64 x6_1 ∧ v8 = .int .i32 x8_1 ∧ Aside0 (resource_positiveScaleInt64.l0 kq a1 x6_1 x8_1 = some (r1, r2)) ∧ Aside0 (kq ≤ k) ∧ Drawn0 w w')
       case atStart => exact ⟨(a0), (0), (by first | rfl | (simp; done) | (simp [*]; done)), (by first | rfl | (simp; done) | (simp [*]; done)), H', ⟨Nat.le_refl _⟩, by repeat (first | exact Drawn0.refl _ | apply Drawn0.step)⟩
       case round =>
        clear H'
        try clear c1
        try clear c2
        try clear p2
        try clear c3
        try clear c3b0
        try clear c3b1
        try clear c4
        try clear c4b0
        try clear c4b1
        try clear c6
        try clear c6b0
        try clear c6b1
        try clear c8
        try clear c8b0
        try clear c8b1
        try clear c10
        try clear c10b0
        try clear c10b1
        try clear c12
        try clear c12b0
        try clear c12b1
        obtain ⟨x6_1, x8_1, rfl, rfl, HA, HK1, ⟨m1, rfl⟩⟩ := hrel
        cases gk with
        | zero => exact absurd HA.out (by simp [resource_positiveScaleInt64.l0])
        | succ k1 =>
         have H := HA.out
         clear HA
         simp only [resource_positiveScaleInt64.l0] at H
         by_cases c14 : x8_1 < a1
         ·
          rw [if_pos c14] at H
          have c14b0 : decide (x8_1 < a1) = true := decide_eq_true c14
          clear c14
          replace H := Option.bind_eq_some_iff.mp H
          obtain ⟨⟨t212, t213⟩, A150, H⟩ := H
          replace H : (if t213 = true then (resource_positiveScaleInt64.l0 k1 a1 t212 (wrap32 (x8_1 + 1))) else (some (0, false))) = some (r1, r2) := H
          have A15 := aM_ A150
          clear A150
          by_cases c16 : t213 = true
          ·
           subst c16
           have H1 : (resource_positiveScaleInt64.l0 k1 a1 t212 (wrap32 (x8_1 + 1))) = some (r1, r2) := by rw [if_pos rfl] at H; exact H
           clear H
           have H := H1
           clear H1
           have H' := aM_ H
           clear H
           go_wp2_with (first | ((with_reducible refine gate_callee (f := 36) rfl ?_); refine goesL_ (some 18) rfl rfl Try.func36 (by kernel_rfl) rfl #[.int .i64 x6_1, .int .i64 10] rfl (by (try simp only [List.map_toArray, List.map_cons, List.map_nil]); first | done | rfl | (simp only [List.length_drop, List.length_take]; rfl)) ?_; (with_reducible refine (resource_int64MultiplyScale.calls k1 x6_1 10 t212 true _ A15.out).mono ?_); rintro e w' ⟨rfl, ⟨nd, rfl⟩⟩; refine ⟨_, rfl, ?_⟩))
           go_roundg k1
           case measure => have := HK1.out; omega
           case rel => exact ⟨(t212), (wrap32 (x8_1 + 1)), (by first | rfl | (simp; done) | (simp [*]; done)), (by first | rfl | (simp; done) | (simp [*]; done)), H', ⟨by have := HK1.out; omega⟩, by repeat (first | exact Drawn0.refl _ | apply Drawn0.step)⟩
          ·
           replace c16 := Bool.eq_false_iff.mpr c16
           subst c16
           have H1 : (some (0, false)) = some (r1, r2) := by rw [if_neg (show ¬ (false = true) by decide)] at H; exact H
           clear H
           have H := H1
           clear H1
           simp only [Option.some.injEq, Prod.mk.injEq] at H
           obtain ⟨rfl, rfl⟩ := H
           go_wp2_with (first | ((with_reducible refine gate_callee (f := 36) rfl ?_); refine goesL_ (some 18) rfl rfl Try.func36 (by kernel_rfl) rfl #[.int .i64 x6_1, .int .i64 10] rfl (by (try simp only [List.map_toArray, List.map_cons, List.map_nil]); first | done | rfl | (simp only [List.length_drop, List.length_take]; rfl)) ?_; (with_reducible refine (resource_int64MultiplyScale.calls k1 x6_1 10 t212 false _ A15.out).mono ?_); rintro e w' ⟨rfl, ⟨nd, rfl⟩⟩; refine ⟨_, rfl, ?_⟩))
           go_ret2
           exact ⟨by first | rfl | (simp; done) | (simp [*]; done), by repeat (first | exact Drawn0.refl _ | apply Drawn0.step)⟩
         ·
          rw [if_neg c14] at H
          have c14b0 : decide (x8_1 < a1) = false := decide_eq_false c14
          clear c14
          simp only [Option.some.injEq, Prod.mk.injEq] at H
          obtain ⟨rfl, rfl⟩ := H
          go_wp2
          go_ret2
          exact ⟨by first | rfl | (simp; done) | (simp [*]; done), by repeat (first | exact Drawn0.refl _ | apply Drawn0.step)⟩

/-- A state of type 47 at block g of W; what its slices lead to came in by w0. -/
def IsS47 (w0 W : World) (g : Nat) (f0 : Int) (f1 : Int) : Prop := W.heap[g]? = some (.cells #[.int .i64 f0, .int .i32 f1] 47 (0, 0)) ∧ w0.heap.size ≤ g
theorem IsS47.grown {w0 W : World} {g : Nat} {f0 : Int} {f1 : Int} {W1 : World} {row : Option Nat} (h : IsS47 w0 W g f0 f1) (hw : W.grownBy W1 row) (hne : some g ≠ row) : IsS47 w0 W1 g f0 f1 := by
 obtain ⟨hb, hg⟩ := h
 exact ⟨blk_grown hb hw hne, hg⟩
theorem IsS47.own_neN {w0 W : World} {g : Nat} {f0 : Int} {f1 : Int} {α : Type} {d : Kd α} {e : Nat} {base : Nat} {ok : Nat → Prop} {v : Value} {xs : List α} (h : IsS47 w0 W g f0 f1) (ho : Kd.N d e W base ok v xs) (ht : e ≠ 47) : some g ≠ v.ownBlock := by
 obtain ⟨hb, hg⟩ := h
 exact Kd.N_ne ho hb ht
theorem IsS47.fresh {w0 W : World} {g : Nat} {f0 : Int} {f1 : Int} (h : IsS47 w0 W g f0 f1) : ∀ k, W.heap.size ≤ k → k ≠ g := by
 obtain ⟨hb, hg⟩ := h
 exact Kd.freshB hb
theorem IsS47.kept {w0 W : World} {g : Nat} {f0 : Int} {f1 : Int} {W1 : World} {S : Nat → Prop} (h : IsS47 w0 W g f0 f1) (hk : Kept W W1 S) (hne : ¬ S g) : IsS47 w0 W1 g f0 f1 := by
 obtain ⟨hb, hg⟩ := h
 exact ⟨blk_kept hb hk hne, hg⟩
theorem IsS47.below {w0 W : World} {g : Nat} {f0 : Int} {f1 : Int} {W1 : World} (h : IsS47 w0 W g f0 f1) (hw : Below W.heap.size W W1) : IsS47 w0 W1 g f0 f1 := h.grown (grown_of_below hw none) (by simp)
theorem IsS47.alloc {w0 W : World} {g : Nat} {f0 : Int} {f1 : Int} (h : IsS47 w0 W g f0 f1) (o : Obj) : IsS47 w0 (W.alloc o) g f0 f1 := h.below (bB_ (Below.refl _ _) o)
theorem IsS47.drewN {w0 W : World} {g : Nat} {f0 : Int} {f1 : Int} (h : IsS47 w0 W g f0 f1) (m : Nat) : IsS47 w0 (W.drewN m) g f0 f1 := h
theorem IsS47.drew {w0 W : World} {g : Nat} {f0 : Int} {f1 : Int} (h : IsS47 w0 W g f0 f1) : IsS47 w0 W.drew g f0 f1 := h
theorem IsS47.at_ {w0 W : World} {g : Nat} {f0 : Int} {f1 : Int} {w' : World} {m : Nat} (hq : W.drewN m = w') (h : IsS47 w0 W g f0 f1) : IsS47 w0 w' g f0 f1 := by subst hq; exact IsS47.drewN h m
theorem IsS47.apart {w0 W : World} {g : Nat} {f0 : Int} {f1 : Int} {α : Type} {d : Kd α} {e : Nat} {base : Nat} {ok : Nat → Prop} {v : Value} {xs : List α} (h : IsS47 w0 W g f0 f1) (ho : d.R e W base ok v xs) (ht : ∀ q, q ∈ e :: d.E → q ≠ 47) : d.R e W base (fun k => ok k ∧ k ≠ g) v xs := by
 obtain ⟨hb, hg⟩ := h
 exact Kd.R_types ho hb ht
theorem IsS47.own_ne {w0 W : World} {g : Nat} {f0 : Int} {f1 : Int} {α : Type} {d : Kd α} {e : Nat} {base : Nat} {ok : Nat → Prop} {v : Value} {xs : List α} (h : IsS47 w0 W g f0 f1) (ho : d.R e W base ok v xs) (ht : e ≠ 47) : some g ≠ v.ownBlock := by
 obtain ⟨hb, hg⟩ := h
 exact Kd.R_ne ho hb ht
theorem IsS47.apartQ {w0 W : World} {g : Nat} {f0 : Int} {f1 : Int} {α : Type} {d : Kd α} {e : Nat} {base : Nat} {ok : Nat → Prop} {v : Value} {xs : List α} (h : IsS47 w0 W g f0 f1) (ho : d.Q e W base ok v xs) (ht : ∀ q, q ∈ e :: d.E → q ≠ 47) : d.Q e W base (fun k => ok k ∧ k ≠ g) v xs := by
 obtain ⟨hb, hg⟩ := h
 exact Kd.Q_types ho hb ht
theorem IsS47.own_neQ {w0 W : World} {g : Nat} {f0 : Int} {f1 : Int} {α : Type} {d : Kd α} {e : Nat} {base : Nat} {ok : Nat → Prop} {v : Value} {xs : List α} (h : IsS47 w0 W g f0 f1) (ho : d.Q e W base ok v xs) (ht : e ≠ 47) : some g ≠ v.ownBlock := by
 obtain ⟨hb, hg⟩ := h
 exact Kd.Q_ne ho hb ht
theorem IsS47.apartS {w0 W : World} {g : Nat} {f0 : Int} {f1 : Int} {α : Type} {d : Kd α} {e : Nat} {base : Nat} {ok : Nat → Prop} {v : Value} {xs : List α} (h : IsS47 w0 W g f0 f1) (ho : d.S e W base ok v xs) (ht : ∀ q, q ∈ e :: d.E → q ≠ 47) : d.S e W base (fun k => ok k ∧ k ≠ g) v xs := by
 obtain ⟨hb, hg⟩ := h
 exact Kd.S_types ho hb ht
theorem IsS47.own_neS {w0 W : World} {g : Nat} {f0 : Int} {f1 : Int} {α : Type} {d : Kd α} {e : Nat} {base : Nat} {ok : Nat → Prop} {v : Value} {xs : List α} (h : IsS47 w0 W g f0 f1) (ho : d.S e W base ok v xs) (ht : e ≠ 47) : some g ≠ v.ownBlock := by
 obtain ⟨hb, hg⟩ := h
 exact Kd.S_ne ho hb ht
theorem IsS47.lt {w0 W : World} {g : Nat} {f0 : Int} {f1 : Int} (h : IsS47 w0 W g f0 f1) : g < W.heap.size := by
 obtain ⟨hb, hg⟩ := h
 exact blk_lt hb
theorem IsS47.ge {w0 W : World} {g : Nat} {f0 : Int} {f1 : Int} (h : IsS47 w0 W g f0 f1) : w0.heap.size ≤ g := by
 obtain ⟨hb, hg⟩ := h
 exact hg
theorem IsS47.ne_blk {w0 W : World} {g : Nat} {f0 : Int} {f1 : Int} {a : Nat} {cs : Array Value} {t : TypeId} {fr : Nat × Nat} (h : IsS47 w0 W g f0 f1) (hb2 : W.heap[a]? = some (.cells cs t fr)) (ht : t ≠ 47) : g ≠ a := by
 obtain ⟨hb, hg⟩ := h
 rintro rfl
 rw [hb] at hb2
 injection hb2 with hb2
 injection hb2 with _ ht2
 exact ht ht2.symm
theorem IsS47.far {w0 W : World} {g : Nat} {f0 : Int} {f1 : Int} {p : Addr} (h : IsS47 w0 W g f0 f1) (hne : g ≠ p.block) (u : Value) : IsS47 w0 (W.setCell p u) g f0 f1 := by
 obtain ⟨hb, hg⟩ := h
 exact ⟨blk_far hb hne u, hg⟩
theorem cellS47_0 {W : World} {g : Nat} {f0 : Int} {f1 : Int} (h : W.heap[g]? = some (.cells #[.int .i64 f0, .int .i32 f1] 47 (0, 0))) : W.cell? ⟨g, 0, none⟩ = some (.int .i64 f0) := (bC_ h 0).trans rfl
theorem IsS47.set_0 {w0 W : World} {g : Nat} {f0 : Int} {f1 : Int} (h : IsS47 w0 W g f0 f1) (x : Int) : IsS47 w0 (W.setCell ⟨g, 0, none⟩ (.int .i64 x)) g x f1 := by
 obtain ⟨hb, hg⟩ := h
 exact ⟨by simpa using blk_set hb 0 (.int .i64 x), hg⟩
theorem cellS47_1 {W : World} {g : Nat} {f0 : Int} {f1 : Int} (h : W.heap[g]? = some (.cells #[.int .i64 f0, .int .i32 f1] 47 (0, 0))) : W.cell? ⟨g, 1, none⟩ = some (.int .i32 f1) := (bC_ h 1).trans rfl
theorem IsS47.set_1 {w0 W : World} {g : Nat} {f0 : Int} {f1 : Int} (h : IsS47 w0 W g f0 f1) (x : Int) : IsS47 w0 (W.setCell ⟨g, 1, none⟩ (.int .i32 x)) g f0 x := by
 obtain ⟨hb, hg⟩ := h
 exact ⟨by simpa using blk_set hb 1 (.int .i32 x), hg⟩
theorem IsS47.new (w0 W : World) (f0 : Int) (f1 : Int) (hB : Below w0.heap.size w0 W) : IsS47 w0 (W.alloc (.cells #[.int .i64 f0, .int .i32 f1] 47)) W.heap.size f0 f1 := ⟨by simpa using heap_alloc_new W _, hB.size⟩

/-! ### resource_int64Amount_Add: function 19 -/
def resource_int64Amount_Add.f (k : Nat) (s0_0 : Int) (s0_1 : Int) (a1_0 : Int) (a1_1 : Int) : Option (Bool × Int × Int) := if a1_0 = 0 then (some (true, s0_0, s0_1)) else (if s0_0 = 0 then (some (true, a1_0, a1_1)) else (if s0_1 = a1_1 then ((resource_int64Add.f k s0_0 a1_0).bind fun bt215 => (if bt215.2 = true then (some (true, bt215.1, s0_1)) else (some (false, s0_0, s0_1)))) else (if s0_1 > a1_1 then ((resource_positiveScaleInt64.f k s0_0 (wrap32 (s0_1 - a1_1))).bind fun bt217 => (if bt217.2 = true then ((resource_int64Add.f k bt217.1 a1_0).bind fun bt219 => (if bt219.2 = true then (some (true, bt219.1, a1_1)) else (some (false, s0_0, s0_1)))) else (some (false, s0_0, s0_1)))) else ((resource_positiveScaleInt64.f k a1_0 (wrap32 (a1_1 - s0_1))).bind fun bt221 => (if bt221.2 = true then ((resource_int64Add.f k s0_0 bt221.1).bind fun bt223 => (if bt223.2 = true then (some (true, bt223.1, s0_1)) else (some (false, s0_0, s0_1)))) else (some (false, s0_0, s0_1)))))))
theorem resource_int64Amount_Add.mono : ∀ a0 a1 a2 a3 k, LeO (resource_int64Amount_Add.f k a0 a1 a2 a3) (resource_int64Amount_Add.f (k + 1) a0 a1 a2 a3) := by
 intro a0 a1 a2 a3 k
 unfold resource_int64Amount_Add.f
 repeat' first
   | (with_reducible exact resource_int64Add.mono _ _ _)
   | (with_reducible exact resource_positiveScaleInt64.mono _ _ _)
   | (with_reducible exact LeO.refl _)
   | (with_reducible exact LeO.none _)
   | (with_reducible refine LeO.ite ?_ ?_)
   | (with_reducible refine LeO.bind ?_ (fun _ => ?_))
   | exact resource_int64Add.mono _ _ _
   | exact resource_positiveScaleInt64.mono _ _ _
   | exact LeO.none _
   | refine LeO.ite ?_ ?_
   | refine LeO.bind ?_ (fun _ => ?_)
set_option maxHeartbeats 8000000 in
set_option maxRecDepth 100000 in
theorem resource_int64Amount_Add.calls (k : Nat) (g : Nat) (s0_0 : Int) (s0_1 : Int) (a1_0 : Int) (a1_1 : Int) (r1 : Bool) (r2 : Int) (r3 : Int) (w0 w : World) (hI : IsS47 w0 w g s0_0 s0_1) (hB : Below w0.heap.size w0 w) (h : resource_int64Amount_Add.f k s0_0 s0_1 a1_0 a1_1 = some (r1, r2, r3)) :
  Calls Try.prog 19 #[.pointer (some ⟨g, 0, none⟩), .agg #[.int .i64 a1_0, .int .i32 a1_1]] w fun e w' => e = .returned (.bool r1) ∧ IsS47 w0 w' g r2 r3 ∧ Below w0.heap.size w0 w' ∧ KeepBut w w' g none := by
 have hu47 := Try.underlying47
 have HI0 := aM_ hI
 have HK := aM_ (KeepBut.refl w g none)
 have HL := aM_ hB.size
 clear hI
 have HW0 := aM_ hB.size
 have HB := aM_ hB
 clear hB
 have H : (if a1_0 = 0 then (some (true, s0_0, s0_1)) else (if s0_0 = 0 then (some (true, a1_0, a1_1)) else (if s0_1 = a1_1 then ((resource_int64Add.f k s0_0 a1_0).bind fun bt215 => (if bt215.2 = true then (some (true, bt215.1, s0_1)) else (some (false, s0_0, s0_1)))) else (if s0_1 > a1_1 then ((resource_positiveScaleInt64.f k s0_0 (wrap32 (s0_1 - a1_1))).bind fun bt217 => (if bt217.2 = true then ((resource_int64Add.f k bt217.1 a1_0).bind fun bt219 => (if bt219.2 = true then (some (true, bt219.1, a1_1)) else (some (false, s0_0, s0_1)))) else (some (false, s0_0, s0_1)))) else ((resource_positiveScaleInt64.f k a1_0 (wrap32 (a1_1 - s0_1))).bind fun bt221 => (if bt221.2 = true then ((resource_int64Add.f k s0_0 bt221.1).bind fun bt223 => (if bt223.2 = true then (some (true, bt223.1, s0_1)) else (some (false, s0_0, s0_1)))) else (some (false, s0_0, s0_1)))))))) = some (r1, r2, r3) := h
 clear h
 by_cases c3 : a1_0 = 0
 ·
  rw [if_pos c3] at H
  have c3b0 : (a1_0 == 0) = true := beq_iff_eq.mpr c3
  have c3b1 : (a1_0 != 0) = false := bne_eq_false_iff_eq.mpr c3
  clear c3
  simp only [Option.some.injEq, Prod.mk.injEq] at H
  obtain ⟨rfl, rfl, rfl⟩ := H
  go_enter Try.func19, Try.ntmps19
  go_wp2_with (first | ((with_reducible refine gate_dst (N := 3) rfl ?_); refine box_event ?hg (N := 3) ?hd (cs := #[.int .i64 a1_0, .int .i32 a1_1]) (t := 47) ?hr ?_; (case hd => rfl); (case hg => rfl); (case hr => first | (go_simp; done) | (go_simp; rfl)); intro gb214 hg w4 hbox hb; have n0_ := aM_ (IsS47.below (by repeat (first | (with_reducible first | exact HI0.out | apply IsS47.alloc | apply IsS47.drewN | apply IsS47.drew | apply IsS47.set_0 | apply IsS47.set_1) | exact HI0.out)) hb); have n1_ := aM_ (KeepBut.trans (by repeat (first | (with_reducible first | exact HK.out | apply KeepBut.set_ | apply keep_drewN | apply keep_drew | apply keep_alloc) | exact HK.out)) (KeepBut.of_below hb g none) (.inl rfl)); have n2_ := aM_ (below_step (by repeat (first | (with_reducible first | exact HB.out | apply bB_ | apply wN_ | apply bE_ | refine bS_ ?_ (IsS47.ge HI0.out)) | exact HB.out)) hb); have n3_ := aM_ (hbox); have n4_ := aM_ ((by rw [hg]; exact (keep_size (w := w) (g := g) (row := none) (by repeat (first | (with_reducible first | exact HK.out | apply KeepBut.set_ | apply keep_drewN | apply keep_drew | apply keep_alloc) | exact HK.out))) : w.heap.size ≤ gb214)); have n5_ := aM_ ((Nat.le_trans HW0.out (by rw [hg]; exact (keep_size (w := w) (g := g) (row := none) (by repeat (first | (with_reducible first | exact HK.out | apply KeepBut.set_ | apply keep_drewN | apply keep_drew | apply keep_alloc) | exact HK.out))) : w.heap.size ≤ gb214) : w0.heap.size ≤ gb214)); have n6_ := aM_ ((by rw [hg]; exact Nat.ne_of_lt (IsS47.lt (show IsS47 w0 _ g s0_0 s0_1 from by repeat (first | (with_reducible first | exact HI0.out | apply IsS47.alloc | apply IsS47.drewN | apply IsS47.drew | apply IsS47.set_0 | apply IsS47.set_1) | exact HI0.out))) : g ≠ gb214)); have n7_ := aM_ ((by rw [hg]; exact Nat.ne_of_gt (IsS47.lt (show IsS47 w0 _ g s0_0 s0_1 from by repeat (first | (with_reducible first | exact HI0.out | apply IsS47.alloc | apply IsS47.drewN | apply IsS47.drew | apply IsS47.set_0 | apply IsS47.set_1) | exact HI0.out))) : gb214 ≠ g)); clear HI0; clear HK; clear HB; have HI0 := n0_; have HK := n1_; have HB := n2_; have BK214 := n3_; have GW214 := n4_; have GE214 := n5_; have NB0_214 := n6_; have NB214_0 := n7_; clear n0_ n1_ n2_ n3_ n4_ n5_ n6_ n7_; clear hb hbox hg; have hnb5 := NB214_0.out; have hnc5 := NB0_214.out; have hcz6_0 : w4.cell? ⟨gb214, 0, none⟩ = some (.int .i64 a1_0) := (bC_ BK214.out 0).trans rfl; have hcz6_1 : w4.cell? ⟨gb214, 1, none⟩ = some (.int .i32 a1_1) := (bC_ BK214.out 1).trans rfl; have hfz6_0 := bF_ BK214.out 0; have hfz6_1 := bF_ BK214.out 1))
  repeat (go_quiet (first | ((with_reducible refine gate_dst (N := 3) rfl ?_); refine box_event ?hg (N := 3) ?hd (cs := #[.int .i64 a1_0, .int .i32 a1_1]) (t := 47) ?hr ?_; (case hd => rfl); (case hg => rfl); (case hr => first | (go_simp; done) | (go_simp; rfl)); intro gb214 hg w4 hbox hb; have n0_ := aM_ (IsS47.below (by repeat (first | (with_reducible first | exact HI0.out | apply IsS47.alloc | apply IsS47.drewN | apply IsS47.drew | apply IsS47.set_0 | apply IsS47.set_1) | exact HI0.out)) hb); have n1_ := aM_ (KeepBut.trans (by repeat (first | (with_reducible first | exact HK.out | apply KeepBut.set_ | apply keep_drewN | apply keep_drew | apply keep_alloc) | exact HK.out)) (KeepBut.of_below hb g none) (.inl rfl)); have n2_ := aM_ (below_step (by repeat (first | (with_reducible first | exact HB.out | apply bB_ | apply wN_ | apply bE_ | refine bS_ ?_ (IsS47.ge HI0.out)) | exact HB.out)) hb); have n3_ := aM_ (hbox); have n4_ := aM_ ((by rw [hg]; exact (keep_size (w := w) (g := g) (row := none) (by repeat (first | (with_reducible first | exact HK.out | apply KeepBut.set_ | apply keep_drewN | apply keep_drew | apply keep_alloc) | exact HK.out))) : w.heap.size ≤ gb214)); have n5_ := aM_ ((Nat.le_trans HW0.out (by rw [hg]; exact (keep_size (w := w) (g := g) (row := none) (by repeat (first | (with_reducible first | exact HK.out | apply KeepBut.set_ | apply keep_drewN | apply keep_drew | apply keep_alloc) | exact HK.out))) : w.heap.size ≤ gb214) : w0.heap.size ≤ gb214)); have n6_ := aM_ ((by rw [hg]; exact Nat.ne_of_lt (IsS47.lt (show IsS47 w0 _ g s0_0 s0_1 from by repeat (first | (with_reducible first | exact HI0.out | apply IsS47.alloc | apply IsS47.drewN | apply IsS47.drew | apply IsS47.set_0 | apply IsS47.set_1) | exact HI0.out))) : g ≠ gb214)); have n7_ := aM_ ((by rw [hg]; exact Nat.ne_of_gt (IsS47.lt (show IsS47 w0 _ g s0_0 s0_1 from by repeat (first | (with_reducible first | exact HI0.out | apply IsS47.alloc | apply IsS47.drewN | apply IsS47.drew | apply IsS47.set_0 | apply IsS47.set_1) | exact HI0.out))) : gb214 ≠ g)); clear HI0; clear HK; clear HB; have HI0 := n0_; have HK := n1_; have HB := n2_; have BK214 := n3_; have GW214 := n4_; have GE214 := n5_; have NB0_214 := n6_; have NB214_0 := n7_; clear n0_ n1_ n2_ n3_ n4_ n5_ n6_ n7_; clear hb hbox hg; have hnb5 := NB214_0.out; have hnc5 := NB0_214.out; have hcz6_0 : w4.cell? ⟨gb214, 0, none⟩ = some (.int .i64 a1_0) := (bC_ BK214.out 0).trans rfl; have hcz6_1 : w4.cell? ⟨gb214, 1, none⟩ = some (.int .i32 a1_1) := (bC_ BK214.out 1).trans rfl; have hfz6_0 := bF_ BK214.out 0; have hfz6_1 := bF_ BK214.out 1)); try go_wp2_with (first | ((with_reducible refine gate_dst (N := 3) rfl ?_); refine box_event ?hg (N := 3) ?hd (cs := #[.int .i64 a1_0, .int .i32 a1_1]) (t := 47) ?hr ?_; (case hd => rfl); (case hg => rfl); (case hr => first | (go_simp; done) | (go_simp; rfl)); intro gb214 hg w4 hbox hb; have n0_ := aM_ (IsS47.below (by repeat (first | (with_reducible first | exact HI0.out | apply IsS47.alloc | apply IsS47.drewN | apply IsS47.drew | apply IsS47.set_0 | apply IsS47.set_1) | exact HI0.out)) hb); have n1_ := aM_ (KeepBut.trans (by repeat (first | (with_reducible first | exact HK.out | apply KeepBut.set_ | apply keep_drewN | apply keep_drew | apply keep_alloc) | exact HK.out)) (KeepBut.of_below hb g none) (.inl rfl)); have n2_ := aM_ (below_step (by repeat (first | (with_reducible first | exact HB.out | apply bB_ | apply wN_ | apply bE_ | refine bS_ ?_ (IsS47.ge HI0.out)) | exact HB.out)) hb); have n3_ := aM_ (hbox); have n4_ := aM_ ((by rw [hg]; exact (keep_size (w := w) (g := g) (row := none) (by repeat (first | (with_reducible first | exact HK.out | apply KeepBut.set_ | apply keep_drewN | apply keep_drew | apply keep_alloc) | exact HK.out))) : w.heap.size ≤ gb214)); have n5_ := aM_ ((Nat.le_trans HW0.out (by rw [hg]; exact (keep_size (w := w) (g := g) (row := none) (by repeat (first | (with_reducible first | exact HK.out | apply KeepBut.set_ | apply keep_drewN | apply keep_drew | apply keep_alloc) | exact HK.out))) : w.heap.size ≤ gb214) : w0.heap.size ≤ gb214)); have n6_ := aM_ ((by rw [hg]; exact Nat.ne_of_lt (IsS47.lt (show IsS47 w0 _ g s0_0 s0_1 from by repeat (first | (with_reducible first | exact HI0.out | apply IsS47.alloc | apply IsS47.drewN | apply IsS47.drew | apply IsS47.set_0 | apply IsS47.set_1) | exact HI0.out))) : g ≠ gb214)); have n7_ := aM_ ((by rw [hg]; exact Nat.ne_of_gt (IsS47.lt (show IsS47 w0 _ g s0_0 s0_1 from by repeat (first | (with_reducible first | exact HI0.out | apply IsS47.alloc | apply IsS47.drewN | apply IsS47.drew | apply IsS47.set_0 | apply IsS47.set_1) | exact HI0.out))) : gb214 ≠ g)); clear HI0; clear HK; clear HB; have HI0 := n0_; have HK := n1_; have HB := n2_; have BK214 := n3_; have GW214 := n4_; have GE214 := n5_; have NB0_214 := n6_; have NB214_0 := n7_; clear n0_ n1_ n2_ n3_ n4_ n5_ n6_ n7_; clear hb hbox hg; have hnb5 := NB214_0.out; have hnc5 := NB0_214.out; have hcz6_0 : w4.cell? ⟨gb214, 0, none⟩ = some (.int .i64 a1_0) := (bC_ BK214.out 0).trans rfl; have hcz6_1 : w4.cell? ⟨gb214, 1, none⟩ = some (.int .i32 a1_1) := (bC_ BK214.out 1).trans rfl; have hfz6_0 := bF_ BK214.out 0; have hfz6_1 := bF_ BK214.out 1)))
  go_ret
  exact ⟨by first | rfl | (simp [errW_none, errW_some] <;> rfl) | (simp [*, errW_none, errW_some] <;> rfl) | (exfalso; contradiction), by repeat (first | (with_reducible first | exact HI0.out | apply IsS47.alloc | apply IsS47.drewN | apply IsS47.drew | apply IsS47.set_0 | apply IsS47.set_1 | refine IsS47.far ?_ NB0_214.out _) | exact HI0.out), by repeat (first | (with_reducible first | exact HB.out | apply bB_ | apply wN_ | apply bE_ | refine bS_ ?_ (IsS47.ge HI0.out) | refine bS_ ?_ GE214.out) | exact HB.out), by repeat (first | (with_reducible first | exact HK.out | apply KeepBut.set_ | apply keep_drewN | apply keep_drew | apply keep_alloc | refine keep_far ?_ GW214.out _) | exact HK.out)⟩
 ·
  rw [if_neg c3] at H
  have c3b0 : (a1_0 == 0) = false := beq_eq_false_iff_ne.mpr c3
  have c3b1 : (a1_0 != 0) = true := bne_iff_ne.mpr c3
  by_cases c7 : s0_0 = 0
  ·
   rw [if_pos c7] at H
   have c7b0 : (s0_0 == 0) = true := beq_iff_eq.mpr c7
   have c7b1 : (s0_0 != 0) = false := bne_eq_false_iff_eq.mpr c7
   clear c7
   simp only [Option.some.injEq, Prod.mk.injEq] at H
   obtain ⟨rfl, rfl, rfl⟩ := H
   go_enter Try.func19, Try.ntmps19
   go_wp2_with (first | ((with_reducible refine gate_dst (N := 3) rfl ?_); refine box_event ?hg (N := 3) ?hd (cs := #[.int .i64 a1_0, .int .i32 a1_1]) (t := 47) ?hr ?_; (case hd => rfl); (case hg => rfl); (case hr => first | (go_simp; done) | (go_simp; rfl)); intro gb214 hg w8 hbox hb; have n0_ := aM_ (IsS47.below (by repeat (first | (with_reducible first | exact HI0.out | apply IsS47.alloc | apply IsS47.drewN | apply IsS47.drew | apply IsS47.set_0 | apply IsS47.set_1) | exact HI0.out)) hb); have n1_ := aM_ (KeepBut.trans (by repeat (first | (with_reducible first | exact HK.out | apply KeepBut.set_ | apply keep_drewN | apply keep_drew | apply keep_alloc) | exact HK.out)) (KeepBut.of_below hb g none) (.inl rfl)); have n2_ := aM_ (below_step (by repeat (first | (with_reducible first | exact HB.out | apply bB_ | apply wN_ | apply bE_ | refine bS_ ?_ (IsS47.ge HI0.out)) | exact HB.out)) hb); have n3_ := aM_ (hbox); have n4_ := aM_ ((by rw [hg]; exact (keep_size (w := w) (g := g) (row := none) (by repeat (first | (with_reducible first | exact HK.out | apply KeepBut.set_ | apply keep_drewN | apply keep_drew | apply keep_alloc) | exact HK.out))) : w.heap.size ≤ gb214)); have n5_ := aM_ ((Nat.le_trans HW0.out (by rw [hg]; exact (keep_size (w := w) (g := g) (row := none) (by repeat (first | (with_reducible first | exact HK.out | apply KeepBut.set_ | apply keep_drewN | apply keep_drew | apply keep_alloc) | exact HK.out))) : w.heap.size ≤ gb214) : w0.heap.size ≤ gb214)); have n6_ := aM_ ((by rw [hg]; exact Nat.ne_of_lt (IsS47.lt (show IsS47 w0 _ g s0_0 s0_1 from by repeat (first | (with_reducible first | exact HI0.out | apply IsS47.alloc | apply IsS47.drewN | apply IsS47.drew | apply IsS47.set_0 | apply IsS47.set_1) | exact HI0.out))) : g ≠ gb214)); have n7_ := aM_ ((by rw [hg]; exact Nat.ne_of_gt (IsS47.lt (show IsS47 w0 _ g s0_0 s0_1 from by repeat (first | (with_reducible first | exact HI0.out | apply IsS47.alloc | apply IsS47.drewN | apply IsS47.drew | apply IsS47.set_0 | apply IsS47.set_1) | exact HI0.out))) : gb214 ≠ g)); clear HI0; clear HK; clear HB; have HI0 := n0_; have HK := n1_; have HB := n2_; have BK214 := n3_; have GW214 := n4_; have GE214 := n5_; have NB0_214 := n6_; have NB214_0 := n7_; clear n0_ n1_ n2_ n3_ n4_ n5_ n6_ n7_; clear hb hbox hg; have hnb9 := NB214_0.out; have hnc9 := NB0_214.out; have hcz10_0 : w8.cell? ⟨gb214, 0, none⟩ = some (.int .i64 a1_0) := (bC_ BK214.out 0).trans rfl; have hcz10_1 : w8.cell? ⟨gb214, 1, none⟩ = some (.int .i32 a1_1) := (bC_ BK214.out 1).trans rfl; have hfz10_0 := bF_ BK214.out 0; have hfz10_1 := bF_ BK214.out 1; obtain ⟨HGz11, hgz11⟩ := HI0.out; have hcz11_0 := cellS47_0 HGz11; have hcz11_1 := cellS47_1 HGz11; have hfz11_0 := bF_ HGz11 0; have hfz11_1 := bF_ HGz11 1; clear HGz11 hgz11))
   repeat (go_quiet (first | ((with_reducible refine gate_dst (N := 3) rfl ?_); refine box_event ?hg (N := 3) ?hd (cs := #[.int .i64 a1_0, .int .i32 a1_1]) (t := 47) ?hr ?_; (case hd => rfl); (case hg => rfl); (case hr => first | (go_simp; done) | (go_simp; rfl)); intro gb214 hg w8 hbox hb; have n0_ := aM_ (IsS47.below (by repeat (first | (with_reducible first | exact HI0.out | apply IsS47.alloc | apply IsS47.drewN | apply IsS47.drew | apply IsS47.set_0 | apply IsS47.set_1) | exact HI0.out)) hb); have n1_ := aM_ (KeepBut.trans (by repeat (first | (with_reducible first | exact HK.out | apply KeepBut.set_ | apply keep_drewN | apply keep_drew | apply keep_alloc) | exact HK.out)) (KeepBut.of_below hb g none) (.inl rfl)); have n2_ := aM_ (below_step (by repeat (first | (with_reducible first | exact HB.out | apply bB_ | apply wN_ | apply bE_ | refine bS_ ?_ (IsS47.ge HI0.out)) | exact HB.out)) hb); have n3_ := aM_ (hbox); have n4_ := aM_ ((by rw [hg]; exact (keep_size (w := w) (g := g) (row := none) (by repeat (first | (with_reducible first | exact HK.out | apply KeepBut.set_ | apply keep_drewN | apply keep_drew | apply keep_alloc) | exact HK.out))) : w.heap.size ≤ gb214)); have n5_ := aM_ ((Nat.le_trans HW0.out (by rw [hg]; exact (keep_size (w := w) (g := g) (row := none) (by repeat (first | (with_reducible first | exact HK.out | apply KeepBut.set_ | apply keep_drewN | apply keep_drew | apply keep_alloc) | exact HK.out))) : w.heap.size ≤ gb214) : w0.heap.size ≤ gb214)); have n6_ := aM_ ((by rw [hg]; exact Nat.ne_of_lt (IsS47.lt (show IsS47 w0 _ g s0_0 s0_1 from by repeat (first | (with_reducible first | exact HI0.out | apply IsS47.alloc | apply IsS47.drewN | apply IsS47.drew | apply IsS47.set_0 | apply IsS47.set_1) | exact HI0.out))) : g ≠ gb214)); have n7_ := aM_ ((by rw [hg]; exact Nat.ne_of_gt (IsS47.lt (show IsS47 w0 _ g s0_0 s0_1 from by repeat (first | (with_reducible first | exact HI0.out | apply IsS47.alloc | apply IsS47.drewN | apply IsS47.drew | apply IsS47.set_0 | apply IsS47.set_1) | exact HI0.out))) : gb214 ≠ g)); clear HI0; clear HK; clear HB; have HI0 := n0_; have HK := n1_; have HB := n2_; have BK214 := n3_; have GW214 := n4_; have GE214 := n5_; have NB0_214 := n6_; have NB214_0 := n7_; clear n0_ n1_ n2_ n3_ n4_ n5_ n6_ n7_; clear hb hbox hg; have hnb9 := NB214_0.out; have hnc9 := NB0_214.out; have hcz10_0 : w8.cell? ⟨gb214, 0, none⟩ = some (.int .i64 a1_0) := (bC_ BK214.out 0).trans rfl; have hcz10_1 : w8.cell? ⟨gb214, 1, none⟩ = some (.int .i32 a1_1) := (bC_ BK214.out 1).trans rfl; have hfz10_0 := bF_ BK214.out 0; have hfz10_1 := bF_ BK214.out 1; obtain ⟨HGz11, hgz11⟩ := HI0.out; have hcz11_0 := cellS47_0 HGz11; have hcz11_1 := cellS47_1 HGz11; have hfz11_0 := bF_ HGz11 0; have hfz11_1 := bF_ HGz11 1; clear HGz11 hgz11)); try go_wp2_with (first | ((with_reducible refine gate_dst (N := 3) rfl ?_); refine box_event ?hg (N := 3) ?hd (cs := #[.int .i64 a1_0, .int .i32 a1_1]) (t := 47) ?hr ?_; (case hd => rfl); (case hg => rfl); (case hr => first | (go_simp; done) | (go_simp; rfl)); intro gb214 hg w8 hbox hb; have n0_ := aM_ (IsS47.below (by repeat (first | (with_reducible first | exact HI0.out | apply IsS47.alloc | apply IsS47.drewN | apply IsS47.drew | apply IsS47.set_0 | apply IsS47.set_1) | exact HI0.out)) hb); have n1_ := aM_ (KeepBut.trans (by repeat (first | (with_reducible first | exact HK.out | apply KeepBut.set_ | apply keep_drewN | apply keep_drew | apply keep_alloc) | exact HK.out)) (KeepBut.of_below hb g none) (.inl rfl)); have n2_ := aM_ (below_step (by repeat (first | (with_reducible first | exact HB.out | apply bB_ | apply wN_ | apply bE_ | refine bS_ ?_ (IsS47.ge HI0.out)) | exact HB.out)) hb); have n3_ := aM_ (hbox); have n4_ := aM_ ((by rw [hg]; exact (keep_size (w := w) (g := g) (row := none) (by repeat (first | (with_reducible first | exact HK.out | apply KeepBut.set_ | apply keep_drewN | apply keep_drew | apply keep_alloc) | exact HK.out))) : w.heap.size ≤ gb214)); have n5_ := aM_ ((Nat.le_trans HW0.out (by rw [hg]; exact (keep_size (w := w) (g := g) (row := none) (by repeat (first | (with_reducible first | exact HK.out | apply KeepBut.set_ | apply keep_drewN | apply keep_drew | apply keep_alloc) | exact HK.out))) : w.heap.size ≤ gb214) : w0.heap.size ≤ gb214)); have n6_ := aM_ ((by rw [hg]; exact Nat.ne_of_lt (IsS47.lt (show IsS47 w0 _ g s0_0 s0_1 from by repeat (first | (with_reducible first | exact HI0.out | apply IsS47.alloc | apply IsS47.drewN | apply IsS47.drew | apply IsS47.set_0 | apply IsS47.set_1) | exact HI0.out))) : g ≠ gb214)); have n7_ := aM_ ((by rw [hg]; exact Nat.ne_of_gt (IsS47.lt (show IsS47 w0 _ g s0_0 s0_1 from by repeat (first | (with_reducible first | exact HI0.out | apply IsS47.alloc | apply IsS47.drewN | apply IsS47.drew | apply IsS47.set_0 | apply IsS47.set_1) | exact HI0.out))) : gb214 ≠ g)); clear HI0; clear HK; clear HB; have HI0 := n0_; have HK := n1_; have HB := n2_; have BK214 := n3_; have GW214 := n4_; have GE214 := n5_; have NB0_214 := n6_; have NB214_0 := n7_; clear n0_ n1_ n2_ n3_ n4_ n5_ n6_ n7_; clear hb hbox hg; have hnb9 := NB214_0.out; have hnc9 := NB0_214.out; have hcz10_0 : w8.cell? ⟨gb214, 0, none⟩ = some (.int .i64 a1_0) := (bC_ BK214.out 0).trans rfl; have hcz10_1 : w8.cell? ⟨gb214, 1, none⟩ = some (.int .i32 a1_1) := (bC_ BK214.out 1).trans rfl; have hfz10_0 := bF_ BK214.out 0; have hfz10_1 := bF_ BK214.out 1; obtain ⟨HGz11, hgz11⟩ := HI0.out; have hcz11_0 := cellS47_0 HGz11; have hcz11_1 := cellS47_1 HGz11; have hfz11_0 := bF_ HGz11 0; have hfz11_1 := bF_ HGz11 1; clear HGz11 hgz11)))
   go_ret
   exact ⟨by first | rfl | (simp [errW_none, errW_some] <;> rfl) | (simp [*, errW_none, errW_some] <;> rfl) | (exfalso; contradiction), by repeat (first | (with_reducible first | exact HI0.out | apply IsS47.alloc | apply IsS47.drewN | apply IsS47.drew | apply IsS47.set_0 | apply IsS47.set_1 | refine IsS47.far ?_ NB0_214.out _) | exact HI0.out), by repeat (first | (with_reducible first | exact HB.out | apply bB_ | apply wN_ | apply bE_ | refine bS_ ?_ (IsS47.ge HI0.out) | refine bS_ ?_ GE214.out) | exact HB.out), by repeat (first | (with_reducible first | exact HK.out | apply KeepBut.set_ | apply keep_drewN | apply keep_drew | apply keep_alloc | refine keep_far ?_ GW214.out _) | exact HK.out)⟩
  ·
   rw [if_neg c7] at H
   have c7b0 : (s0_0 == 0) = false := beq_eq_false_iff_ne.mpr c7
   have c7b1 : (s0_0 != 0) = true := bne_iff_ne.mpr c7
   by_cases c12 : s0_1 = a1_1
   ·
    rw [if_pos c12] at H
    have c12b0 : (s0_1 == a1_1) = true := beq_iff_eq.mpr c12
    have c12b1 : (s0_1 != a1_1) = false := bne_eq_false_iff_eq.mpr c12
    clear c12
    replace H := Option.bind_eq_some_iff.mp H
    obtain ⟨⟨t215, t216⟩, A130, H⟩ := H
    replace H : (if t216 = true then (some (true, t215, s0_1)) else (some (false, s0_0, s0_1))) = some (r1, r2, r3) := H
    have A13 := aM_ A130
    clear A130
    by_cases c14 : t216 = true
    ·
     subst c14
     have H1 : (some (true, t215, s0_1)) = some (r1, r2, r3) := by rw [if_pos rfl] at H; exact H
     clear H
     have H := H1
     clear H1
     simp only [Option.some.injEq, Prod.mk.injEq] at H
     obtain ⟨rfl, rfl, rfl⟩ := H
     go_enter Try.func19, Try.ntmps19
     go_wp2_with (first | ((with_reducible refine gate_dst (N := 3) rfl ?_); refine box_event ?hg (N := 3) ?hd (cs := #[.int .i64 a1_0, .int .i32 a1_1]) (t := 47) ?hr ?_; (case hd => rfl); (case hg => rfl); (case hr => first | (go_simp; done) | (go_simp; rfl)); intro gb214 hg w15 hbox hb; have n0_ := aM_ (IsS47.below (by repeat (first | (with_reducible first | exact HI0.out | apply IsS47.alloc | apply IsS47.drewN | apply IsS47.drew | apply IsS47.set_0 | apply IsS47.set_1) | exact HI0.out)) hb); have n1_ := aM_ (KeepBut.trans (by repeat (first | (with_reducible first | exact HK.out | apply KeepBut.set_ | apply keep_drewN | apply keep_drew | apply keep_alloc) | exact HK.out)) (KeepBut.of_below hb g none) (.inl rfl)); have n2_ := aM_ (below_step (by repeat (first | (with_reducible first | exact HB.out | apply bB_ | apply wN_ | apply bE_ | refine bS_ ?_ (IsS47.ge HI0.out)) | exact HB.out)) hb); have n3_ := aM_ (hbox); have n4_ := aM_ ((by rw [hg]; exact (keep_size (w := w) (g := g) (row := none) (by repeat (first | (with_reducible first | exact HK.out | apply KeepBut.set_ | apply keep_drewN | apply keep_drew | apply keep_alloc) | exact HK.out))) : w.heap.size ≤ gb214)); have n5_ := aM_ ((Nat.le_trans HW0.out (by rw [hg]; exact (keep_size (w := w) (g := g) (row := none) (by repeat (first | (with_reducible first | exact HK.out | apply KeepBut.set_ | apply keep_drewN | apply keep_drew | apply keep_alloc) | exact HK.out))) : w.heap.size ≤ gb214) : w0.heap.size ≤ gb214)); have n6_ := aM_ ((by rw [hg]; exact Nat.ne_of_lt (IsS47.lt (show IsS47 w0 _ g s0_0 s0_1 from by repeat (first | (with_reducible first | exact HI0.out | apply IsS47.alloc | apply IsS47.drewN | apply IsS47.drew | apply IsS47.set_0 | apply IsS47.set_1) | exact HI0.out))) : g ≠ gb214)); have n7_ := aM_ ((by rw [hg]; exact Nat.ne_of_gt (IsS47.lt (show IsS47 w0 _ g s0_0 s0_1 from by repeat (first | (with_reducible first | exact HI0.out | apply IsS47.alloc | apply IsS47.drewN | apply IsS47.drew | apply IsS47.set_0 | apply IsS47.set_1) | exact HI0.out))) : gb214 ≠ g)); clear HI0; clear HK; clear HB; have HI0 := n0_; have HK := n1_; have HB := n2_; have BK214 := n3_; have GW214 := n4_; have GE214 := n5_; have NB0_214 := n6_; have NB214_0 := n7_; clear n0_ n1_ n2_ n3_ n4_ n5_ n6_ n7_; clear hb hbox hg; have hnb16 := NB214_0.out; have hnc16 := NB0_214.out; have hcz17_0 : w15.cell? ⟨gb214, 0, none⟩ = some (.int .i64 a1_0) := (bC_ BK214.out 0).trans rfl; have hcz17_1 : w15.cell? ⟨gb214, 1, none⟩ = some (.int .i32 a1_1) := (bC_ BK214.out 1).trans rfl; have hfz17_0 := bF_ BK214.out 0; have hfz17_1 := bF_ BK214.out 1; obtain ⟨HGz18, hgz18⟩ := HI0.out; have hcz18_0 := cellS47_0 HGz18; have hcz18_1 := cellS47_1 HGz18; have hfz18_0 := bF_ HGz18 0; have hfz18_1 := bF_ HGz18 1; clear HGz18 hgz18) | (go_at_call 28; (with_reducible refine (resource_int64Add.calls k s0_0 a1_0 t215 true _ A13.out).mono ?_); rintro e w' ⟨rfl, ⟨nd, rfl⟩⟩; (try first | exact ⟨rfl, _, World.drewN_drewN _ _ _⟩ | exact ⟨rfl, _, Eq.trans (World.drewN_drewN _ _ _) (congrArg (World.drewN _) (Nat.add_assoc _ _ _))⟩)))
     repeat (go_quiet (first | ((with_reducible refine gate_dst (N := 3) rfl ?_); refine box_event ?hg (N := 3) ?hd (cs := #[.int .i64 a1_0, .int .i32 a1_1]) (t := 47) ?hr ?_; (case hd => rfl); (case hg => rfl); (case hr => first | (go_simp; done) | (go_simp; rfl)); intro gb214 hg w15 hbox hb; have n0_ := aM_ (IsS47.below (by repeat (first | (with_reducible first | exact HI0.out | apply IsS47.alloc | apply IsS47.drewN | apply IsS47.drew | apply IsS47.set_0 | apply IsS47.set_1) | exact HI0.out)) hb); have n1_ := aM_ (KeepBut.trans (by repeat (first | (with_reducible first | exact HK.out | apply KeepBut.set_ | apply keep_drewN | apply keep_drew | apply keep_alloc) | exact HK.out)) (KeepBut.of_below hb g none) (.inl rfl)); have n2_ := aM_ (below_step (by repeat (first | (with_reducible first | exact HB.out | apply bB_ | apply wN_ | apply bE_ | refine bS_ ?_ (IsS47.ge HI0.out)) | exact HB.out)) hb); have n3_ := aM_ (hbox); have n4_ := aM_ ((by rw [hg]; exact (keep_size (w := w) (g := g) (row := none) (by repeat (first | (with_reducible first | exact HK.out | apply KeepBut.set_ | apply keep_drewN | apply keep_drew | apply keep_alloc) | exact HK.out))) : w.heap.size ≤ gb214)); have n5_ := aM_ ((Nat.le_trans HW0.out (by rw [hg]; exact (keep_size (w := w) (g := g) (row := none) (by repeat (first | (with_reducible first | exact HK.out | apply KeepBut.set_ | apply keep_drewN | apply keep_drew | apply keep_alloc) | exact HK.out))) : w.heap.size ≤ gb214) : w0.heap.size ≤ gb214)); have n6_ := aM_ ((by rw [hg]; exact Nat.ne_of_lt (IsS47.lt (show IsS47 w0 _ g s0_0 s0_1 from by repeat (first | (with_reducible first | exact HI0.out | apply IsS47.alloc | apply IsS47.drewN | apply IsS47.drew | apply IsS47.set_0 | apply IsS47.set_1) | exact HI0.out))) : g ≠ gb214)); have n7_ := aM_ ((by rw [hg]; exact Nat.ne_of_gt (IsS47.lt (show IsS47 w0 _ g s0_0 s0_1 from by repeat (first | (with_reducible first | exact HI0.out | apply IsS47.alloc | apply IsS47.drewN | apply IsS47.drew | apply IsS47.set_0 | apply IsS47.set_1) | exact HI0.out))) : gb214 ≠ g)); clear HI0; clear HK; clear HB; have HI0 := n0_; have HK := n1_; have HB := n2_; have BK214 := n3_; have GW214 := n4_; have GE214 := n5_; have NB0_214 := n6_; have NB214_0 := n7_; clear n0_ n1_ n2_ n3_ n4_ n5_ n6_ n7_; clear hb hbox hg; have hnb16 := NB214_0.out; have hnc16 := NB0_214.out; have hcz17_0 : w15.cell? ⟨gb214, 0, none⟩ = some (.int .i64 a1_0) := (bC_ BK214.out 0).trans rfl; have hcz17_1 : w15.cell? ⟨gb214, 1, none⟩ = some (.int .i32 a1_1) := (bC_ BK214.out 1).trans rfl; have hfz17_0 := bF_ BK214.out 0; have hfz17_1 := bF_ BK214.out 1; obtain ⟨HGz18, hgz18⟩ := HI0.out; have hcz18_0 := cellS47_0 HGz18; have hcz18_1 := cellS47_1 HGz18; have hfz18_0 := bF_ HGz18 0; have hfz18_1 := bF_ HGz18 1; clear HGz18 hgz18) | (go_at_call 28; (with_reducible refine (resource_int64Add.calls k s0_0 a1_0 t215 true _ A13.out).mono ?_); rintro e w' ⟨rfl, ⟨nd, rfl⟩⟩; (try first | exact ⟨rfl, _, World.drewN_drewN _ _ _⟩ | exact ⟨rfl, _, Eq.trans (World.drewN_drewN _ _ _) (congrArg (World.drewN _) (Nat.add_assoc _ _ _))⟩))); try go_wp2_with (first | ((with_reducible refine gate_dst (N := 3) rfl ?_); refine box_event ?hg (N := 3) ?hd (cs := #[.int .i64 a1_0, .int .i32 a1_1]) (t := 47) ?hr ?_; (case hd => rfl); (case hg => rfl); (case hr => first | (go_simp; done) | (go_simp; rfl)); intro gb214 hg w15 hbox hb; have n0_ := aM_ (IsS47.below (by repeat (first | (with_reducible first | exact HI0.out | apply IsS47.alloc | apply IsS47.drewN | apply IsS47.drew | apply IsS47.set_0 | apply IsS47.set_1) | exact HI0.out)) hb); have n1_ := aM_ (KeepBut.trans (by repeat (first | (with_reducible first | exact HK.out | apply KeepBut.set_ | apply keep_drewN | apply keep_drew | apply keep_alloc) | exact HK.out)) (KeepBut.of_below hb g none) (.inl rfl)); have n2_ := aM_ (below_step (by repeat (first | (with_reducible first | exact HB.out | apply bB_ | apply wN_ | apply bE_ | refine bS_ ?_ (IsS47.ge HI0.out)) | exact HB.out)) hb); have n3_ := aM_ (hbox); have n4_ := aM_ ((by rw [hg]; exact (keep_size (w := w) (g := g) (row := none) (by repeat (first | (with_reducible first | exact HK.out | apply KeepBut.set_ | apply keep_drewN | apply keep_drew | apply keep_alloc) | exact HK.out))) : w.heap.size ≤ gb214)); have n5_ := aM_ ((Nat.le_trans HW0.out (by rw [hg]; exact (keep_size (w := w) (g := g) (row := none) (by repeat (first | (with_reducible first | exact HK.out | apply KeepBut.set_ | apply keep_drewN | apply keep_drew | apply keep_alloc) | exact HK.out))) : w.heap.size ≤ gb214) : w0.heap.size ≤ gb214)); have n6_ := aM_ ((by rw [hg]; exact Nat.ne_of_lt (IsS47.lt (show IsS47 w0 _ g s0_0 s0_1 from by repeat (first | (with_reducible first | exact HI0.out | apply IsS47.alloc | apply IsS47.drewN | apply IsS47.drew | apply IsS47.set_0 | apply IsS47.set_1) | exact HI0.out))) : g ≠ gb214)); have n7_ := aM_ ((by rw [hg]; exact Nat.ne_of_gt (IsS47.lt (show IsS47 w0 _ g s0_0 s0_1 from by repeat (first | (with_reducible first | exact HI0.out | apply IsS47.alloc | apply IsS47.drewN | apply IsS47.drew | apply IsS47.set_0 | apply IsS47.set_1) | exact HI0.out))) : gb214 ≠ g)); clear HI0; clear HK; clear HB; have HI0 := n0_; have HK := n1_; have HB := n2_; have BK214 := n3_; have GW214 := n4_; have GE214 := n5_; have NB0_214 := n6_; have NB214_0 := n7_; clear n0_ n1_ n2_ n3_ n4_ n5_ n6_ n7_; clear hb hbox hg; have hnb16 := NB214_0.out; have hnc16 := NB0_214.out; have hcz17_0 : w15.cell? ⟨gb214, 0, none⟩ = some (.int .i64 a1_0) := (bC_ BK214.out 0).trans rfl; have hcz17_1 : w15.cell? ⟨gb214, 1, none⟩ = some (.int .i32 a1_1) := (bC_ BK214.out 1).trans rfl; have hfz17_0 := bF_ BK214.out 0; have hfz17_1 := bF_ BK214.out 1; obtain ⟨HGz18, hgz18⟩ := HI0.out; have hcz18_0 := cellS47_0 HGz18; have hcz18_1 := cellS47_1 HGz18; have hfz18_0 := bF_ HGz18 0; have hfz18_1 := bF_ HGz18 1; clear HGz18 hgz18) | (go_at_call 28; (with_reducible refine (resource_int64Add.calls k s0_0 a1_0 t215 true _ A13.out).mono ?_); rintro e w' ⟨rfl, ⟨nd, rfl⟩⟩; (try first | exact ⟨rfl, _, World.drewN_drewN _ _ _⟩ | exact ⟨rfl, _, Eq.trans (World.drewN_drewN _ _ _) (congrArg (World.drewN _) (Nat.add_assoc _ _ _))⟩))))
     go_ret
     exact ⟨by first | rfl | (simp [errW_none, errW_some] <;> rfl) | (simp [*, errW_none, errW_some] <;> rfl) | (exfalso; contradiction), by repeat (first | (with_reducible first | exact HI0.out | apply IsS47.alloc | apply IsS47.drewN | apply IsS47.drew | apply IsS47.set_0 | apply IsS47.set_1 | refine IsS47.far ?_ NB0_214.out _) | exact HI0.out), by repeat (first | (with_reducible first | exact HB.out | apply bB_ | apply wN_ | apply bE_ | refine bS_ ?_ (IsS47.ge HI0.out) | refine bS_ ?_ GE214.out) | exact HB.out), by repeat (first | (with_reducible first | exact HK.out | apply KeepBut.set_ | apply keep_drewN | apply keep_drew | apply keep_alloc | refine keep_far ?_ GW214.out _) | exact HK.out)⟩
    ·
     replace c14 := Bool.eq_false_iff.mpr c14
     subst c14
     have H1 : (some (false, s0_0, s0_1)) = some (r1, r2, r3) := by rw [if_neg (show ¬ (false = true) by decide)] at H; exact H
     clear H
     have H := H1
     clear H1
     simp only [Option.some.injEq, Prod.mk.injEq] at H
     obtain ⟨rfl, rfl, rfl⟩ := H
     go_enter Try.func19, Try.ntmps19
     go_wp2_with (first | ((with_reducible refine gate_dst (N := 3) rfl ?_); refine box_event ?hg (N := 3) ?hd (cs := #[.int .i64 a1_0, .int .i32 a1_1]) (t := 47) ?hr ?_; (case hd => rfl); (case hg => rfl); (case hr => first | (go_simp; done) | (go_simp; rfl)); intro gb214 hg w19 hbox hb; have n0_ := aM_ (IsS47.below (by repeat (first | (with_reducible first | exact HI0.out | apply IsS47.alloc | apply IsS47.drewN | apply IsS47.drew | apply IsS47.set_0 | apply IsS47.set_1) | exact HI0.out)) hb); have n1_ := aM_ (KeepBut.trans (by repeat (first | (with_reducible first | exact HK.out | apply KeepBut.set_ | apply keep_drewN | apply keep_drew | apply keep_alloc) | exact HK.out)) (KeepBut.of_below hb g none) (.inl rfl)); have n2_ := aM_ (below_step (by repeat (first | (with_reducible first | exact HB.out | apply bB_ | apply wN_ | apply bE_ | refine bS_ ?_ (IsS47.ge HI0.out)) | exact HB.out)) hb); have n3_ := aM_ (hbox); have n4_ := aM_ ((by rw [hg]; exact (keep_size (w := w) (g := g) (row := none) (by repeat (first | (with_reducible first | exact HK.out | apply KeepBut.set_ | apply keep_drewN | apply keep_drew | apply keep_alloc) | exact HK.out))) : w.heap.size ≤ gb214)); have n5_ := aM_ ((Nat.le_trans HW0.out (by rw [hg]; exact (keep_size (w := w) (g := g) (row := none) (by repeat (first | (with_reducible first | exact HK.out | apply KeepBut.set_ | apply keep_drewN | apply keep_drew | apply keep_alloc) | exact HK.out))) : w.heap.size ≤ gb214) : w0.heap.size ≤ gb214)); have n6_ := aM_ ((by rw [hg]; exact Nat.ne_of_lt (IsS47.lt (show IsS47 w0 _ g s0_0 s0_1 from by repeat (first | (with_reducible first | exact HI0.out | apply IsS47.alloc | apply IsS47.drewN | apply IsS47.drew | apply IsS47.set_0 | apply IsS47.set_1) | exact HI0.out))) : g ≠ gb214)); have n7_ := aM_ ((by rw [hg]; exact Nat.ne_of_gt (IsS47.lt (show IsS47 w0 _ g s0_0 s0_1 from by repeat (first | (with_reducible first | exact HI0.out | apply IsS47.alloc | apply IsS47.drewN | apply IsS47.drew | apply IsS47.set_0 | apply IsS47.set_1) | exact HI0.out))) : gb214 ≠ g)); clear HI0; clear HK; clear HB; have HI0 := n0_; have HK := n1_; have HB := n2_; have BK214 := n3_; have GW214 := n4_; have GE214 := n5_; have NB0_214 := n6_; have NB214_0 := n7_; clear n0_ n1_ n2_ n3_ n4_ n5_ n6_ n7_; clear hb hbox hg; have hnb20 := NB214_0.out; have hnc20 := NB0_214.out; have hcz21_0 : w19.cell? ⟨gb214, 0, none⟩ = some (.int .i64 a1_0) := (bC_ BK214.out 0).trans rfl; have hcz21_1 : w19.cell? ⟨gb214, 1, none⟩ = some (.int .i32 a1_1) := (bC_ BK214.out 1).trans rfl; have hfz21_0 := bF_ BK214.out 0; have hfz21_1 := bF_ BK214.out 1; obtain ⟨HGz22, hgz22⟩ := HI0.out; have hcz22_0 := cellS47_0 HGz22; have hcz22_1 := cellS47_1 HGz22; have hfz22_0 := bF_ HGz22 0; have hfz22_1 := bF_ HGz22 1; clear HGz22 hgz22) | (go_at_call 28; (with_reducible refine (resource_int64Add.calls k s0_0 a1_0 t215 false _ A13.out).mono ?_); rintro e w' ⟨rfl, ⟨nd, rfl⟩⟩; (try first | exact ⟨rfl, _, World.drewN_drewN _ _ _⟩ | exact ⟨rfl, _, Eq.trans (World.drewN_drewN _ _ _) (congrArg (World.drewN _) (Nat.add_assoc _ _ _))⟩)))
     repeat (go_quiet (first | ((with_reducible refine gate_dst (N := 3) rfl ?_); refine box_event ?hg (N := 3) ?hd (cs := #[.int .i64 a1_0, .int .i32 a1_1]) (t := 47) ?hr ?_; (case hd => rfl); (case hg => rfl); (case hr => first | (go_simp; done) | (go_simp; rfl)); intro gb214 hg w19 hbox hb; have n0_ := aM_ (IsS47.below (by repeat (first | (with_reducible first | exact HI0.out | apply IsS47.alloc | apply IsS47.drewN | apply IsS47.drew | apply IsS47.set_0 | apply IsS47.set_1) | exact HI0.out)) hb); have n1_ := aM_ (KeepBut.trans (by repeat (first | (with_reducible first | exact HK.out | apply KeepBut.set_ | apply keep_drewN | apply keep_drew | apply keep_alloc) | exact HK.out)) (KeepBut.of_below hb g none) (.inl rfl)); have n2_ := aM_ (below_step (by repeat (first | (with_reducible first | exact HB.out | apply bB_ | apply wN_ | apply bE_ | refine bS_ ?_ (IsS47.ge HI0.out)) | exact HB.out)) hb); have n3_ := aM_ (hbox); have n4_ := aM_ ((by rw [hg]; exact (keep_size (w := w) (g := g) (row := none) (by repeat (first | (with_reducible first | exact HK.out | apply KeepBut.set_ | apply keep_drewN | apply keep_drew | apply keep_alloc) | exact HK.out))) : w.heap.size ≤ gb214)); have n5_ := aM_ ((Nat.le_trans HW0.out (by rw [hg]; exact (keep_size (w := w) (g := g) (row := none) (by repeat (first | (with_reducible first | exact HK.out | apply KeepBut.set_ | apply keep_drewN | apply keep_drew | apply keep_alloc) | exact HK.out))) : w.heap.size ≤ gb214) : w0.heap.size ≤ gb214)); have n6_ := aM_ ((by rw [hg]; exact Nat.ne_of_lt (IsS47.lt (show IsS47 w0 _ g s0_0 s0_1 from by repeat (first | (with_reducible first | exact HI0.out | apply IsS47.alloc | apply IsS47.drewN | apply IsS47.drew | apply IsS47.set_0 | apply IsS47.set_1) | exact HI0.out))) : g ≠ gb214)); have n7_ := aM_ ((by rw [hg]; exact Nat.ne_of_gt (IsS47.lt (show IsS47 w0 _ g s0_0 s0_1 from by repeat (first | (with_reducible first | exact HI0.out | apply IsS47.alloc | apply IsS47.drewN | apply IsS47.drew | apply IsS47.set_0 | apply IsS47.set_1) | exact HI0.out))) : gb214 ≠ g)); clear HI0; clear HK; clear HB; have HI0 := n0_; have HK := n1_; have HB := n2_; have BK214 := n3_; have GW214 := n4_; have GE214 := n5_; have NB0_214 := n6_; have NB214_0 := n7_; clear n0_ n1_ n2_ n3_ n4_ n5_ n6_ n7_; clear hb hbox hg; have hnb20 := NB214_0.out; have hnc20 := NB0_214.out; have hcz21_0 : w19.cell? ⟨gb214, 0, none⟩ = some (.int .i64 a1_0) := (bC_ BK214.out 0).trans rfl; have hcz21_1 : w19.cell? ⟨gb214, 1, none⟩ = some (.int .i32 a1_1) := (bC_ BK214.out 1).trans rfl; have hfz21_0 := bF_ BK214.out 0; have hfz21_1 := bF_ BK214.out 1; obtain ⟨HGz22, hgz22⟩ := HI0.out; have hcz22_0 := cellS47_0 HGz22; have hcz22_1 := cellS47_1 HGz22; have hfz22_0 := bF_ HGz22 0; have hfz22_1 := bF_ HGz22 1; clear HGz22 hgz22) | (go_at_call 28; (with_reducible refine (resource_int64Add.calls k s0_0 a1_0 t215 false _ A13.out).mono ?_); rintro e w' ⟨rfl, ⟨nd, rfl⟩⟩; (try first | exact ⟨rfl, _, World.drewN_drewN _ _ _⟩ | exact ⟨rfl, _, Eq.trans (World.drewN_drewN _ _ _) (congrArg (World.drewN _) (Nat.add_assoc _ _ _))⟩))); try go_wp2_with (first | ((with_reducible refine gate_dst (N := 3) rfl ?_); refine box_event ?hg (N := 3) ?hd (cs := #[.int .i64 a1_0, .int .i32 a1_1]) (t := 47) ?hr ?_; (case hd => rfl); (case hg => rfl); (case hr => first | (go_simp; done) | (go_simp; rfl)); intro gb214 hg w19 hbox hb; have n0_ := aM_ (IsS47.below (by repeat (first | (with_reducible first | exact HI0.out | apply IsS47.alloc | apply IsS47.drewN | apply IsS47.drew | apply IsS47.set_0 | apply IsS47.set_1) | exact HI0.out)) hb); have n1_ := aM_ (KeepBut.trans (by repeat (first | (with_reducible first | exact HK.out | apply KeepBut.set_ | apply keep_drewN | apply keep_drew | apply keep_alloc) | exact HK.out)) (KeepBut.of_below hb g none) (.inl rfl)); have n2_ := aM_ (below_step (by repeat (first | (with_reducible first | exact HB.out | apply bB_ | apply wN_ | apply bE_ | refine bS_ ?_ (IsS47.ge HI0.out)) | exact HB.out)) hb); have n3_ := aM_ (hbox); have n4_ := aM_ ((by rw [hg]; exact (keep_size (w := w) (g := g) (row := none) (by repeat (first | (with_reducible first | exact HK.out | apply KeepBut.set_ | apply keep_drewN | apply keep_drew | apply keep_alloc) | exact HK.out))) : w.heap.size ≤ gb214)); have n5_ := aM_ ((Nat.le_trans HW0.out (by rw [hg]; exact (keep_size (w := w) (g := g) (row := none) (by repeat (first | (with_reducible first | exact HK.out | apply KeepBut.set_ | apply keep_drewN | apply keep_drew | apply keep_alloc) | exact HK.out))) : w.heap.size ≤ gb214) : w0.heap.size ≤ gb214)); have n6_ := aM_ ((by rw [hg]; exact Nat.ne_of_lt (IsS47.lt (show IsS47 w0 _ g s0_0 s0_1 from by repeat (first | (with_reducible first | exact HI0.out | apply IsS47.alloc | apply IsS47.drewN | apply IsS47.drew | apply IsS47.set_0 | apply IsS47.set_1) | exact HI0.out))) : g ≠ gb214)); have n7_ := aM_ ((by rw [hg]; exact Nat.ne_of_gt (IsS47.lt (show IsS47 w0 _ g s0_0 s0_1 from by repeat (first | (with_reducible first | exact HI0.out | apply IsS47.alloc | apply IsS47.drewN | apply IsS47.drew | apply IsS47.set_0 | apply IsS47.set_1) | exact HI0.out))) : gb214 ≠ g)); clear HI0; clear HK; clear HB; have HI0 := n0_; have HK := n1_; have HB := n2_; have BK214 := n3_; have GW214 := n4_; have GE214 := n5_; have NB0_214 := n6_; have NB214_0 := n7_; clear n0_ n1_ n2_ n3_ n4_ n5_ n6_ n7_; clear hb hbox hg; have hnb20 := NB214_0.out; have hnc20 := NB0_214.out; have hcz21_0 : w19.cell? ⟨gb214, 0, none⟩ = some (.int .i64 a1_0) := (bC_ BK214.out 0).trans rfl; have hcz21_1 : w19.cell? ⟨gb214, 1, none⟩ = some (.int .i32 a1_1) := (bC_ BK214.out 1).trans rfl; have hfz21_0 := bF_ BK214.out 0; have hfz21_1 := bF_ BK214.out 1; obtain ⟨HGz22, hgz22⟩ := HI0.out; have hcz22_0 := cellS47_0 HGz22; have hcz22_1 := cellS47_1 HGz22; have hfz22_0 := bF_ HGz22 0; have hfz22_1 := bF_ HGz22 1; clear HGz22 hgz22) | (go_at_call 28; (with_reducible refine (resource_int64Add.calls k s0_0 a1_0 t215 false _ A13.out).mono ?_); rintro e w' ⟨rfl, ⟨nd, rfl⟩⟩; (try first | exact ⟨rfl, _, World.drewN_drewN _ _ _⟩ | exact ⟨rfl, _, Eq.trans (World.drewN_drewN _ _ _) (congrArg (World.drewN _) (Nat.add_assoc _ _ _))⟩))))
     go_ret
     exact ⟨by first | rfl | (simp [errW_none, errW_some] <;> rfl) | (simp [*, errW_none, errW_some] <;> rfl) | (exfalso; contradiction), by repeat (first | (with_reducible first | exact HI0.out | apply IsS47.alloc | apply IsS47.drewN | apply IsS47.drew | apply IsS47.set_0 | apply IsS47.set_1 | refine IsS47.far ?_ NB0_214.out _) | exact HI0.out), by repeat (first | (with_reducible first | exact HB.out | apply bB_ | apply wN_ | apply bE_ | refine bS_ ?_ (IsS47.ge HI0.out) | refine bS_ ?_ GE214.out) | exact HB.out), by repeat (first | (with_reducible first | exact HK.out | apply KeepBut.set_ | apply keep_drewN | apply keep_drew | apply keep_alloc | refine keep_far ?_ GW214.out _) | exact HK.out)⟩
   ·
    rw [if_neg c12] at H
    have c12b0 : (s0_1 == a1_1) = false := beq_eq_false_iff_ne.mpr c12
    have c12b1 : (s0_1 != a1_1) = true := bne_iff_ne.mpr c12
    by_cases c23 : s0_1 > a1_1
    ·
     rw [if_pos c23] at H
     have c23b0 : decide (a1_1 < s0_1) = true := decide_eq_true c23
     clear c23
     replace H := Option.bind_eq_some_iff.mp H
     obtain ⟨⟨t217, t218⟩, A240, H⟩ := H
     replace H : (if t218 = true then ((resource_int64Add.f k t217 a1_0).bind fun bt219 => (if bt219.2 = true then (some (true, bt219.1, a1_1)) else (some (false, s0_0, s0_1)))) else (some (false, s0_0, s0_1))) = some (r1, r2, r3) := H
     have A24 := aM_ A240
     clear A240
     by_cases c25 : t218 = true
     ·
      subst c25
      have H1 : ((resource_int64Add.f k t217 a1_0).bind fun bt219 => (if bt219.2 = true then (some (true, bt219.1, a1_1)) else (some (false, s0_0, s0_1)))) = some (r1, r2, r3) := by rw [if_pos rfl] at H; exact H
      clear H
      have H := H1
      clear H1
      replace H := Option.bind_eq_some_iff.mp H
      obtain ⟨⟨t219, t220⟩, A260, H⟩ := H
      replace H : (if t220 = true then (some (true, t219, a1_1)) else (some (false, s0_0, s0_1))) = some (r1, r2, r3) := H
      have A26 := aM_ A260
      clear A260
      by_cases c27 : t220 = true
      ·
       subst c27
       have H1 : (some (true, t219, a1_1)) = some (r1, r2, r3) := by rw [if_pos rfl] at H; exact H
       clear H
       have H := H1
       clear H1
       simp only [Option.some.injEq, Prod.mk.injEq] at H
       obtain ⟨rfl, rfl, rfl⟩ := H
       go_enter Try.func19, Try.ntmps19
       go_wp2_with (first | ((with_reducible refine gate_dst (N := 3) rfl ?_); refine box_event ?hg (N := 3) ?hd (cs := #[.int .i64 a1_0, .int .i32 a1_1]) (t := 47) ?hr ?_; (case hd => rfl); (case hg => rfl); (case hr => first | (go_simp; done) | (go_simp; rfl)); intro gb214 hg w28 hbox hb; have n0_ := aM_ (IsS47.below (by repeat (first | (with_reducible first | exact HI0.out | apply IsS47.alloc | apply IsS47.drewN | apply IsS47.drew | apply IsS47.set_0 | apply IsS47.set_1) | exact HI0.out)) hb); have n1_ := aM_ (KeepBut.trans (by repeat (first | (with_reducible first | exact HK.out | apply KeepBut.set_ | apply keep_drewN | apply keep_drew | apply keep_alloc) | exact HK.out)) (KeepBut.of_below hb g none) (.inl rfl)); have n2_ := aM_ (below_step (by repeat (first | (with_reducible first | exact HB.out | apply bB_ | apply wN_ | apply bE_ | refine bS_ ?_ (IsS47.ge HI0.out)) | exact HB.out)) hb); have n3_ := aM_ (hbox); have n4_ := aM_ ((by rw [hg]; exact (keep_size (w := w) (g := g) (row := none) (by repeat (first | (with_reducible first | exact HK.out | apply KeepBut.set_ | apply keep_drewN | apply keep_drew | apply keep_alloc) | exact HK.out))) : w.heap.size ≤ gb214)); have n5_ := aM_ ((Nat.le_trans HW0.out (by rw [hg]; exact (keep_size (w := w) (g := g) (row := none) (by repeat (first | (with_reducible first | exact HK.out | apply KeepBut.set_ | apply keep_drewN | apply keep_drew | apply keep_alloc) | exact HK.out))) : w.heap.size ≤ gb214) : w0.heap.size ≤ gb214)); have n6_ := aM_ ((by rw [hg]; exact Nat.ne_of_lt (IsS47.lt (show IsS47 w0 _ g s0_0 s0_1 from by repeat (first | (with_reducible first | exact HI0.out | apply IsS47.alloc | apply IsS47.drewN | apply IsS47.drew | apply IsS47.set_0 | apply IsS47.set_1) | exact HI0.out))) : g ≠ gb214)); have n7_ := aM_ ((by rw [hg]; exact Nat.ne_of_gt (IsS47.lt (show IsS47 w0 _ g s0_0 s0_1 from by repeat (first | (with_reducible first | exact HI0.out | apply IsS47.alloc | apply IsS47.drewN | apply IsS47.drew | apply IsS47.set_0 | apply IsS47.set_1) | exact HI0.out))) : gb214 ≠ g)); clear HI0; clear HK; clear HB; have HI0 := n0_; have HK := n1_; have HB := n2_; have BK214 := n3_; have GW214 := n4_; have GE214 := n5_; have NB0_214 := n6_; have NB214_0 := n7_; clear n0_ n1_ n2_ n3_ n4_ n5_ n6_ n7_; clear hb hbox hg; have hnb29 := NB214_0.out; have hnc29 := NB0_214.out; have hcz30_0 : w28.cell? ⟨gb214, 0, none⟩ = some (.int .i64 a1_0) := (bC_ BK214.out 0).trans rfl; have hcz30_1 : w28.cell? ⟨gb214, 1, none⟩ = some (.int .i32 a1_1) := (bC_ BK214.out 1).trans rfl; have hfz30_0 := bF_ BK214.out 0; have hfz30_1 := bF_ BK214.out 1; obtain ⟨HGz31, hgz31⟩ := HI0.out; have hcz31_0 := cellS47_0 HGz31; have hcz31_1 := cellS47_1 HGz31; have hfz31_0 := bF_ HGz31 0; have hfz31_1 := bF_ HGz31 1; clear HGz31 hgz31) | (go_at_call 29; (with_reducible refine (resource_positiveScaleInt64.calls k s0_0 (wrap32 (s0_1 - a1_1)) t217 true _ A24.out).mono ?_); rintro e w' ⟨rfl, ⟨nd, rfl⟩⟩; (try first | exact ⟨rfl, _, World.drewN_drewN _ _ _⟩ | exact ⟨rfl, _, Eq.trans (World.drewN_drewN _ _ _) (congrArg (World.drewN _) (Nat.add_assoc _ _ _))⟩)) | (go_at_call 28; (with_reducible refine (resource_int64Add.calls k t217 a1_0 t219 true _ A26.out).mono ?_); rintro e w' ⟨rfl, ⟨nd, rfl⟩⟩; (try first | exact ⟨rfl, _, World.drewN_drewN _ _ _⟩ | exact ⟨rfl, _, Eq.trans (World.drewN_drewN _ _ _) (congrArg (World.drewN _) (Nat.add_assoc _ _ _))⟩)))
       repeat (go_quiet (first | ((with_reducible refine gate_dst (N := 3) rfl ?_); refine box_event ?hg (N := 3) ?hd (cs := #[.int .i64 a1_0, .int .i32 a1_1]) (t := 47) ?hr ?_; (case hd => rfl); (case hg => rfl); (case hr => first | (go_simp; done) | (go_simp; rfl)); intro gb214 hg w28 hbox hb; have n0_ := aM_ (IsS47.below (by repeat (first | (with_reducible first | exact HI0.out | apply IsS47.alloc | apply IsS47.drewN | apply IsS47.drew | apply IsS47.set_0 | apply IsS47.set_1) | exact HI0.out)) hb); have n1_ := aM_ (KeepBut.trans (by repeat (first | (with_reducible first | exact HK.out | apply KeepBut.set_ | apply keep_drewN | apply keep_drew | apply keep_alloc) | exact HK.out)) (KeepBut.of_below hb g none) (.inl rfl)); have n2_ := aM_ (below_step (by repeat (first | (with_reducible first | exact HB.out | apply bB_ | apply wN_ | apply bE_ | refine bS_ ?_ (IsS47.ge HI0.out)) | exact HB.out)) hb); have n3_ := aM_ (hbox); have n4_ := aM_ ((by rw [hg]; exact (keep_size (w := w) (g := g) (row := none) (by repeat (first | (with_reducible first | exact HK.out | apply KeepBut.set_ | apply keep_drewN | apply keep_drew | apply keep_alloc) | exact HK.out))) : w.heap.size ≤ gb214)); have n5_ := aM_ ((Nat.le_trans HW0.out (by rw [hg]; exact (keep_size (w := w) (g := g) (row := none) (by repeat (first | (with_reducible first | exact HK.out | apply KeepBut.set_ | apply keep_drewN | apply keep_drew | apply keep_alloc) | exact HK.out))) : w.heap.size ≤ gb214) : w0.heap.size ≤ gb214)); have n6_ := aM_ ((by rw [hg]; exact Nat.ne_of_lt (IsS47.lt (show IsS47 w0 _ g s0_0 s0_1 from by repeat (first | (with_reducible first | exact HI0.out | apply IsS47.alloc | apply IsS47.drewN | apply IsS47.drew | apply IsS47.set_0 | apply IsS47.set_1) | exact HI0.out))) : g ≠ gb214)); have n7_ := aM_ ((by rw [hg]; exact Nat.ne_of_gt (IsS47.lt (show IsS47 w0 _ g s0_0 s0_1 from by repeat (first | (with_reducible first | exact HI0.out | apply IsS47.alloc | apply IsS47.drewN | apply IsS47.drew | apply IsS47.set_0 | apply IsS47.set_1) | exact HI0.out))) : gb214 ≠ g)); clear HI0; clear HK; clear HB; have HI0 := n0_; have HK := n1_; have HB := n2_; have BK214 := n3_; have GW214 := n4_; have GE214 := n5_; have NB0_214 := n6_; have NB214_0 := n7_; clear n0_ n1_ n2_ n3_ n4_ n5_ n6_ n7_; clear hb hbox hg; have hnb29 := NB214_0.out; have hnc29 := NB0_214.out; have hcz30_0 : w28.cell? ⟨gb214, 0, none⟩ = some (.int .i64 a1_0) := (bC_ BK214.out 0).trans rfl; have hcz30_1 : w28.cell? ⟨gb214, 1, none⟩ = some (.int .i32 a1_1) := (bC_ BK214.out 1).trans rfl; have hfz30_0 := bF_ BK214.out 0; have hfz30_1 := bF_ BK214.out 1; obtain ⟨HGz31, hgz31⟩ := HI0.out; have hcz31_0 := cellS47_0 HGz31; have hcz31_1 := cellS47_1 HGz31; have hfz31_0 := bF_ HGz31 0; have hfz31_1 := bF_ HGz31 1; clear HGz31 hgz31) | (go_at_call 29; (with_reducible refine (resource_positiveScaleInt64.calls k s0_0 (wrap32 (s0_1 - a1_1)) t217 true _ A24.out).mono ?_); rintro e w' ⟨rfl, ⟨nd, rfl⟩⟩; (try first | exact ⟨rfl, _, World.drewN_drewN _ _ _⟩ | exact ⟨rfl, _, Eq.trans (World.drewN_drewN _ _ _) (congrArg (World.drewN _) (Nat.add_assoc _ _ _))⟩)) | (go_at_call 28; (with_reducible refine (resource_int64Add.calls k t217 a1_0 t219 true _ A26.out).mono ?_); rintro e w' ⟨rfl, ⟨nd, rfl⟩⟩; (try first | exact ⟨rfl, _, World.drewN_drewN _ _ _⟩ | exact ⟨rfl, _, Eq.trans (World.drewN_drewN _ _ _) (congrArg (World.drewN _) (Nat.add_assoc _ _ _))⟩))); try go_wp2_with (first | ((with_reducible refine gate_dst (N := 3) rfl ?_); refine box_event ?hg (N := 3) ?hd (cs := #[.int .i64 a1_0, .int .i32 a1_1]) (t := 47) ?hr ?_; (case hd => rfl); (case hg => rfl); (case hr => first | (go_simp; done) | (go_simp; rfl)); intro gb214 hg w28 hbox hb; have n0_ := aM_ (IsS47.below (by repeat (first | (with_reducible first | exact HI0.out | apply IsS47.alloc | apply IsS47.drewN | apply IsS47.drew | apply IsS47.set_0 | apply IsS47.set_1) | exact HI0.out)) hb); have n1_ := aM_ (KeepBut.trans (by repeat (first | (with_reducible first | exact HK.out | apply KeepBut.set_ | apply keep_drewN | apply keep_drew | apply keep_alloc) | exact HK.out)) (KeepBut.of_below hb g none) (.inl rfl)); have n2_ := aM_ (below_step (by repeat (first | (with_reducible first | exact HB.out | apply bB_ | apply wN_ | apply bE_ | refine bS_ ?_ (IsS47.ge HI0.out)) | exact HB.out)) hb); have n3_ := aM_ (hbox); have n4_ := aM_ ((by rw [hg]; exact (keep_size (w := w) (g := g) (row := none) (by repeat (first | (with_reducible first | exact HK.out | apply KeepBut.set_ | apply keep_drewN | apply keep_drew | apply keep_alloc) | exact HK.out))) : w.heap.size ≤ gb214)); have n5_ := aM_ ((Nat.le_trans HW0.out (by rw [hg]; exact (keep_size (w := w) (g := g) (row := none) (by repeat (first | (with_reducible first | exact HK.out | apply KeepBut.set_ | apply keep_drewN | apply keep_drew | apply keep_alloc) | exact HK.out))) : w.heap.size ≤ gb214) : w0.heap.size ≤ gb214)); have n6_ := aM_ ((by rw [hg]; exact Nat.ne_of_lt (IsS47.lt (show IsS47 w0 _ g s0_0 s0_1 from by repeat (first | (with_reducible first | exact HI0.out | apply IsS47.alloc | apply IsS47.drewN | apply IsS47.drew | apply IsS47.set_0 | apply IsS47.set_1) | exact HI0.out))) : g ≠ gb214)); have n7_ := aM_ ((by rw [hg]; exact Nat.ne_of_gt (IsS47.lt (show IsS47 w0 _ g s0_0 s0_1 from by repeat (first | (with_reducible first | exact HI0.out | apply IsS47.alloc | apply IsS47.drewN | apply IsS47.drew | apply IsS47.set_0 | apply IsS47.set_1) | exact HI0.out))) : gb214 ≠ g)); clear HI0; clear HK; clear HB; have HI0 := n0_; have HK := n1_; have HB := n2_; have BK214 := n3_; have GW214 := n4_; have GE214 := n5_; have NB0_214 := n6_; have NB214_0 := n7_; clear n0_ n1_ n2_ n3_ n4_ n5_ n6_ n7_; clear hb hbox hg; have hnb29 := NB214_0.out; have hnc29 := NB0_214.out; have hcz30_0 : w28.cell? ⟨gb214, 0, none⟩ = some (.int .i64 a1_0) := (bC_ BK214.out 0).trans rfl; have hcz30_1 : w28.cell? ⟨gb214, 1, none⟩ = some (.int .i32 a1_1) := (bC_ BK214.out 1).trans rfl; have hfz30_0 := bF_ BK214.out 0; have hfz30_1 := bF_ BK214.out 1; obtain ⟨HGz31, hgz31⟩ := HI0.out; have hcz31_0 := cellS47_0 HGz31; have hcz31_1 := cellS47_1 HGz31; have hfz31_0 := bF_ HGz31 0; have hfz31_1 := bF_ HGz31 1; clear HGz31 hgz31) | (go_at_call 29; (with_reducible refine (resource_positiveScaleInt64.calls k s0_0 (wrap32 (s0_1 - a1_1)) t217 true _ A24.out).mono ?_); rintro e w' ⟨rfl, ⟨nd, rfl⟩⟩; (try first | exact ⟨rfl, _, World.drewN_drewN _ _ _⟩ | exact ⟨rfl, _, Eq.trans (World.drewN_drewN _ _ _) (congrArg (World.drewN _) (Nat.add_assoc _ _ _))⟩)) | (go_at_call 28; (with_reducible refine (resource_int64Add.calls k t217 a1_0 t219 true _ A26.out).mono ?_); rintro e w' ⟨rfl, ⟨nd, rfl⟩⟩; (try first | exact ⟨rfl, _, World.drewN_drewN _ _ _⟩ | exact ⟨rfl, _, Eq.trans (World.drewN_drewN _ _ _) (congrArg (World.drewN _) (Nat.add_assoc _ _ _))⟩))))
       go_ret
       exact ⟨by first | rfl | (simp [errW_none, errW_some] <;> rfl) | (simp [*, errW_none, errW_some] <;> rfl) | (exfalso; contradiction), by repeat (first | (with_reducible first | exact HI0.out | apply IsS47.alloc | apply IsS47.drewN | apply IsS47.drew | apply IsS47.set_0 | apply IsS47.set_1 | refine IsS47.far ?_ NB0_214.out _) | exact HI0.out), by repeat (first | (with_reducible first | exact HB.out | apply bB_ | apply wN_ | apply bE_ | refine bS_ ?_ (IsS47.ge HI0.out) | refine bS_ ?_ GE214.out) | exact HB.out), by repeat (first | (with_reducible first | exact HK.out | apply KeepBut.set_ | apply keep_drewN | apply keep_drew | apply keep_alloc | refine keep_far ?_ GW214.out _) | exact HK.out)⟩
      ·
       replace c27 := Bool.eq_false_iff.mpr c27
       subst c27
       have H1 : (some (false, s0_0, s0_1)) = some (r1, r2, r3) := by rw [if_neg (show ¬ (false = true) by decide)] at H; exact H
       clear H
       have H := H1
       clear H1
       simp only [Option.some.injEq, Prod.mk.injEq] at H
       obtain ⟨rfl, rfl, rfl⟩ := H
       go_enter Try.func19, Try.ntmps19
       go_wp2_with (first | ((with_reducible refine gate_dst (N := 3) rfl ?_); refine box_event ?hg (N := 3) ?hd (cs := #[.int .i64 a1_0, .int .i32 a1_1]) (t := 47) ?hr ?_; (case hd => rfl); (case hg => rfl); (case hr => first | (go_simp; done) | (go_simp; rfl)); intro gb214 hg w32 hbox hb; have n0_ := aM_ (IsS47.below (by repeat (first | (with_reducible first | exact HI0.out | apply IsS47.alloc | apply IsS47.drewN | apply IsS47.drew | apply IsS47.set_0 | apply IsS47.set_1) | exact HI0.out)) hb); have n1_ := aM_ (KeepBut.trans (by repeat (first | (with_reducible first | exact HK.out | apply KeepBut.set_ | apply keep_drewN | apply keep_drew | apply keep_alloc) | exact HK.out)) (KeepBut.of_below hb g none) (.inl rfl)); have n2_ := aM_ (below_step (by repeat (first | (with_reducible first | exact HB.out | apply bB_ | apply wN_ | apply bE_ | refine bS_ ?_ (IsS47.ge HI0.out)) | exact HB.out)) hb); have n3_ := aM_ (hbox); have n4_ := aM_ ((by rw [hg]; exact (keep_size (w := w) (g := g) (row := none) (by repeat (first | (with_reducible first | exact HK.out | apply KeepBut.set_ | apply keep_drewN | apply keep_drew | apply keep_alloc) | exact HK.out))) : w.heap.size ≤ gb214)); have n5_ := aM_ ((Nat.le_trans HW0.out (by rw [hg]; exact (keep_size (w := w) (g := g) (row := none) (by repeat (first | (with_reducible first | exact HK.out | apply KeepBut.set_ | apply keep_drewN | apply keep_drew | apply keep_alloc) | exact HK.out))) : w.heap.size ≤ gb214) : w0.heap.size ≤ gb214)); have n6_ := aM_ ((by rw [hg]; exact Nat.ne_of_lt (IsS47.lt (show IsS47 w0 _ g s0_0 s0_1 from by repeat (first | (with_reducible first | exact HI0.out | apply IsS47.alloc | apply IsS47.drewN | apply IsS47.drew | apply IsS47.set_0 | apply IsS47.set_1) | exact HI0.out))) : g ≠ gb214)); have n7_ := aM_ ((by rw [hg]; exact Nat.ne_of_gt (IsS47.lt (show IsS47 w0 _ g s0_0 s0_1 from by repeat (first | (with_reducible first | exact HI0.out | apply IsS47.alloc | apply IsS47.drewN | apply IsS47.drew | apply IsS47.set_0 | apply IsS47.set_1) | exact HI0.out))) : gb214 ≠ g)); clear HI0; clear HK; clear HB; have HI0 := n0_; have HK := n1_; have HB := n2_; have BK214 := n3_; have GW214 := n4_; have GE214 := n5_; have NB0_214 := n6_; have NB214_0 := n7_; clear n0_ n1_ n2_ n3_ n4_ n5_ n6_ n7_; clear hb hbox hg; have hnb33 := NB214_0.out; have hnc33 := NB0_214.out; have hcz34_0 : w32.cell? ⟨gb214, 0, none⟩ = some (.int .i64 a1_0) := (bC_ BK214.out 0).trans rfl; have hcz34_1 : w32.cell? ⟨gb214, 1, none⟩ = some (.int .i32 a1_1) := (bC_ BK214.out 1).trans rfl; have hfz34_0 := bF_ BK214.out 0; have hfz34_1 := bF_ BK214.out 1; obtain ⟨HGz35, hgz35⟩ := HI0.out; have hcz35_0 := cellS47_0 HGz35; have hcz35_1 := cellS47_1 HGz35; have hfz35_0 := bF_ HGz35 0; have hfz35_1 := bF_ HGz35 1; clear HGz35 hgz35) | (go_at_call 29; (with_reducible refine (resource_positiveScaleInt64.calls k s0_0 (wrap32 (s0_1 - a1_1)) t217 true _ A24.out).mono ?_); rintro e w' ⟨rfl, ⟨nd, rfl⟩⟩; (try first | exact ⟨rfl, _, World.drewN_drewN _ _ _⟩ | exact ⟨rfl, _, Eq.trans (World.drewN_drewN _ _ _) (congrArg (World.drewN _) (Nat.add_assoc _ _ _))⟩)) | (go_at_call 28; (with_reducible refine (resource_int64Add.calls k t217 a1_0 t219 false _ A26.out).mono ?_); rintro e w' ⟨rfl, ⟨nd, rfl⟩⟩; (try first | exact ⟨rfl, _, World.drewN_drewN _ _ _⟩ | exact ⟨rfl, _, Eq.trans (World.drewN_drewN _ _ _) (congrArg (World.drewN _) (Nat.add_assoc _ _ _))⟩)))
       repeat (go_quiet (first | ((with_reducible refine gate_dst (N := 3) rfl ?_); refine box_event ?hg (N := 3) ?hd (cs := #[.int .i64 a1_0, .int .i32 a1_1]) (t := 47) ?hr ?_; (case hd => rfl); (case hg => rfl); (case hr => first | (go_simp; done) | (go_simp; rfl)); intro gb214 hg w32 hbox hb; have n0_ := aM_ (IsS47.below (by repeat (first | (with_reducible first | exact HI0.out | apply IsS47.alloc | apply IsS47.drewN | apply IsS47.drew | apply IsS47.set_0 | apply IsS47.set_1) | exact HI0.out)) hb); have n1_ := aM_ (KeepBut.trans (by repeat (first | (with_reducible first | exact HK.out | apply KeepBut.set_ | apply keep_drewN | apply keep_drew | apply keep_alloc) | exact HK.out)) (KeepBut.of_below hb g none) (.inl rfl)); have n2_ := aM_ (below_step (by repeat (first | (with_reducible first | exact HB.out | apply bB_ | apply wN_ | apply bE_ | refine bS_ ?_ (IsS47.ge HI0.out)) | exact HB.out)) hb); have n3_ := aM_ (hbox); have n4_ := aM_ ((by rw [hg]; exact (keep_size (w := w) (g := g) (row := none) (by repeat (first | (with_reducible first | exact HK.out | apply KeepBut.set_ | apply keep_drewN | apply keep_drew | apply keep_alloc) | exact HK.out))) : w.heap.size ≤ gb214)); have n5_ := aM_ ((Nat.le_trans HW0.out (by rw [hg]; exact (keep_size (w := w) (g := g) (row := none) (by repeat (first | (with_reducible first | exact HK.out | apply KeepBut.set_ | apply keep_drewN | apply keep_drew | apply keep_alloc) | exact HK.out))) : w.heap.size ≤ gb214) : w0.heap.size ≤ gb214)); have n6_ := aM_ ((by rw [hg]; exact Nat.ne_of_lt (IsS47.lt (show IsS47 w0 _ g s0_0 s0_1 from by repeat (first | (with_reducible first | exact HI0.out | apply IsS47.alloc | apply IsS47.drewN | apply IsS47.drew | apply IsS47.set_0 | apply IsS47.set_1) | exact HI0.out))) : g ≠ gb214)); have n7_ := aM_ ((by rw [hg]; exact Nat.ne_of_gt (IsS47.lt (show IsS47 w0 _ g s0_0 s0_1 from by repeat (first | (with_reducible first | exact HI0.out | apply IsS47.alloc | apply IsS47.drewN | apply IsS47.drew | apply IsS47.set_0 | apply IsS47.set_1) | exact HI0.out))) : gb214 ≠ g)); clear HI0; clear HK; clear HB; have HI0 := n0_; have HK := n1_; have HB := n2_; have BK214 := n3_; have GW214 := n4_; have GE214 := n5_; have NB0_214 := n6_; have NB214_0 := n7_; clear n0_ n1_ n2_ n3_ n4_ n5_ n6_ n7_; clear hb hbox hg; have hnb33 := NB214_0.out; have hnc33 := NB0_214.out; have hcz34_0 : w32.cell? ⟨gb214, 0, none⟩ = some (.int .i64 a1_0) := (bC_ BK214.out 0).trans rfl; have hcz34_1 : w32.cell? ⟨gb214, 1, none⟩ = some (.int .i32 a1_1) := (bC_ BK214.out 1).trans rfl; have hfz34_0 := bF_ BK214.out 0; have hfz34_1 := bF_ BK214.out 1; obtain ⟨HGz35, hgz35⟩ := HI0.out; have hcz35_0 := cellS47_0 HGz35; have hcz35_1 := cellS47_1 HGz35; have hfz35_0 := bF_ HGz35 0; have hfz35_1 := bF_ HGz35 1; clear HGz35 hgz35) | (go_at_call 29; (with_reducible refine (resource_positiveScaleInt64.calls k s0_0 (wrap32 (s0_1 - a1_1)) t217 true _ A24.out).mono ?_); rintro e w' ⟨rfl, ⟨nd, rfl⟩⟩; (try first | exact ⟨rfl, _, World.drewN_drewN _ _ _⟩ | exact ⟨rfl, _, Eq.trans (World.drewN_drewN _ _ _) (congrArg (World.drewN _) (Nat.add_assoc _ _ _))⟩)) | (go_at_call 28; (with_reducible refine (resource_int64Add.calls k t217 a1_0 t219 false _ A26.out).mono ?_); rintro e w' ⟨rfl, ⟨nd, rfl⟩⟩; (try first | exact ⟨rfl, _, World.drewN_drewN _ _ _⟩ | exact ⟨rfl, _, Eq.trans (World.drewN_drewN _ _ _) (congrArg (World.drewN _) (Nat.add_assoc _ _ _))⟩))); try go_wp2_with (first | ((with_reducible refine gate_dst (N := 3) rfl ?_); refine box_event ?hg (N := 3) ?hd (cs := #[.int .i64 a1_0, .int .i32 a1_1]) (t := 47) ?hr ?_; (case hd => rfl); (case hg => rfl); (case hr => first | (go_simp; done) | (go_simp; rfl)); intro gb214 hg w32 hbox hb; have n0_ := aM_ (IsS47.below (by repeat (first | (with_reducible first | exact HI0.out | apply IsS47.alloc | apply IsS47.drewN | apply IsS47.drew | apply IsS47.set_0 | apply IsS47.set_1) | exact HI0.out)) hb); have n1_ := aM_ (KeepBut.trans (by repeat (first | (with_reducible first | exact HK.out | apply KeepBut.set_ | apply keep_drewN | apply keep_drew | apply keep_alloc) | exact HK.out)) (KeepBut.of_below hb g none) (.inl rfl)); have n2_ := aM_ (below_step (by repeat (first | (with_reducible first | exact HB.out | apply bB_ | apply wN_ | apply bE_ | refine bS_ ?_ (IsS47.ge HI0.out)) | exact HB.out)) hb); have n3_ := aM_ (hbox); have n4_ := aM_ ((by rw [hg]; exact (keep_size (w := w) (g := g) (row := none) (by repeat (first | (with_reducible first | exact HK.out | apply KeepBut.set_ | apply keep_drewN | apply keep_drew | apply keep_alloc) | exact HK.out))) : w.heap.size ≤ gb214)); have n5_ := aM_ ((Nat.le_trans HW0.out (by rw [hg]; exact (keep_size (w := w) (g := g) (row := none) (by repeat (first | (with_reducible first | exact HK.out | apply KeepBut.set_ | apply keep_drewN | apply keep_drew | apply keep_alloc) | exact HK.out))) : w.heap.size ≤ gb214) : w0.heap.size ≤ gb214)); have n6_ := aM_ ((by rw [hg]; exact Nat.ne_of_lt (IsS47.lt (show IsS47 w0 _ g s0_0 s0_1 from by repeat (first | (with_reducible first | exact HI0.out | apply IsS47.alloc | apply IsS47.drewN | apply IsS47.drew | apply IsS47.set_0 | apply IsS47.set_1) | exact HI0.out))) : g ≠ gb214)); have n7_ := aM_ ((by rw [hg]; exact Nat.ne_of_gt (IsS47.lt (show IsS47 w0 _ g s0_0 s0_1 from by repeat (first | (with_reducible first | exact HI0.out | apply IsS47.alloc | apply IsS47.drewN | apply IsS47.drew | apply IsS47.set_0 | apply IsS47.set_1) | exact HI0.out))) : gb214 ≠ g)); clear HI0; clear HK; clear HB; have HI0 := n0_; have HK := n1_; have HB := n2_; have BK214 := n3_; have GW214 := n4_; have GE214 := n5_; have NB0_214 := n6_; have NB214_0 := n7_; clear n0_ n1_ n2_ n3_ n4_ n5_ n6_ n7_; clear hb hbox hg; have hnb33 := NB214_0.out; have hnc33 := NB0_214.out; have hcz34_0 : w32.cell? ⟨gb214, 0, none⟩ = some (.int .i64 a1_0) := (bC_ BK214.out 0).trans rfl; have hcz34_1 : w32.cell? ⟨gb214, 1, none⟩ = some (.int .i32 a1_1) := (bC_ BK214.out 1).trans rfl; have hfz34_0 := bF_ BK214.out 0; have hfz34_1 := bF_ BK214.out 1; obtain ⟨HGz35, hgz35⟩ := HI0.out; have hcz35_0 := cellS47_0 HGz35; have hcz35_1 := cellS47_1 HGz35; have hfz35_0 := bF_ HGz35 0; have hfz35_1 := bF_ HGz35 1; clear HGz35 hgz35) | (go_at_call 29; (with_reducible refine (resource_positiveScaleInt64.calls k s0_0 (wrap32 (s0_1 - a1_1)) t217 true _ A24.out).mono ?_); rintro e w' ⟨rfl, ⟨nd, rfl⟩⟩; (try first | exact ⟨rfl, _, World.drewN_drewN _ _ _⟩ | exact ⟨rfl, _, Eq.trans (World.drewN_drewN _ _ _) (congrArg (World.drewN _) (Nat.add_assoc _ _ _))⟩)) | (go_at_call 28; (with_reducible refine (resource_int64Add.calls k t217 a1_0 t219 false _ A26.out).mono ?_); rintro e w' ⟨rfl, ⟨nd, rfl⟩⟩; (try first | exact ⟨rfl, _, World.drewN_drewN _ _ _⟩ | exact ⟨rfl, _, Eq.trans (World.drewN_drewN _ _ _) (congrArg (World.drewN _) (Nat.add_assoc _ _ _))⟩))))
       go_ret
       exact ⟨by first | rfl | (simp [errW_none, errW_some] <;> rfl) | (simp [*, errW_none, errW_some] <;> rfl) | (exfalso; contradiction), by repeat (first | (with_reducible first | exact HI0.out | apply IsS47.alloc | apply IsS47.drewN | apply IsS47.drew | apply IsS47.set_0 | apply IsS47.set_1 | refine IsS47.far ?_ NB0_214.out _) | exact HI0.out), by repeat (first | (with_reducible first | exact HB.out | apply bB_ | apply wN_ | apply bE_ | refine bS_ ?_ (IsS47.ge HI0.out) | refine bS_ ?_ GE214.out) | exact HB.out), by repeat (first | (with_reducible first | exact HK.out | apply KeepBut.set_ | apply keep_drewN | apply keep_drew | apply keep_alloc | refine keep_far ?_ GW214.out _) | exact HK.out)⟩
     ·
      replace c25 := Bool.eq_false_iff.mpr c25
      subst c25
      have H1 : (some (false, s0_0, s0_1)) = some (r1, r2, r3) := by rw [if_neg (show ¬ (false = true) by decide)] at H; exact H
      clear H
      have H := H1
      clear H1
      simp only [Option.some.injEq, Prod.mk.injEq] at H
      obtain ⟨rfl, rfl, rfl⟩ := H
      go_enter Try.func19, Try.ntmps19
      go_wp2_with (first | ((with_reducible refine gate_dst (N := 3) rfl ?_); refine box_event ?hg (N := 3) ?hd (cs := #[.int .i64 a1_0, .int .i32 a1_1]) (t := 47) ?hr ?_; (case hd => rfl); (case hg => rfl); (case hr => first | (go_simp; done) | (go_simp; rfl)); intro gb214 hg w36 hbox hb; have n0_ := aM_ (IsS47.below (by repeat (first | (with_reducible first | exact HI0.out | apply IsS47.alloc | apply IsS47.drewN | apply IsS47.drew | apply IsS47.set_0 | apply IsS47.set_1) | exact HI0.out)) hb); have n1_ := aM_ (KeepBut.trans (by repeat (first | (with_reducible first | exact HK.out | apply KeepBut.set_ | apply keep_drewN | apply keep_drew | apply keep_alloc) | exact HK.out)) (KeepBut.of_below hb g none) (.inl rfl)); have n2_ := aM_ (below_step (by repeat (first | (with_reducible first | exact HB.out | apply bB_ | apply wN_ | apply bE_ | refine bS_ ?_ (IsS47.ge HI0.out)) | exact HB.out)) hb); have n3_ := aM_ (hbox); have n4_ := aM_ ((by rw [hg]; exact (keep_size (w := w) (g := g) (row := none) (by repeat (first | (with_reducible first | exact HK.out | apply KeepBut.set_ | apply keep_drewN | apply keep_drew | apply keep_alloc) | exact HK.out))) : w.heap.size ≤ gb214)); have n5_ := aM_ ((Nat.le_trans HW0.out (by rw [hg]; exact (keep_size (w := w) (g := g) (row := none) (by repeat (first | (with_reducible first | exact HK.out | apply KeepBut.set_ | apply keep_drewN | apply keep_drew | apply keep_alloc) | exact HK.out))) : w.heap.size ≤ gb214) : w0.heap.size ≤ gb214)); have n6_ := aM_ ((by rw [hg]; exact Nat.ne_of_lt (IsS47.lt (show IsS47 w0 _ g s0_0 s0_1 from by repeat (first | (with_reducible first | exact HI0.out | apply IsS47.alloc | apply IsS47.drewN | apply IsS47.drew | apply IsS47.set_0 | apply IsS47.set_1) | exact HI0.out))) : g ≠ gb214)); have n7_ := aM_ ((by rw [hg]; exact Nat.ne_of_gt (IsS47.lt (show IsS47 w0 _ g s0_0 s0_1 from by repeat (first | (with_reducible first | exact HI0.out | apply IsS47.alloc | apply IsS47.drewN | apply IsS47.drew | apply IsS47.set_0 | apply IsS47.set_1) | exact HI0.out))) : gb214 ≠ g)); clear HI0; clear HK; clear HB; have HI0 := n0_; have HK := n1_; have HB := n2_; have BK214 := n3_; have GW214 := n4_; have GE214 := n5_; have NB0_214 := n6_; have NB214_0 := n7_; clear n0_ n1_ n2_ n3_ n4_ n5_ n6_ n7_; clear hb hbox hg; have hnb37 := NB214_0.out; have hnc37 := NB0_214.out; have hcz38_0 : w36.cell? ⟨gb214, 0, none⟩ = some (.int .i64 a1_0) := (bC_ BK214.out 0).trans rfl; have hcz38_1 : w36.cell? ⟨gb214, 1, none⟩ = some (.int .i32 a1_1) := (bC_ BK214.out 1).trans rfl; have hfz38_0 := bF_ BK214.out 0; have hfz38_1 := bF_ BK214.out 1; obtain ⟨HGz39, hgz39⟩ := HI0.out; have hcz39_0 := cellS47_0 HGz39; have hcz39_1 := cellS47_1 HGz39; have hfz39_0 := bF_ HGz39 0; have hfz39_1 := bF_ HGz39 1; clear HGz39 hgz39) | (go_at_call 29; (with_reducible refine (resource_positiveScaleInt64.calls k s0_0 (wrap32 (s0_1 - a1_1)) t217 false _ A24.out).mono ?_); rintro e w' ⟨rfl, ⟨nd, rfl⟩⟩; (try first | exact ⟨rfl, _, World.drewN_drewN _ _ _⟩ | exact ⟨rfl, _, Eq.trans (World.drewN_drewN _ _ _) (congrArg (World.drewN _) (Nat.add_assoc _ _ _))⟩)))
      repeat (go_quiet (first | ((with_reducible refine gate_dst (N := 3) rfl ?_); refine box_event ?hg (N := 3) ?hd (cs := #[.int .i64 a1_0, .int .i32 a1_1]) (t := 47) ?hr ?_; (case hd => rfl); (case hg => rfl); (case hr => first | (go_simp; done) | (go_simp; rfl)); intro gb214 hg w36 hbox hb; have n0_ := aM_ (IsS47.below (by repeat (first | (with_reducible first | exact HI0.out | apply IsS47.alloc | apply IsS47.drewN | apply IsS47.drew | apply IsS47.set_0 | apply IsS47.set_1) | exact HI0.out)) hb); have n1_ := aM_ (KeepBut.trans (by repeat (first | (with_reducible first | exact HK.out | apply KeepBut.set_ | apply keep_drewN | apply keep_drew | apply keep_alloc) | exact HK.out)) (KeepBut.of_below hb g none) (.inl rfl)); have n2_ := aM_ (below_step (by repeat (first | (with_reducible first | exact HB.out | apply bB_ | apply wN_ | apply bE_ | refine bS_ ?_ (IsS47.ge HI0.out)) | exact HB.out)) hb); have n3_ := aM_ (hbox); have n4_ := aM_ ((by rw [hg]; exact (keep_size (w := w) (g := g) (row := none) (by repeat (first | (with_reducible first | exact HK.out | apply KeepBut.set_ | apply keep_drewN | apply keep_drew | apply keep_alloc) | exact HK.out))) : w.heap.size ≤ gb214)); have n5_ := aM_ ((Nat.le_trans HW0.out (by rw [hg]; exact (keep_size (w := w) (g := g) (row := none) (by repeat (first | (with_reducible first | exact HK.out | apply KeepBut.set_ | apply keep_drewN | apply keep_drew | apply keep_alloc) | exact HK.out))) : w.heap.size ≤ gb214) : w0.heap.size ≤ gb214)); have n6_ := aM_ ((by rw [hg]; exact Nat.ne_of_lt (IsS47.lt (show IsS47 w0 _ g s0_0 s0_1 from by repeat (first | (with_reducible first | exact HI0.out | apply IsS47.alloc | apply IsS47.drewN | apply IsS47.drew | apply IsS47.set_0 | apply IsS47.set_1) | exact HI0.out))) : g ≠ gb214)); have n7_ := aM_ ((by rw [hg]; exact Nat.ne_of_gt (IsS47.lt (show IsS47 w0 _ g s0_0 s0_1 from by repeat (first | (with_reducible first | exact HI0.out | apply IsS47.alloc | apply IsS47.drewN | apply IsS47.drew | apply IsS47.set_0 | apply IsS47.set_1) | exact HI0.out))) : gb214 ≠ g)); clear HI0; clear HK; clear HB; have HI0 := n0_; have HK := n1_; have HB := n2_; have BK214 := n3_; have GW214 := n4_; have GE214 := n5_; have NB0_214 := n6_; have NB214_0 := n7_; clear n0_ n1_ n2_ n3_ n4_ n5_ n6_ n7_; clear hb hbox hg; have hnb37 := NB214_0.out; have hnc37 := NB0_214.out; have hcz38_0 : w36.cell? ⟨gb214, 0, none⟩ = some (.int .i64 a1_0) := (bC_ BK214.out 0).trans rfl; have hcz38_1 : w36.cell? ⟨gb214, 1, none⟩ = some (.int .i32 a1_1) := (bC_ BK214.out 1).trans rfl; have hfz38_0 := bF_ BK214.out 0; have hfz38_1 := bF_ BK214.out 1; obtain ⟨HGz39, hgz39⟩ := HI0.out; have hcz39_0 := cellS47_0 HGz39; have hcz39_1 := cellS47_1 HGz39; have hfz39_0 := bF_ HGz39 0; have hfz39_1 := bF_ HGz39 1; clear HGz39 hgz39) | (go_at_call 29; (with_reducible refine (resource_positiveScaleInt64.calls k s0_0 (wrap32 (s0_1 - a1_1)) t217 false _ A24.out).mono ?_); rintro e w' ⟨rfl, ⟨nd, rfl⟩⟩; (try first | exact ⟨rfl, _, World.drewN_drewN _ _ _⟩ | exact ⟨rfl, _, Eq.trans (World.drewN_drewN _ _ _) (congrArg (World.drewN _) (Nat.add_assoc _ _ _))⟩))); try go_wp2_with (first | ((with_reducible refine gate_dst (N := 3) rfl ?_); refine box_event ?hg (N := 3) ?hd (cs := #[.int .i64 a1_0, .int .i32 a1_1]) (t := 47) ?hr ?_; (case hd => rfl); (case hg => rfl); (case hr => first | (go_simp; done) | (go_simp; rfl)); intro gb214 hg w36 hbox hb; have n0_ := aM_ (IsS47.below (by repeat (first | (with_reducible first | exact HI0.out | apply IsS47.alloc | apply IsS47.drewN | apply IsS47.drew | apply IsS47.set_0 | apply IsS47.set_1) | exact HI0.out)) hb); have n1_ := aM_ (KeepBut.trans (by repeat (first | (with_reducible first | exact HK.out | apply KeepBut.set_ | apply keep_drewN | apply keep_drew | apply keep_alloc) | exact HK.out)) (KeepBut.of_below hb g none) (.inl rfl)); have n2_ := aM_ (below_step (by repeat (first | (with_reducible first | exact HB.out | apply bB_ | apply wN_ | apply bE_ | refine bS_ ?_ (IsS47.ge HI0.out)) | exact HB.out)) hb); have n3_ := aM_ (hbox); have n4_ := aM_ ((by rw [hg]; exact (keep_size (w := w) (g := g) (row := none) (by repeat (first | (with_reducible first | exact HK.out | apply KeepBut.set_ | apply keep_drewN | apply keep_drew | apply keep_alloc) | exact HK.out))) : w.heap.size ≤ gb214)); have n5_ := aM_ ((Nat.le_trans HW0.out (by rw [hg]; exact (keep_size (w := w) (g := g) (row := none) (by repeat (first | (with_reducible first | exact HK.out | apply KeepBut.set_ | apply keep_drewN | apply keep_drew | apply keep_alloc) | exact HK.out))) : w.heap.size ≤ gb214) : w0.heap.size ≤ gb214)); have n6_ := aM_ ((by rw [hg]; exact Nat.ne_of_lt (IsS47.lt (show IsS47 w0 _ g s0_0 s0_1 from by repeat (first | (with_reducible first | exact HI0.out | apply IsS47.alloc | apply IsS47.drewN | apply IsS47.drew | apply IsS47.set_0 | apply IsS47.set_1) | exact HI0.out))) : g ≠ gb214)); have n7_ := aM_ ((by rw [hg]; exact Nat.ne_of_gt (IsS47.lt (show IsS47 w0 _ g s0_0 s0_1 from by repeat (first | (with_reducible first | exact HI0.out | apply IsS47.alloc | apply IsS47.drewN | apply IsS47.drew | apply IsS47.set_0 | apply IsS47.set_1) | exact HI0.out))) : gb214 ≠ g)); clear HI0; clear HK; clear HB; have HI0 := n0_; have HK := n1_; have HB := n2_; have BK214 := n3_; have GW214 := n4_; have GE214 := n5_; have NB0_214 := n6_; have NB214_0 := n7_; clear n0_ n1_ n2_ n3_ n4_ n5_ n6_ n7_; clear hb hbox hg; have hnb37 := NB214_0.out; have hnc37 := NB0_214.out; have hcz38_0 : w36.cell? ⟨gb214, 0, none⟩ = some (.int .i64 a1_0) := (bC_ BK214.out 0).trans rfl; have hcz38_1 : w36.cell? ⟨gb214, 1, none⟩ = some (.int .i32 a1_1) := (bC_ BK214.out 1).trans rfl; have hfz38_0 := bF_ BK214.out 0; have hfz38_1 := bF_ BK214.out 1; obtain ⟨HGz39, hgz39⟩ := HI0.out; have hcz39_0 := cellS47_0 HGz39; have hcz39_1 := cellS47_1 HGz39; have hfz39_0 := bF_ HGz39 0; have hfz39_1 := bF_ HGz39 1; clear HGz39 hgz39) | (go_at_call 29; (with_reducible refine (resource_positiveScaleInt64.calls k s0_0 (wrap32 (s0_1 - a1_1)) t217 false _ A24.out).mono ?_); rintro e w' ⟨rfl, ⟨nd, rfl⟩⟩; (try first | exact ⟨rfl, _, World.drewN_drewN _ _ _⟩ | exact ⟨rfl, _, Eq.trans (World.drewN_drewN _ _ _) (congrArg (World.drewN _) (Nat.add_assoc _ _ _))⟩))))
      go_ret
      exact ⟨by first | rfl | (simp [errW_none, errW_some] <;> rfl) | (simp [*, errW_none, errW_some] <;> rfl) | (exfalso; contradiction), by repeat (first | (with_reducible first | exact HI0.out | apply IsS47.alloc | apply IsS47.drewN | apply IsS47.drew | apply IsS47.set_0 | apply IsS47.set_1 | refine IsS47.far ?_ NB0_214.out _) | exact HI0.out), by repeat (first | (with_reducible first | exact HB.out | apply bB_ | apply wN_ | apply bE_ | refine bS_ ?_ (IsS47.ge HI0.out) | refine bS_ ?_ GE214.out) | exact HB.out), by repeat (first | (with_reducible first | exact HK.out | apply KeepBut.set_ | apply keep_drewN | apply keep_drew | apply keep_alloc | refine keep_far ?_ GW214.out _) | exact HK.out)⟩
    ·
     rw [if_neg c23] at H
     have c23b0 : decide (a1_1 < s0_1) = false := decide_eq_false c23
     clear c23
     replace H := Option.bind_eq_some_iff.mp H
     obtain ⟨⟨t221, t222⟩, A400, H⟩ := H
     replace H : (if t222 = true then ((resource_int64Add.f k s0_0 t221).bind fun bt223 => (if bt223.2 = true then (some (true, bt223.1, s0_1)) else (some (false, s0_0, s0_1)))) else (some (false, s0_0, s0_1))) = some (r1, r2, r3) := H
     have A40 := aM_ A400
     clear A400
     by_cases c41 : t222 = true
     ·
      subst c41
      have H1 : ((resource_int64Add.f k s0_0 t221).bind fun bt223 => (if bt223.2 = true then (some (true, bt223.1, s0_1)) else (some (false, s0_0, s0_1)))) = some (r1, r2, r3) := by rw [if_pos rfl] at H; exact H
      clear H
      have H := H1
      clear H1
      replace H := Option.bind_eq_some_iff.mp H
      obtain ⟨⟨t223, t224⟩, A420, H⟩ := H
      replace H : (if t224 = true then (some (true, t223, s0_1)) else (some (false, s0_0, s0_1))) = some (r1, r2, r3) := H
      have A42 := aM_ A420
      clear A420
      by_cases c43 : t224 = true
      ·
       subst c43
       have H1 : (some (true, t223, s0_1)) = some (r1, r2, r3) := by rw [if_pos rfl] at H; exact H
       clear H
       have H := H1
       clear H1
       simp only [Option.some.injEq, Prod.mk.injEq] at H
       obtain ⟨rfl, rfl, rfl⟩ := H
       go_enter Try.func19, Try.ntmps19
       go_wp2_with (first | ((with_reducible refine gate_dst (N := 3) rfl ?_); refine box_event ?hg (N := 3) ?hd (cs := #[.int .i64 a1_0, .int .i32 a1_1]) (t := 47) ?hr ?_; (case hd => rfl); (case hg => rfl); (case hr => first | (go_simp; done) | (go_simp; rfl)); intro gb214 hg w44 hbox hb; have n0_ := aM_ (IsS47.below (by repeat (first | (with_reducible first | exact HI0.out | apply IsS47.alloc | apply IsS47.drewN | apply IsS47.drew | apply IsS47.set_0 | apply IsS47.set_1) | exact HI0.out)) hb); have n1_ := aM_ (KeepBut.trans (by repeat (first | (with_reducible first | exact HK.out | apply KeepBut.set_ | apply keep_drewN | apply keep_drew | apply keep_alloc) | exact HK.out)) (KeepBut.of_below hb g none) (.inl rfl)); have n2_ := aM_ (below_step (by repeat (first | (with_reducible first | exact HB.out | apply bB_ | apply wN_ | apply bE_ | refine bS_ ?_ (IsS47.ge HI0.out)) | exact HB.out)) hb); have n3_ := aM_ (hbox); have n4_ := aM_ ((by rw [hg]; exact (keep_size (w := w) (g := g) (row := none) (by repeat (first | (with_reducible first | exact HK.out | apply KeepBut.set_ | apply keep_drewN | apply keep_drew | apply keep_alloc) | exact HK.out))) : w.heap.size ≤ gb214)); have n5_ := aM_ ((Nat.le_trans HW0.out (by rw [hg]; exact (keep_size (w := w) (g := g) (row := none) (by repeat (first | (with_reducible first | exact HK.out | apply KeepBut.set_ | apply keep_drewN | apply keep_drew | apply keep_alloc) | exact HK.out))) : w.heap.size ≤ gb214) : w0.heap.size ≤ gb214)); have n6_ := aM_ ((by rw [hg]; exact Nat.ne_of_lt (IsS47.lt (show IsS47 w0 _ g s0_0 s0_1 from by repeat (first | (with_reducible first | exact HI0.out | apply IsS47.alloc | apply IsS47.drewN | apply IsS47.drew | apply IsS47.set_0 | apply IsS47.set_1) | exact HI0.out))) : g ≠ gb214)); have n7_ := aM_ ((by rw [hg]; exact Nat.ne_of_gt (IsS47.lt (show IsS47 w0 _ g s0_0 s0_1 from by repeat (first | (with_reducible first | exact HI0.out | apply IsS47.alloc | apply IsS47.drewN | apply IsS47.drew | apply IsS47.set_0 | apply IsS47.set_1) | exact HI0.out))) : gb214 ≠ g)); clear HI0; clear HK; clear HB; have HI0 := n0_; have HK := n1_; have HB := n2_; have BK214 := n3_; have GW214 := n4_; have GE214 := n5_; have NB0_214 := n6_; have NB214_0 := n7_; clear n0_ n1_ n2_ n3_ n4_ n5_ n6_ n7_; clear hb hbox hg; have hnb45 := NB214_0.out; have hnc45 := NB0_214.out; have hcz46_0 : w44.cell? ⟨gb214, 0, none⟩ = some (.int .i64 a1_0) := (bC_ BK214.out 0).trans rfl; have hcz46_1 : w44.cell? ⟨gb214, 1, none⟩ = some (.int .i32 a1_1) := (bC_ BK214.out 1).trans rfl; have hfz46_0 := bF_ BK214.out 0; have hfz46_1 := bF_ BK214.out 1; obtain ⟨HGz47, hgz47⟩ := HI0.out; have hcz47_0 := cellS47_0 HGz47; have hcz47_1 := cellS47_1 HGz47; have hfz47_0 := bF_ HGz47 0; have hfz47_1 := bF_ HGz47 1; clear HGz47 hgz47) | (go_at_call 29; (with_reducible refine (resource_positiveScaleInt64.calls k a1_0 (wrap32 (a1_1 - s0_1)) t221 true _ A40.out).mono ?_); rintro e w' ⟨rfl, ⟨nd, rfl⟩⟩; (try first | exact ⟨rfl, _, World.drewN_drewN _ _ _⟩ | exact ⟨rfl, _, Eq.trans (World.drewN_drewN _ _ _) (congrArg (World.drewN _) (Nat.add_assoc _ _ _))⟩)) | (go_at_call 28; (with_reducible refine (resource_int64Add.calls k s0_0 t221 t223 true _ A42.out).mono ?_); rintro e w' ⟨rfl, ⟨nd, rfl⟩⟩; (try first | exact ⟨rfl, _, World.drewN_drewN _ _ _⟩ | exact ⟨rfl, _, Eq.trans (World.drewN_drewN _ _ _) (congrArg (World.drewN _) (Nat.add_assoc _ _ _))⟩)))
       repeat (go_quiet (first | ((with_reducible refine gate_dst (N := 3) rfl ?_); refine box_event ?hg (N := 3) ?hd (cs := #[.int .i64 a1_0, .int .i32 a1_1]) (t := 47) ?hr ?_; (case hd => rfl); (case hg => rfl); (case hr => first | (go_simp; done) | (go_simp; rfl)); intro gb214 hg w44 hbox hb; have n0_ := aM_ (IsS47.below (by repeat (first | (with_reducible first | exact HI0.out | apply IsS47.alloc | apply IsS47.drewN | apply IsS47.drew | apply IsS47.set_0 | apply IsS47.set_1) | exact HI0.out)) hb); have n1_ := aM_ (KeepBut.trans (by repeat (first | (with_reducible first | exact HK.out | apply KeepBut.set_ | apply keep_drewN | apply keep_drew | apply keep_alloc) | exact HK.out)) (KeepBut.of_below hb g none) (.inl rfl)); have n2_ := aM_ (below_step (by repeat (first | (with_reducible first | exact HB.out | apply bB_ | apply wN_ | apply bE_ | refine bS_ ?_ (IsS47.ge HI0.out)) | exact HB.out)) hb); have n3_ := aM_ (hbox); have n4_ := aM_ ((by rw [hg]; exact (keep_size (w := w) (g := g) (row := none) (by repeat (first | (with_reducible first | exact HK.out | apply KeepBut.set_ | apply keep_drewN | apply keep_drew | apply keep_alloc) | exact HK.out))) : w.heap.size ≤ gb214)); have n5_ := aM_ ((Nat.le_trans HW0.out (by rw [hg]; exact (keep_size (w := w) (g := g) (row := none) (by repeat (first | (with_reducible first | exact HK.out | apply KeepBut.set_ | apply keep_drewN | apply keep_drew | apply keep_alloc) | exact HK.out))) : w.heap.size ≤ gb214) : w0.heap.size ≤ gb214)); have n6_ := aM_ ((by rw [hg]; exact Nat.ne_of_lt (IsS47.lt (show IsS47 w0 _ g s0_0 s0_1 from by repeat (first | (with_reducible first | exact HI0.out | apply IsS47.alloc | apply IsS47.drewN | apply IsS47.drew | apply IsS47.set_0 | apply IsS47.set_1) | exact HI0.out))) : g ≠ gb214)); have n7_ := aM_ ((by rw [hg]; exact Nat.ne_of_gt (IsS47.lt (show IsS47 w0 _ g s0_0 s0_1 from by repeat (first | (with_reducible first | exact HI0.out | apply IsS47.alloc | apply IsS47.drewN | apply IsS47.drew | apply IsS47.set_0 | apply IsS47.set_1) | exact HI0.out))) : gb214 ≠ g)); clear HI0; clear HK; clear HB; have HI0 := n0_; have HK := n1_; have HB := n2_; have BK214 := n3_; have GW214 := n4_; have GE214 := n5_; have NB0_214 := n6_; have NB214_0 := n7_; clear n0_ n1_ n2_ n3_ n4_ n5_ n6_ n7_; clear hb hbox hg; have hnb45 := NB214_0.out; have hnc45 := NB0_214.out; have hcz46_0 : w44.cell? ⟨gb214, 0, none⟩ = some (.int .i64 a1_0) := (bC_ BK214.out 0).trans rfl; have hcz46_1 : w44.cell? ⟨gb214, 1, none⟩ = some (.int .i32 a1_1) := (bC_ BK214.out 1).trans rfl; have hfz46_0 := bF_ BK214.out 0; have hfz46_1 := bF_ BK214.out 1; obtain ⟨HGz47, hgz47⟩ := HI0.out; have hcz47_0 := cellS47_0 HGz47; have hcz47_1 := cellS47_1 HGz47; have hfz47_0 := bF_ HGz47 0; have hfz47_1 := bF_ HGz47 1; clear HGz47 hgz47) | (go_at_call 29; (with_reducible refine (resource_positiveScaleInt64.calls k a1_0 (wrap32 (a1_1 - s0_1)) t221 true _ A40.out).mono ?_); rintro e w' ⟨rfl, ⟨nd, rfl⟩⟩; (try first | exact ⟨rfl, _, World.drewN_drewN _ _ _⟩ | exact ⟨rfl, _, Eq.trans (World.drewN_drewN _ _ _) (congrArg (World.drewN _) (Nat.add_assoc _ _ _))⟩)) | (go_at_call 28; (with_reducible refine (resource_int64Add.calls k s0_0 t221 t223 true _ A42.out).mono ?_); rintro e w' ⟨rfl, ⟨nd, rfl⟩⟩; (try first | exact ⟨rfl, _, World.drewN_drewN _ _ _⟩ | exact ⟨rfl, _, Eq.trans (World.drewN_drewN _ _ _) (congrArg (World.drewN _) (Nat.add_assoc _ _ _))⟩))); try go_wp2_with (first | ((with_reducible refine gate_dst (N := 3) rfl ?_); refine box_event ?hg (N := 3) ?hd (cs := #[.int .i64 a1_0, .int .i32 a1_1]) (t := 47) ?hr ?_; (case hd => rfl); (case hg => rfl); (case hr => first | (go_simp; done) | (go_simp; rfl)); intro gb214 hg w44 hbox hb; have n0_ := aM_ (IsS47.below (by repeat (first | (with_reducible first | exact HI0.out | apply IsS47.alloc | apply IsS47.drewN | apply IsS47.drew | apply IsS47.set_0 | apply IsS47.set_1) | exact HI0.out)) hb); have n1_ := aM_ (KeepBut.trans (by repeat (first | (with_reducible first | exact HK.out | apply KeepBut.set_ | apply keep_drewN | apply keep_drew | apply keep_alloc) | exact HK.out)) (KeepBut.of_below hb g none) (.inl rfl)); have n2_ := aM_ (below_step (by repeat (first | (with_reducible first | exact HB.out | apply bB_ | apply wN_ | apply bE_ | refine bS_ ?_ (IsS47.ge HI0.out)) | exact HB.out)) hb); have n3_ := aM_ (hbox); have n4_ := aM_ ((by rw [hg]; exact (keep_size (w := w) (g := g) (row := none) (by repeat (first | (with_reducible first | exact HK.out | apply KeepBut.set_ | apply keep_drewN | apply keep_drew | apply keep_alloc) | exact HK.out))) : w.heap.size ≤ gb214)); have n5_ := aM_ ((Nat.le_trans HW0.out (by rw [hg]; exact (keep_size (w := w) (g := g) (row := none) (by repeat (first | (with_reducible first | exact HK.out | apply KeepBut.set_ | apply keep_drewN | apply keep_drew | apply keep_alloc) | exact HK.out))) : w.heap.size ≤ gb214) : w0.heap.size ≤ gb214)); have n6_ := aM_ ((by rw [hg]; exact Nat.ne_of_lt (IsS47.lt (show IsS47 w0 _ g s0_0 s0_1 from by repeat (first | (with_reducible first | exact HI0.out | apply IsS47.alloc | apply IsS47.drewN | apply IsS47.drew | apply IsS47.set_0 | apply IsS47.set_1) | exact HI0.out))) : g ≠ gb214)); have n7_ := aM_ ((by rw [hg]; exact Nat.ne_of_gt (IsS47.lt (show IsS47 w0 _ g s0_0 s0_1 from by repeat (first | (with_reducible first | exact HI0.out | apply IsS47.alloc | apply IsS47.drewN | apply IsS47.drew | apply IsS47.set_0 | apply IsS47.set_1) | exact HI0.out))) : gb214 ≠ g)); clear HI0; clear HK; clear HB; have HI0 := n0_; have HK := n1_; have HB := n2_; have BK214 := n3_; have GW214 := n4_; have GE214 := n5_; have NB0_214 := n6_; have NB214_0 := n7_; clear n0_ n1_ n2_ n3_ n4_ n5_ n6_ n7_; clear hb hbox hg; have hnb45 := NB214_0.out; have hnc45 := NB0_214.out; have hcz46_0 : w44.cell? ⟨gb214, 0, none⟩ = some (.int .i64 a1_0) := (bC_ BK214.out 0).trans rfl; have hcz46_1 : w44.cell? ⟨gb214, 1, none⟩ = some (.int .i32 a1_1) := (bC_ BK214.out 1).trans rfl; have hfz46_0 := bF_ BK214.out 0; have hfz46_1 := bF_ BK214.out 1; obtain ⟨HGz47, hgz47⟩ := HI0.out; have hcz47_0 := cellS47_0 HGz47; have hcz47_1 := cellS47_1 HGz47; have hfz47_0 := bF_ HGz47 0; have hfz47_1 := bF_ HGz47 1; clear HGz47 hgz47) | (go_at_call 29; (with_reducible refine (resource_positiveScaleInt64.calls k a1_0 (wrap32 (a1_1 - s0_1)) t221 true _ A40.out).mono ?_); rintro e w' ⟨rfl, ⟨nd, rfl⟩⟩; (try first | exact ⟨rfl, _, World.drewN_drewN _ _ _⟩ | exact ⟨rfl, _, Eq.trans (World.drewN_drewN _ _ _) (congrArg (World.drewN _) (Nat.add_assoc _ _ _))⟩)) | (go_at_call 28; (with_reducible refine (resource_int64Add.calls k s0_0 t221 t223 true _ A42.out).mono ?_); rintro e w' ⟨rfl, ⟨nd, rfl⟩⟩; (try first | exact ⟨rfl, _, World.drewN_drewN _ _ _⟩ | exact ⟨rfl, _, Eq.trans (World.drewN_drewN _ _ _) (congrArg (World.drewN _) (Nat.add_assoc _ _ _))⟩))))
       go_ret
       exact ⟨by first | rfl | (simp [errW_none, errW_some] <;> rfl) | (simp [*, errW_none, errW_some] <;> rfl) | (exfalso; contradiction), by repeat (first | (with_reducible first | exact HI0.out | apply IsS47.alloc | apply IsS47.drewN | apply IsS47.drew | apply IsS47.set_0 | apply IsS47.set_1 | refine IsS47.far ?_ NB0_214.out _) | exact HI0.out), by repeat (first | (with_reducible first | exact HB.out | apply bB_ | apply wN_ | apply bE_ | refine bS_ ?_ (IsS47.ge HI0.out) | refine bS_ ?_ GE214.out) | exact HB.out), by repeat (first | (with_reducible first | exact HK.out | apply KeepBut.set_ | apply keep_drewN | apply keep_drew | apply keep_alloc | refine keep_far ?_ GW214.out _) | exact HK.out)⟩
      ·
       replace c43 := Bool.eq_false_iff.mpr c43
       subst c43
       have H1 : (some (false, s0_0, s0_1)) = some (r1, r2, r3) := by rw [if_neg (show ¬ (false = true) by decide)] at H; exact H
       clear H
       have H := H1
       clear H1
       simp only [Option.some.injEq, Prod.mk.injEq] at H
       obtain ⟨rfl, rfl, rfl⟩ := H
       go_enter Try.func19, Try.ntmps19
       go_wp2_with (first | ((with_reducible refine gate_dst (N := 3) rfl ?_); refine box_event ?hg (N := 3) ?hd (cs := #[.int .i64 a1_0, .int .i32 a1_1]) (t := 47) ?hr ?_; (case hd => rfl); (case hg => rfl); (case hr => first | (go_simp; done) | (go_simp; rfl)); intro gb214 hg w48 hbox hb; have n0_ := aM_ (IsS47.below (by repeat (first | (with_reducible first | exact HI0.out | apply IsS47.alloc | apply IsS47.drewN | apply IsS47.drew | apply IsS47.set_0 | apply IsS47.set_1) | exact HI0.out)) hb); have n1_ := aM_ (KeepBut.trans (by repeat (first | (with_reducible first | exact HK.out | apply KeepBut.set_ | apply keep_drewN | apply keep_drew | apply keep_alloc) | exact HK.out)) (KeepBut.of_below hb g none) (.inl rfl)); have n2_ := aM_ (below_step (by repeat (first | (with_reducible first | exact HB.out | apply bB_ | apply wN_ | apply bE_ | refine bS_ ?_ (IsS47.ge HI0.out)) | exact HB.out)) hb); have n3_ := aM_ (hbox); have n4_ := aM_ ((by rw [hg]; exact (keep_size (w := w) (g := g) (row := none) (by repeat (first | (with_reducible first | exact HK.out | apply KeepBut.set_ | apply keep_drewN | apply keep_drew | apply keep_alloc) | exact HK.out))) : w.heap.size ≤ gb214)); have n5_ := aM_ ((Nat.le_trans HW0.out (by rw [hg]; exact (keep_size (w := w) (g := g) (row := none) (by repeat (first | (with_reducible first | exact HK.out | apply KeepBut.set_ | apply keep_drewN | apply keep_drew | apply keep_alloc) | exact HK.out))) : w.heap.size ≤ gb214) : w0.heap.size ≤ gb214)); have n6_ := aM_ ((by rw [hg]; exact Nat.ne_of_lt (IsS47.lt (show IsS47 w0 _ g s0_0 s0_1 from by repeat (first | (with_reducible first | exact HI0.out | apply IsS47.alloc | apply IsS47.drewN | apply IsS47.drew | apply IsS47.set_0 | apply IsS47.set_1) | exact HI0.out))) : g ≠ gb214)); have n7_ := aM_ ((by rw [hg]; exact Nat.ne_of_gt (IsS47.lt (show IsS47 w0 _ g s0_0 s0_1 from by repeat (first | (with_reducible first | exact HI0.out | apply IsS47.alloc | apply IsS47.drewN | apply IsS47.drew | apply IsS47.set_0 | apply IsS47.set_1) | exact HI0.out))) : gb214 ≠ g)); clear HI0; clear HK; clear HB; have HI0 := n0_; have HK := n1_; have HB := n2_; have BK214 := n3_; have GW214 := n4_; have GE214 := n5_; have NB0_214 := n6_; have NB214_0 := n7_; clear n0_ n1_ n2_ n3_ n4_ n5_ n6_ n7_; clear hb hbox hg; have hnb49 := NB214_0.out; have hnc49 := NB0_214.out; have hcz50_0 : w48.cell? ⟨gb214, 0, none⟩ = some (.int .i64 a1_0) := (bC_ BK214.out 0).trans rfl; have hcz50_1 : w48.cell? ⟨gb214, 1, none⟩ = some (.int .i32 a1_1) := (bC_ BK214.out 1).trans rfl; have hfz50_0 := bF_ BK214.out 0; have hfz50_1 := bF_ BK214.out 1; obtain ⟨HGz51, hgz51⟩ := HI0.out; have hcz51_0 := cellS47_0 HGz51; have hcz51_1 := cellS47_1 HGz51; have hfz51_0 := bF_ HGz51 0; have hfz51_1 := bF_ HGz51 1; clear HGz51 hgz51) | (go_at_call 29; (with_reducible refine (resource_positiveScaleInt64.calls k a1_0 (wrap32 (a1_1 - s0_1)) t221 true _ A40.out).mono ?_); rintro e w' ⟨rfl, ⟨nd, rfl⟩⟩; (try first | exact ⟨rfl, _, World.drewN_drewN _ _ _⟩ | exact ⟨rfl, _, Eq.trans (World.drewN_drewN _ _ _) (congrArg (World.drewN _) (Nat.add_assoc _ _ _))⟩)) | (go_at_call 28; (with_reducible refine (resource_int64Add.calls k s0_0 t221 t223 false _ A42.out).mono ?_); rintro e w' ⟨rfl, ⟨nd, rfl⟩⟩; (try first | exact ⟨rfl, _, World.drewN_drewN _ _ _⟩ | exact ⟨rfl, _, Eq.trans (World.drewN_drewN _ _ _) (congrArg (World.drewN _) (Nat.add_assoc _ _ _))⟩)))
       repeat (go_quiet (first | ((with_reducible refine gate_dst (N := 3) rfl ?_); refine box_event ?hg (N := 3) ?hd (cs := #[.int .i64 a1_0, .int .i32 a1_1]) (t := 47) ?hr ?_; (case hd => rfl); (case hg => rfl); (case hr => first | (go_simp; done) | (go_simp; rfl)); intro gb214 hg w48 hbox hb; have n0_ := aM_ (IsS47.below (by repeat (first | (with_reducible first | exact HI0.out | apply IsS47.alloc | apply IsS47.drewN | apply IsS47.drew | apply IsS47.set_0 | apply IsS47.set_1) | exact HI0.out)) hb); have n1_ := aM_ (KeepBut.trans (by repeat (first | (with_reducible first | exact HK.out | apply KeepBut.set_ | apply keep_drewN | apply keep_drew | apply keep_alloc) | exact HK.out)) (KeepBut.of_below hb g none) (.inl rfl)); have n2_ := aM_ (below_step (by repeat (first | (with_reducible first | exact HB.out | apply bB_ | apply wN_ | apply bE_ | refine bS_ ?_ (IsS47.ge HI0.out)) | exact HB.out)) hb); have n3_ := aM_ (hbox); have n4_ := aM_ ((by rw [hg]; exact (keep_size (w := w) (g := g) (row := none) (by repeat (first | (with_reducible first | exact HK.out | apply KeepBut.set_ | apply keep_drewN | apply keep_drew | apply keep_alloc) | exact HK.out))) : w.heap.size ≤ gb214)); have n5_ := aM_ ((Nat.le_trans HW0.out (by rw [hg]; exact (keep_size (w := w) (g := g) (row := none) (by repeat (first | (with_reducible first | exact HK.out | apply KeepBut.set_ | apply keep_drewN | apply keep_drew | apply keep_alloc) | exact HK.out))) : w.heap.size ≤ gb214) : w0.heap.size ≤ gb214)); have n6_ := aM_ ((by rw [hg]; exact Nat.ne_of_lt (IsS47.lt (show IsS47 w0 _ g s0_0 s0_1 from by repeat (first | (with_reducible first | exact HI0.out | apply IsS47.alloc | apply IsS47.drewN | apply IsS47.drew | apply IsS47.set_0 | apply IsS47.set_1) | exact HI0.out))) : g ≠ gb214)); have n7_ := aM_ ((by rw [hg]; exact Nat.ne_of_gt (IsS47.lt (show IsS47 w0 _ g s0_0 s0_1 from by repeat (first | (with_reducible first | exact HI0.out | apply IsS47.alloc | apply IsS47.drewN | apply IsS47.drew | apply IsS47.set_0 | apply IsS47.set_1) | exact HI0.out))) : gb214 ≠ g)); clear HI0; clear HK; clear HB; have HI0 := n0_; have HK := n1_; have HB := n2_; have BK214 := n3_; have GW214 := n4_; have GE214 := n5_; have NB0_214 := n6_; have NB214_0 := n7_; clear n0_ n1_ n2_ n3_ n4_ n5_ n6_ n7_; clear hb hbox hg; have hnb49 := NB214_0.out; have hnc49 := NB0_214.out; have hcz50_0 : w48.cell? ⟨gb214, 0, none⟩ = some (.int .i64 a1_0) := (bC_ BK214.out 0).trans rfl; have hcz50_1 : w48.cell? ⟨gb214, 1, none⟩ = some (.int .i32 a1_1) := (bC_ BK214.out 1).trans rfl; have hfz50_0 := bF_ BK214.out 0; have hfz50_1 := bF_ BK214.out 1; obtain ⟨HGz51, hgz51⟩ := HI0.out; have hcz51_0 := cellS47_0 HGz51; have hcz51_1 := cellS47_1 HGz51; have hfz51_0 := bF_ HGz51 0; have hfz51_1 := bF_ HGz51 1; clear HGz51 hgz51) | (go_at_call 29; (with_reducible refine (resource_positiveScaleInt64.calls k a1_0 (wrap32 (a1_1 - s0_1)) t221 true _ A40.out).mono ?_); rintro e w' ⟨rfl, ⟨nd, rfl⟩⟩; (try first | exact ⟨rfl, _, World.drewN_drewN _ _ _⟩ | exact ⟨rfl, _, Eq.trans (World.drewN_drewN _ _ _) (congrArg (World.drewN _) (Nat.add_assoc _ _ _))⟩)) | (go_at_call 28; (with_reducible refine (resource_int64Add.calls k s0_0 t221 t223 false _ A42.out).mono ?_); rintro e w' ⟨rfl, ⟨nd, rfl⟩⟩; (try first | exact ⟨rfl, _, World.drewN_drewN _ _ _⟩ | exact ⟨rfl, _, Eq.trans (World.drewN_drewN _ _ _) (congrArg (World.drewN _) (Nat.add_assoc _ _ _))⟩))); try go_wp2_with (first | ((with_reducible refine gate_dst (N := 3) rfl ?_); refine box_event ?hg (N := 3) ?hd (cs := #[.int .i64 a1_0, .int .i32 a1_1]) (t := 47) ?hr ?_; (case hd => rfl); (case hg => rfl); (case hr => first | (go_simp; done) | (go_simp; rfl)); intro gb214 hg w48 hbox hb; have n0_ := aM_ (IsS47.below (by repeat (first | (with_reducible first | exact HI0.out | apply IsS47.alloc | apply IsS47.drewN | apply IsS47.drew | apply IsS47.set_0 | apply IsS47.set_1) | exact HI0.out)) hb); have n1_ := aM_ (KeepBut.trans (by repeat (first | (with_reducible first | exact HK.out | apply KeepBut.set_ | apply keep_drewN | apply keep_drew | apply keep_alloc) | exact HK.out)) (KeepBut.of_below hb g none) (.inl rfl)); have n2_ := aM_ (below_step (by repeat (first | (with_reducible first | exact HB.out | apply bB_ | apply wN_ | apply bE_ | refine bS_ ?_ (IsS47.ge HI0.out)) | exact HB.out)) hb); have n3_ := aM_ (hbox); have n4_ := aM_ ((by rw [hg]; exact (keep_size (w := w) (g := g) (row := none) (by repeat (first | (with_reducible first | exact HK.out | apply KeepBut.set_ | apply keep_drewN | apply keep_drew | apply keep_alloc) | exact HK.out))) : w.heap.size ≤ gb214)); have n5_ := aM_ ((Nat.le_trans HW0.out (by rw [hg]; exact (keep_size (w := w) (g := g) (row := none) (by repeat (first | (with_reducible first | exact HK.out | apply KeepBut.set_ | apply keep_drewN | apply keep_drew | apply keep_alloc) | exact HK.out))) : w.heap.size ≤ gb214) : w0.heap.size ≤ gb214)); have n6_ := aM_ ((by rw [hg]; exact Nat.ne_of_lt (IsS47.lt (show IsS47 w0 _ g s0_0 s0_1 from by repeat (first | (with_reducible first | exact HI0.out | apply IsS47.alloc | apply IsS47.drewN | apply IsS47.drew | apply IsS47.set_0 | apply IsS47.set_1) | exact HI0.out))) : g ≠ gb214)); have n7_ := aM_ ((by rw [hg]; exact Nat.ne_of_gt (IsS47.lt (show IsS47 w0 _ g s0_0 s0_1 from by repeat (first | (with_reducible first | exact HI0.out | apply IsS47.alloc | apply IsS47.drewN | apply IsS47.drew | apply IsS47.set_0 | apply IsS47.set_1) | exact HI0.out))) : gb214 ≠ g)); clear HI0; clear HK; clear HB; have HI0 := n0_; have HK := n1_; have HB := n2_; have BK214 := n3_; have GW214 := n4_; have GE214 := n5_; have NB0_214 := n6_; have NB214_0 := n7_; clear n0_ n1_ n2_ n3_ n4_ n5_ n6_ n7_; clear hb hbox hg; have hnb49 := NB214_0.out; have hnc49 := NB0_214.out; have hcz50_0 : w48.cell? ⟨gb214, 0, none⟩ = some (.int .i64 a1_0) := (bC_ BK214.out 0).trans rfl; have hcz50_1 : w48.cell? ⟨gb214, 1, none⟩ = some (.int .i32 a1_1) := (bC_ BK214.out 1).trans rfl; have hfz50_0 := bF_ BK214.out 0; have hfz50_1 := bF_ BK214.out 1; obtain ⟨HGz51, hgz51⟩ := HI0.out; have hcz51_0 := cellS47_0 HGz51; have hcz51_1 := cellS47_1 HGz51; have hfz51_0 := bF_ HGz51 0; have hfz51_1 := bF_ HGz51 1; clear HGz51 hgz51) | (go_at_call 29; (with_reducible refine (resource_positiveScaleInt64.calls k a1_0 (wrap32 (a1_1 - s0_1)) t221 true _ A40.out).mono ?_); rintro e w' ⟨rfl, ⟨nd, rfl⟩⟩; (try first | exact ⟨rfl, _, World.drewN_drewN _ _ _⟩ | exact ⟨rfl, _, Eq.trans (World.drewN_drewN _ _ _) (congrArg (World.drewN _) (Nat.add_assoc _ _ _))⟩)) | (go_at_call 28; (with_reducible refine (resource_int64Add.calls k s0_0 t221 t223 false _ A42.out).mono ?_); rintro e w' ⟨rfl, ⟨nd, rfl⟩⟩; (try first | exact ⟨rfl, _, World.drewN_drewN _ _ _⟩ | exact ⟨rfl, _, Eq.trans (World.drewN_drewN _ _ _) (congrArg (World.drewN _) (Nat.add_assoc _ _ _))⟩))))
       go_ret
       exact ⟨by first | rfl | (simp [errW_none, errW_some] <;> rfl) | (simp [*, errW_none, errW_some] <;> rfl) | (exfalso; contradiction), by repeat (first | (with_reducible first | exact HI0.out | apply IsS47.alloc | apply IsS47.drewN | apply IsS47.drew | apply IsS47.set_0 | apply IsS47.set_1 | refine IsS47.far ?_ NB0_214.out _) | exact HI0.out), by repeat (first | (with_reducible first | exact HB.out | apply bB_ | apply wN_ | apply bE_ | refine bS_ ?_ (IsS47.ge HI0.out) | refine bS_ ?_ GE214.out) | exact HB.out), by repeat (first | (with_reducible first | exact HK.out | apply KeepBut.set_ | apply keep_drewN | apply keep_drew | apply keep_alloc | refine keep_far ?_ GW214.out _) | exact HK.out)⟩
     ·
      replace c41 := Bool.eq_false_iff.mpr c41
      subst c41
      have H1 : (some (false, s0_0, s0_1)) = some (r1, r2, r3) := by rw [if_neg (show ¬ (false = true) by decide)] at H; exact H
      clear H
      have H := H1
      clear H1
      simp only [Option.some.injEq, Prod.mk.injEq] at H
      obtain ⟨rfl, rfl, rfl⟩ := H
      go_enter Try.func19, Try.ntmps19
      go_wp2_with (first | ((with_reducible refine gate_dst (N := 3) rfl ?_); refine box_event ?hg (N := 3) ?hd (cs := #[.int .i64 a1_0, .int .i32 a1_1]) (t := 47) ?hr ?_; (case hd => rfl); (case hg => rfl); (case hr => first | (go_simp; done) | (go_simp; rfl)); intro gb214 hg w52 hbox hb; have n0_ := aM_ (IsS47.below (by repeat (first | (with_reducible first | exact HI0.out | apply IsS47.alloc | apply IsS47.drewN | apply IsS47.drew | apply IsS47.set_0 | apply IsS47.set_1) | exact HI0.out)) hb); have n1_ := aM_ (KeepBut.trans (by repeat (first | (with_reducible first | exact HK.out | apply KeepBut.set_ | apply keep_drewN | apply keep_drew | apply keep_alloc) | exact HK.out)) (KeepBut.of_below hb g none) (.inl rfl)); have n2_ := aM_ (below_step (by repeat (first | (with_reducible first | exact HB.out | apply bB_ | apply wN_ | apply bE_ | refine bS_ ?_ (IsS47.ge HI0.out)) | exact HB.out)) hb); have n3_ := aM_ (hbox); have n4_ := aM_ ((by rw [hg]; exact (keep_size (w := w) (g := g) (row := none) (by repeat (first | (with_reducible first | exact HK.out | apply KeepBut.set_ | apply keep_drewN | apply keep_drew | apply keep_alloc) | exact HK.out))) : w.heap.size ≤ gb214)); have n5_ := aM_ ((Nat.le_trans HW0.out (by rw [hg]; exact (keep_size (w := w) (g := g) (row := none) (by repeat (first | (with_reducible first | exact HK.out | apply KeepBut.set_ | apply keep_drewN | apply keep_drew | apply keep_alloc) | exact HK.out))) : w.heap.size ≤ gb214) : w0.heap.size ≤ gb214)); have n6_ := aM_ ((by rw [hg]; exact Nat.ne_of_lt (IsS47.lt (show IsS47 w0 _ g s0_0 s0_1 from by repeat (first | (with_reducible first | exact HI0.out | apply IsS47.alloc | apply IsS47.drewN | apply IsS47.drew | apply IsS47.set_0 | apply IsS47.set_1) | exact HI0.out))) : g ≠ gb214)); have n7_ := aM_ ((by rw [hg]; exact Nat.ne_of_gt (IsS47.lt (show IsS47 w0 _ g s0_0 s0_1 from by repeat (first | (with_reducible first | exact HI0.out | apply IsS47.alloc | apply IsS47.drewN | apply IsS47.drew | apply IsS47.set_0 | apply IsS47.set_1) | exact HI0.out))) : gb214 ≠ g)); clear HI0; clear HK; clear HB; have HI0 := n0_; have HK := n1_; have HB := n2_; have BK214 := n3_; have GW214 := n4_; have GE214 := n5_; have NB0_214 := n6_; have NB214_0 := n7_; clear n0_ n1_ n2_ n3_ n4_ n5_ n6_ n7_; clear hb hbox hg; have hnb53 := NB214_0.out; have hnc53 := NB0_214.out; have hcz54_0 : w52.cell? ⟨gb214, 0, none⟩ = some (.int .i64 a1_0) := (bC_ BK214.out 0).trans rfl; have hcz54_1 : w52.cell? ⟨gb214, 1, none⟩ = some (.int .i32 a1_1) := (bC_ BK214.out 1).trans rfl; have hfz54_0 := bF_ BK214.out 0; have hfz54_1 := bF_ BK214.out 1; obtain ⟨HGz55, hgz55⟩ := HI0.out; have hcz55_0 := cellS47_0 HGz55; have hcz55_1 := cellS47_1 HGz55; have hfz55_0 := bF_ HGz55 0; have hfz55_1 := bF_ HGz55 1; clear HGz55 hgz55) | (go_at_call 29; (with_reducible refine (resource_positiveScaleInt64.calls k a1_0 (wrap32 (a1_1 - s0_1)) t221 false _ A40.out).mono ?_); rintro e w' ⟨rfl, ⟨nd, rfl⟩⟩; (try first | exact ⟨rfl, _, World.drewN_drewN _ _ _⟩ | exact ⟨rfl, _, Eq.trans (World.drewN_drewN _ _ _) (congrArg (World.drewN _) (Nat.add_assoc _ _ _))⟩)))
      repeat (go_quiet (first | ((with_reducible refine gate_dst (N := 3) rfl ?_); refine box_event ?hg (N := 3) ?hd (cs := #[.int .i64 a1_0, .int .i32 a1_1]) (t := 47) ?hr ?_; (case hd => rfl); (case hg => rfl); (case hr => first | (go_simp; done) | (go_simp; rfl)); intro gb214 hg w52 hbox hb; have n0_ := aM_ (IsS47.below (by repeat (first | (with_reducible first | exact HI0.out | apply IsS47.alloc | apply IsS47.drewN | apply IsS47.drew | apply IsS47.set_0 | apply IsS47.set_1) | exact HI0.out)) hb); have n1_ := aM_ (KeepBut.trans (by repeat (first | (with_reducible first | exact HK.out | apply KeepBut.set_ | apply keep_drewN | apply keep_drew | apply keep_alloc) | exact HK.out)) (KeepBut.of_below hb g none) (.inl rfl)); have n2_ := aM_ (below_step (by repeat (first | (with_reducible first | exact HB.out | apply bB_ | apply wN_ | apply bE_ | refine bS_ ?_ (IsS47.ge HI0.out)) | exact HB.out)) hb); have n3_ := aM_ (hbox); have n4_ := aM_ ((by rw [hg]; exact (keep_size (w := w) (g := g) (row := none) (by repeat (first | (with_reducible first | exact HK.out | apply KeepBut.set_ | apply keep_drewN | apply keep_drew | apply keep_alloc) | exact HK.out))) : w.heap.size ≤ gb214)); have n5_ := aM_ ((Nat.le_trans HW0.out (by rw [hg]; exact (keep_size (w := w) (g := g) (row := none) (by repeat (first | (with_reducible first | exact HK.out | apply KeepBut.set_ | apply keep_drewN | apply keep_drew | apply keep_alloc) | exact HK.out))) : w.heap.size ≤ gb214) : w0.heap.size ≤ gb214)); have n6_ := aM_ ((by rw [hg]; exact Nat.ne_of_lt (IsS47.lt (show IsS47 w0 _ g s0_0 s0_1 from by repeat (first | (with_reducible first | exact HI0.out | apply IsS47.alloc | apply IsS47.drewN | apply IsS47.drew | apply IsS47.set_0 | apply IsS47.set_1) | exact HI0.out))) : g ≠ gb214)); have n7_ := aM_ ((by rw [hg]; exact Nat.ne_of_gt (IsS47.lt (show IsS47 w0 _ g s0_0 s0_1 from by repeat (first | (with_reducible first | exact HI0.out | apply IsS47.alloc | apply IsS47.drewN | apply IsS47.drew | apply IsS47.set_0 | apply IsS47.set_1) | exact HI0.out))) : gb214 ≠ g)); clear HI0; clear HK; clear HB; have HI0 := n0_; have HK := n1_; have HB := n2_; have BK214 := n3_; have GW214 := n4_; have GE214 := n5_; have NB0_214 := n6_; have NB214_0 := n7_; clear n0_ n1_ n2_ n3_ n4_ n5_ n6_ n7_; clear hb hbox hg; have hnb53 := NB214_0.out; have hnc53 := NB0_214.out; have hcz54_0 : w52.cell? ⟨gb214, 0, none⟩ = some (.int .i64 a1_0) := (bC_ BK214.out 0).trans rfl; have hcz54_1 : w52.cell? ⟨gb214, 1, none⟩ = some (.int .i32 a1_1) := (bC_ BK214.out 1).trans rfl; have hfz54_0 := bF_ BK214.out 0; have hfz54_1 := bF_ BK214.out 1; obtain ⟨HGz55, hgz55⟩ := HI0.out; have hcz55_0 := cellS47_0 HGz55; have hcz55_1 := cellS47_1 HGz55; have hfz55_0 := bF_ HGz55 0; have hfz55_1 := bF_ HGz55 1; clear HGz55 hgz55) | (go_at_call 29; (with_reducible refine (resource_positiveScaleInt64.calls k a1_0 (wrap32 (a1_1 - s0_1)) t221 false _ A40.out).mono ?_); rintro e w' ⟨rfl, ⟨nd, rfl⟩⟩; (try first | exact ⟨rfl, _, World.drewN_drewN _ _ _⟩ | exact ⟨rfl, _, Eq.trans (World.drewN_drewN _ _ _) (congrArg (World.drewN _) (Nat.add_assoc _ _ _))⟩))); try go_wp2_with (first | ((with_reducible refine gate_dst (N := 3) rfl ?_); refine box_event ?hg (N := 3) ?hd (cs := #[.int .i64 a1_0, .int .i32 a1_1]) (t := 47) ?hr ?_; (case hd => rfl); (case hg => rfl); (case hr => first | (go_simp; done) | (go_simp; rfl)); intro gb214 hg w52 hbox hb; have n0_ := aM_ (IsS47.below (by repeat (first | (with_reducible first | exact HI0.out | apply IsS47.alloc | apply IsS47.drewN | apply IsS47.drew | apply IsS47.set_0 | apply IsS47.set_1) | exact HI0.out)) hb); have n1_ := aM_ (KeepBut.trans (by repeat (first | (with_reducible first | exact HK.out | apply KeepBut.set_ | apply keep_drewN | apply keep_drew | apply keep_alloc) | exact HK.out)) (KeepBut.of_below hb g none) (.inl rfl)); have n2_ := aM_ (below_step (by repeat (first | (with_reducible first | exact HB.out | apply bB_ | apply wN_ | apply bE_ | refine bS_ ?_ (IsS47.ge HI0.out)) | exact HB.out)) hb); have n3_ := aM_ (hbox); have n4_ := aM_ ((by rw [hg]; exact (keep_size (w := w) (g := g) (row := none) (by repeat (first | (with_reducible first | exact HK.out | apply KeepBut.set_ | apply keep_drewN | apply keep_drew | apply keep_alloc) | exact HK.out))) : w.heap.size ≤ gb214)); have n5_ := aM_ ((Nat.le_trans HW0.out (by rw [hg]; exact (keep_size (w := w) (g := g) (row := none) (by repeat (first | (with_reducible first | exact HK.out | apply KeepBut.set_ | apply keep_drewN | apply keep_drew | apply keep_alloc) | exact HK.out))) : w.heap.size ≤ gb214) : w0.heap.size ≤ gb214)); have n6_ := aM_ ((by rw [hg]; exact Nat.ne_of_lt (IsS47.lt (show IsS47 w0 _ g s0_0 s0_1 from by repeat (first | (with_reducible first | exact HI0.out | apply IsS47.alloc | apply IsS47.drewN | apply IsS47.drew | apply IsS47.set_0 | apply IsS47.set_1) | exact HI0.out))) : g ≠ gb214)); have n7_ := aM_ ((by rw [hg]; exact Nat.ne_of_gt (IsS47.lt (show IsS47 w0 _ g s0_0 s0_1 from by repeat (first | (with_reducible first | exact HI0.out | apply IsS47.alloc | apply IsS47.drewN | apply IsS47.drew | apply IsS47.set_0 | apply IsS47.set_1) | exact HI0.out))) : gb214 ≠ g)); clear HI0; clear HK; clear HB; have HI0 := n0_; have HK := n1_; have HB := n2_; have BK214 := n3_; have GW214 := n4_; have GE214 := n5_; have NB0_214 := n6_; have NB214_0 := n7_; clear n0_ n1_ n2_ n3_ n4_ n5_ n6_ n7_; clear hb hbox hg; have hnb53 := NB214_0.out; have hnc53 := NB0_214.out; have hcz54_0 : w52.cell? ⟨gb214, 0, none⟩ = some (.int .i64 a1_0) := (bC_ BK214.out 0).trans rfl; have hcz54_1 : w52.cell? ⟨gb214, 1, none⟩ = some (.int .i32 a1_1) := (bC_ BK214.out 1).trans rfl; have hfz54_0 := bF_ BK214.out 0; have hfz54_1 := bF_ BK214.out 1; obtain ⟨HGz55, hgz55⟩ := HI0.out; have hcz55_0 := cellS47_0 HGz55; have hcz55_1 := cellS47_1 HGz55; have hfz55_0 := bF_ HGz55 0; have hfz55_1 := bF_ HGz55 1; clear HGz55 hgz55) | (go_at_call 29; (with_reducible refine (resource_positiveScaleInt64.calls k a1_0 (wrap32 (a1_1 - s0_1)) t221 false _ A40.out).mono ?_); rintro e w' ⟨rfl, ⟨nd, rfl⟩⟩; (try first | exact ⟨rfl, _, World.drewN_drewN _ _ _⟩ | exact ⟨rfl, _, Eq.trans (World.drewN_drewN _ _ _) (congrArg (World.drewN _) (Nat.add_assoc _ _ _))⟩))))
      go_ret
      exact ⟨by first | rfl | (simp [errW_none, errW_some] <;> rfl) | (simp [*, errW_none, errW_some] <;> rfl) | (exfalso; contradiction), by repeat (first | (with_reducible first | exact HI0.out | apply IsS47.alloc | apply IsS47.drewN | apply IsS47.drew | apply IsS47.set_0 | apply IsS47.set_1 | refine IsS47.far ?_ NB0_214.out _) | exact HI0.out), by repeat (first | (with_reducible first | exact HB.out | apply bB_ | apply wN_ | apply bE_ | refine bS_ ?_ (IsS47.ge HI0.out) | refine bS_ ?_ GE214.out) | exact HB.out), by repeat (first | (with_reducible first | exact HK.out | apply KeepBut.set_ | apply keep_drewN | apply keep_drew | apply keep_alloc | refine keep_far ?_ GW214.out _) | exact HK.out)⟩

/-! ### resource_int64Amount_ZzParts: function 20 -/
def resource_int64Amount_ZzParts.f (a0_0 : Int) (a0_1 : Int) : Option (Int × Int) := some (a0_0, a0_1)
set_option maxHeartbeats 8000000 in
set_option maxRecDepth 100000 in
theorem resource_int64Amount_ZzParts.calls (a0_0 : Int) (a0_1 : Int) (r1 : Int) (r2 : Int) (w : World) (h : resource_int64Amount_ZzParts.f a0_0 a0_1 = some (r1, r2)) :
  Calls Try.prog 20 #[.agg #[.int .i64 a0_0, .int .i32 a0_1]] w fun e w' => e = .returned (.tuple #[.int .i64 r1, .int .i32 r2]) ∧ Below w.heap.size w w' := by
 have hu47 := Try.underlying47
 have HB := aM_ (Below.refl w.heap.size w)
 have H : (some (a0_0, a0_1)) = some (r1, r2) := h
 clear h
 simp only [Option.some.injEq, Prod.mk.injEq] at H
 obtain ⟨rfl, rfl⟩ := H
 go_enter Try.func20, Try.ntmps20
 go_wp2_with (first | ((with_reducible refine gate_dst (N := 1) rfl ?_); refine box_event ?hg (N := 1) ?hd (cs := #[.int .i64 a0_0, .int .i32 a0_1]) (t := 47) ?hr ?_; (case hd => rfl); (case hg => rfl); (case hr => first | (go_simp; done) | (go_simp; rfl)); intro gb225 hg w2 hbox hb; have n0_ := aM_ (below_step (by repeat (first | (with_reducible first | exact HB.out | apply bB_ | apply wN_ | apply bE_) | exact HB.out)) hb); have n1_ := aM_ (hbox); have n2_ := aM_ ((by rw [hg]; exact (below_size (by repeat (first | (with_reducible first | exact HB.out | apply bB_ | apply wN_ | apply bE_) | exact HB.out))) : w.heap.size ≤ gb225)); have n3_ := aM_ ((by rw [hg]; exact (below_size (by repeat (first | (with_reducible first | exact HB.out | apply bB_ | apply wN_ | apply bE_) | exact HB.out))) : w.heap.size ≤ gb225)); clear HB; have HB := n0_; have BK225 := n1_; have GW225 := n2_; have GE225 := n3_; clear n0_ n1_ n2_ n3_; clear hb hbox hg; have hcz3_0 : w2.cell? ⟨gb225, 0, none⟩ = some (.int .i64 a0_0) := (bC_ BK225.out 0).trans rfl; have hcz3_1 : w2.cell? ⟨gb225, 1, none⟩ = some (.int .i32 a0_1) := (bC_ BK225.out 1).trans rfl; have hfz3_0 := bF_ BK225.out 0; have hfz3_1 := bF_ BK225.out 1))
 repeat (go_quiet (first | ((with_reducible refine gate_dst (N := 1) rfl ?_); refine box_event ?hg (N := 1) ?hd (cs := #[.int .i64 a0_0, .int .i32 a0_1]) (t := 47) ?hr ?_; (case hd => rfl); (case hg => rfl); (case hr => first | (go_simp; done) | (go_simp; rfl)); intro gb225 hg w2 hbox hb; have n0_ := aM_ (below_step (by repeat (first | (with_reducible first | exact HB.out | apply bB_ | apply wN_ | apply bE_) | exact HB.out)) hb); have n1_ := aM_ (hbox); have n2_ := aM_ ((by rw [hg]; exact (below_size (by repeat (first | (with_reducible first | exact HB.out | apply bB_ | apply wN_ | apply bE_) | exact HB.out))) : w.heap.size ≤ gb225)); have n3_ := aM_ ((by rw [hg]; exact (below_size (by repeat (first | (with_reducible first | exact HB.out | apply bB_ | apply wN_ | apply bE_) | exact HB.out))) : w.heap.size ≤ gb225)); clear HB; have HB := n0_; have BK225 := n1_; have GW225 := n2_; have GE225 := n3_; clear n0_ n1_ n2_ n3_; clear hb hbox hg; have hcz3_0 : w2.cell? ⟨gb225, 0, none⟩ = some (.int .i64 a0_0) := (bC_ BK225.out 0).trans rfl; have hcz3_1 : w2.cell? ⟨gb225, 1, none⟩ = some (.int .i32 a0_1) := (bC_ BK225.out 1).trans rfl; have hfz3_0 := bF_ BK225.out 0; have hfz3_1 := bF_ BK225.out 1)); try go_wp2_with (first | ((with_reducible refine gate_dst (N := 1) rfl ?_); refine box_event ?hg (N := 1) ?hd (cs := #[.int .i64 a0_0, .int .i32 a0_1]) (t := 47) ?hr ?_; (case hd => rfl); (case hg => rfl); (case hr => first | (go_simp; done) | (go_simp; rfl)); intro gb225 hg w2 hbox hb; have n0_ := aM_ (below_step (by repeat (first | (with_reducible first | exact HB.out | apply bB_ | apply wN_ | apply bE_) | exact HB.out)) hb); have n1_ := aM_ (hbox); have n2_ := aM_ ((by rw [hg]; exact (below_size (by repeat (first | (with_reducible first | exact HB.out | apply bB_ | apply wN_ | apply bE_) | exact HB.out))) : w.heap.size ≤ gb225)); have n3_ := aM_ ((by rw [hg]; exact (below_size (by repeat (first | (with_reducible first | exact HB.out | apply bB_ | apply wN_ | apply bE_) | exact HB.out))) : w.heap.size ≤ gb225)); clear HB; have HB := n0_; have BK225 := n1_; have GW225 := n2_; have GE225 := n3_; clear n0_ n1_ n2_ n3_; clear hb hbox hg; have hcz3_0 : w2.cell? ⟨gb225, 0, none⟩ = some (.int .i64 a0_0) := (bC_ BK225.out 0).trans rfl; have hcz3_1 : w2.cell? ⟨gb225, 1, none⟩ = some (.int .i32 a0_1) := (bC_ BK225.out 1).trans rfl; have hfz3_0 := bF_ BK225.out 0; have hfz3_1 := bF_ BK225.out 1)))
 go_ret2
 exact ⟨by first | rfl | (simp [errW_none, errW_some] <;> rfl) | (simp [*, errW_none, errW_some] <;> rfl) | (exfalso; contradiction), by repeat (first | (with_reducible first | exact HB.out | apply bB_ | apply wN_ | apply bE_ | refine bS_ ?_ GE225.out) | exact HB.out)⟩

/-! ### impl_AmountAdd: function 7 -/
def impl_AmountAdd.f (k : Nat) (a0_0 : Int) (a0_1 : Int) (a1_0 : Int) (a1_1 : Int) : Option (Int × Int × Bool) := (resource_int64Amount_Add.f k a0_0 (wrap32 a0_1) a1_0 (wrap32 a1_1)).bind fun t => some (t.2.1, wrap64 t.2.2, t.1)
theorem impl_AmountAdd.mono : ∀ a0 a1 a2 a3 k, LeO (impl_AmountAdd.f k a0 a1 a2 a3) (impl_AmountAdd.f (k + 1) a0 a1 a2 a3) := by
 intro a0 a1 a2 a3 k
 unfold impl_AmountAdd.f
 exact LeO.bind (resource_int64Amount_Add.mono _ _ _ _ _) (fun _ => LeO.refl _)
set_option maxHeartbeats 1000000 in
theorem impl_AmountAdd.calls (k : Nat) (a0_0 : Int) (a0_1 : Int) (a1_0 : Int) (a1_1 : Int) (r1 : Int) (r2 : Int) (r3 : Bool) (w : World) (h : impl_AmountAdd.f k a0_0 a0_1 a1_0 a1_1 = some (r1, r2, r3)) :
  Calls Try.prog 7 #[.agg #[.int .i64 a0_0, .int .i64 a0_1], .agg #[.int .i64 a1_0, .int .i64 a1_1]] w fun e w' => e = .returned (.tuple #[.agg #[.int .i64 r1, .int .i64 r2], .bool r3]) ∧ Below w.heap.size w w' := by
 have hu1 := Try.underlying23
 have hu2 := Try.underlying47
 unfold impl_AmountAdd.f at h
 replace h := Option.bind_eq_some_iff.mp h
 obtain ⟨⟨t1, t2, t3⟩, hA, h⟩ := h
 simp only [Option.some.injEq, Prod.mk.injEq] at h
 obtain ⟨rfl, rfl, rfl⟩ := h
 have A1 := aM_ hA
 clear hA
 go_enter Try.func7, Try.ntmps7
 go_wp2_with fail
 refine (resource_ZzAmount.calls _ _ _ _ _ rfl).mono ?_
 rintro e w1 ⟨rfl, hb1⟩
 have B1 : Aside0 (Below w.heap.size w w1) := ⟨below_step (bB_ (bB_ (bB_ (Below.refl _ _) _) _) _) hb1⟩
 have hA : Aside0 (w1.heap[w.heap.size + 1]? = some (.cells #[.int .i64 a1_0, .int .i64 a1_1] 23 (0, 0))) := ⟨blk_below (bA_ (by simpa using blk_new (w.alloc (.cells #[.int .i64 a0_0, .int .i64 a0_1] 23)) (.cells #[.int .i64 a1_0, .int .i64 a1_1] 23)) _) hb1⟩
 have hR : Aside0 (w1.heap[w.heap.size + 2]? = some (.cells #[.int .i64 0, .int .i64 0] 23 (0, 0))) := ⟨blk_below (by simpa using blk_new ((w.alloc (.cells #[.int .i64 a0_0, .int .i64 a0_1] 23)).alloc (.cells #[.int .i64 a1_0, .int .i64 a1_1] 23)) (.cells #[.int .i64 0, .int .i64 0] 23)) hb1⟩
 have hz1 : w.heap.size + 2 < w1.heap.size := by have := hb1.size; simp at this; omega
 have hz2 : w.heap.size + 1 < w1.heap.size := by omega
 have c0 : w1.cell? ⟨w.heap.size + 1, 0, none⟩ = some (.int .i64 a1_0) := bC_ hA.out 0
 have c1 : w1.cell? ⟨w.heap.size + 1, 1, none⟩ = some (.int .i64 a1_1) := bC_ hA.out 1
 clear hb1
 go_wp2_with fail
 refine (resource_ZzAmount.calls _ _ _ _ _ rfl).mono ?_
 rintro e w2 ⟨rfl, hb2⟩
 clear c0 c1 hz2 hA
 have B2 : Aside0 (Below w.heap.size w w2) := ⟨below_step (bB_ B1.out _) hb2⟩
 have HI : Aside0 (IsS47 w w2 w1.heap.size a0_0 (wrap32 a0_1)) := ⟨(IsS47.new w w1 _ _ B1.out).below hb2⟩
 have hR2 : Aside0 (w2.heap[w.heap.size + 2]? = some (.cells #[.int .i64 0, .int .i64 0] 23 (0, 0))) := ⟨blk_below (bA_ hR.out _) hb2⟩
 clear hb2 hR
 go_wp2_with fail
 refine (resource_int64Amount_Add.calls k _ _ _ _ _ _ _ _ w _ HI.out B2.out A1.out).mono ?_
 rintro e w3 ⟨rfl, hi3, hb3, hk3⟩
 have hR3 : Aside0 (w3.heap[w.heap.size + 2]? = some (.cells #[.int .i64 0, .int .i64 0] 23 (0, 0))) := ⟨hk3.blk hR2.out (by omega) (by simp)⟩
 have B3 := aM_ hb3
 have d0 : w3.cell? ⟨w1.heap.size, 0, none⟩ = some (.int .i64 t2) := bC_ hi3.1 0
 have d1 : w3.cell? ⟨w1.heap.size, 1, none⟩ = some (.int .i32 t3) := bC_ hi3.1 1
 clear hi3 hb3 hk3 hR2 HI B2 B1 hz1
 go_wp2_with fail
 refine (resource_int64Amount_ZzParts.calls _ _ _ _ _ rfl).mono ?_
 rintro e w4 ⟨rfl, hb4⟩
 have B4 : Aside0 (Below w.heap.size w w4) := ⟨below_step B3.out hb4⟩
 have hR4 := blk_below hR3.out hb4
 have e0 : w4.cell? ⟨w.heap.size + 1 + 1, 0, none⟩ = some (.int .i64 0) := bC_ hR4 0
 have e1 : w4.cell? ⟨w.heap.size + 1 + 1, 1, none⟩ = some (.int .i64 0) := bC_ hR4 1
 have f0 : w4.frozen? ⟨w.heap.size + 1 + 1, 0, none⟩ = false := bF_ hR4 0
 have f1 : w4.frozen? ⟨w.heap.size + 1 + 1, 1, none⟩ = false := bF_ hR4 1
 clear hb4 hR4 hR3 B3 d0 d1
 go_wp2_with fail
 exact bodyPost_ret (v := .tuple #[.agg #[.int .i64 t2, .int .i64 (wrap64 t3)], .bool t1]) (by simp [results, Try.results7, go_sem, e0, e1]) rfl ⟨rfl, bS_ (bS_ B4.out (by omega)) (by omega)⟩
/-! ### laws_amountAwake: function 13 -/
def laws_amountAwake.f (k : Nat)  : Option (Bool) := (impl_AmountAdd.f k 2 3 5 2).bind fun bt226 => (if bt226.2.2 = true then ((spec_DecimalOf.f k 25 2).bind fun bt230 => ((laws_amountIs.f k bt226.1 bt226.2.1 bt230.1 bt230.2.1 bt230.2.2).bind fun t235 => (some t235))) else (some false))
theorem laws_amountAwake.mono : ∀ k, LeO (laws_amountAwake.f k ) (laws_amountAwake.f (k + 1) ) := by
 intro  k
 unfold laws_amountAwake.f
 repeat' first
   | (with_reducible exact impl_AmountAdd.mono _ _ _ _ _)
   | (with_reducible exact laws_amountIs.mono _ _ _ _ _ _)
   | (with_reducible exact spec_DecimalOf.mono _ _ _)
   | (with_reducible exact LeO.refl _)
   | (with_reducible exact LeO.none _)
   | (with_reducible refine LeO.ite ?_ ?_)
   | (with_reducible refine LeO.bind ?_ (fun _ => ?_))
   | exact impl_AmountAdd.mono _ _ _ _ _
   | exact laws_amountIs.mono _ _ _ _ _ _
   | exact spec_DecimalOf.mono _ _ _
   | exact LeO.none _
   | refine LeO.ite ?_ ?_
   | refine LeO.bind ?_ (fun _ => ?_)
set_option maxHeartbeats 8000000 in
set_option maxRecDepth 100000 in
theorem laws_amountAwake.calls (k : Nat)  (r : Bool) (w : World) (h : laws_amountAwake.f k  = some r) :
  Calls Try.prog 13 #[] w fun e w' => e = .returned (.bool r) ∧ Below w.heap.size w w' := by
 have hu23 := Try.underlying23
 have HB := aM_ (Below.refl w.heap.size w)
 have H : ((impl_AmountAdd.f k 2 3 5 2).bind fun bt226 => (if bt226.2.2 = true then ((spec_DecimalOf.f k 25 2).bind fun bt230 => ((laws_amountIs.f k bt226.1 bt226.2.1 bt230.1 bt230.2.1 bt230.2.2).bind fun t235 => (some t235))) else (some false))) = some r := h
 clear h
 replace H := Option.bind_eq_some_iff.mp H
 obtain ⟨⟨t226, t227, t228⟩, A10, H⟩ := H
 replace H : (if t228 = true then ((spec_DecimalOf.f k 25 2).bind fun bt230 => ((laws_amountIs.f k t226 t227 bt230.1 bt230.2.1 bt230.2.2).bind fun t235 => (some t235))) else (some false)) = some r := H
 have A1 := aM_ A10
 clear A10
 by_cases c2 : t228 = true
 ·
  subst c2
  have H1 : ((spec_DecimalOf.f k 25 2).bind fun bt230 => ((laws_amountIs.f k t226 t227 bt230.1 bt230.2.1 bt230.2.2).bind fun t235 => (some t235))) = some r := by rw [if_pos rfl] at H; exact H
  clear H
  have H := H1
  clear H1
  replace H := Option.bind_eq_some_iff.mp H
  obtain ⟨⟨t230, t231, t234⟩, A30, H⟩ := H
  replace H : ((laws_amountIs.f k t226 t227 t230 t231 t234).bind fun t235 => (some t235)) = some r := H
  have A3 := aM_ A30
  clear A30
  replace H := Option.bind_eq_some_iff.mp H
  obtain ⟨t235, A40, H⟩ := H
  replace H : (some t235) = some r := H
  have A4 := aM_ A40
  clear A40
  obtain rfl := Option.some.inj H
  go_enter Try.func13, Try.ntmps13
  try go_wp2_with (first | ((with_reducible refine gate_callee (f := 7) rfl ?_); refine goesL_ (some 6) rfl rfl Try.func7 (by kernel_rfl) rfl #[.agg #[.int .i64 2, .int .i64 3], .agg #[.int .i64 5, .int .i64 2]] rfl (by (try simp only [List.map_toArray, List.map_cons, List.map_nil]); first | done | rfl | (simp only [List.length_drop, List.length_take]; rfl)) ?_; (with_reducible refine (impl_AmountAdd.calls k 2 3 5 2 t226 t227 true _ A1.out).mono ?_); rintro e w5 ⟨rfl, hb⟩; refine ⟨_, rfl, ?_⟩; have n0_ := aM_ (below_step (by repeat (first | (with_reducible first | exact HB.out | apply bB_ | apply wN_ | apply bE_) | exact HB.out)) hb); clear HB; have HB := n0_; clear n0_; (try clear hb); (try clear hb2); (try clear hk); (try clear hi)) | ((with_reducible refine gate_dst (N := 1) rfl ?_); refine box_event ?hg (N := 1) ?hd (cs := #[.int .i64 0, .int .i64 0]) (t := 23) ?hr ?_; (case hd => rfl); (case hg => rfl); (case hr => first | (go_simp; done) | (go_simp; rfl)); intro gb229 hg w6 hbox hb; have n0_ := aM_ (below_step (by repeat (first | (with_reducible first | exact HB.out | apply bB_ | apply wN_ | apply bE_) | exact HB.out)) hb); have n1_ := aM_ (hbox); have n2_ := aM_ ((by rw [hg]; exact (below_size (by repeat (first | (with_reducible first | exact HB.out | apply bB_ | apply wN_ | apply bE_) | exact HB.out))) : w.heap.size ≤ gb229)); have n3_ := aM_ ((by rw [hg]; exact (below_size (by repeat (first | (with_reducible first | exact HB.out | apply bB_ | apply wN_ | apply bE_) | exact HB.out))) : w.heap.size ≤ gb229)); clear HB; have HB := n0_; have BK229 := n1_; have GW229 := n2_; have GE229 := n3_; clear n0_ n1_ n2_ n3_; clear hb hbox hg; have hcz7_0 : w6.cell? ⟨gb229, 0, none⟩ = some (.int .i64 0) := (bC_ BK229.out 0).trans rfl; have hcz7_1 : w6.cell? ⟨gb229, 1, none⟩ = some (.int .i64 0) := (bC_ BK229.out 1).trans rfl; have hfz7_0 := bF_ BK229.out 0; have hfz7_1 := bF_ BK229.out 1))
  have n0_ : Aside0 (((w6.setCell ⟨gb229, 0, none⟩ (.int .i64 t226)).setCell ⟨gb229, 1, none⟩ (.int .i64 t227)).heap[gb229]? = some (.cells #[.int .i64 t226, .int .i64 t227] 23 (0, 0))) := ⟨by (with_reducible repeat (first | refine bN_ ?_ _ | refine bD_ ?_ | refine bA_ ?_ _)); refine blk_put (cs := #[.int .i64 t226, .int .i64 0]) ?_ 1 _ rfl; (with_reducible repeat (first | refine bN_ ?_ _ | refine bD_ ?_ | refine bA_ ?_ _)); refine blk_put (cs := #[.int .i64 0, .int .i64 0]) ?_ 0 _ rfl; (with_reducible repeat (first | refine bN_ ?_ _ | refine bD_ ?_ | refine bA_ ?_ _)); exact BK229.out⟩
  have n1_ : Aside0 (Below w.heap.size w ((w6.setCell ⟨gb229, 0, none⟩ (.int .i64 t226)).setCell ⟨gb229, 1, none⟩ (.int .i64 t227))) := ⟨by repeat (first | (with_reducible first | exact HB.out | apply bB_ | apply wN_ | apply bE_ | refine bS_ ?_ GE229.out) | exact HB.out)⟩
  (try clear BK229)
  (try clear HB)
  generalize ((w6.setCell ⟨gb229, 0, none⟩ (.int .i64 t226)).setCell ⟨gb229, 1, none⟩ (.int .i64 t227)) = w8 at n0_ n1_ ⊢
  have BK229 := n0_
  have HB := n1_
  clear n0_ n1_
  have n0_ := aM_ (bD_ BK229.out)
  have n1_ := aM_ (bE_ HB.out)
  clear BK229
  clear HB
  have BK229 := n0_
  have HB := n1_
  clear n0_ n1_
  refine start_ (n := 7) (S := fun w' => w'.cell? ⟨gb229, 0, none⟩ = some (.int .i64 t226) ∧ w'.cell? ⟨gb229, 1, none⟩ = some (.int .i64 t227)) (ds := []) #[false, false, false, false, false, false, false] (by kernel_rfl) rfl rfl ⟨(bC_ BK229.out 0).trans rfl, (bC_ BK229.out 1).trans rfl⟩ (fun hHeld => ?_)
  generalize w8.drew = w9 at BK229 HB hHeld ⊢
  refine pure_ (i := 0) (N := some 9) (v := ?_) (a' := ?_) #[true, false, false, false, false, false, false] rfl rfl (by kernel_rfl) (fun _ _ _ h => h) (Or.inl ⟨by rfl, ?_⟩) ?_ ?_
  rotate_left
  ·
   intro w'
   go_simp
   with_reducible rfl
  rotate_left
  ·
   simp only [Act.put, List.setIfInBounds_toArray, List.set_cons_zero, List.set_cons_succ, i64_w, i32_w]
   rfl
  refine pure_ (i := 1) (N := some 10) (v := ?_) (a' := ?_) #[true, true, false, false, false, false, false] rfl rfl (by kernel_rfl) (fun _ _ _ h => h) (Or.inl ⟨by rfl, ?_⟩) ?_ ?_
  rotate_left
  ·
   intro w'
   go_simp
   with_reducible rfl
  rotate_left
  ·
   simp only [Act.put, List.setIfInBounds_toArray, List.set_cons_zero, List.set_cons_succ, i64_w, i32_w]
   rfl
  refine take_ (i := 2) (N := some 11) (v := ?_) (a' := ?_) #[true, true, true, false, false, false, false] rfl rfl (by kernel_rfl) (fun _ _ _ h => h) (Or.inl ⟨by rfl, ?_⟩) hHeld ?_ ?_
  rotate_left
  ·
   rintro w' ⟨s0, s1⟩
   go_simp
   with_reducible rfl
  rotate_left
  ·
   simp only [Act.put, List.setIfInBounds_toArray, List.set_cons_zero, List.set_cons_succ, i64_w, i32_w]
   rfl
  refine one_ (i := 3) (N := some 12) #[true, true, true, true, false, false, false] rfl rfl (by kernel_rfl) (by decide) (fun K hK => ?_)
  refine goes_ Try.func12 (by kernel_rfl) rfl #[.int .i64 25, .int .i64 2] (by rfl) rfl rfl (by (try simp only [List.map_toArray, List.map_cons, List.map_nil]); first | done | rfl | (simp only [List.length_drop, List.length_take]; rfl)) ?_
  with_reducible refine (spec_DecimalOf.calls k 25 2 t230 t231 t234 _ A3.out).mono ?_
  rintro e w10 ⟨v232, rfl, ho0, hb⟩
  refine ⟨_, rfl, ?_⟩
  have n0_ := aM_ (Kd.R_lower ho0 (below_size (by repeat (first | (with_reducible first | exact HB.out | apply bB_ | apply wN_ | apply bE_ | refine bS_ ?_ GE229.out) | exact HB.out))))
  have n1_ := aM_ (blk_below (g := gb229) (o := .cells #[.int .i64 t226, .int .i64 t227] 23 (0, 0)) (by (with_reducible repeat (first | refine bN_ ?_ _ | refine bD_ ?_ | refine bA_ ?_ _)); exact BK229.out) hb)
  have n2_ := aM_ (below_step (by repeat (first | (with_reducible first | exact HB.out | apply bB_ | apply wN_ | apply bE_ | refine bS_ ?_ GE229.out) | exact HB.out)) hb)
  clear BK229
  clear HB
  have HO233 := n0_
  have BK229 := n1_
  have HB := n2_
  clear n0_ n1_ n2_
  (try clear hb)
  (try clear hb2)
  (try clear hk)
  (try clear hi)
  (try clear ho0)
  obtain ⟨Ao11, co11, eo11⟩ := Kd.R_slice HO233.out
  (first | subst eo11 | (injection eo11 with f1_ f2_ f3_; have f4_ := f1_.symm; have f5_ := f3_.symm; clear f1_ f2_ f3_; subst f4_; subst f5_))
  refine hK.out _ _ ⟨(bC_ BK229.out 0).trans rfl, (bC_ BK229.out 1).trans rfl⟩ (fun hHeld => ?_)
  clear hK K
  refine norm_ (a' := ?_) ?_ ?_
  rotate_left
  ·
   show Act.put _ (some 12) _ = _
   simp only [Act.put, List.setIfInBounds_toArray, List.set_cons_zero, List.set_cons_succ, i64_w, i32_w]
   rfl
  refine one_ (i := 4) (N := some 13) #[true, true, true, true, true, false, false] rfl rfl (by kernel_rfl) (by decide) (fun K hK => ?_)
  refine goes_ Try.func9 (by kernel_rfl) rfl #[.agg #[.int .i64 t226, .int .i64 t227], .agg #[.bool t230, .slice Ao11 t231.length co11, .int .i64 t234]] (by rfl) rfl rfl (by (try simp only [List.map_toArray, List.map_cons, List.map_nil]); first | done | rfl | (simp only [List.length_drop, List.length_take]; rfl)) ?_
  with_reducible refine (laws_amountIs.calls k t226 t227 t230 _ _ t231 t234 t235 _ ?side1 ?side2 A4.out).mono ?_
  (case side1 => repeat (first | exact (Kd.R_reads' HO233.out).2.2 | (with_reducible refine Kd.C_alloc ?_ _) | (with_reducible refine Kd.C_drewN ?_ _) | (with_reducible refine Kd.C_drew ?_)))
  (case side2 => exact (Kd.R_reads' HO233.out).2.1)
  rintro e w12 ⟨rfl, hb⟩
  refine ⟨_, rfl, ?_⟩
  have n0_ := aM_ (Kd.R_below (by (with_reducible repeat (first | apply kA_ | apply kN_ | apply kD_)); exact HO233.out) hb)
  have n1_ := aM_ (blk_below (g := gb229) (o := .cells #[.int .i64 t226, .int .i64 t227] 23 (0, 0)) (by (with_reducible repeat (first | refine bN_ ?_ _ | refine bD_ ?_ | refine bA_ ?_ _)); exact BK229.out) hb)
  have n2_ := aM_ (below_step (by repeat (first | (with_reducible first | exact HB.out | apply bB_ | apply wN_ | apply bE_ | refine bS_ ?_ GE229.out) | exact HB.out)) hb)
  clear HO233
  clear BK229
  clear HB
  have HO233 := n0_
  have BK229 := n1_
  have HB := n2_
  clear n0_ n1_ n2_
  (try clear hb)
  (try clear hb2)
  (try clear hk)
  (try clear hi)
  refine hK.out _ _ ⟨(bC_ BK229.out 0).trans rfl, (bC_ BK229.out 1).trans rfl⟩ (fun hHeld => ?_)
  clear hK K
  refine norm_ (a' := ?_) ?_ ?_
  rotate_left
  ·
   show Act.put _ (some 13) _ = _
   simp only [Act.put, List.setIfInBounds_toArray, List.set_cons_zero, List.set_cons_succ, i64_w, i32_w]
   rfl
  refine pure_ (i := 5) (N := some 14) (v := ?_) (a' := ?_) #[true, true, true, true, true, true, false] rfl rfl (by kernel_rfl) (fun _ _ _ h => h) (Or.inl ⟨by rfl, ?_⟩) ?_ ?_
  rotate_left
  ·
   intro w'
   go_simp
   with_reducible rfl
  rotate_left
  ·
   simp only [Act.put, List.setIfInBounds_toArray, List.set_cons_zero, List.set_cons_succ, i64_w, i32_w]
   rfl
  refine pure_ (i := 6) (N := some 0) (v := ?_) (a' := ?_) #[true, true, true, true, true, true, true] rfl rfl (by kernel_rfl) (fun _ _ _ h => h) (Or.inl ⟨by rfl, ?_⟩) ?_ ?_
  rotate_left
  ·
   intro w'
   go_simp
   with_reducible rfl
  rotate_left
  ·
   simp only [Act.put, List.setIfInBounds_toArray, List.set_cons_zero, List.set_cons_succ, i64_w, i32_w]
   rfl
  refine done_ (by kernel_rfl) ?_
  try go_wp2
  go_ret
  exact ⟨by first | rfl | (simp [errW_none, errW_some] <;> rfl) | (simp [*, errW_none, errW_some] <;> rfl) | (exfalso; contradiction), by repeat (first | (with_reducible first | exact HB.out | apply bB_ | apply wN_ | apply bE_ | refine bS_ ?_ GE229.out) | exact HB.out)⟩
 ·
  replace c2 := Bool.eq_false_iff.mpr c2
  subst c2
  have H1 : (some false) = some r := by rw [if_neg (show ¬ (false = true) by decide)] at H; exact H
  clear H
  have H := H1
  clear H1
  obtain rfl := Option.some.inj H
  go_enter Try.func13, Try.ntmps13
  try go_wp2_with (first | ((with_reducible refine gate_callee (f := 7) rfl ?_); refine goesL_ (some 6) rfl rfl Try.func7 (by kernel_rfl) rfl #[.agg #[.int .i64 2, .int .i64 3], .agg #[.int .i64 5, .int .i64 2]] rfl (by (try simp only [List.map_toArray, List.map_cons, List.map_nil]); first | done | rfl | (simp only [List.length_drop, List.length_take]; rfl)) ?_; (with_reducible refine (impl_AmountAdd.calls k 2 3 5 2 t226 t227 false _ A1.out).mono ?_); rintro e w13 ⟨rfl, hb⟩; refine ⟨_, rfl, ?_⟩; have n0_ := aM_ (below_step (by repeat (first | (with_reducible first | exact HB.out | apply bB_ | apply wN_ | apply bE_) | exact HB.out)) hb); clear HB; have HB := n0_; clear n0_; (try clear hb); (try clear hb2); (try clear hk); (try clear hi)) | ((with_reducible refine gate_dst (N := 1) rfl ?_); refine box_event ?hg (N := 1) ?hd (cs := #[.int .i64 0, .int .i64 0]) (t := 23) ?hr ?_; (case hd => rfl); (case hg => rfl); (case hr => first | (go_simp; done) | (go_simp; rfl)); intro gb229 hg w14 hbox hb; have n0_ := aM_ (below_step (by repeat (first | (with_reducible first | exact HB.out | apply bB_ | apply wN_ | apply bE_) | exact HB.out)) hb); have n1_ := aM_ (hbox); have n2_ := aM_ ((by rw [hg]; exact (below_size (by repeat (first | (with_reducible first | exact HB.out | apply bB_ | apply wN_ | apply bE_) | exact HB.out))) : w.heap.size ≤ gb229)); have n3_ := aM_ ((by rw [hg]; exact (below_size (by repeat (first | (with_reducible first | exact HB.out | apply bB_ | apply wN_ | apply bE_) | exact HB.out))) : w.heap.size ≤ gb229)); clear HB; have HB := n0_; have BK229 := n1_; have GW229 := n2_; have GE229 := n3_; clear n0_ n1_ n2_ n3_; clear hb hbox hg; have hcz15_0 : w14.cell? ⟨gb229, 0, none⟩ = some (.int .i64 0) := (bC_ BK229.out 0).trans rfl; have hcz15_1 : w14.cell? ⟨gb229, 1, none⟩ = some (.int .i64 0) := (bC_ BK229.out 1).trans rfl; have hfz15_0 := bF_ BK229.out 0; have hfz15_1 := bF_ BK229.out 1))
  have n0_ : Aside0 (((w14.setCell ⟨gb229, 0, none⟩ (.int .i64 t226)).setCell ⟨gb229, 1, none⟩ (.int .i64 t227)).heap[gb229]? = some (.cells #[.int .i64 t226, .int .i64 t227] 23 (0, 0))) := ⟨by (with_reducible repeat (first | refine bN_ ?_ _ | refine bD_ ?_ | refine bA_ ?_ _)); refine blk_put (cs := #[.int .i64 t226, .int .i64 0]) ?_ 1 _ rfl; (with_reducible repeat (first | refine bN_ ?_ _ | refine bD_ ?_ | refine bA_ ?_ _)); refine blk_put (cs := #[.int .i64 0, .int .i64 0]) ?_ 0 _ rfl; (with_reducible repeat (first | refine bN_ ?_ _ | refine bD_ ?_ | refine bA_ ?_ _)); exact BK229.out⟩
  have n1_ : Aside0 (Below w.heap.size w ((w14.setCell ⟨gb229, 0, none⟩ (.int .i64 t226)).setCell ⟨gb229, 1, none⟩ (.int .i64 t227))) := ⟨by repeat (first | (with_reducible first | exact HB.out | apply bB_ | apply wN_ | apply bE_ | refine bS_ ?_ GE229.out) | exact HB.out)⟩
  (try clear BK229)
  (try clear HB)
  generalize ((w14.setCell ⟨gb229, 0, none⟩ (.int .i64 t226)).setCell ⟨gb229, 1, none⟩ (.int .i64 t227)) = w16 at n0_ n1_ ⊢
  have BK229 := n0_
  have HB := n1_
  clear n0_ n1_
  have n0_ := aM_ (bD_ BK229.out)
  have n1_ := aM_ (bE_ HB.out)
  clear BK229
  clear HB
  have BK229 := n0_
  have HB := n1_
  clear n0_ n1_
  refine start_ (n := 7) (S := fun w' => True) (ds := []) #[false, false, false, false, false, false, false] (by kernel_rfl) rfl rfl trivial (fun hHeld => ?_)
  generalize w16.drew = w17 at BK229 HB hHeld ⊢
  refine pure_ (i := 0) (N := some 9) (v := ?_) (a' := ?_) #[true, false, false, false, false, false, false] rfl rfl (by kernel_rfl) (fun _ _ _ h => h) (Or.inl ⟨by rfl, ?_⟩) ?_ ?_
  rotate_left
  ·
   intro w'
   go_simp
   with_reducible rfl
  rotate_left
  ·
   simp only [Act.put, List.setIfInBounds_toArray, List.set_cons_zero, List.set_cons_succ, i64_w, i32_w]
   rfl
  refine pure_ (i := 1) (N := some 10) (v := ?_) (a' := ?_) #[true, true, false, false, false, false, false] rfl rfl (by kernel_rfl) (fun _ _ _ h => h) (Or.inl ⟨by rfl, ?_⟩) ?_ ?_
  rotate_left
  ·
   intro w'
   go_simp
   with_reducible rfl
  rotate_left
  ·
   simp only [Act.put, List.setIfInBounds_toArray, List.set_cons_zero, List.set_cons_succ, i64_w, i32_w]
   rfl
  refine pure_ (i := 2) (N := some 11) (v := undef) (a' := ?_) #[true, true, true, false, false, false, false] rfl rfl (by kernel_rfl) (fun _ _ _ h => h) (Or.inr ⟨by rfl, rfl⟩) ?_ ?_
  rotate_left
  ·
   simp only [Act.put, List.setIfInBounds_toArray, List.set_cons_zero, List.set_cons_succ, i64_w, i32_w]
   rfl
  refine pure_ (i := 3) (N := some 12) (v := undef) (a' := ?_) #[true, true, true, true, false, false, false] rfl rfl (by kernel_rfl) (fun _ _ _ h => h) (Or.inr ⟨by rfl, rfl⟩) ?_ ?_
  rotate_left
  ·
   simp only [Act.put, List.setIfInBounds_toArray, List.set_cons_zero, List.set_cons_succ, i64_w, i32_w]
   rfl
  refine pure_ (i := 4) (N := some 13) (v := undef) (a' := ?_) #[true, true, true, true, true, false, false] rfl rfl (by kernel_rfl) (fun _ _ _ h => h) (Or.inr ⟨by rfl, rfl⟩) ?_ ?_
  rotate_left
  ·
   simp only [Act.put, List.setIfInBounds_toArray, List.set_cons_zero, List.set_cons_succ, i64_w, i32_w]
   rfl
  refine pure_ (i := 5) (N := some 14) (v := ?_) (a' := ?_) #[true, true, true, true, true, true, false] rfl rfl (by kernel_rfl) (fun _ _ _ h => h) (Or.inl ⟨by rfl, ?_⟩) ?_ ?_
  rotate_left
  ·
   intro w'
   go_simp
   with_reducible rfl
  rotate_left
  ·
   simp only [Act.put, List.setIfInBounds_toArray, List.set_cons_zero, List.set_cons_succ, i64_w, i32_w]
   rfl
  refine pure_ (i := 6) (N := some 0) (v := ?_) (a' := ?_) #[true, true, true, true, true, true, true] rfl rfl (by kernel_rfl) (fun _ _ _ h => h) (Or.inl ⟨by rfl, ?_⟩) ?_ ?_
  rotate_left
  ·
   intro w'
   go_simp
   with_reducible rfl
  rotate_left
  ·
   simp only [Act.put, List.setIfInBounds_toArray, List.set_cons_zero, List.set_cons_succ, i64_w, i32_w]
   rfl
  refine done_ (by kernel_rfl) ?_
  try go_wp2
  go_ret
  exact ⟨by first | rfl | (simp [errW_none, errW_some] <;> rfl) | (simp [*, errW_none, errW_some] <;> rfl) | (exfalso; contradiction), by repeat (first | (with_reducible first | exact HB.out | apply bB_ | apply wN_ | apply bE_ | refine bS_ ?_ GE229.out) | exact HB.out)⟩

end Go.Proofs.Ytdhooibmibkbeaa.PFnAmountMul
