/- Functions of the program as plain Lean functions, and that the machine's calls do what these say: written for this claim by wip/myprint.py over the kit's print.py. -/
import Derived.Test.YtomoefldmgfaoaaDoorPFnVersionParsex0
import Derived.Test.YtomoefldmgfaoaaDoorPFnVersionParsex3
namespace Go.Proofs.YtomoefldmgfaoaaDoor.PFnVersionParse
open Go.RowKit Go.Proofs.YtomoefldmgfaoaaDoorW.PrintWords Go.Proofs.YtomoefldmgfaoaaDoorW.PrintLast Go.Proofs.YtomoefldmgfaoaaDoorW.PrintMore
attribute [local go_sem] max2_int min2_int max_two min_two max_three min_three max_four min_four   -- for this text's walks alone
set_option linter.unusedVariables false
set_option linter.unusedSimpArgs false

/-! ### spec_verPlace: function 39 -/
def spec_verPlace.l0 : Nat → ByteArray → Int → Int → Option (Int)
 | 0, _, _, _ => none
 | k + 1, x0, x1, x5 => if x5 < (x0.size : Int) then (if 0 ≤ x5 then (if (bt x0 x5) = x1 then (some x5) else (spec_verPlace.l0 k x0 x1 (wrap64 (x5 + 1)))) else (none)) else (some (-1))
def spec_verPlace.f (k : Nat) (a0 : ByteArray) (a1 : Int) : Option (Int) := spec_verPlace.l0 k a0 a1 0
theorem spec_verPlace.mono_l : ∀ k, (∀ y0 y1 y2, LeO (spec_verPlace.l0 k y0 y1 y2) (spec_verPlace.l0 (k + 1) y0 y1 y2))
 | 0 => fun _ _ _ r h => by simp [spec_verPlace.l0] at h
 | k + 1 => by
  have ih0 := spec_verPlace.mono_l k
  ·
   intro y0 y1 y2
   unfold spec_verPlace.l0
   repeat' first
   | (with_reducible exact ih0 _ _ _)
   | (with_reducible exact LeO.refl _)
   | (with_reducible exact LeO.none _)
   | (with_reducible refine LeO.ite ?_ ?_)
   | (with_reducible refine LeO.bind ?_ (fun _ => ?_))
   | exact ih0 _ _ _
   | exact LeO.none _
   | refine LeO.ite ?_ ?_
   | refine LeO.bind ?_ (fun _ => ?_)
theorem spec_verPlace.mono : ∀ a0 a1 k, LeO (spec_verPlace.f k a0 a1) (spec_verPlace.f (k + 1) a0 a1) := by
 intro a0 a1 k
 have ih0 := spec_verPlace.mono_l k
 unfold spec_verPlace.f
 repeat' first
   | (with_reducible exact ih0 _ _ _)
   | (with_reducible exact LeO.refl _)
   | (with_reducible exact LeO.none _)
   | (with_reducible refine LeO.ite ?_ ?_)
   | (with_reducible refine LeO.bind ?_ (fun _ => ?_))
   | exact ih0 _ _ _
   | exact LeO.none _
   | refine LeO.ite ?_ ?_
   | refine LeO.bind ?_ (fun _ => ?_)
set_option maxHeartbeats 8000000 in
set_option maxRecDepth 100000 in
theorem spec_verPlace.calls (k : Nat) (a0 : ByteArray) (a1 : Int) (r : Int) (w : World) (h : spec_verPlace.f k a0 a1 = some r) :
  Calls Tryd.prog 39 #[.string a0, .int .u8 a1] w fun e w' => e = .returned (.int .i64 r) ∧ Drawn0 w w' := by
 have H : (spec_verPlace.l0 k a0 a1 0) = some r := h
 clear h
 have H' := aM_ H
 clear H
 go_enter Tryd.func39, Tryd.ntmps39
 go_wp2
 go_loopg [5] k (fun kq v5 w' => ∃ (x5_1 : Int), v5 = .int .i64 x5_1 ∧ Aside0 (spec_verPlace.l0 kq a0 a1 x5_1 = some r) ∧ Aside0 (kq ≤ k) ∧ Drawn0 w w')
 case atStart => exact ⟨(0), (by first | rfl | (simp; done) | (simp [*]; done)), H', ⟨Nat.le_refl _⟩, by repeat (first | exact Drawn0.refl _ | apply Drawn0.step)⟩
 case round =>
  clear H'
  try clear p2
  obtain ⟨x5_1, rfl, HA, HK1, ⟨m1, rfl⟩⟩ := hrel
  cases gk with
  | zero => exact absurd HA.out (by simp [spec_verPlace.l0])
  | succ k1 =>
   have H := HA.out
   clear HA
   simp only [spec_verPlace.l0] at H
   by_cases c3 : x5_1 < (a0.size : Int)
   ·
    rw [if_pos c3] at H
    have c3b0 : decide (x5_1 < (a0.size : Int)) = true := decide_eq_true c3
    clear c3
    by_cases c4 : 0 ≤ x5_1
    ·
     rw [if_pos c4] at H
     have c4b0 : decide (0 ≤ x5_1) = true := decide_eq_true c4
     clear c4
     by_cases c6 : (bt a0 x5_1) = a1
     ·
      rw [if_pos c6] at H
      have c6b0 : ((bt a0 x5_1) == a1) = true := beq_iff_eq.mpr c6
      have c6b1 : ((bt a0 x5_1) != a1) = false := bne_eq_false_iff_eq.mpr c6
      clear c6
      obtain rfl := Option.some.inj H
      have p5 : 0 ≤ (x5_1 : Int) := of_decide_eq_true (by first | (with_reducible assumption) | assumption)
      have q5 : x5_1 < (a0.size : Int) := of_decide_eq_true (by first | (with_reducible assumption) | assumption)
      have hx5 := bt_at a0 x5_1
      replace p5 := eq_true p5
      replace q5 := eq_true q5
      go_wp2
      go_ret
      exact ⟨by first | rfl | (simp; done) | (simp [*]; done) | (simp; cases a0.toList <;> rfl) | (cases a0.toList <;> simp), by repeat (first | exact Drawn0.refl _ | apply Drawn0.step)⟩
     ·
      rw [if_neg c6] at H
      have c6b0 : ((bt a0 x5_1) == a1) = false := beq_eq_false_iff_ne.mpr c6
      have c6b1 : ((bt a0 x5_1) != a1) = true := bne_iff_ne.mpr c6
      have H' := aM_ H
      clear H
      have p5 : 0 ≤ (x5_1 : Int) := of_decide_eq_true (by first | (with_reducible assumption) | assumption)
      have q5 : x5_1 < (a0.size : Int) := of_decide_eq_true (by first | (with_reducible assumption) | assumption)
      have hx5 := bt_at a0 x5_1
      replace p5 := eq_true p5
      replace q5 := eq_true q5
      go_wp2
      go_roundg k1
      case measure => have := HK1.out; omega
      case rel => exact ⟨(wrap64 (x5_1 + 1)), (by first | rfl | (simp; done) | (simp [*]; done)), H', ⟨by have := HK1.out; omega⟩, by repeat (first | exact Drawn0.refl _ | apply Drawn0.step)⟩
    ·
     rw [if_neg c4] at H
     exact absurd H (by simp)
   ·
    rw [if_neg c3] at H
    have c3b0 : decide (x5_1 < (a0.size : Int)) = false := decide_eq_false c3
    clear c3
    obtain rfl := Option.some.inj H
    go_wp2
    go_ret
    exact ⟨by first | rfl | (simp; done) | (simp [*]; done) | (simp; cases a0.toList <;> rfl) | (cases a0.toList <;> simp), by repeat (first | exact Drawn0.refl _ | apply Drawn0.step)⟩

/-! ### spec_VerSplit: function 31 -/
def spec_VerSplit.f : Nat → ByteArray → Option (List ByteArray)
 | 0, _ => none
 | k + 1, a0 => (spec_verPlace.f k a0 46).bind fun t128 => (if t128 < 0 then (some (([a0] : List ByteArray))) else (if 0 ≤ t128 then (if t128 ≤ (a0.size : Int) then ((some (([a0.extract 0 (t128 : Int).toNat] : List ByteArray) : List ByteArray)).bind fun y132 => (if 0 ≤ (wrap64 (t128 + 1)) then (if (wrap64 (t128 + 1)) ≤ (a0.size : Int) then ((spec_VerSplit.f k (a0.extract ((wrap64 (t128 + 1)) : Int).toNat a0.size)).bind fun t135 => (if y132.length + t135.length < 8796093022208 then (some (y132 ++ t135)) else (none))) else (none)) else (none))) else (none)) else (none)))
theorem spec_VerSplit.mono_l : ∀ k, (∀ y0, LeO (spec_VerSplit.f k y0) (spec_VerSplit.f (k + 1) y0))
 | 0 => fun _ r h => by simp [spec_VerSplit.f] at h
 | k + 1 => by
  have ih0 := spec_VerSplit.mono_l k
  ·
   intro y0
   unfold spec_VerSplit.f
   repeat' first
   | (with_reducible exact ih0 _)
   | (with_reducible exact spec_verPlace.mono _ _ _)
   | (with_reducible exact LeO.refl _)
   | (with_reducible exact LeO.none _)
   | (with_reducible refine LeO.ite ?_ ?_)
   | (with_reducible refine LeO.bind ?_ (fun _ => ?_))
   | exact ih0 _
   | exact spec_verPlace.mono _ _ _
   | exact LeO.none _
   | refine LeO.ite ?_ ?_
   | refine LeO.bind ?_ (fun _ => ?_)
theorem spec_VerSplit.mono : ∀ a0 k, LeO (spec_VerSplit.f k a0) (spec_VerSplit.f (k + 1) a0) := by
 intro a0 k
 have ih0 := spec_VerSplit.mono_l k
 exact ih0 a0
def spec_VerSplit.T4 : Bool × List (List Nat × List Nat) := (true, [([], []), ([], []), ([0, 1], [0, 1]), ([2], [2]), ([], []), ([], []), ([5], [5]), ([4, 6], [4, 6]), ([7], [7]), ([3, 8, 8], [3, 8]), ([9, 9, 0, 1, 2, 3, 4, 5, 6, 7, 8, 9], [9])])
def spec_VerSplit.B4 : List Nat := [0, 0, 3, 7, 0, 0, 32, 112, 240, 511, 1023]
theorem spec_VerSplit.tab4 : rtab .any (opsOf Tryd.f31 4) = spec_VerSplit.T4 := by kernel_rfl
theorem spec_VerSplit.bits4 : waitsOk spec_VerSplit.T4.2 spec_VerSplit.B4 = true := by kernel_rfl
set_option maxHeartbeats 8000000 in
set_option maxRecDepth 100000 in
theorem spec_VerSplit.calls (k : Nat) : ∀ (a0 : ByteArray) (r : List ByteArray) (w : World) (h : spec_VerSplit.f k a0 = some r),
  Calls Tryd.prog 31 #[.string a0] w fun e w' => ∃ v0_ : Value, e = .returned (v0_) ∧ Kd.R Kd.string 9 w' w.heap.size (fun _ => True) v0_ r ∧ Below w.heap.size w w' := by
 induction k using Nat.strongRecOn with
 | _ k ih =>
 intro a0 r w h
 cases k with
 | zero => exact absurd h (by simp [spec_VerSplit.f])
 | succ k =>
 simp only [spec_VerSplit.f] at h
 have HB := aM_ (Below.refl w.heap.size w)
 have H : ((spec_verPlace.f k a0 46).bind fun t128 => (if t128 < 0 then (some (([a0] : List ByteArray))) else (if 0 ≤ t128 then (if t128 ≤ (a0.size : Int) then ((some (([a0.extract 0 (t128 : Int).toNat] : List ByteArray) : List ByteArray)).bind fun y132 => (if 0 ≤ (wrap64 (t128 + 1)) then (if (wrap64 (t128 + 1)) ≤ (a0.size : Int) then ((spec_VerSplit.f k (a0.extract ((wrap64 (t128 + 1)) : Int).toNat a0.size)).bind fun t135 => (if y132.length + t135.length < 8796093022208 then (some (y132 ++ t135)) else (none))) else (none)) else (none))) else (none)) else (none)))) = some r := h
 clear h
 replace H := Option.bind_eq_some_iff.mp H
 obtain ⟨t128, A20, H⟩ := H
 replace H : (if t128 < 0 then (some (([a0] : List ByteArray))) else (if 0 ≤ t128 then (if t128 ≤ (a0.size : Int) then ((some (([a0.extract 0 (t128 : Int).toNat] : List ByteArray) : List ByteArray)).bind fun y132 => (if 0 ≤ (wrap64 (t128 + 1)) then (if (wrap64 (t128 + 1)) ≤ (a0.size : Int) then ((spec_VerSplit.f k (a0.extract ((wrap64 (t128 + 1)) : Int).toNat a0.size)).bind fun t135 => (if y132.length + t135.length < 8796093022208 then (some (y132 ++ t135)) else (none))) else (none)) else (none))) else (none)) else (none))) = some r := H
 have A2 := aM_ A20
 clear A20
 by_cases c3 : t128 < 0
 ·
  rw [if_pos c3] at H
  have c3b0 : decide (t128 < 0) = true := decide_eq_true c3
  clear c3
  obtain ⟨y129, hy129⟩ : ∃ y_ : List ByteArray, y_ = (([a0] : List ByteArray)) := ⟨_, rfl⟩
  replace H : (some y129) = some r := by first | (rw [hy129]; with_reducible exact H) | (have H2_ := (Option.bind_some _ _).symm.trans H; rw [hy129]; with_reducible exact H2_) | (have H2_ := (Option.bind_some _ _).symm.trans H; with_reducible exact H2_) | with_reducible exact H | (rw [hy129]; exact H) | exact H
  have Ny129 := aM_ hy129
  clear hy129
  obtain rfl := Option.some.inj H
  go_enter Tryd.func31, Tryd.ntmps31
  go_wp2_with (first | ((with_reducible refine gate_callee (f := 39) rfl ?_); refine goesL_ (some 5) rfl rfl Tryd.func39 (by kernel_rfl) rfl #[.string a0, .int .u8 46] rfl (by (try simp only [List.map_toArray, List.map_cons, List.map_nil]); first | done | rfl | (simp only [List.length_drop, List.length_take]; rfl)) ?_; (with_reducible refine (spec_verPlace.calls k a0 46 t128 _ A2.out).mono ?_); rintro e w' ⟨rfl, ⟨nd, rfl⟩⟩; refine ⟨_, rfl, ?_⟩) | ((with_reducible refine gate_dst (N := 9) rfl ?_); refine Kd.R_lit Kd.string _ 9 ?hg (N := 9) ?hd (xs := ([a0] : List ByteArray)) (inner := [.string a0]) (ok := fun _ => True) (okp := fun _ => True) ?hr ?hp (fun _ hk => hk) trivial (Below.refl _ _) (Nat.le_refl _) (by simp) ?_; (case hd => rfl); (case hg => rfl); (case hr => first | (go_simp; done) | (go_simp; rfl)); (case hp => exact (Reps.one (show Kd.M Kd.string _ _ _ a0 [.string a0] from rfl) (Reps.none _ _))); intro v130 w4 ho5 hb hg_ hnew_; clear hg_ hnew_; (first | rw [← Ny129.out] at ho5 | (simp only [Int.reduceToNat] at ho5; rw [← Ny129.out] at ho5)); have n0_ := aM_ (Kd.R_lower ho5 (below_size (by repeat (first | (with_reducible first | exact HB.out | apply bB_ | apply wN_ | apply bE_) | exact HB.out)))); have n1_ := aM_ (below_step (by repeat (first | (with_reducible first | exact HB.out | apply bB_ | apply wN_ | apply bE_) | exact HB.out)) hb); clear HB; have HO131 := n0_; have HB := n1_; clear n0_ n1_; clear hb ho5))
  go_ret
  exact ⟨_, by first | rfl | (simp [errW_none, errW_some] <;> rfl) | (simp [*, errW_none, errW_some] <;> rfl), by (with_reducible repeat (first | apply kA_ | apply kN_ | apply kD_)); exact HO131.out, by repeat (first | (with_reducible first | exact HB.out | apply bB_ | apply wN_ | apply bE_) | exact HB.out)⟩
 ·
  rw [if_neg c3] at H
  have c3b0 : decide (t128 < 0) = false := decide_eq_false c3
  clear c3
  by_cases c6 : 0 ≤ t128
  ·
   rw [if_pos c6] at H
   have c6b0 := eq_true c6
   have c6b1 : decide (0 ≤ t128) = true := decide_eq_true c6
   clear c6
   by_cases c7 : t128 ≤ (a0.size : Int)
   ·
    rw [if_pos c7] at H
    have c7b0 := eq_true c7
    have c7b1 : decide (t128 ≤ (a0.size : Int)) = true := decide_eq_true c7
    clear c7
    obtain ⟨y132, hy132⟩ : ∃ y_ : List ByteArray, y_ = (([a0.extract 0 (t128 : Int).toNat] : List ByteArray)) := ⟨_, rfl⟩
    replace H : (if 0 ≤ (wrap64 (t128 + 1)) then (if (wrap64 (t128 + 1)) ≤ (a0.size : Int) then ((spec_VerSplit.f k (a0.extract ((wrap64 (t128 + 1)) : Int).toNat a0.size)).bind fun t135 => (if y132.length + t135.length < 8796093022208 then (some (y132 ++ t135)) else (none))) else (none)) else (none)) = some r := by first | (rw [hy132]; with_reducible exact H) | (have H2_ := (Option.bind_some _ _).symm.trans H; rw [hy132]; with_reducible exact H2_) | (have H2_ := (Option.bind_some _ _).symm.trans H; with_reducible exact H2_) | with_reducible exact H | (rw [hy132]; exact H) | exact H
    have Ny132 := aM_ hy132
    clear hy132
    obtain ⟨ji8, hji8⟩ : ∃ j_ : Int, (wrap64 (t128 + 1)) = j_ := ⟨_, rfl⟩
    replace H : (if 0 ≤ (ji8) then (if (ji8) ≤ (a0.size : Int) then ((spec_VerSplit.f k (a0.extract ((ji8) : Int).toNat a0.size)).bind fun t135 => (if y132.length + t135.length < 8796093022208 then (some (y132 ++ t135)) else (none))) else (none)) else (none)) = some r := by first | (rw [hji8] at H; exact H) | (simp only [hji8] at H ⊢; exact H)
    (try rw [hji8] at A2)
    have hji8w : (IntKind.i64.wrap (t128 + 1)) = ji8 := (i64_w _).trans hji8
    by_cases c9 : 0 ≤ (ji8)
    ·
     rw [if_pos c9] at H
     have c9b0 := eq_true c9
     have c9b1 : decide (0 ≤ (ji8)) = true := decide_eq_true c9
     clear c9
     by_cases c10 : (ji8) ≤ (a0.size : Int)
     ·
      rw [if_pos c10] at H
      have c10b0 := eq_true c10
      have c10b1 : decide ((ji8) ≤ (a0.size : Int)) = true := decide_eq_true c10
      clear c10
      replace H := Option.bind_eq_some_iff.mp H
      obtain ⟨t135, A110, H⟩ := H
      replace H : (if y132.length + t135.length < 8796093022208 then (some (y132 ++ t135)) else (none)) = some r := H
      have A11 := aM_ A110
      clear A110
      by_cases c12 : y132.length + t135.length < 8796093022208
      ·
       rw [if_pos c12] at H
       have LMc12 := aM_ c12
       clear c12
       obtain ⟨y138, hy138⟩ : ∃ y_ : List ByteArray, y_ = (y132 ++ t135) := ⟨_, rfl⟩
       replace H : (some y138) = some r := by first | (rw [hy138]; with_reducible exact H) | (have H2_ := (Option.bind_some _ _).symm.trans H; rw [hy138]; with_reducible exact H2_) | (have H2_ := (Option.bind_some _ _).symm.trans H; with_reducible exact H2_) | with_reducible exact H | (rw [hy138]; exact H) | exact H
       have Ny138 := aM_ hy138
       clear hy138
       obtain rfl := Option.some.inj H
       go_enter Tryd.func31, Tryd.ntmps31
       try go_wp2_with (first | ((with_reducible refine gate_callee (f := 39) rfl ?_); refine goesL_ (some 5) rfl rfl Tryd.func39 (by kernel_rfl) rfl #[.string a0, .int .u8 46] rfl (by (try simp only [List.map_toArray, List.map_cons, List.map_nil]); first | done | rfl | (simp only [List.length_drop, List.length_take]; rfl)) ?_; (with_reducible refine (spec_verPlace.calls k a0 46 t128 _ A2.out).mono ?_); rintro e w' ⟨rfl, ⟨nd, rfl⟩⟩; refine ⟨_, rfl, ?_⟩))
       have n0_ := aM_ (bE_ (pw_below_drewN HB.out nd))
       clear HB
       have HB := n0_
       clear n0_
       refine start_ (n := 11) (S := fun w' => True) (ds := []) #[false, false, false, false, false, false, false, false, false, false, false] (by kernel_rfl) rfl rfl trivial (fun hHeld => ?_); refine with_tabW spec_VerSplit.tab4 spec_VerSplit.bits4 (fun HT_ HW_ => ?_)
       generalize (w.drewN nd).drew = w13 at HB hHeld ⊢
       refine pure_ (i := 0) (N := some 10) (v := ?_) (a' := ?_) #[true, false, false, false, false, false, false, false, false, false, false] rfl rfl (any_of HT_.out (by kernel_rfl)) (fun _ _ _ h => h) (Or.inl ⟨by rfl, ?_⟩) ?_ ?_
       rotate_left
       ·
        intro w'
        go_simp
        with_reducible rfl
       rotate_left
       ·
        simp only [Act.put, List.setIfInBounds_toArray, List.set_cons_zero, List.set_cons_succ, i64_w, i32_w]
        rfl
       refine pure_ (i := 1) (N := some 11) (v := ?_) (a' := ?_) #[true, true, false, false, false, false, false, false, false, false, false] rfl rfl (any_of HT_.out (by kernel_rfl)) (fun _ _ _ h => h) (Or.inl ⟨by rfl, ?_⟩) ?_ ?_
       rotate_left
       ·
        intro w'
        go_simp
        with_reducible rfl
       rotate_left
       ·
        simp only [Act.put, List.setIfInBounds_toArray, List.set_cons_zero, List.set_cons_succ, i64_w, i32_w]
        rfl
       refine pure_ (i := 2) (N := some 12) (v := ?_) (a' := ?_) #[true, true, true, false, false, false, false, false, false, false, false] rfl rfl (any_of HT_.out (by kernel_rfl)) (fun _ _ _ h => h) (Or.inl ⟨by rfl, ?_⟩) ?_ ?_
       rotate_left
       ·
        intro w'
        go_simp
        with_reducible rfl
       rotate_left
       ·
        simp only [Act.put, List.setIfInBounds_toArray, List.set_cons_zero, List.set_cons_succ, i64_w, i32_w]
        rfl
       refine pure_ (i := 4) (N := some 14) (v := ?_) (a' := ?_) #[true, true, true, false, true, false, false, false, false, false, false] rfl rfl (any_of HT_.out (by kernel_rfl)) (fun _ _ _ h => h) (Or.inl ⟨by rfl, ?_⟩) ?_ ?_
       rotate_left
       ·
        intro w'
        go_simp
        with_reducible rfl
       rotate_left
       ·
        simp only [Act.put, List.setIfInBounds_toArray, List.set_cons_zero, List.set_cons_succ, i64_w, i32_w]
        rfl
       refine pure_ (i := 5) (N := some 15) (v := ?_) (a' := ?_) #[true, true, true, false, true, true, false, false, false, false, false] rfl rfl (any_of HT_.out (by kernel_rfl)) (fun _ _ _ h => h) (Or.inl ⟨by rfl, ?_⟩) ?_ ?_
       rotate_left
       ·
        intro w'
        go_simp
        with_reducible rfl
       rotate_left
       ·
        simp only [Act.put, List.setIfInBounds_toArray, List.set_cons_zero, List.set_cons_succ, i64_w, i32_w]
        rfl
       refine pure_ (i := 6) (N := some 16) (v := ?_) (a' := ?_) #[true, true, true, false, true, true, true, false, false, false, false] rfl rfl (any_of HT_.out (by kernel_rfl)) (fun _ _ _ h => h) (Or.inl ⟨by rfl, ?_⟩) ?_ ?_
       rotate_left
       ·
        intro w'
        go_simp
        with_reducible rfl
       rotate_left
       ·
        simp only [Act.put, List.setIfInBounds_toArray, List.set_cons_zero, List.set_cons_succ, i64_w, i32_w]
        rfl
       refine pure_ (i := 7) (N := some 17) (v := ?_) (a' := ?_) #[true, true, true, false, true, true, true, true, false, false, false] rfl rfl (any_of HT_.out (by kernel_rfl)) (fun _ _ _ h => h) (Or.inl ⟨by rfl, ?_⟩) ?_ ?_
       rotate_left
       ·
        intro w'
        go_simp
        with_reducible rfl
       rotate_left
       ·
        simp only [Act.put, List.setIfInBounds_toArray, List.set_cons_zero, List.set_cons_succ, i64_w, i32_w]
        rfl
       refine join_ (σ := Value × Value) 2 #[true, true, true, true, true, true, true, true, true, false, false] (fun s_ => [(13, s_.1), (18, s_.2)]) (fun s_ w' => (Kd.R Kd.string 9 w' w.heap.size (fun k_ => some k_ ≠ (s_.2 : Value).ownBlock) s_.1 y132) ∧ (Kd.R Kd.string 9 w' w.heap.size (fun k_ => some k_ ≠ (s_.1 : Value).ownBlock) s_.2 t135) ∧ (Below w.heap.size w w')) ?_ ?_
       rotate_left
       ·
        intro hCont
        refine two_ (i := 3) (j := 8) (Ni := some 13) (Nj := some 18) #[true, true, true, true, true, true, true, true, false, false, false] #[true, true, true, false, true, true, true, true, true, false, false] rfl rfl rfl rfl (two_of HT_.out (by kernel_rfl)) (by decide) (by decide) (fun K hK => ?_) (fun K hK => ?_)
        ·
         skip
         refine Kd.R_lit_step Kd.string _ 9 ?hg (N := 13) ?hd (xs := ([a0.extract 0 (t128 : Int).toNat] : List ByteArray)) (inner := [.string (a0.extract 0 (t128 : Int).toNat)]) (ok := fun _ => True) (okp := fun _ => True) ?hr ?hp (fun _ hk => hk) trivial (Below.refl _ _) (Nat.le_refl _) (by simp) ?_; (case hd => rfl); (case hg => rfl); (case hr => first | (go_simp; done) | (go_simp; rfl)); (case hp => exact (Reps.one (show Kd.M Kd.string _ _ _ (a0.extract 0 (t128 : Int).toNat) [.string (a0.extract 0 (t128 : Int).toNat)] from rfl) (Reps.none _ _)))
         intro v133 w14 ho15 hb hg_ hnew_
         clear hg_ hnew_
         (first | rw [← Ny132.out] at ho15 | (simp only [Int.reduceToNat] at ho15; rw [← Ny132.out] at ho15))
         have n0_ := aM_ (Kd.R_lower ho15 (below_size (by repeat (first | (with_reducible first | exact HB.out | apply bB_ | apply wN_ | apply bE_) | exact HB.out))))
         have n1_ := aM_ (below_step (by repeat (first | (with_reducible first | exact HB.out | apply bB_ | apply wN_ | apply bE_) | exact HB.out)) hb)
         clear HB
         have HO134 := n0_
         have HB := n1_
         clear n0_ n1_
         clear hb ho15
         refine hK.out _ _ trivial (fun hHeld => ?_)
         clear hK K
         refine norm_ (a' := ?_) ?_ ?_
         rotate_left
         ·
          show Act.put _ (some 13) _ = _
          simp only [Act.put, List.setIfInBounds_toArray, List.set_cons_zero, List.set_cons_succ, i64_w, i32_w]
          rfl
         refine one_ (i := 8) (N := some 18) #[true, true, true, true, true, true, true, true, true, false, false] rfl rfl (one_of HT_.out (by kernel_rfl)) (by decide) (fun K hK => ?_)
         refine goes_ Tryd.func31 (by kernel_rfl) rfl #[.string (a0.extract ((ji8) : Int).toNat a0.size)] (by rfl) rfl rfl (by (try simp only [List.map_toArray, List.map_cons, List.map_nil]); first | done | (simp only [hji8]; rfl) | rfl | (simp only [List.length_drop, List.length_take]; rfl)) ?_
         with_reducible refine (ih k (by omega) (a0.extract ((ji8) : Int).toNat a0.size) t135 _ A11.out).mono ?_
         rintro e w16 ⟨v136, rfl, ho0, hb⟩
         refine ⟨_, rfl, ?_⟩
         have n0_ := aM_ (Kd.R_elder' (by (with_reducible repeat (first | apply kA_ | apply kN_ | apply kD_)); exact HO134.out) (Kd.R_base ho0) hb)
         have n1_ := aM_ (Kd.R_lower (Kd.R_new' ho0 (Kd.R_lt (by (with_reducible repeat (first | apply kA_ | apply kN_ | apply kD_)); exact HO134.out))) (below_size (by repeat (first | (with_reducible first | exact HB.out | apply bB_ | apply wN_ | apply bE_) | exact HB.out))))
         have n2_ := aM_ (below_step (by repeat (first | (with_reducible first | exact HB.out | apply bB_ | apply wN_ | apply bE_) | exact HB.out)) hb)
         clear HO134
         clear HB
         have HO134 := n0_
         have HO137 := n1_
         have HB := n2_
         clear n0_ n1_ n2_
         (try clear hb)
         (try clear hb2)
         (try clear hk)
         (try clear hi)
         (try clear ho0)
         refine hK.out _ _ trivial (fun hHeld => ?_)
         clear hK K
         refine norm_ (a' := ?_) ?_ ?_
         rotate_left
         ·
          show Act.put _ (some 18) _ = _
          simp only [Act.put, List.setIfInBounds_toArray, List.set_cons_zero, List.set_cons_succ, i64_w, i32_w]
          rfl
         exact norm_ (by simp only [putAll, Act.put, List.setIfInBounds_toArray, List.set_cons_zero, List.set_cons_succ]) (hCont (v133, v136) _ ⟨(by (with_reducible repeat (first | apply kA_ | apply kN_ | apply kD_)); exact Kd.R_mono HO134.out (fun _ hk => hk.2)), (by (with_reducible repeat (first | apply kA_ | apply kN_ | apply kD_)); exact Kd.R_mono HO137.out (fun _ hk => hk.2)), (by repeat (first | (with_reducible first | exact HB.out | apply bB_ | apply wN_ | apply bE_) | exact HB.out))⟩)
        ·
         skip
         refine goes_ Tryd.func31 (by kernel_rfl) rfl #[.string (a0.extract ((ji8) : Int).toNat a0.size)] (by rfl) rfl rfl (by (try simp only [List.map_toArray, List.map_cons, List.map_nil]); first | done | (simp only [hji8]; rfl) | rfl | (simp only [List.length_drop, List.length_take]; rfl)) ?_
         with_reducible refine (ih k (by omega) (a0.extract ((ji8) : Int).toNat a0.size) t135 _ A11.out).mono ?_
         rintro e w14 ⟨v136, rfl, ho0, hb⟩
         refine ⟨_, rfl, ?_⟩
         have n0_ := aM_ (Kd.R_lower ho0 (below_size (by repeat (first | (with_reducible first | exact HB.out | apply bB_ | apply wN_ | apply bE_) | exact HB.out))))
         have n1_ := aM_ (below_step (by repeat (first | (with_reducible first | exact HB.out | apply bB_ | apply wN_ | apply bE_) | exact HB.out)) hb)
         clear HB
         have HO137 := n0_
         have HB := n1_
         clear n0_ n1_
         (try clear hb)
         (try clear hb2)
         (try clear hk)
         (try clear hi)
         (try clear ho0)
         refine hK.out _ _ trivial (fun hHeld => ?_)
         clear hK K
         refine norm_ (a' := ?_) ?_ ?_
         rotate_left
         ·
          show Act.put _ (some 18) _ = _
          simp only [Act.put, List.setIfInBounds_toArray, List.set_cons_zero, List.set_cons_succ, i64_w, i32_w]
          rfl
         refine one_ (i := 3) (N := some 13) #[true, true, true, true, true, true, true, true, true, false, false] rfl rfl (one_of HT_.out (by kernel_rfl)) (by decide) (fun K hK => ?_)
         refine Kd.R_lit_step Kd.string _ 9 ?hg (N := 13) ?hd (xs := ([a0.extract 0 (t128 : Int).toNat] : List ByteArray)) (inner := [.string (a0.extract 0 (t128 : Int).toNat)]) (ok := fun _ => True) (okp := fun _ => True) ?hr ?hp (fun _ hk => hk) trivial (Below.refl _ _) (Nat.le_refl _) (by simp) ?_; (case hd => rfl); (case hg => rfl); (case hr => first | (go_simp; done) | (go_simp; rfl)); (case hp => exact (Reps.one (show Kd.M Kd.string _ _ _ (a0.extract 0 (t128 : Int).toNat) [.string (a0.extract 0 (t128 : Int).toNat)] from rfl) (Reps.none _ _)))
         intro v133 w15 ho16 hb hg_ hnew_
         clear hg_ hnew_
         (first | rw [← Ny132.out] at ho16 | (simp only [Int.reduceToNat] at ho16; rw [← Ny132.out] at ho16))
         have n0_ := aM_ (Kd.R_elder' (by (with_reducible repeat (first | apply kA_ | apply kN_ | apply kD_)); exact HO137.out) (Kd.R_base ho16) hb)
         have n1_ := aM_ (Kd.R_lower (Kd.R_new' ho16 (Kd.R_lt (by (with_reducible repeat (first | apply kA_ | apply kN_ | apply kD_)); exact HO137.out))) (below_size (by repeat (first | (with_reducible first | exact HB.out | apply bB_ | apply wN_ | apply bE_) | exact HB.out))))
         have n2_ := aM_ (below_step (by repeat (first | (with_reducible first | exact HB.out | apply bB_ | apply wN_ | apply bE_) | exact HB.out)) hb)
         clear HO137
         clear HB
         have HO137 := n0_
         have HO134 := n1_
         have HB := n2_
         clear n0_ n1_ n2_
         clear hb ho16
         refine hK.out _ _ trivial (fun hHeld => ?_)
         clear hK K
         refine norm_ (a' := ?_) ?_ ?_
         rotate_left
         ·
          show Act.put _ (some 13) _ = _
          simp only [Act.put, List.setIfInBounds_toArray, List.set_cons_zero, List.set_cons_succ, i64_w, i32_w]
          rfl
         exact norm_ (by simp only [putAll, Act.put, List.setIfInBounds_toArray, List.set_cons_zero, List.set_cons_succ]) (hCont (v133, v136) _ ⟨(by (with_reducible repeat (first | apply kA_ | apply kN_ | apply kD_)); exact Kd.R_mono HO134.out (fun _ hk => hk.2)), (by (with_reducible repeat (first | apply kA_ | apply kN_ | apply kD_)); exact Kd.R_mono HO137.out (fun _ hk => hk.2)), (by repeat (first | (with_reducible first | exact HB.out | apply bB_ | apply wN_ | apply bE_) | exact HB.out))⟩)
       rintro ⟨v133, v136⟩ w17 ⟨h0_, h1_, h2_⟩
       have n0_ : Aside0 (Kd.R Kd.string 9 w17 w.heap.size (fun k_ => some k_ ≠ (v136 : Value).ownBlock) v133 y132) := ⟨h0_⟩
       have n1_ : Aside0 (Kd.R Kd.string 9 w17 w.heap.size (fun k_ => some k_ ≠ (v133 : Value).ownBlock) v136 t135) := ⟨h1_⟩
       have n2_ : Aside0 (Below w.heap.size w w17) := ⟨h2_⟩
       clear HB
       clear h0_ h1_ h2_
       have HO134 := n0_
       have HO137 := n1_
       have HB := n2_
       clear n0_ n1_ n2_
       have hHeld := trivial
       obtain ⟨Ao19, co19, eo19⟩ := Kd.R_slice HO137.out
       (first | subst eo19 | (injection eo19 with f1_ f2_ f3_; have f4_ := f1_.symm; have f5_ := f3_.symm; clear f1_ f2_ f3_; subst f4_; subst f5_))
       refine norm_ (a' := ?_) ?_ ?_
       rotate_left
       ·
        simp only [putAll, Act.put, List.setIfInBounds_toArray, List.set_cons_zero, List.set_cons_succ]
        rfl
       refine one_ (i := 9) (N := some 19) #[true, true, true, true, true, true, true, true, true, true, false] rfl rfl (one_of HT_.out (by kernel_rfl)) (by decide) (fun K hK => ?_)
       refine Kd.R_append_rows_step Kd.string (w0 := w) w.heap.size (by rfl) (.tmp 13) (.tmp 18) 49 9 (.string ⟨#[]⟩) 16 rfl Tryd.underlying49 info9 rfl (by decide) (by omega) v133 y132 t135 _ _ _ (fun k_ => some k_ ≠ (.slice Ao19 t135.length co19 : Value).ownBlock) (fun _ => False) rfl rfl ?aO ?aR (fun _ _ h => h) (fun _ h => h.elim) ?aF ?aB ?aS ?aL ?_
       (case aR => repeat (first | exact (Kd.R_reads' HO137.out).2.2 | (with_reducible refine Kd.C_alloc ?_ _) | (with_reducible refine Kd.C_drewN ?_ _) | (with_reducible refine Kd.C_drew ?_)))
       (case aB => exact (by repeat (first | (with_reducible first | exact HB.out | apply bB_ | apply wN_ | apply bE_) | exact HB.out)))
       (case aF => exact (fun k_ hk => Kd.fresh' (Kd.R_lt (by (with_reducible repeat (first | apply kA_ | apply kN_ | apply kD_)); exact HO137.out)) k_ hk))
       (case aO => exact (by (with_reducible repeat (first | apply kA_ | apply kN_ | apply kD_)); exact HO134.out))
       (case aS => exact (below_size (by repeat (first | (with_reducible first | exact HB.out | apply bB_ | apply wN_ | apply bE_) | exact HB.out))))
       (case aL => have := LMc12.out; omega)
       intro v139 w18 ho hb hg hat
       rw [← Ny138.out] at ho
       have n0_ := aM_ (Kd.R_after (ok := (fun _ => True)) (by (with_reducible repeat (first | apply kA_ | apply kN_ | apply kD_)); exact Kd.R_mono HO137.out (fun _ hk => ⟨trivial, hk⟩)) hg hat)
       have n1_ := aM_ (hb)
       have n2_ := aM_ (ho)
       clear HO137
       clear HB
       clear HO134
       have HO137 := n0_
       have HB := n1_
       have HO140 := n2_
       clear n0_ n1_ n2_
       clear ho hb hg hat
       refine hK.out _ _ trivial (fun hHeld => ?_)
       clear hK K
       refine norm_ (a' := ?_) ?_ ?_
       rotate_left
       ·
        show Act.put _ (some 19) _ = _
        simp only [Act.put, List.setIfInBounds_toArray, List.set_cons_zero, List.set_cons_succ, i64_w, i32_w]
        rfl
       refine pure_ (i := 10) (N := some 2) (v := ?_) (a' := ?_) #[true, true, true, true, true, true, true, true, true, true, true] rfl rfl (any_of HT_.out (by kernel_rfl)) (fun _ _ _ h => h) (Or.inl ⟨by rfl, ?_⟩) ?_ ?_
       rotate_left
       ·
        intro w'
        go_simp
        with_reducible rfl
       rotate_left
       ·
        simp only [Act.put, List.setIfInBounds_toArray, List.set_cons_zero, List.set_cons_succ, i64_w, i32_w]
        rfl
       refine done_ (done_of HT_.out (by kernel_rfl)) ?_
       try go_wp2
       go_ret
       exact ⟨_, by first | rfl | (simp [errW_none, errW_some] <;> rfl) | (simp only [← hji8]; first | rfl | (simp [errW_none, errW_some] <;> rfl)) | (simp [*, errW_none, errW_some] <;> rfl), by (with_reducible repeat (first | apply kA_ | apply kN_ | apply kD_)); exact Kd.R_mono HO140.out (fun _ hk => trivial), by repeat (first | (with_reducible first | exact HB.out | apply bB_ | apply wN_ | apply bE_) | exact HB.out)⟩
      ·
       rw [if_neg c12] at H
       exact absurd H (by simp)
     ·
      rw [if_neg c10] at H
      exact absurd H (by simp)
    ·
     rw [if_neg c9] at H
     exact absurd H (by simp)
   ·
    rw [if_neg c7] at H
    exact absurd H (by simp)
  ·
   rw [if_neg c6] at H
   exact absurd H (by simp)

/-! ### spec_VerNumeric: function 33 -/
def spec_VerNumeric.l0 : Nat → ByteArray → Int → Option (Bool)
 | 0, _, _ => none
 | k + 1, x0, x3 => if x3 < (x0.size : Int) then (if 0 ≤ x3 then ((spec_verDigit.f (bt x0 x3)).bind fun t141 => (if t141 = true then (spec_VerNumeric.l0 k x0 (wrap64 (x3 + 1))) else (some false))) else (none)) else (some (x0.toList != ([] : List UInt8)))
def spec_VerNumeric.f (k : Nat) (a0 : ByteArray) : Option (Bool) := spec_VerNumeric.l0 k a0 0
theorem spec_VerNumeric.mono_l : ∀ k, (∀ y0 y1, LeO (spec_VerNumeric.l0 k y0 y1) (spec_VerNumeric.l0 (k + 1) y0 y1))
 | 0 => fun _ _ r h => by simp [spec_VerNumeric.l0] at h
 | k + 1 => by
  have ih0 := spec_VerNumeric.mono_l k
  ·
   intro y0 y1
   unfold spec_VerNumeric.l0
   repeat' first
   | (with_reducible exact ih0 _ _)
   | (with_reducible exact LeO.refl _)
   | (with_reducible exact LeO.none _)
   | (with_reducible refine LeO.ite ?_ ?_)
   | (with_reducible refine LeO.bind ?_ (fun _ => ?_))
   | exact ih0 _ _
   | exact LeO.none _
   | refine LeO.ite ?_ ?_
   | refine LeO.bind ?_ (fun _ => ?_)
theorem spec_VerNumeric.mono : ∀ a0 k, LeO (spec_VerNumeric.f k a0) (spec_VerNumeric.f (k + 1) a0) := by
 intro a0 k
 have ih0 := spec_VerNumeric.mono_l k
 unfold spec_VerNumeric.f
 repeat' first
   | (with_reducible exact ih0 _ _)
   | (with_reducible exact LeO.refl _)
   | (with_reducible exact LeO.none _)
   | (with_reducible refine LeO.ite ?_ ?_)
   | (with_reducible refine LeO.bind ?_ (fun _ => ?_))
   | exact ih0 _ _
   | exact LeO.none _
   | refine LeO.ite ?_ ?_
   | refine LeO.bind ?_ (fun _ => ?_)
set_option maxHeartbeats 8000000 in
set_option maxRecDepth 100000 in
theorem spec_VerNumeric.calls (k : Nat) (a0 : ByteArray) (r : Bool) (w : World) (h : spec_VerNumeric.f k a0 = some r) :
  Calls Tryd.prog 33 #[.string a0] w fun e w' => e = .returned (.bool r) ∧ Drawn0 w w' := by
 have H : (spec_VerNumeric.l0 k a0 0) = some r := h
 clear h
 have H' := aM_ H
 clear H
 go_enter Tryd.func33, Tryd.ntmps33
 go_wp2
 go_loopg [3] k (fun kq v3 w' => ∃ (x3_1 : Int), v3 = .int .i64 x3_1 ∧ Aside0 (spec_VerNumeric.l0 kq a0 x3_1 = some r) ∧ Aside0 (kq ≤ k) ∧ Drawn0 w w')
 case atStart => exact ⟨(0), (by first | rfl | (simp; done) | (simp [*]; done)), H', ⟨Nat.le_refl _⟩, by repeat (first | exact Drawn0.refl _ | apply Drawn0.step)⟩
 case round =>
  clear H'
  obtain ⟨x3_1, rfl, HA, HK1, ⟨m1, rfl⟩⟩ := hrel
  cases gk with
  | zero => exact absurd HA.out (by simp [spec_VerNumeric.l0])
  | succ k1 =>
   have H := HA.out
   clear HA
   simp only [spec_VerNumeric.l0] at H
   by_cases c2 : x3_1 < (a0.size : Int)
   ·
    rw [if_pos c2] at H
    have c2b0 : decide (x3_1 < (a0.size : Int)) = true := decide_eq_true c2
    clear c2
    by_cases c3 : 0 ≤ x3_1
    ·
     rw [if_pos c3] at H
     have c3b0 : decide (0 ≤ x3_1) = true := decide_eq_true c3
     clear c3
     replace H := Option.bind_eq_some_iff.mp H
     obtain ⟨t141, A50, H⟩ := H
     replace H : (if t141 = true then (spec_VerNumeric.l0 k1 a0 (wrap64 (x3_1 + 1))) else (some false)) = some r := H
     have A5 := aM_ A50
     clear A50
     by_cases c6 : t141 = true
     ·
      subst c6
      have H1 : (spec_VerNumeric.l0 k1 a0 (wrap64 (x3_1 + 1))) = some r := by rw [if_pos rfl] at H; exact H
      clear H
      have H := H1
      clear H1
      have H' := aM_ H
      clear H
      have p4 : 0 ≤ (x3_1 : Int) := of_decide_eq_true (by first | (with_reducible assumption) | assumption)
      have q4 : x3_1 < (a0.size : Int) := of_decide_eq_true (by first | (with_reducible assumption) | assumption)
      have hx4 := bt_at a0 x3_1
      replace p4 := eq_true p4
      replace q4 := eq_true q4
      go_wp2_with (first | ((with_reducible refine gate_callee (f := 32) rfl ?_); refine goesL_ (some 13) rfl rfl Tryd.func32 (by kernel_rfl) rfl #[.int .u8 (bt a0 x3_1)] rfl (by (try simp only [List.map_toArray, List.map_cons, List.map_nil]); first | done | rfl | (simp only [List.length_drop, List.length_take]; rfl)) ?_; (with_reducible refine (spec_verDigit.calls (bt a0 x3_1) true _ A5.out).mono ?_); rintro e w' ⟨rfl, ⟨nd, rfl⟩⟩; refine ⟨_, rfl, ?_⟩))
      go_roundg k1
      case measure => have := HK1.out; omega
      case rel => exact ⟨(wrap64 (x3_1 + 1)), (by first | rfl | (simp; done) | (simp [*]; done)), H', ⟨by have := HK1.out; omega⟩, by repeat (first | exact Drawn0.refl _ | apply Drawn0.step)⟩
     ·
      replace c6 := Bool.eq_false_iff.mpr c6
      subst c6
      have H1 : (some false) = some r := by rw [if_neg (show ¬ (false = true) by decide)] at H; exact H
      clear H
      have H := H1
      clear H1
      obtain rfl := Option.some.inj H
      have p4 : 0 ≤ (x3_1 : Int) := of_decide_eq_true (by first | (with_reducible assumption) | assumption)
      have q4 : x3_1 < (a0.size : Int) := of_decide_eq_true (by first | (with_reducible assumption) | assumption)
      have hx4 := bt_at a0 x3_1
      replace p4 := eq_true p4
      replace q4 := eq_true q4
      go_wp2_with (first | ((with_reducible refine gate_callee (f := 32) rfl ?_); refine goesL_ (some 13) rfl rfl Tryd.func32 (by kernel_rfl) rfl #[.int .u8 (bt a0 x3_1)] rfl (by (try simp only [List.map_toArray, List.map_cons, List.map_nil]); first | done | rfl | (simp only [List.length_drop, List.length_take]; rfl)) ?_; (with_reducible refine (spec_verDigit.calls (bt a0 x3_1) false _ A5.out).mono ?_); rintro e w' ⟨rfl, ⟨nd, rfl⟩⟩; refine ⟨_, rfl, ?_⟩))
      go_ret
      exact ⟨by first | rfl | (simp; done) | (simp [*]; done) | (simp; cases a0.toList <;> rfl) | (cases a0.toList <;> simp), by repeat (first | exact Drawn0.refl _ | apply Drawn0.step)⟩
    ·
     rw [if_neg c3] at H
     exact absurd H (by simp)
   ·
    rw [if_neg c2] at H
    have c2b0 : decide (x3_1 < (a0.size : Int)) = false := decide_eq_false c2
    clear c2
    obtain rfl := Option.some.inj H
    go_wp2
    go_ret
    exact ⟨by first | rfl | (simp; done) | (simp [*]; done) | (simp; cases a0.toList <;> rfl) | (cases a0.toList <;> simp), by repeat (first | exact Drawn0.refl _ | apply Drawn0.step)⟩

/-! ### spec_VerPlainly: function 34 -/
def spec_VerPlainly.f (a0 : ByteArray) : Option (Bool) := if (a0.size : Int) = 1 then (some true) else (if a0.toList = ([] : List UInt8) then (some false) else (if 0 < (a0.size : Int) then (some ((bt a0 0) != 48)) else (none)))
set_option maxHeartbeats 8000000 in
set_option maxRecDepth 100000 in
theorem spec_VerPlainly.calls (a0 : ByteArray) (r : Bool) (w : World) (h : spec_VerPlainly.f a0 = some r) :
  Calls Tryd.prog 34 #[.string a0] w fun e w' => e = .returned (.bool r) ∧ Drawn0 w w' := by
 have H : (if (a0.size : Int) = 1 then (some true) else (if a0.toList = ([] : List UInt8) then (some false) else (if 0 < (a0.size : Int) then (some ((bt a0 0) != 48)) else (none)))) = some r := h
 clear h
 by_cases c2 : (a0.size : Int) = 1
 ·
  rw [if_pos c2] at H
  have c2b0 : ((a0.size : Int) == 1) = true := beq_iff_eq.mpr c2
  have c2b1 : ((a0.size : Int) != 1) = false := bne_eq_false_iff_eq.mpr c2
  clear c2
  obtain rfl := Option.some.inj H
  go_enter Tryd.func34, Tryd.ntmps34
  go_wp2
  go_ret
  exact ⟨by first | rfl | (simp; done) | (simp [*]; done) | (simp; cases a0.toList <;> rfl) | (cases a0.toList <;> simp), by repeat (first | exact Drawn0.refl _ | apply Drawn0.step)⟩
 ·
  rw [if_neg c2] at H
  have c2b0 : ((a0.size : Int) == 1) = false := beq_eq_false_iff_ne.mpr c2
  have c2b1 : ((a0.size : Int) != 1) = true := bne_iff_ne.mpr c2
  by_cases c3 : a0.toList = ([] : List UInt8)
  ·
   rw [if_pos c3] at H
   have c3b0 : (a0.toList == ([] : List UInt8)) = true := beq_iff_eq.mpr c3
   have c3b1 : (a0.toList != ([] : List UInt8)) = false := bne_eq_false_iff_eq.mpr c3
   clear c3
   obtain rfl := Option.some.inj H
   go_enter Tryd.func34, Tryd.ntmps34
   go_wp2
   go_ret
   exact ⟨by first | rfl | (simp; done) | (simp [*]; done) | (simp; cases a0.toList <;> rfl) | (cases a0.toList <;> simp), by repeat (first | exact Drawn0.refl _ | apply Drawn0.step)⟩
  ·
   rw [if_neg c3] at H
   have c3b0 : (a0.toList == ([] : List UInt8)) = false := beq_eq_false_iff_ne.mpr c3
   have c3b1 : (a0.toList != ([] : List UInt8)) = true := bne_iff_ne.mpr c3
   by_cases c4 : 0 < (a0.size : Int)
   ·
    rw [if_pos c4] at H
    have c4b0 : decide (0 < (a0.size : Int)) = true := decide_eq_true c4
    have c4b1 : decide (0 < a0.size) = true := decide_eq_true (by omega)
    clear c4
    obtain rfl := Option.some.inj H
    have p5 : 0 ≤ (0 : Int) := (by omega)
    have q5 : 0 < a0.size := (by have : (0 : Int) < (a0.size : Int) := of_decide_eq_true (by first | (with_reducible assumption) | assumption); omega)
    have hx5 : ∀ h : 0 < a0.size, ((a0[0]'h).toNat : Int) = bt a0 0 := bt_at a0 0
    clear p5
    have qi5 : (0 < (a0.size : Int)) = True := eq_true (of_decide_eq_true (by first | (with_reducible assumption) | assumption))
    replace q5 := eq_true q5
    go_enter Tryd.func34, Tryd.ntmps34
    go_wp2
    go_ret
    exact ⟨by first | rfl | (simp; done) | (simp [*]; done) | (simp; cases a0.toList <;> rfl) | (cases a0.toList <;> simp), by repeat (first | exact Drawn0.refl _ | apply Drawn0.step)⟩
   ·
    rw [if_neg c4] at H
    exact absurd H (by simp)

end Go.Proofs.YtomoefldmgfaoaaDoor.PFnVersionParse
