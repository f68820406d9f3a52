/- Functions of the program as plain Lean functions, and that the machine's calls do what these say: written for this claim by wip/myprint.py over the kit's print.py. -/
import Derived.Test.YtomoefldmgfaoaaDoorPvHkx0
import Derived.Test.YtomoefldmgfaoaaDoorPvHkx1
namespace Go.Proofs.YtomoefldmgfaoaaDoor.PvHk
open Go.RowKit Go.Proofs.YtomoefldmgfaoaaDoorW.PrintWords Go.Proofs.YtomoefldmgfaoaaDoorW.PrintLast Go.Proofs.YtomoefldmgfaoaaDoorW.PrintMore
attribute [local go_sem] max2_int min2_int max_two min_two max_three min_three max_four min_four   -- for this text's walks alone
set_option linter.unusedVariables false
set_option linter.unusedSimpArgs false

/-! ### version_zzKube: function 88 -/
mutual
def version_zzKube.j0 : Nat → ByteArray → Bool → Option (List ByteArray)
 | 0, _, _ => none
 | k + 1, x0, x14 => if x14 = true then (some ([] : List ByteArray)) else ((version_zzDigits_100.f k x0 1).bind fun t101 => (if t101 = 1 then (some ([] : List ByteArray)) else (if t101 = (x0.size : Int) then (if 1 ≤ (x0.size : Int) then (some (([x0, x0.extract 1 x0.size, (⟨#[]⟩ : ByteArray), (⟨#[]⟩ : ByteArray)] : List ByteArray))) else (none)) else (if (x0.size : Int) ≥ (wrap64 (t101 + 5)) then (if 0 ≤ t101 then (if t101 ≤ (wrap64 (t101 + 5)) then (if (wrap64 (t101 + 5)) ≤ (x0.size : Int) then (version_zzKube.j1 k x0 t101 ((x0.extract (t101 : Int).toNat ((wrap64 (t101 + 5)) : Int).toNat).toList == ([97, 108, 112, 104, 97] : List UInt8))) else (none)) else (none)) else (none)) else (version_zzKube.j1 k x0 t101 false)))))
def version_zzKube.j1 : Nat → ByteArray → Int → Bool → Option (List ByteArray)
 | 0, _, _, _ => none
 | k + 1, x0, x3, x27 => if x27 = true then ((version_zzDigits_100.f k x0 (wrap64 (x3 + 5))).bind fun t105 => (if t105 = (wrap64 (x3 + 5)) then (some ([] : List ByteArray)) else (if t105 < (x0.size : Int) then (some ([] : List ByteArray)) else (if 1 ≤ x3 then (if x3 ≤ (x0.size : Int) then (if 0 ≤ (wrap64 (x3 + 5)) then (if (wrap64 (x3 + 5)) ≤ (x0.size : Int) then (some (([x0, x0.extract 1 (x3 : Int).toNat, (⟨#[97, 108, 112, 104, 97]⟩ : ByteArray), x0.extract ((wrap64 (x3 + 5)) : Int).toNat x0.size] : List ByteArray))) else (none)) else (none)) else (none)) else (none))))) else (if (x0.size : Int) ≥ (wrap64 (x3 + 4)) then (if 0 ≤ x3 then (if x3 ≤ (wrap64 (x3 + 4)) then (if (wrap64 (x3 + 4)) ≤ (x0.size : Int) then (version_zzKube.j2 k x0 x3 ((x0.extract (x3 : Int).toNat ((wrap64 (x3 + 4)) : Int).toNat).toList == ([98, 101, 116, 97] : List UInt8))) else (none)) else (none)) else (none)) else (version_zzKube.j2 k x0 x3 false))
def version_zzKube.j2 : Nat → ByteArray → Int → Bool → Option (List ByteArray)
 | 0, _, _, _ => none
 | k + 1, x0, x3, x41 => if x41 = true then ((version_zzDigits_100.f k x0 (wrap64 (x3 + 4))).bind fun t109 => (if t109 = (wrap64 (x3 + 4)) then (some ([] : List ByteArray)) else (if t109 < (x0.size : Int) then (some ([] : List ByteArray)) else (if 1 ≤ x3 then (if x3 ≤ (x0.size : Int) then (if 0 ≤ (wrap64 (x3 + 4)) then (if (wrap64 (x3 + 4)) ≤ (x0.size : Int) then (some (([x0, x0.extract 1 (x3 : Int).toNat, (⟨#[98, 101, 116, 97]⟩ : ByteArray), x0.extract ((wrap64 (x3 + 4)) : Int).toNat x0.size] : List ByteArray))) else (none)) else (none)) else (none)) else (none))))) else (some ([] : List ByteArray))
end
def version_zzKube.f (k : Nat) (a0 : ByteArray) : Option (List ByteArray) := if (a0.size : Int) = 0 then (version_zzKube.j0 k a0 true) else (if 0 < (a0.size : Int) then (version_zzKube.j0 k a0 ((bt a0 0) != 118)) else (none))
theorem version_zzKube.mono_l : ∀ k, (∀ y0 y1, LeO (version_zzKube.j0 k y0 y1) (version_zzKube.j0 (k + 1) y0 y1)) ∧ (∀ y0 y1 y2, LeO (version_zzKube.j1 k y0 y1 y2) (version_zzKube.j1 (k + 1) y0 y1 y2)) ∧ (∀ y0 y1 y2, LeO (version_zzKube.j2 k y0 y1 y2) (version_zzKube.j2 (k + 1) y0 y1 y2))
 | 0 => ⟨fun _ _ r h => by simp [version_zzKube.j0] at h, fun _ _ _ r h => by simp [version_zzKube.j1] at h, fun _ _ _ r h => by simp [version_zzKube.j2] at h⟩
 | k + 1 => by
  obtain ⟨ih0, ih1, ih2⟩ := version_zzKube.mono_l k
  refine ⟨?_, ?_, ?_⟩
  ·
   intro y0 y1
   unfold version_zzKube.j0
   repeat' first
   | (with_reducible exact ih0 _ _)
   | (with_reducible exact ih1 _ _ _)
   | (with_reducible exact ih2 _ _ _)
   | (with_reducible exact version_zzDigits_100.mono _ _ _)
   | (with_reducible exact LeO.refl _)
   | (with_reducible exact LeO.none _)
   | (with_reducible refine LeO.ite ?_ ?_)
   | (with_reducible refine LeO.bind ?_ (fun _ => ?_))
   | exact ih0 _ _
   | exact ih1 _ _ _
   | exact ih2 _ _ _
   | exact version_zzDigits_100.mono _ _ _
   | exact LeO.none _
   | refine LeO.ite ?_ ?_
   | refine LeO.bind ?_ (fun _ => ?_)
  ·
   intro y0 y1 y2
   unfold version_zzKube.j1
   repeat' first
   | (with_reducible exact ih0 _ _)
   | (with_reducible exact ih1 _ _ _)
   | (with_reducible exact ih2 _ _ _)
   | (with_reducible exact version_zzDigits_100.mono _ _ _)
   | (with_reducible exact LeO.refl _)
   | (with_reducible exact LeO.none _)
   | (with_reducible refine LeO.ite ?_ ?_)
   | (with_reducible refine LeO.bind ?_ (fun _ => ?_))
   | exact ih0 _ _
   | exact ih1 _ _ _
   | exact ih2 _ _ _
   | exact version_zzDigits_100.mono _ _ _
   | exact LeO.none _
   | refine LeO.ite ?_ ?_
   | refine LeO.bind ?_ (fun _ => ?_)
  ·
   intro y0 y1 y2
   unfold version_zzKube.j2
   repeat' first
   | (with_reducible exact ih0 _ _)
   | (with_reducible exact ih1 _ _ _)
   | (with_reducible exact ih2 _ _ _)
   | (with_reducible exact version_zzDigits_100.mono _ _ _)
   | (with_reducible exact LeO.refl _)
   | (with_reducible exact LeO.none _)
   | (with_reducible refine LeO.ite ?_ ?_)
   | (with_reducible refine LeO.bind ?_ (fun _ => ?_))
   | exact ih0 _ _
   | exact ih1 _ _ _
   | exact ih2 _ _ _
   | exact version_zzDigits_100.mono _ _ _
   | exact LeO.none _
   | refine LeO.ite ?_ ?_
   | refine LeO.bind ?_ (fun _ => ?_)
theorem version_zzKube.mono : ∀ a0 k, LeO (version_zzKube.f k a0) (version_zzKube.f (k + 1) a0) := by
 intro a0 k
 obtain ⟨ih0, ih1, ih2⟩ := version_zzKube.mono_l k
 unfold version_zzKube.f
 repeat' first
   | (with_reducible exact ih0 _ _)
   | (with_reducible exact ih1 _ _ _)
   | (with_reducible exact ih2 _ _ _)
   | (with_reducible exact version_zzDigits_100.mono _ _ _)
   | (with_reducible exact LeO.refl _)
   | (with_reducible exact LeO.none _)
   | (with_reducible refine LeO.ite ?_ ?_)
   | (with_reducible refine LeO.bind ?_ (fun _ => ?_))
   | exact ih0 _ _
   | exact ih1 _ _ _
   | exact ih2 _ _ _
   | exact version_zzDigits_100.mono _ _ _
   | exact LeO.none _
   | refine LeO.ite ?_ ?_
   | refine LeO.bind ?_ (fun _ => ?_)
def version_zzKube.T18 : Bool × List (List Nat × List Nat) := (true, [([], []), ([], []), ([], []), ([1, 2], [1, 2]), ([], []), ([], []), ([], []), ([5, 6], [5, 6]), ([0, 3, 4, 7], [0, 3, 4, 7]), ([8, 0, 1, 2, 3, 4, 5, 6, 7, 8], [8])])
def version_zzKube.B18 : List Nat := [0, 0, 0, 6, 0, 0, 0, 96, 255, 511]
theorem version_zzKube.tab18 : rtab .any (opsOf Tryd.f88 18) = version_zzKube.T18 := by kernel_rfl
theorem version_zzKube.bits18 : waitsOk version_zzKube.T18.2 version_zzKube.B18 = true := by kernel_rfl
set_option maxHeartbeats 8000000 in
set_option maxRecDepth 100000 in
theorem version_zzKube.calls (k : Nat) (a0 : ByteArray) (r : List ByteArray) (w : World) (h : version_zzKube.f k a0 = some r) :
  Calls Tryd.prog 88 #[.string a0] w fun e w' => ∃ v0_ : Value, e = .returned (v0_) ∧ Kd.R Kd.string 9 w' w.heap.size (fun _ => True) v0_ r ∧ Below w.heap.size w w' := by
 have HB := aM_ (Below.refl w.heap.size w)
 have H : (if (a0.size : Int) = 0 then (version_zzKube.j0 k a0 true) else (if 0 < (a0.size : Int) then (version_zzKube.j0 k a0 ((bt a0 0) != 118)) else (none))) = some r := h
 clear h
 have HC2 := aM_ H
 clear H
 go_enter Tryd.func88, Tryd.ntmps88
 go_upto_region 1 with (fail)
 go_cut [14] (fun v14 wc => ∃ (kq : Nat) (x14_1 : Bool), v14 = .bool x14_1 ∧ Aside0 (version_zzKube.j0 kq a0 x14_1 = some r) ∧ Aside0 (kq ≤ k) ∧ Aside0 (Below w.heap.size w wc))
 case first =>
  have H := HC2.out
  clear HC2
  by_cases c3 : (a0.size : Int) = 0
  ·
   rw [if_pos c3] at H
   have c3b0 : ((a0.size : Int) == 0) = true := beq_iff_eq.mpr c3
   have c3b1 : ((a0.size : Int) != 0) = false := bne_eq_false_iff_eq.mpr c3
   clear c3
   (first | rw [c3b0] | (simp only [i64_w, i32_w]; rw [c3b0]) | skip)
   have H' := aM_ H
   clear H
   go_wp2
   go_meet
   case rel => exact ⟨_, (true), (by first | rfl | (simp; done) | (simp [*]; done)), H', ⟨by first | omega | exact Nat.le_refl _⟩, ⟨by repeat (first | (with_reducible first | exact HB.out | apply bB_ | apply wN_ | apply bE_) | exact HB.out)⟩⟩
  ·
   rw [if_neg c3] at H
   have c3b0 : ((a0.size : Int) == 0) = false := beq_eq_false_iff_ne.mpr c3
   have c3b1 : ((a0.size : Int) != 0) = true := bne_iff_ne.mpr c3
   (first | rw [c3b0] | (simp only [i64_w, i32_w]; rw [c3b0]) | skip)
   by_cases c4 : 0 < (a0.size : Int)
   ·
    rw [if_pos c4] at H
    have c4b0 : decide (0 < (a0.size : Int)) = true := decide_eq_true c4
    have c4b1 : decide (0 < a0.size) = true := decide_eq_true (by omega)
    clear c4
    have H' := aM_ H
    clear H
    have p5 : 0 ≤ (0 : Int) := (by omega)
    have q5 : 0 < a0.size := (by have : (0 : Int) < (a0.size : Int) := of_decide_eq_true (by first | (with_reducible assumption) | assumption); omega)
    have hx5 : ∀ h : 0 < a0.size, ((a0[0]'h).toNat : Int) = bt a0 0 := bt_at a0 0
    clear p5
    have qi5 : (0 < (a0.size : Int)) = True := eq_true (of_decide_eq_true (by first | (with_reducible assumption) | assumption))
    replace q5 := eq_true q5
    go_wp2
    go_meet
    case rel => exact ⟨_, (((bt a0 0) != 118)), (by first | rfl | (simp; done) | (simp [*]; done)), H', ⟨by first | omega | exact Nat.le_refl _⟩, ⟨by repeat (first | (with_reducible first | exact HB.out | apply bB_ | apply wN_ | apply bE_) | exact HB.out)⟩⟩
   ·
    rw [if_neg c4] at H
    exact absurd H (by simp)
 case rest =>
  clear HC2
  try clear p2
  try clear c3
  try clear c3b0
  try clear c3b1
  try clear c4
  try clear c4b0
  try clear c4b1
  try clear p5
  try clear q5
  try clear hx5
  try clear qi5
  try clear p5
  try clear q5
  obtain ⟨kq, x14_1, rfl, HA, HJ1, HB⟩ := hcut
  cases kq with
  | zero => exact absurd HA.out (by simp [version_zzKube.j0])
  | succ kj1 =>
   have H := HA.out
   clear HA
   simp only [version_zzKube.j0] at H
   by_cases c6 : x14_1 = true
   ·
    subst c6
    have H1 : (some ([] : List ByteArray)) = some r := by rw [if_pos rfl] at H; exact H
    clear H
    have H := H1
    clear H1
    obtain rfl := Option.some.inj H
    go_wp2
    go_ret
    exact ⟨_, by first | rfl | (simp [errW_none, errW_some] <;> rfl) | (simp [*, errW_none, errW_some] <;> rfl), by first | exact Kd.R_nil _ _ _ _ _ | exact Kd.N_nil _ _ _ _ _ | exact Kd.V_nil _ _ _ _ _ | exact Kd.Q_nil _ _ _ _ _ | exact Kd.S_nil _ _ _ _ _, by repeat (first | (with_reducible first | exact HB.out | apply bB_ | apply wN_ | apply bE_) | exact HB.out)⟩
   ·
    replace c6 := Bool.eq_false_iff.mpr c6
    subst c6
    have H1 : ((version_zzDigits_100.f kj1 a0 1).bind fun t101 => (if t101 = 1 then (some ([] : List ByteArray)) else (if t101 = (a0.size : Int) then (if 1 ≤ (a0.size : Int) then (some (([a0, a0.extract 1 a0.size, (⟨#[]⟩ : ByteArray), (⟨#[]⟩ : ByteArray)] : List ByteArray))) else (none)) else (if (a0.size : Int) ≥ (wrap64 (t101 + 5)) then (if 0 ≤ t101 then (if t101 ≤ (wrap64 (t101 + 5)) then (if (wrap64 (t101 + 5)) ≤ (a0.size : Int) then (version_zzKube.j1 kj1 a0 t101 ((a0.extract (t101 : Int).toNat ((wrap64 (t101 + 5)) : Int).toNat).toList == ([97, 108, 112, 104, 97] : List UInt8))) else (none)) else (none)) else (none)) else (version_zzKube.j1 kj1 a0 t101 false))))) = some r := by rw [if_neg (show ¬ (false = true) by decide)] at H; exact H
    clear H
    have H := H1
    clear H1
    replace H := Option.bind_eq_some_iff.mp H
    obtain ⟨t101, A70, H⟩ := H
    replace H : (if t101 = 1 then (some ([] : List ByteArray)) else (if t101 = (a0.size : Int) then (if 1 ≤ (a0.size : Int) then (some (([a0, a0.extract 1 a0.size, (⟨#[]⟩ : ByteArray), (⟨#[]⟩ : ByteArray)] : List ByteArray))) else (none)) else (if (a0.size : Int) ≥ (wrap64 (t101 + 5)) then (if 0 ≤ t101 then (if t101 ≤ (wrap64 (t101 + 5)) then (if (wrap64 (t101 + 5)) ≤ (a0.size : Int) then (version_zzKube.j1 kj1 a0 t101 ((a0.extract (t101 : Int).toNat ((wrap64 (t101 + 5)) : Int).toNat).toList == ([97, 108, 112, 104, 97] : List UInt8))) else (none)) else (none)) else (none)) else (version_zzKube.j1 kj1 a0 t101 false)))) = some r := H
    have A7 := aM_ A70
    clear A70
    by_cases c8 : t101 = 1
    ·
     rw [if_pos c8] at H
     have c8b0 : (t101 == 1) = true := beq_iff_eq.mpr c8
     have c8b1 : (t101 != 1) = false := bne_eq_false_iff_eq.mpr c8
     clear c8
     obtain rfl := Option.some.inj H
     go_wp2_with (first | ((with_reducible refine gate_callee (f := 100) rfl ?_); refine goesL_ (some 16) rfl rfl Tryd.func100 (by kernel_rfl) rfl #[.string a0, .int .i64 1] rfl (by (try simp only [List.map_toArray, List.map_cons, List.map_nil]); first | done | rfl | (simp only [List.length_drop, List.length_take]; rfl)) ?_; (with_reducible refine (version_zzDigits_100.calls kj1 a0 1 t101 _ A7.out).mono ?_); rintro e w' ⟨rfl, ⟨nd, rfl⟩⟩; refine ⟨_, rfl, ?_⟩))
     go_ret
     exact ⟨_, by first | rfl | (simp [errW_none, errW_some] <;> rfl) | (simp [*, errW_none, errW_some] <;> rfl), by first | exact Kd.R_nil _ _ _ _ _ | exact Kd.N_nil _ _ _ _ _ | exact Kd.V_nil _ _ _ _ _ | exact Kd.Q_nil _ _ _ _ _ | exact Kd.S_nil _ _ _ _ _, by repeat (first | (with_reducible first | exact HB.out | apply bB_ | apply wN_ | apply bE_) | exact HB.out)⟩
    ·
     rw [if_neg c8] at H
     have c8b0 : (t101 == 1) = false := beq_eq_false_iff_ne.mpr c8
     have c8b1 : (t101 != 1) = true := bne_iff_ne.mpr c8
     by_cases c9 : t101 = (a0.size : Int)
     ·
      rw [if_pos c9] at H
      have c9b0 : (t101 == (a0.size : Int)) = true := beq_iff_eq.mpr c9
      have c9b1 : (t101 != (a0.size : Int)) = false := bne_eq_false_iff_eq.mpr c9
      clear c9
      by_cases c10 : 1 ≤ (a0.size : Int)
      ·
       rw [if_pos c10] at H
       have c10b0 := eq_true c10
       have c10b1 : decide (1 ≤ (a0.size : Int)) = true := decide_eq_true c10
       clear c10
       obtain ⟨y102, hy102⟩ : ∃ y_ : List ByteArray, y_ = (([a0, a0.extract 1 a0.size, (⟨#[]⟩ : ByteArray), (⟨#[]⟩ : ByteArray)] : List ByteArray)) := ⟨_, rfl⟩
       replace H : (some y102) = some r := by first | (rw [hy102]; with_reducible exact H) | (have H2_ := (Option.bind_some _ _).symm.trans H; rw [hy102]; with_reducible exact H2_) | (have H2_ := (Option.bind_some _ _).symm.trans H; with_reducible exact H2_) | with_reducible exact H | (rw [hy102]; exact H) | exact H
       have Ny102 := aM_ hy102
       clear hy102
       obtain rfl := Option.some.inj H
       go_wp2_with (first | ((with_reducible refine gate_callee (f := 100) rfl ?_); refine goesL_ (some 16) rfl rfl Tryd.func100 (by kernel_rfl) rfl #[.string a0, .int .i64 1] rfl (by (try simp only [List.map_toArray, List.map_cons, List.map_nil]); first | done | rfl | (simp only [List.length_drop, List.length_take]; rfl)) ?_; (with_reducible refine (version_zzDigits_100.calls kj1 a0 1 t101 _ A7.out).mono ?_); rintro e w' ⟨rfl, ⟨nd, rfl⟩⟩; refine ⟨_, rfl, ?_⟩) | ((with_reducible refine gate_dst (N := 26) rfl ?_); (try (refine gate_guard (by rfl) ?_; dsimp only)); refine Kd.R_lit Kd.string _ 9 ?hg (N := 26) ?hd (xs := ([a0, a0.extract 1 a0.size, (⟨#[]⟩ : ByteArray), (⟨#[]⟩ : ByteArray)] : List ByteArray)) (inner := [.string a0, .string (a0.extract 1 a0.size), .string (⟨#[]⟩ : ByteArray), .string (⟨#[]⟩ : ByteArray)]) (ok := fun _ => True) (okp := fun _ => True) ?hr ?hp (fun _ hk => hk) trivial (Below.refl _ _) (Nat.le_refl _) (by simp) ?_; (case hd => rfl); (case hg => rfl); (case hr => first | (go_simp; done) | (go_simp; rfl)); (case hp => exact (Reps.one (show Kd.M Kd.string _ _ _ a0 [.string a0] from rfl) (Reps.one (show Kd.M Kd.string _ _ _ (a0.extract 1 a0.size) [.string (a0.extract 1 a0.size)] from rfl) (Reps.one (show Kd.M Kd.string _ _ _ (⟨#[]⟩ : ByteArray) [.string (⟨#[]⟩ : ByteArray)] from rfl) (Reps.one (show Kd.M Kd.string _ _ _ (⟨#[]⟩ : ByteArray) [.string (⟨#[]⟩ : ByteArray)] from rfl) (Reps.none _ _)))))); intro v103 w11 ho12 hb hg_ hnew_; clear hg_ hnew_; (first | rw [← Ny102.out] at ho12 | (simp only [Int.reduceToNat] at ho12; rw [← Ny102.out] at ho12)); have n0_ := aM_ (Kd.R_lower ho12 (below_size (by repeat (first | (with_reducible first | exact HB.out | apply bB_ | apply wN_ | apply bE_) | exact HB.out)))); have n1_ := aM_ (below_step (by repeat (first | (with_reducible first | exact HB.out | apply bB_ | apply wN_ | apply bE_) | exact HB.out)) hb); clear HB; have HO104 := n0_; have HB := n1_; clear n0_ n1_; clear hb ho12))
       go_ret
       exact ⟨_, by first | rfl | (simp [errW_none, errW_some] <;> rfl) | (simp [*, errW_none, errW_some] <;> rfl), by (with_reducible repeat (first | apply kA_ | apply kN_ | apply kD_)); exact HO104.out, by repeat (first | (with_reducible first | exact HB.out | apply bB_ | apply wN_ | apply bE_) | exact HB.out)⟩
      ·
       rw [if_neg c10] at H
       exact absurd H (by simp)
     ·
      rw [if_neg c9] at H
      have c9b0 : (t101 == (a0.size : Int)) = false := beq_eq_false_iff_ne.mpr c9
      have c9b1 : (t101 != (a0.size : Int)) = true := bne_iff_ne.mpr c9
      have HC13 := aM_ H
      clear H
      go_upto_region 10 with (first | ((with_reducible refine gate_callee (f := 100) rfl ?_); refine goesL_ (some 16) rfl rfl Tryd.func100 (by kernel_rfl) rfl #[.string a0, .int .i64 1] rfl (by (try simp only [List.map_toArray, List.map_cons, List.map_nil]); first | done | rfl | (simp only [List.length_drop, List.length_take]; rfl)) ?_; (with_reducible refine (version_zzDigits_100.calls kj1 a0 1 t101 _ A7.out).mono ?_); rintro e w' ⟨rfl, ⟨nd, rfl⟩⟩; refine ⟨_, rfl, ?_⟩))
      (try simp only [Act.put, List.setIfInBounds_toArray, List.set_cons_zero, List.set_cons_succ])
      go_cut [27] (fun v27 wc => ∃ (kq : Nat) (x27_12 : Bool), v27 = .bool x27_12 ∧ Aside0 (version_zzKube.j1 kq a0 t101 x27_12 = some r) ∧ Aside0 (kq ≤ kj1) ∧ Aside0 (Below w.heap.size w wc))
      case first =>
       have H := HC13.out
       clear HC13
       by_cases c14 : (a0.size : Int) ≥ (wrap64 (t101 + 5))
       ·
        rw [if_pos c14] at H
        have c14b0 : decide ((wrap64 (t101 + 5)) ≤ (a0.size : Int)) = true := decide_eq_true c14
        clear c14
        (first | rw [c14b0] | (simp only [i64_w, i32_w]; rw [c14b0]) | skip)
        by_cases c15 : 0 ≤ t101
        ·
         rw [if_pos c15] at H
         have c15b0 := eq_true c15
         have c15b1 : decide (0 ≤ t101) = true := decide_eq_true c15
         clear c15
         by_cases c16 : t101 ≤ (wrap64 (t101 + 5))
         ·
          rw [if_pos c16] at H
          have c16b0 := eq_true c16
          have c16b1 : decide (t101 ≤ (wrap64 (t101 + 5))) = true := decide_eq_true c16
          by_cases c17 : (wrap64 (t101 + 5)) ≤ (a0.size : Int)
          ·
           rw [if_pos c17] at H
           have c17b0 := eq_true c17
           have c17b1 : decide ((wrap64 (t101 + 5)) ≤ (a0.size : Int)) = true := decide_eq_true c17
           have H' := aM_ H
           clear H
           go_wp2
           go_meet
           case rel => exact ⟨_, (((a0.extract (t101 : Int).toNat ((wrap64 (t101 + 5)) : Int).toNat).toList == ([97, 108, 112, 104, 97] : List UInt8))), (by first | rfl | (simp; done) | (simp [*]; done)), H', ⟨by have := HJ1.out; first | omega | exact Nat.le_refl _⟩, ⟨by repeat (first | (with_reducible first | exact HB.out | apply bB_ | apply wN_ | apply bE_) | exact HB.out)⟩⟩
          ·
           rw [if_neg c17] at H
           exact absurd H (by simp)
         ·
          rw [if_neg c16] at H
          exact absurd H (by simp)
        ·
         rw [if_neg c15] at H
         exact absurd H (by simp)
       ·
        rw [if_neg c14] at H
        have c14b0 : decide ((wrap64 (t101 + 5)) ≤ (a0.size : Int)) = false := decide_eq_false c14
        clear c14
        (first | rw [c14b0] | (simp only [i64_w, i32_w]; rw [c14b0]) | skip)
        have H' := aM_ H
        clear H
        go_wp2
        go_meet
        case rel => exact ⟨_, (false), (by first | rfl | (simp; done) | (simp [*]; done)), H', ⟨by have := HJ1.out; first | omega | exact Nat.le_refl _⟩, ⟨by repeat (first | (with_reducible first | exact HB.out | apply bB_ | apply wN_ | apply bE_) | exact HB.out)⟩⟩
      case rest =>
       clear HC13
       try clear c1
       try clear p2
       try clear c3
       try clear c3b0
       try clear c3b1
       try clear c4
       try clear c4b0
       try clear c4b1
       try clear p5
       try clear q5
       try clear hx5
       try clear qi5
       try clear c6
       try clear p6
       try clear c8
       try clear c8b0
       try clear c8b1
       try clear c9
       try clear c9b0
       try clear c9b1
       try clear c10
       try clear c10b0
       try clear c10b1
       try clear c14
       try clear c14b0
       try clear c15
       try clear c15b0
       try clear c15b1
       try clear c16
       try clear c16b0
       try clear c16b1
       try clear c17
       try clear c17b0
       try clear c17b1
       try clear p2
       try clear p5
       try clear q5
       obtain ⟨kq, x27_12, rfl, HA, HJ12, HB⟩ := hcut
       cases kq with
       | zero => exact absurd HA.out (by simp [version_zzKube.j1])
       | succ kj12 =>
        have H := HA.out
        clear HA
        simp only [version_zzKube.j1] at H
        by_cases c18 : x27_12 = true
        ·
         subst c18
         have H1 : ((version_zzDigits_100.f kj12 a0 (wrap64 (t101 + 5))).bind fun t105 => (if t105 = (wrap64 (t101 + 5)) then (some ([] : List ByteArray)) else (if t105 < (a0.size : Int) then (some ([] : List ByteArray)) else (if 1 ≤ t101 then (if t101 ≤ (a0.size : Int) then (if 0 ≤ (wrap64 (t101 + 5)) then (if (wrap64 (t101 + 5)) ≤ (a0.size : Int) then (some (([a0, a0.extract 1 (t101 : Int).toNat, (⟨#[97, 108, 112, 104, 97]⟩ : ByteArray), a0.extract ((wrap64 (t101 + 5)) : Int).toNat a0.size] : List ByteArray))) else (none)) else (none)) else (none)) else (none))))) = some r := by rw [if_pos rfl] at H; exact H
         clear H
         have H := H1
         clear H1
         replace H := Option.bind_eq_some_iff.mp H
         obtain ⟨t105, A190, H⟩ := H
         replace H : (if t105 = (wrap64 (t101 + 5)) then (some ([] : List ByteArray)) else (if t105 < (a0.size : Int) then (some ([] : List ByteArray)) else (if 1 ≤ t101 then (if t101 ≤ (a0.size : Int) then (if 0 ≤ (wrap64 (t101 + 5)) then (if (wrap64 (t101 + 5)) ≤ (a0.size : Int) then (some (([a0, a0.extract 1 (t101 : Int).toNat, (⟨#[97, 108, 112, 104, 97]⟩ : ByteArray), a0.extract ((wrap64 (t101 + 5)) : Int).toNat a0.size] : List ByteArray))) else (none)) else (none)) else (none)) else (none)))) = some r := H
         have A19 := aM_ A190
         clear A190
         by_cases c20 : t105 = (wrap64 (t101 + 5))
         ·
          rw [if_pos c20] at H
          have c20b0 : (t105 == (wrap64 (t101 + 5))) = true := beq_iff_eq.mpr c20
          have c20b1 : (t105 != (wrap64 (t101 + 5))) = false := bne_eq_false_iff_eq.mpr c20
          clear c20
          obtain rfl := Option.some.inj H
          go_wp2_with (first | ((with_reducible refine gate_callee (f := 100) rfl ?_); refine goesL_ (some 61) rfl rfl Tryd.func100 (by kernel_rfl) rfl #[.string a0, .int .i64 (wrap64 (t101 + 5))] rfl (by (try simp only [List.map_toArray, List.map_cons, List.map_nil]); first | done | rfl | (simp only [List.length_drop, List.length_take]; rfl)) ?_; (with_reducible refine (version_zzDigits_100.calls kj12 a0 (wrap64 (t101 + 5)) t105 _ A19.out).mono ?_); rintro e w' ⟨rfl, ⟨nd, rfl⟩⟩; refine ⟨_, rfl, ?_⟩))
          go_ret
          exact ⟨_, by first | rfl | (simp [errW_none, errW_some] <;> rfl) | (simp [*, errW_none, errW_some] <;> rfl), by first | exact Kd.R_nil _ _ _ _ _ | exact Kd.N_nil _ _ _ _ _ | exact Kd.V_nil _ _ _ _ _ | exact Kd.Q_nil _ _ _ _ _ | exact Kd.S_nil _ _ _ _ _, by repeat (first | (with_reducible first | exact HB.out | apply bB_ | apply wN_ | apply bE_) | exact HB.out)⟩
         ·
          rw [if_neg c20] at H
          have c20b0 : (t105 == (wrap64 (t101 + 5))) = false := beq_eq_false_iff_ne.mpr c20
          have c20b1 : (t105 != (wrap64 (t101 + 5))) = true := bne_iff_ne.mpr c20
          by_cases c21 : t105 < (a0.size : Int)
          ·
           rw [if_pos c21] at H
           have c21b0 : decide (t105 < (a0.size : Int)) = true := decide_eq_true c21
           clear c21
           obtain rfl := Option.some.inj H
           go_wp2_with (first | ((with_reducible refine gate_callee (f := 100) rfl ?_); refine goesL_ (some 61) rfl rfl Tryd.func100 (by kernel_rfl) rfl #[.string a0, .int .i64 (wrap64 (t101 + 5))] rfl (by (try simp only [List.map_toArray, List.map_cons, List.map_nil]); first | done | rfl | (simp only [List.length_drop, List.length_take]; rfl)) ?_; (with_reducible refine (version_zzDigits_100.calls kj12 a0 (wrap64 (t101 + 5)) t105 _ A19.out).mono ?_); rintro e w' ⟨rfl, ⟨nd, rfl⟩⟩; refine ⟨_, rfl, ?_⟩))
           go_ret
           exact ⟨_, by first | rfl | (simp [errW_none, errW_some] <;> rfl) | (simp [*, errW_none, errW_some] <;> rfl), by first | exact Kd.R_nil _ _ _ _ _ | exact Kd.N_nil _ _ _ _ _ | exact Kd.V_nil _ _ _ _ _ | exact Kd.Q_nil _ _ _ _ _ | exact Kd.S_nil _ _ _ _ _, by repeat (first | (with_reducible first | exact HB.out | apply bB_ | apply wN_ | apply bE_) | exact HB.out)⟩
          ·
           rw [if_neg c21] at H
           have c21b0 : decide (t105 < (a0.size : Int)) = false := decide_eq_false c21
           clear c21
           by_cases c22 : 1 ≤ t101
           ·
            rw [if_pos c22] at H
            have c22b0 := eq_true c22
            have c22b1 : decide (1 ≤ t101) = true := decide_eq_true c22
            clear c22
            by_cases c23 : t101 ≤ (a0.size : Int)
            ·
             rw [if_pos c23] at H
             have c23b0 := eq_true c23
             have c23b1 : decide (t101 ≤ (a0.size : Int)) = true := decide_eq_true c23
             clear c23
             obtain ⟨ji24, hji24⟩ : ∃ j_ : Int, (wrap64 (t101 + 5)) = j_ := ⟨_, rfl⟩
             replace H : (if 0 ≤ (ji24) then (if (ji24) ≤ (a0.size : Int) then (some (([a0, a0.extract 1 (t101 : Int).toNat, (⟨#[97, 108, 112, 104, 97]⟩ : ByteArray), a0.extract ((ji24) : Int).toNat a0.size] : List ByteArray))) else (none)) else (none)) = some r := by first | (rw [hji24] at H; exact H) | (simp only [hji24] at H ⊢; exact H)
             (try rw [hji24] at c20b0)
             (try rw [hji24] at c20b1)
             (try rw [hji24] at A19)
             have hji24w : (IntKind.i64.wrap (t101 + 5)) = ji24 := (i64_w _).trans hji24
             by_cases c25 : 0 ≤ (ji24)
             ·
              rw [if_pos c25] at H
              have c25b0 := eq_true c25
              have c25b1 : decide (0 ≤ (ji24)) = true := decide_eq_true c25
              clear c25
              by_cases c26 : (ji24) ≤ (a0.size : Int)
              ·
               rw [if_pos c26] at H
               have c26b0 := eq_true c26
               have c26b1 : decide ((ji24) ≤ (a0.size : Int)) = true := decide_eq_true c26
               clear c26
               obtain ⟨y106, hy106⟩ : ∃ y_ : List ByteArray, y_ = (([a0, a0.extract 1 (t101 : Int).toNat, (⟨#[97, 108, 112, 104, 97]⟩ : ByteArray), a0.extract ((ji24) : Int).toNat a0.size] : List ByteArray)) := ⟨_, rfl⟩
               replace H : (some y106) = some r := by first | (rw [hy106]; with_reducible exact H) | (have H2_ := (Option.bind_some _ _).symm.trans H; rw [hy106]; with_reducible exact H2_) | (have H2_ := (Option.bind_some _ _).symm.trans H; with_reducible exact H2_) | with_reducible exact H | (rw [hy106]; exact H) | exact H
               have Ny106 := aM_ hy106
               clear hy106
               obtain rfl := Option.some.inj H
               try go_wp2_with (first | ((with_reducible refine gate_callee (f := 100) rfl ?_); refine goesL_ (some 61) rfl rfl Tryd.func100 (by kernel_rfl) rfl #[.string a0, .int .i64 ji24] rfl (by (try simp only [List.map_toArray, List.map_cons, List.map_nil]); first | done | (simp only [hji24]; rfl) | rfl | (simp only [List.length_drop, List.length_take]; rfl)) ?_; (with_reducible refine (version_zzDigits_100.calls kj12 a0 ji24 t105 _ A19.out).mono ?_); rintro e w' ⟨rfl, ⟨nd, rfl⟩⟩; refine ⟨_, rfl, ?_⟩))
               (try (rw [drewN_self wc]; generalize hq_ : World.drewN wc _ = wc; have n0_ : Aside0 (Below w.heap.size w wc) := ⟨by rw [← hq_]; exact (by repeat (first | (with_reducible first | exact HB.out | apply bB_ | apply wN_ | apply bE_) | exact HB.out))⟩; clear HB hq_; have HB := n0_; clear n0_))
               have n0_ := aM_ (bE_ HB.out)
               clear HB
               have HB := n0_
               clear n0_
               refine start_ (n := 10) (S := fun w' => True) (ds := []) #[false, false, false, false, false, false, false, false, false, false] (by kernel_rfl) rfl rfl trivial (fun hHeld => ?_); refine with_tabW version_zzKube.tab18 version_zzKube.bits18 (fun HT_ HW_ => ?_)
               generalize wc.drew = w27 at HB hHeld ⊢
               refine pure_ (i := 0) (N := some 71) (v := ?_) (a' := ?_) #[true, false, false, false, false, false, false, false, false, false] rfl rfl (any_of HT_.out (by kernel_rfl)) (fun _ _ _ h => h) (Or.inl ⟨by rfl, ?_⟩) ?_ ?_
               rotate_left
               ·
                intro w'
                go_simp
                with_reducible rfl
               rotate_left
               ·
                simp only [Act.put, List.setIfInBounds_toArray, List.set_cons_zero, List.set_cons_succ, i64_w, i32_w]
                rfl
               refine pure_ (i := 1) (N := some 72) (v := ?_) (a' := ?_) #[true, true, false, false, false, false, false, false, false, false] rfl rfl (any_of HT_.out (by kernel_rfl)) (fun _ _ _ h => h) (Or.inl ⟨by rfl, ?_⟩) ?_ ?_
               rotate_left
               ·
                intro w'
                go_simp
                with_reducible rfl
               rotate_left
               ·
                simp only [Act.put, List.setIfInBounds_toArray, List.set_cons_zero, List.set_cons_succ, i64_w, i32_w]
                rfl
               refine pure_ (i := 2) (N := some 73) (v := ?_) (a' := ?_) #[true, true, true, false, false, false, false, false, false, false] rfl rfl (any_of HT_.out (by kernel_rfl)) (fun _ _ _ h => h) (Or.inl ⟨by rfl, ?_⟩) ?_ ?_
               rotate_left
               ·
                intro w'
                go_simp
                with_reducible rfl
               rotate_left
               ·
                simp only [Act.put, List.setIfInBounds_toArray, List.set_cons_zero, List.set_cons_succ, i64_w, i32_w]
                rfl
               refine pure_ (i := 3) (N := some 74) (v := ?_) (a' := ?_) #[true, true, true, true, false, false, false, false, false, false] rfl rfl (any_of HT_.out (by kernel_rfl)) (fun _ _ _ h => h) (Or.inl ⟨by rfl, ?_⟩) ?_ ?_
               rotate_left
               ·
                intro w'
                go_simp
                with_reducible rfl
               rotate_left
               ·
                simp only [Act.put, List.setIfInBounds_toArray, List.set_cons_zero, List.set_cons_succ, i64_w, i32_w]
                rfl
               refine pure_ (i := 4) (N := some 75) (v := ?_) (a' := ?_) #[true, true, true, true, true, false, false, false, false, false] rfl rfl (any_of HT_.out (by kernel_rfl)) (fun _ _ _ h => h) (Or.inl ⟨by rfl, ?_⟩) ?_ ?_
               rotate_left
               ·
                intro w'
                go_simp
                with_reducible rfl
               rotate_left
               ·
                simp only [Act.put, List.setIfInBounds_toArray, List.set_cons_zero, List.set_cons_succ, i64_w, i32_w]
                rfl
               refine pure_ (i := 5) (N := some 76) (v := ?_) (a' := ?_) #[true, true, true, true, true, true, false, false, false, false] rfl rfl (any_of HT_.out (by kernel_rfl)) (fun _ _ _ h => h) (Or.inl ⟨by rfl, ?_⟩) ?_ ?_
               rotate_left
               ·
                intro w'
                go_simp
                with_reducible rfl
               rotate_left
               ·
                simp only [Act.put, List.setIfInBounds_toArray, List.set_cons_zero, List.set_cons_succ, i64_w, i32_w]
                rfl
               refine pure_ (i := 6) (N := some 77) (v := ?_) (a' := ?_) #[true, true, true, true, true, true, true, false, false, false] rfl rfl (any_of HT_.out (by kernel_rfl)) (fun _ _ _ h => h) (Or.inl ⟨by rfl, ?_⟩) ?_ ?_
               rotate_left
               ·
                intro w'
                go_simp
                with_reducible rfl
               rotate_left
               ·
                simp only [Act.put, List.setIfInBounds_toArray, List.set_cons_zero, List.set_cons_succ, i64_w, i32_w]
                rfl
               refine pure_ (i := 7) (N := some 78) (v := ?_) (a' := ?_) #[true, true, true, true, true, true, true, true, false, false] rfl rfl (any_of HT_.out (by kernel_rfl)) (fun _ _ _ h => h) (Or.inl ⟨by rfl, ?_⟩) ?_ ?_
               rotate_left
               ·
                intro w'
                go_simp
                with_reducible rfl
               rotate_left
               ·
                simp only [Act.put, List.setIfInBounds_toArray, List.set_cons_zero, List.set_cons_succ, i64_w, i32_w]
                rfl
               refine one_ (i := 8) (N := some 79) #[true, true, true, true, true, true, true, true, true, false] rfl rfl (one_of HT_.out (by kernel_rfl)) (by decide) (fun K hK => ?_)
               refine Kd.R_lit_step Kd.string _ 9 ?hg (N := 79) ?hd (xs := ([a0, a0.extract 1 (t101 : Int).toNat, (⟨#[97, 108, 112, 104, 97]⟩ : ByteArray), a0.extract ((ji24) : Int).toNat a0.size] : List ByteArray)) (inner := [.string a0, .string (a0.extract 1 (t101 : Int).toNat), .string (⟨#[97, 108, 112, 104, 97]⟩ : ByteArray), .string (a0.extract ((ji24) : Int).toNat a0.size)]) (ok := fun _ => True) (okp := fun _ => True) ?hr ?hp (fun _ hk => hk) trivial (Below.refl _ _) (Nat.le_refl _) (by simp) ?_; (case hd => rfl); (case hg => rfl); (case hr => first | (go_simp; done) | (go_simp; rfl)); (case hp => exact (Reps.one (show Kd.M Kd.string _ _ _ a0 [.string a0] from rfl) (Reps.one (show Kd.M Kd.string _ _ _ (a0.extract 1 (t101 : Int).toNat) [.string (a0.extract 1 (t101 : Int).toNat)] from rfl) (Reps.one (show Kd.M Kd.string _ _ _ (⟨#[97, 108, 112, 104, 97]⟩ : ByteArray) [.string (⟨#[97, 108, 112, 104, 97]⟩ : ByteArray)] from rfl) (Reps.one (show Kd.M Kd.string _ _ _ (a0.extract ((ji24) : Int).toNat a0.size) [.string (a0.extract ((ji24) : Int).toNat a0.size)] from rfl) (Reps.none _ _))))))
               intro v107 w28 ho29 hb hg_ hnew_
               clear hg_ hnew_
               (first | rw [← Ny106.out] at ho29 | (simp only [Int.reduceToNat] at ho29; rw [← Ny106.out] at ho29))
               have n0_ := aM_ (Kd.R_lower ho29 (below_size (by repeat (first | (with_reducible first | exact HB.out | apply bB_ | apply wN_ | apply bE_) | exact HB.out))))
               have n1_ := aM_ (below_step (by repeat (first | (with_reducible first | exact HB.out | apply bB_ | apply wN_ | apply bE_) | exact HB.out)) hb)
               clear HB
               have HO108 := n0_
               have HB := n1_
               clear n0_ n1_
               clear hb ho29
               refine hK.out _ _ trivial (fun hHeld => ?_)
               clear hK K
               refine norm_ (a' := ?_) ?_ ?_
               rotate_left
               ·
                show Act.put _ (some 79) _ = _
                simp only [Act.put, List.setIfInBounds_toArray, List.set_cons_zero, List.set_cons_succ, i64_w, i32_w]
                rfl
               refine pure_ (i := 9) (N := some 2) (v := ?_) (a' := ?_) #[true, true, true, true, true, true, true, true, true, true] rfl rfl (any_of HT_.out (by kernel_rfl)) (fun _ _ _ h => h) (Or.inl ⟨by rfl, ?_⟩) ?_ ?_
               rotate_left
               ·
                intro w'
                go_simp
                with_reducible rfl
               rotate_left
               ·
                simp only [Act.put, List.setIfInBounds_toArray, List.set_cons_zero, List.set_cons_succ, i64_w, i32_w]
                rfl
               refine done_ (done_of HT_.out (by kernel_rfl)) ?_
               try go_wp2
               go_ret
               exact ⟨_, by first | rfl | (simp [errW_none, errW_some] <;> rfl) | (simp only [← hji24]; first | rfl | (simp [errW_none, errW_some] <;> rfl)) | (simp [*, errW_none, errW_some] <;> rfl), by (with_reducible repeat (first | apply kA_ | apply kN_ | apply kD_)); exact HO108.out, by repeat (first | (with_reducible first | exact HB.out | apply bB_ | apply wN_ | apply bE_) | exact HB.out)⟩
              ·
               rw [if_neg c26] at H
               exact absurd H (by simp)
             ·
              rw [if_neg c25] at H
              exact absurd H (by simp)
            ·
             rw [if_neg c23] at H
             exact absurd H (by simp)
           ·
            rw [if_neg c22] at H
            exact absurd H (by simp)
        ·
         replace c18 := Bool.eq_false_iff.mpr c18
         subst c18
         have H1 : (if (a0.size : Int) ≥ (wrap64 (t101 + 4)) then (if 0 ≤ t101 then (if t101 ≤ (wrap64 (t101 + 4)) then (if (wrap64 (t101 + 4)) ≤ (a0.size : Int) then (version_zzKube.j2 kj12 a0 t101 ((a0.extract (t101 : Int).toNat ((wrap64 (t101 + 4)) : Int).toNat).toList == ([98, 101, 116, 97] : List UInt8))) else (none)) else (none)) else (none)) else (version_zzKube.j2 kj12 a0 t101 false)) = some r := by rw [if_neg (show ¬ (false = true) by decide)] at H; exact H
         clear H
         have H := H1
         clear H1
         have HC30 := aM_ H
         clear H
         go_upto_region 12 with (fail)
         go_cut [41] (fun v41 wc => ∃ (kq : Nat) (x41_29 : Bool), v41 = .bool x41_29 ∧ Aside0 (version_zzKube.j2 kq a0 t101 x41_29 = some r) ∧ Aside0 (kq ≤ kj12) ∧ Aside0 (Below w.heap.size w wc))
         case first =>
          have H := HC30.out
          clear HC30
          by_cases c31 : (a0.size : Int) ≥ (wrap64 (t101 + 4))
          ·
           rw [if_pos c31] at H
           have c31b0 : decide ((wrap64 (t101 + 4)) ≤ (a0.size : Int)) = true := decide_eq_true c31
           clear c31
           (first | rw [c31b0] | (simp only [i64_w, i32_w]; rw [c31b0]) | skip)
           by_cases c32 : 0 ≤ t101
           ·
            rw [if_pos c32] at H
            have c32b0 := eq_true c32
            have c32b1 : decide (0 ≤ t101) = true := decide_eq_true c32
            clear c32
            by_cases c33 : t101 ≤ (wrap64 (t101 + 4))
            ·
             rw [if_pos c33] at H
             have c33b0 := eq_true c33
             have c33b1 : decide (t101 ≤ (wrap64 (t101 + 4))) = true := decide_eq_true c33
             by_cases c34 : (wrap64 (t101 + 4)) ≤ (a0.size : Int)
             ·
              rw [if_pos c34] at H
              have c34b0 := eq_true c34
              have c34b1 : decide ((wrap64 (t101 + 4)) ≤ (a0.size : Int)) = true := decide_eq_true c34
              have H' := aM_ H
              clear H
              go_wp2
              go_meet
              case rel => exact ⟨_, (((a0.extract (t101 : Int).toNat ((wrap64 (t101 + 4)) : Int).toNat).toList == ([98, 101, 116, 97] : List UInt8))), (by first | rfl | (simp; done) | (simp [*]; done)), H', ⟨by have := HJ1.out; have := HJ12.out; first | omega | exact Nat.le_refl _⟩, ⟨by repeat (first | (with_reducible first | exact HB.out | apply bB_ | apply wN_ | apply bE_) | exact HB.out)⟩⟩
             ·
              rw [if_neg c34] at H
              exact absurd H (by simp)
            ·
             rw [if_neg c33] at H
             exact absurd H (by simp)
           ·
            rw [if_neg c32] at H
            exact absurd H (by simp)
          ·
           rw [if_neg c31] at H
           have c31b0 : decide ((wrap64 (t101 + 4)) ≤ (a0.size : Int)) = false := decide_eq_false c31
           clear c31
           (first | rw [c31b0] | (simp only [i64_w, i32_w]; rw [c31b0]) | skip)
           have H' := aM_ H
           clear H
           go_wp2
           go_meet
           case rel => exact ⟨_, (false), (by first | rfl | (simp; done) | (simp [*]; done)), H', ⟨by have := HJ1.out; have := HJ12.out; first | omega | exact Nat.le_refl _⟩, ⟨by repeat (first | (with_reducible first | exact HB.out | apply bB_ | apply wN_ | apply bE_) | exact HB.out)⟩⟩
         case rest =>
          clear HC30
          try clear c1
          try clear c2
          try clear p2
          try clear c3
          try clear c3b0
          try clear c3b1
          try clear c4
          try clear c4b0
          try clear c4b1
          try clear p5
          try clear q5
          try clear hx5
          try clear qi5
          try clear c6
          try clear p6
          try clear c8
          try clear c8b0
          try clear c8b1
          try clear c9
          try clear c9b0
          try clear c9b1
          try clear c10
          try clear c10b0
          try clear c10b1
          try clear c14
          try clear c14b0
          try clear c15
          try clear c15b0
          try clear c15b1
          try clear c16
          try clear c16b0
          try clear c16b1
          try clear c17
          try clear c17b0
          try clear c17b1
          try clear c18
          try clear c20
          try clear c20b0
          try clear c20b1
          try clear c21
          try clear c21b0
          try clear c22
          try clear c22b0
          try clear c22b1
          try clear c23
          try clear c23b0
          try clear c23b1
          try clear c25
          try clear c25b0
          try clear c25b1
          try clear c26
          try clear c26b0
          try clear c26b1
          try clear c31
          try clear c31b0
          try clear c32
          try clear c32b0
          try clear c32b1
          try clear c33
          try clear c33b0
          try clear c33b1
          try clear c34
          try clear c34b0
          try clear c34b1
          try clear p2
          try clear p5
          try clear p6
          try clear q5
          obtain ⟨kq, x41_29, rfl, HA, HJ29, HB⟩ := hcut
          cases kq with
          | zero => exact absurd HA.out (by simp [version_zzKube.j2])
          | succ kj29 =>
           have H := HA.out
           clear HA
           simp only [version_zzKube.j2] at H
           by_cases c35 : x41_29 = true
           ·
            subst c35
            have H1 : ((version_zzDigits_100.f kj29 a0 (wrap64 (t101 + 4))).bind fun t109 => (if t109 = (wrap64 (t101 + 4)) then (some ([] : List ByteArray)) else (if t109 < (a0.size : Int) then (some ([] : List ByteArray)) else (if 1 ≤ t101 then (if t101 ≤ (a0.size : Int) then (if 0 ≤ (wrap64 (t101 + 4)) then (if (wrap64 (t101 + 4)) ≤ (a0.size : Int) then (some (([a0, a0.extract 1 (t101 : Int).toNat, (⟨#[98, 101, 116, 97]⟩ : ByteArray), a0.extract ((wrap64 (t101 + 4)) : Int).toNat a0.size] : List ByteArray))) else (none)) else (none)) else (none)) else (none))))) = some r := by rw [if_pos rfl] at H; exact H
            clear H
            have H := H1
            clear H1
            replace H := Option.bind_eq_some_iff.mp H
            obtain ⟨t109, A360, H⟩ := H
            replace H : (if t109 = (wrap64 (t101 + 4)) then (some ([] : List ByteArray)) else (if t109 < (a0.size : Int) then (some ([] : List ByteArray)) else (if 1 ≤ t101 then (if t101 ≤ (a0.size : Int) then (if 0 ≤ (wrap64 (t101 + 4)) then (if (wrap64 (t101 + 4)) ≤ (a0.size : Int) then (some (([a0, a0.extract 1 (t101 : Int).toNat, (⟨#[98, 101, 116, 97]⟩ : ByteArray), a0.extract ((wrap64 (t101 + 4)) : Int).toNat a0.size] : List ByteArray))) else (none)) else (none)) else (none)) else (none)))) = some r := H
            have A36 := aM_ A360
            clear A360
            by_cases c37 : t109 = (wrap64 (t101 + 4))
            ·
             rw [if_pos c37] at H
             have c37b0 : (t109 == (wrap64 (t101 + 4))) = true := beq_iff_eq.mpr c37
             have c37b1 : (t109 != (wrap64 (t101 + 4))) = false := bne_eq_false_iff_eq.mpr c37
             clear c37
             obtain rfl := Option.some.inj H
             go_wp2_with (first | ((with_reducible refine gate_callee (f := 100) rfl ?_); refine goesL_ (some 61) rfl rfl Tryd.func100 (by kernel_rfl) rfl #[.string a0, .int .i64 (wrap64 (t101 + 4))] rfl (by (try simp only [List.map_toArray, List.map_cons, List.map_nil]); first | done | rfl | (simp only [List.length_drop, List.length_take]; rfl)) ?_; (with_reducible refine (version_zzDigits_100.calls kj29 a0 (wrap64 (t101 + 4)) t109 _ A36.out).mono ?_); rintro e w' ⟨rfl, ⟨nd, rfl⟩⟩; refine ⟨_, rfl, ?_⟩))
             go_ret
             exact ⟨_, by first | rfl | (simp [errW_none, errW_some] <;> rfl) | (simp [*, errW_none, errW_some] <;> rfl), by first | exact Kd.R_nil _ _ _ _ _ | exact Kd.N_nil _ _ _ _ _ | exact Kd.V_nil _ _ _ _ _ | exact Kd.Q_nil _ _ _ _ _ | exact Kd.S_nil _ _ _ _ _, by repeat (first | (with_reducible first | exact HB.out | apply bB_ | apply wN_ | apply bE_) | exact HB.out)⟩
            ·
             rw [if_neg c37] at H
             have c37b0 : (t109 == (wrap64 (t101 + 4))) = false := beq_eq_false_iff_ne.mpr c37
             have c37b1 : (t109 != (wrap64 (t101 + 4))) = true := bne_iff_ne.mpr c37
             by_cases c38 : t109 < (a0.size : Int)
             ·
              rw [if_pos c38] at H
              have c38b0 : decide (t109 < (a0.size : Int)) = true := decide_eq_true c38
              clear c38
              obtain rfl := Option.some.inj H
              go_wp2_with (first | ((with_reducible refine gate_callee (f := 100) rfl ?_); refine goesL_ (some 61) rfl rfl Tryd.func100 (by kernel_rfl) rfl #[.string a0, .int .i64 (wrap64 (t101 + 4))] rfl (by (try simp only [List.map_toArray, List.map_cons, List.map_nil]); first | done | rfl | (simp only [List.length_drop, List.length_take]; rfl)) ?_; (with_reducible refine (version_zzDigits_100.calls kj29 a0 (wrap64 (t101 + 4)) t109 _ A36.out).mono ?_); rintro e w' ⟨rfl, ⟨nd, rfl⟩⟩; refine ⟨_, rfl, ?_⟩))
              go_ret
              exact ⟨_, by first | rfl | (simp [errW_none, errW_some] <;> rfl) | (simp [*, errW_none, errW_some] <;> rfl), by first | exact Kd.R_nil _ _ _ _ _ | exact Kd.N_nil _ _ _ _ _ | exact Kd.V_nil _ _ _ _ _ | exact Kd.Q_nil _ _ _ _ _ | exact Kd.S_nil _ _ _ _ _, by repeat (first | (with_reducible first | exact HB.out | apply bB_ | apply wN_ | apply bE_) | exact HB.out)⟩
             ·
              rw [if_neg c38] at H
              have c38b0 : decide (t109 < (a0.size : Int)) = false := decide_eq_false c38
              clear c38
              by_cases c39 : 1 ≤ t101
              ·
               rw [if_pos c39] at H
               have c39b0 := eq_true c39
               have c39b1 : decide (1 ≤ t101) = true := decide_eq_true c39
               clear c39
               by_cases c40 : t101 ≤ (a0.size : Int)
               ·
                rw [if_pos c40] at H
                have c40b0 := eq_true c40
                have c40b1 : decide (t101 ≤ (a0.size : Int)) = true := decide_eq_true c40
                clear c40
                obtain ⟨ji41, hji41⟩ : ∃ j_ : Int, (wrap64 (t101 + 4)) = j_ := ⟨_, rfl⟩
                replace H : (if 0 ≤ (ji41) then (if (ji41) ≤ (a0.size : Int) then (some (([a0, a0.extract 1 (t101 : Int).toNat, (⟨#[98, 101, 116, 97]⟩ : ByteArray), a0.extract ((ji41) : Int).toNat a0.size] : List ByteArray))) else (none)) else (none)) = some r := by first | (rw [hji41] at H; exact H) | (simp only [hji41] at H ⊢; exact H)
                (try rw [hji41] at c37b0)
                (try rw [hji41] at c37b1)
                (try rw [hji41] at A36)
                have hji41w : (IntKind.i64.wrap (t101 + 4)) = ji41 := (i64_w _).trans hji41
                by_cases c42 : 0 ≤ (ji41)
                ·
                 rw [if_pos c42] at H
                 have c42b0 := eq_true c42
                 have c42b1 : decide (0 ≤ (ji41)) = true := decide_eq_true c42
                 clear c42
                 by_cases c43 : (ji41) ≤ (a0.size : Int)
                 ·
                  rw [if_pos c43] at H
                  have c43b0 := eq_true c43
                  have c43b1 : decide ((ji41) ≤ (a0.size : Int)) = true := decide_eq_true c43
                  clear c43
                  obtain ⟨y110, hy110⟩ : ∃ y_ : List ByteArray, y_ = (([a0, a0.extract 1 (t101 : Int).toNat, (⟨#[98, 101, 116, 97]⟩ : ByteArray), a0.extract ((ji41) : Int).toNat a0.size] : List ByteArray)) := ⟨_, rfl⟩
                  replace H : (some y110) = some r := by first | (rw [hy110]; with_reducible exact H) | (have H2_ := (Option.bind_some _ _).symm.trans H; rw [hy110]; with_reducible exact H2_) | (have H2_ := (Option.bind_some _ _).symm.trans H; with_reducible exact H2_) | with_reducible exact H | (rw [hy110]; exact H) | exact H
                  have Ny110 := aM_ hy110
                  clear hy110
                  obtain rfl := Option.some.inj H
                  try go_wp2_with (first | ((with_reducible refine gate_callee (f := 100) rfl ?_); refine goesL_ (some 61) rfl rfl Tryd.func100 (by kernel_rfl) rfl #[.string a0, .int .i64 ji41] rfl (by (try simp only [List.map_toArray, List.map_cons, List.map_nil]); first | done | (simp only [hji41]; rfl) | rfl | (simp only [List.length_drop, List.length_take]; rfl)) ?_; (with_reducible refine (version_zzDigits_100.calls kj29 a0 ji41 t109 _ A36.out).mono ?_); rintro e w' ⟨rfl, ⟨nd, rfl⟩⟩; refine ⟨_, rfl, ?_⟩))
                  (try (rw [drewN_self wc]; generalize hq_ : World.drewN wc _ = wc; have n0_ : Aside0 (Below w.heap.size w wc) := ⟨by rw [← hq_]; exact (by repeat (first | (with_reducible first | exact HB.out | apply bB_ | apply wN_ | apply bE_) | exact HB.out))⟩; clear HB hq_; have HB := n0_; clear n0_))
                  have n0_ := aM_ (bE_ HB.out)
                  clear HB
                  have HB := n0_
                  clear n0_
                  refine start_ (n := 10) (S := fun w' => True) (ds := []) #[false, false, false, false, false, false, false, false, false, false] (by kernel_rfl) rfl rfl trivial (fun hHeld => ?_); refine with_tabW version_zzKube.tab18 version_zzKube.bits18 (fun HT_ HW_ => ?_)
                  generalize wc.drew = w44 at HB hHeld ⊢
                  refine pure_ (i := 0) (N := some 71) (v := ?_) (a' := ?_) #[true, false, false, false, false, false, false, false, false, false] rfl rfl (any_of HT_.out (by kernel_rfl)) (fun _ _ _ h => h) (Or.inl ⟨by rfl, ?_⟩) ?_ ?_
                  rotate_left
                  ·
                   intro w'
                   go_simp
                   with_reducible rfl
                  rotate_left
                  ·
                   simp only [Act.put, List.setIfInBounds_toArray, List.set_cons_zero, List.set_cons_succ, i64_w, i32_w]
                   rfl
                  refine pure_ (i := 1) (N := some 72) (v := ?_) (a' := ?_) #[true, true, false, false, false, false, false, false, false, false] rfl rfl (any_of HT_.out (by kernel_rfl)) (fun _ _ _ h => h) (Or.inl ⟨by rfl, ?_⟩) ?_ ?_
                  rotate_left
                  ·
                   intro w'
                   go_simp
                   with_reducible rfl
                  rotate_left
                  ·
                   simp only [Act.put, List.setIfInBounds_toArray, List.set_cons_zero, List.set_cons_succ, i64_w, i32_w]
                   rfl
                  refine pure_ (i := 2) (N := some 73) (v := ?_) (a' := ?_) #[true, true, true, false, false, false, false, false, false, false] rfl rfl (any_of HT_.out (by kernel_rfl)) (fun _ _ _ h => h) (Or.inl ⟨by rfl, ?_⟩) ?_ ?_
                  rotate_left
                  ·
                   intro w'
                   go_simp
                   with_reducible rfl
                  rotate_left
                  ·
                   simp only [Act.put, List.setIfInBounds_toArray, List.set_cons_zero, List.set_cons_succ, i64_w, i32_w]
                   rfl
                  refine pure_ (i := 3) (N := some 74) (v := ?_) (a' := ?_) #[true, true, true, true, false, false, false, false, false, false] rfl rfl (any_of HT_.out (by kernel_rfl)) (fun _ _ _ h => h) (Or.inl ⟨by rfl, ?_⟩) ?_ ?_
                  rotate_left
                  ·
                   intro w'
                   go_simp
                   with_reducible rfl
                  rotate_left
                  ·
                   simp only [Act.put, List.setIfInBounds_toArray, List.set_cons_zero, List.set_cons_succ, i64_w, i32_w]
                   rfl
                  refine pure_ (i := 4) (N := some 75) (v := ?_) (a' := ?_) #[true, true, true, true, true, false, false, false, false, false] rfl rfl (any_of HT_.out (by kernel_rfl)) (fun _ _ _ h => h) (Or.inl ⟨by rfl, ?_⟩) ?_ ?_
                  rotate_left
                  ·
                   intro w'
                   go_simp
                   with_reducible rfl
                  rotate_left
                  ·
                   simp only [Act.put, List.setIfInBounds_toArray, List.set_cons_zero, List.set_cons_succ, i64_w, i32_w]
                   rfl
                  refine pure_ (i := 5) (N := some 76) (v := ?_) (a' := ?_) #[true, true, true, true, true, true, false, false, false, false] rfl rfl (any_of HT_.out (by kernel_rfl)) (fun _ _ _ h => h) (Or.inl ⟨by rfl, ?_⟩) ?_ ?_
                  rotate_left
                  ·
                   intro w'
                   go_simp
                   with_reducible rfl
                  rotate_left
                  ·
                   simp only [Act.put, List.setIfInBounds_toArray, List.set_cons_zero, List.set_cons_succ, i64_w, i32_w]
                   rfl
                  refine pure_ (i := 6) (N := some 77) (v := ?_) (a' := ?_) #[true, true, true, true, true, true, true, false, false, false] rfl rfl (any_of HT_.out (by kernel_rfl)) (fun _ _ _ h => h) (Or.inl ⟨by rfl, ?_⟩) ?_ ?_
                  rotate_left
                  ·
                   intro w'
                   go_simp
                   with_reducible rfl
                  rotate_left
                  ·
                   simp only [Act.put, List.setIfInBounds_toArray, List.set_cons_zero, List.set_cons_succ, i64_w, i32_w]
                   rfl
                  refine pure_ (i := 7) (N := some 78) (v := ?_) (a' := ?_) #[true, true, true, true, true, true, true, true, false, false] rfl rfl (any_of HT_.out (by kernel_rfl)) (fun _ _ _ h => h) (Or.inl ⟨by rfl, ?_⟩) ?_ ?_
                  rotate_left
                  ·
                   intro w'
                   go_simp
                   with_reducible rfl
                  rotate_left
                  ·
                   simp only [Act.put, List.setIfInBounds_toArray, List.set_cons_zero, List.set_cons_succ, i64_w, i32_w]
                   rfl
                  refine one_ (i := 8) (N := some 79) #[true, true, true, true, true, true, true, true, true, false] rfl rfl (one_of HT_.out (by kernel_rfl)) (by decide) (fun K hK => ?_)
                  refine Kd.R_lit_step Kd.string _ 9 ?hg (N := 79) ?hd (xs := ([a0, a0.extract 1 (t101 : Int).toNat, (⟨#[98, 101, 116, 97]⟩ : ByteArray), a0.extract ((ji41) : Int).toNat a0.size] : List ByteArray)) (inner := [.string a0, .string (a0.extract 1 (t101 : Int).toNat), .string (⟨#[98, 101, 116, 97]⟩ : ByteArray), .string (a0.extract ((ji41) : Int).toNat a0.size)]) (ok := fun _ => True) (okp := fun _ => True) ?hr ?hp (fun _ hk => hk) trivial (Below.refl _ _) (Nat.le_refl _) (by simp) ?_; (case hd => rfl); (case hg => rfl); (case hr => first | (go_simp; done) | (go_simp; rfl)); (case hp => exact (Reps.one (show Kd.M Kd.string _ _ _ a0 [.string a0] from rfl) (Reps.one (show Kd.M Kd.string _ _ _ (a0.extract 1 (t101 : Int).toNat) [.string (a0.extract 1 (t101 : Int).toNat)] from rfl) (Reps.one (show Kd.M Kd.string _ _ _ (⟨#[98, 101, 116, 97]⟩ : ByteArray) [.string (⟨#[98, 101, 116, 97]⟩ : ByteArray)] from rfl) (Reps.one (show Kd.M Kd.string _ _ _ (a0.extract ((ji41) : Int).toNat a0.size) [.string (a0.extract ((ji41) : Int).toNat a0.size)] from rfl) (Reps.none _ _))))))
                  intro v111 w45 ho46 hb hg_ hnew_
                  clear hg_ hnew_
                  (first | rw [← Ny110.out] at ho46 | (simp only [Int.reduceToNat] at ho46; rw [← Ny110.out] at ho46))
                  have n0_ := aM_ (Kd.R_lower ho46 (below_size (by repeat (first | (with_reducible first | exact HB.out | apply bB_ | apply wN_ | apply bE_) | exact HB.out))))
                  have n1_ := aM_ (below_step (by repeat (first | (with_reducible first | exact HB.out | apply bB_ | apply wN_ | apply bE_) | exact HB.out)) hb)
                  clear HB
                  have HO112 := n0_
                  have HB := n1_
                  clear n0_ n1_
                  clear hb ho46
                  refine hK.out _ _ trivial (fun hHeld => ?_)
                  clear hK K
                  refine norm_ (a' := ?_) ?_ ?_
                  rotate_left
                  ·
                   show Act.put _ (some 79) _ = _
                   simp only [Act.put, List.setIfInBounds_toArray, List.set_cons_zero, List.set_cons_succ, i64_w, i32_w]
                   rfl
                  refine pure_ (i := 9) (N := some 2) (v := ?_) (a' := ?_) #[true, true, true, true, true, true, true, true, true, true] rfl rfl (any_of HT_.out (by kernel_rfl)) (fun _ _ _ h => h) (Or.inl ⟨by rfl, ?_⟩) ?_ ?_
                  rotate_left
                  ·
                   intro w'
                   go_simp
                   with_reducible rfl
                  rotate_left
                  ·
                   simp only [Act.put, List.setIfInBounds_toArray, List.set_cons_zero, List.set_cons_succ, i64_w, i32_w]
                   rfl
                  refine done_ (done_of HT_.out (by kernel_rfl)) ?_
                  try go_wp2
                  go_ret
                  exact ⟨_, by first | rfl | (simp [errW_none, errW_some] <;> rfl) | (simp only [← hji41]; first | rfl | (simp [errW_none, errW_some] <;> rfl)) | (simp [*, errW_none, errW_some] <;> rfl), by (with_reducible repeat (first | apply kA_ | apply kN_ | apply kD_)); exact HO112.out, by repeat (first | (with_reducible first | exact HB.out | apply bB_ | apply wN_ | apply bE_) | exact HB.out)⟩
                 ·
                  rw [if_neg c43] at H
                  exact absurd H (by simp)
                ·
                 rw [if_neg c42] at H
                 exact absurd H (by simp)
               ·
                rw [if_neg c40] at H
                exact absurd H (by simp)
              ·
               rw [if_neg c39] at H
               exact absurd H (by simp)
           ·
            replace c35 := Bool.eq_false_iff.mpr c35
            subst c35
            have H1 : (some ([] : List ByteArray)) = some r := by rw [if_neg (show ¬ (false = true) by decide)] at H; exact H
            clear H
            have H := H1
            clear H1
            obtain rfl := Option.some.inj H
            go_wp2
            go_ret
            exact ⟨_, by first | rfl | (simp [errW_none, errW_some] <;> rfl) | (simp [*, errW_none, errW_some] <;> rfl), by first | exact Kd.R_nil _ _ _ _ _ | exact Kd.N_nil _ _ _ _ _ | exact Kd.V_nil _ _ _ _ _ | exact Kd.Q_nil _ _ _ _ _ | exact Kd.S_nil _ _ _ _ _, by repeat (first | (with_reducible first | exact HB.out | apply bB_ | apply wN_ | apply bE_) | exact HB.out)⟩

-- NOT PRINTED: function 128 (strconv_lower)

-- NOT PRINTED: function 129 (strconv_underscoreOK)

-- NOT PRINTED: function 115 (strconv_ParseUint_115)

-- NOT PRINTED: function 117 (strconv_ParseInt)

-- NOT PRINTED: function 101 (strconv_Atoi_101)

-- NOT PRINTED: function 130 (stringslite_Clone)

-- NOT PRINTED: function 118 (strconv_syntaxError)

-- NOT PRINTED: function 119 (strconv_rangeError)

-- NOT PRINTED: function 72 (errors_New)

-- NOT PRINTED: function 107 (strconv_small)

-- NOT PRINTED: function 123 (strconv_log10Pow2)

-- NOT PRINTED: function 124 (bits_Len64)

-- NOT PRINTED: function 125 (strconv_bool2_int)

-- NOT PRINTED: function 108 (strconv_numDigits)

-- NOT PRINTED: function 109 (strconv_formatBase10)

-- NOT PRINTED: function 126 (strconv_isPowerOfTwo)

-- NOT PRINTED: function 132 (bits_TrailingZeros32)

-- NOT PRINTED: function 133 (bits_TrailingZeros64)

-- NOT PRINTED: function 127 (bits_TrailingZeros)

-- NOT PRINTED: function 110 (strconv_formatBits)

-- NOT PRINTED: function 135 (strconv_FormatInt)

-- NOT PRINTED: function 134 (strconv_Itoa_134)

-- NOT PRINTED: function 131 (strconv_Itoa_131)

-- NOT PRINTED: function 120 (strconv_baseError)

-- NOT PRINTED: function 121 (strconv_bitSizeError)

-- NOT PRINTED: function 102 (strconv_toError)

-- NOT PRINTED: function 89 (strconv_Atoi_89)

-- NOT PRINTED: function 78 (version_parseKubeVersion)

-- NOT PRINTED: function 103 (bytealg_abigen_runtime_cmpstring)

-- NOT PRINTED: function 90 (bytealg_CompareString)

/-! ### strings_Compare: function 79 -/
def strings_Compare.f (a0 a1 : ByteArray) : Option Int := some (Lib.compareBytes a0.data.toList a1.data.toList)
theorem strings_Compare.calls (a0 a1 : ByteArray) (r : Int) (w : World) (h : strings_Compare.f a0 a1 = some r) :
  Calls Tryd.prog 79 #[.string a0, .string a1] w fun e w' => e = .returned (.int .i64 r) ∧ Drawn0 w w' := by
 obtain rfl := Option.some.inj h
 exact (Tryd.strings_Compare a0 a1 w).mono (fun e w' h => ⟨h.1, by rw [h.2]; exact Drawn0.refl _⟩)
-- NOT PRINTED: function 57 (version_CompareKubeAwareVersionStrings)

-- NOT PRINTED: function 26 (impl_KubeCompare)

-- NOT PRINTED: function 59 (version_Version_Components)

-- NOT PRINTED: function 60 (version_Version_PreRelease)

-- NOT PRINTED: function 61 (version_Version_BuildMetadata)

-- NOT PRINTED: function 91 (bytes_Buffer_tryGrowByReslice)

-- NOT PRINTED: function 104 (bytes_Buffer_Len)

-- NOT PRINTED: function 105 (bytes_Buffer_Reset)

-- NOT PRINTED: function 106 (bytes_growSlice)

-- NOT PRINTED: function 92 (bytes_Buffer_grow)

-- NOT PRINTED: function 83 (bytes_Buffer_WriteString)

-- NOT PRINTED: function 93 (strconv_FormatUint_93)

-- NOT PRINTED: function 84 (strconv_FormatUint_84)

-- NOT PRINTED: function 85 (bytes_Buffer_String)

-- NOT PRINTED: function 62 (version_Version_String)

-- NOT PRINTED: function 63 (version_Version_Major)

-- NOT PRINTED: function 64 (version_Version_Minor)

-- NOT PRINTED: function 65 (version_Version_Patch)

-- NOT PRINTED: function 29 (impl_ver)

-- NOT PRINTED: function 111 (version_zzBlanks)

end Go.Proofs.YtomoefldmgfaoaaDoor.PvHk
