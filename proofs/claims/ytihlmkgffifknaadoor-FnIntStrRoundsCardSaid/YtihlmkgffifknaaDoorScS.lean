/- A part by percent: the second law's walk. -/
import Derived.Test.YtihlmkgffifknaaDoorScR
import Derived.Deep.RegionHeld3
set_option linter.unusedVariables false
set_option linter.unusedSimpArgs false
namespace Go.Proofs.YtihlmkgffifknaaDoor.Sc
open Go Go.Sort Go.RowKit Go.Proofs.YtihlmkgffifknaaDoor Go.Proofs.YtihlmkgffifknaaDoorW.PrintWords Go.Proofs.YtihlmkgffifknaaDoor.PFnIntStrText Go.Proofs.YtihlmkgffifknaaDoor.Txt

theorem pc_call (total : Int) (up : Bool) (u : Nat) (hu : u ≤ 255) (h0 : -2147483648 ≤ total) (h1 : total ≤ 2147483648) (w : World) :
    Calls Tryd.prog 16 #[.agg #[.int .i64 1, .int .i32 0, .string (pc u)], .int .i64 total, .bool up] w fun e w' => e = .returned (.tuple #[.int .i64 (part up ((u : Int) * total)), .bool true]) ∧ Below w.heap.size w w' := by
  obtain ⟨f0, f1, f2, f3⟩ := pc_facts u hu
  have hb : ((u : Int) * total).natAbs < 9007199254740992 := by
    rw [Int.natAbs_mul]
    have : (u : Int).natAbs * total.natAbs ≤ 255 * 2147483648 := Nat.mul_le_mul (by omega) (by omega)
    omega
  refine (call_pct total up 0 (pc u) w (dg u) (u : Int) f1 f2 (by omega) f3 (by omega) (by omega)).mono fun e w' ⟨⟨z, h, hz⟩, hbl⟩ => ⟨?_, hbl⟩
  rw [h, hz hb (by omega) (by omega)]
set_option maxRecDepth 100000 in
theorem at_calls (total : Int) (up : Bool) (u : Nat) (hu : u ≤ 255) (h0 : -2147483648 ≤ total) (h1 : total ≤ 2147483648) (g : Nat) (w : World) (hg : w.heap[g]? = some (.cells #[.int .i64 total] 3 (0, 0))) :
    Calls Tryd.prog 15 #[.int .i64 (u : Int), .bool up, .pointer (some ⟨g, 0, none⟩)] w fun e w' => e = .returned (.tuple #[.int .i64 (part up ((u : Int) * total)), .bool true]) ∧ Below w.heap.size w w' := by
  have mixed : Tryd.prog.follows .mixedOrders = true := by kernel_rfl
  have hu24 := Tryd.underlying24
  have c0 : w.cell? ⟨g, 0, none⟩ = some (.int .i64 total) := blk_cell hg 0
  have R := Aside0.mk hg
  obtain ⟨k, hk⟩ := (digits_f (u : Int) (by omega) (by omega)).rounds
  have hsz := (pc_facts u hu).1
  have q1 : ((dg u).size + 1 ≤ 9223372036854775807) = True := eq_true (by omega)
  have q2 : (9223372036854775807 < (dg u).size + 1) = False := eq_false (by omega)
  have HD := Aside0.mk (fun w => spec_NumDigits.calls k (u : Int) (dg u) w hk)
  have HP := Aside0.mk (fun w => pc_call total up u hu h0 h1 w)
  have q3 : ((dg u).size + 1 < 9223372036854775808) = True := eq_true (by omega)
  unfold pc at HP
  generalize dg u = D at *
  clear hk hu h0 h1 hg hsz
  go_enter Tryd.func15, Tryd.ntmps15
  go_wp2
  have x0 := blk_cell (blk_drew R.out) 0
  go_region_held3 (fun w' => w'.cell? ⟨g, 0, none⟩ = some (.int .i64 total)) (first | exact x0 | exact z0 | exact z1)
    (first
      | (go_at_call 11; refine (HD.out _).mono ?_; rintro e w1 ⟨rfl, hb⟩; have HB1 := Aside0.mk (below_step (below_drew1 (Below.refl w.heap.size w)) hb); have kk1 := blk_below (blk_drew R.out) hb; have z0 := blk_cell kk1 0; have KK1 := Aside0.mk kk1; clear hb kk1)
      | (go_at_call 16; refine (HP.out _).mono ?_; rintro e w2 ⟨rfl, hb⟩; have HB2 := Aside0.mk (below_step HB1.out hb); have kk2 := blk_below KK1.out hb; have z1 := blk_cell kk2 0; clear hb kk2))
  all_goals go_wp2
  go_ret2
  exact ⟨rfl, HB2.out⟩

theorem at_int (total : Int) (h0 : -2147483648 ≤ total) (h1 : total ≤ 2147483648) (v : Int) (up : Bool) (g : Nat) (w : World) (v0 : 0 ≤ v) (v1 : v ≤ 255) (hg : w.heap[g]? = some (.cells #[.int .i64 total] 3 (0, 0))) :
    Calls Tryd.prog 15 #[.int .i64 v, .bool up, .pointer (some ⟨g, 0, none⟩)] w fun e w' => e = .returned (.tuple #[.int .i64 (part up (v * total)), .bool true]) ∧ Below w.heap.size w w' := by
  obtain ⟨u, rfl⟩ : ∃ u : Nat, v = (u : Int) := ⟨v.toNat, by omega⟩
  exact at_calls total up u (by omega) h0 h1 g w hg
theorem up8_calls (a : Int) (w : World) :
    Calls Tryd.prog 17 #[.int .u8 a] w fun e w' => (∃ b, e = .returned (.bool b)) ∧ Below w.heap.size w w' := by
  go_enter Tryd.func17, Tryd.ntmps17
  go_wp2
  go_ret
  exact ⟨⟨_, rfl⟩, by repeat (first | (with_reducible exact Below.refl _ _) | apply below_alloc | apply pw_below_drewN | apply below_drew1)⟩
set_option maxRecDepth 100000 in
theorem rounds_out (a b t : Int) (k : Nat) (hm : PFnIntStrScaled.laws_intSmall.f k 200 t = some false) (w : World) :
    Calls Tryd.prog 5 #[.int .u8 a, .int .u8 b, .int .i64 t] w fun e w' => e = .returned (.bool true) ∧ Below w.heap.size w w' := by
  have HM := Aside0.mk (fun w => PFnIntStrScaled.laws_intSmall.calls k 200 t false w hm)
  clear hm
  go_enter Tryd.func5, Tryd.ntmps5
  go_wp2_with (go_at_call 14; refine (HM.out _).mono ?_; rintro e w1 ⟨rfl, hb⟩; have B := Aside0.mk (below_step (by repeat (first | exact Below.refl w.heap.size w | apply below_alloc | apply pw_below_drewN | apply below_drew1)) hb.below); clear hb HM)
  go_ret
  exact ⟨rfl, B.out⟩
theorem part_le (x y : Int) (h : x ≤ y) : part false x ≤ part false y := by
  simp only [part, Bool.false_eq_true, if_false]; omega
theorem part_gap (x : Int) : part false x ≤ part true x ∧ part true x ≤ part false x + 1 := by
  simp only [part, Bool.false_eq_true, if_false, if_true]; omega
theorem part_100 (up : Bool) (t : Int) : part up (100 * t) = t := by
  cases up
  · simp only [part, Bool.false_eq_true, if_false]; omega
  · simp only [part, if_true]; omega
theorem part_0 (up : Bool) (t : Int) : part up (0 * t) = 0 := by
  rw [Int.zero_mul]; cases up <;> rfl
set_option maxHeartbeats 8000000 in
set_option maxRecDepth 100000 in
theorem rounds_in (a b t : Int) (a0 : 0 ≤ a) (a1 : a ≤ 255) (b0 : 0 ≤ b) (b1 : b ≤ 255) (t0 : -2147483648 ≤ t) (t1 : t ≤ 2147483648) (k : Nat) (hm : PFnIntStrScaled.laws_intSmall.f k 200 t = some true) (w : World) :
    Calls Tryd.prog 5 #[.int .u8 a, .int .u8 b, .int .i64 t] w fun e w' => e = .returned (.bool true) ∧ Below w.heap.size w w' := by
  have mixed : Tryd.prog.follows .mixedOrders = true := by kernel_rfl
  have HM := Aside0.mk (fun w => PFnIntStrScaled.laws_intSmall.calls k 200 t true w hm)
  have HU := Aside0.mk (fun a w => up8_calls a w)
  have p0 : 0 ≤ min a b := by omega
  have p1 : min a b ≤ 255 := by omega
  have q0 : 0 ≤ max a b := by omega
  have q1 : max a b ≤ 255 := by omega
  have pq : min a b ≤ max a b := by omega
  obtain ⟨D, hD⟩ : ∃ D, D = part false (min a b * t) := ⟨_, rfl⟩
  obtain ⟨O, hO⟩ : ∃ O, O = part true (min a b * t) := ⟨_, rfl⟩
  obtain ⟨M, hM⟩ : ∃ M, M = part false (max a b * t) := ⟨_, rfl⟩
  have H1 := Aside0.mk (fun g w => at_int t t0 t1 (min a b) false g w p0 p1)
  have H2 := Aside0.mk (fun g w => at_int t t0 t1 (min a b) true g w p0 p1)
  have H3 := Aside0.mk (fun g w => at_int t t0 t1 (max a b) false g w q0 q1)
  have H4 := Aside0.mk (fun up g w => at_int t t0 t1 100 up g w (by omega) (by omega))
  have H5 := Aside0.mk (fun up g w => at_int t t0 t1 0 up g w (by omega) (by omega))
  rw [← hD] at H1
  rw [← hO] at H2
  rw [← hM] at H3
  simp only [part_100] at H4
  simp only [part_0] at H5
  have g1 := part_gap (min a b * t)
  rw [← hD, ← hO] at g1
  have bD : -5500000000 ≤ D ∧ D ≤ 5500000000 := by
    have h := Int.natAbs_mul (min a b) t
    have h2 : (min a b).natAbs * t.natAbs ≤ 255 * 2147483648 := Nat.mul_le_mul (by omega) (by omega)
    rw [hD]
    simp only [part, Bool.false_eq_true, if_false]
    generalize min a b * t = x at *
    omega
  have g2 : ¬ t < 0 → D ≤ M := fun h => by
    rw [hD, hM]
    exact part_le _ _ (Int.mul_le_mul_of_nonneg_right pq (by omega))
  have m1 : wrap64 (min a b) = min a b := IntWalk.wrap64_in _ ⟨by omega, by omega⟩
  have m3 := Aside0.mk m1
  clear m1
  have m2 : wrap64 (max a b) = max a b := IntWalk.wrap64_in _ ⟨by omega, by omega⟩
  have m4 := Aside0.mk m2
  clear m2
  clear hD hO hM hm p0 p1 q0 q1 pq
  have e1 : wrap64 (D + 1) = D + 1 := IntWalk.wrap64_in _ ⟨by omega, by omega⟩
  have e2 : IntKind.i64.wrap (D + 1) = D + 1 := (IntWalk.i64_left _).trans e1
  have s1 : (D ≤ O) = True := eq_true g1.1
  have s2 : (O < D) = False := eq_false (by omega)
  have s3 : (O ≤ D + 1) = True := eq_true g1.2
  have s4 : (D + 1 < O) = False := eq_false (by omega)
  by_cases ht : t < 0
  all_goals (first | have s5 : (t < 0) = True := eq_true ht | have s5 : (t < 0) = False := eq_false ht)
  all_goals (first | (have s6 : (D ≤ M) = True := eq_true (g2 ht); have s7 : (M < D) = False := eq_false (by omega)) | skip)
  all_goals clear g1 g2 bD a0 a1 b0 b1 t0 t1 ht
  all_goals have m1 := m3.out
  all_goals have m2 := m4.out
  all_goals clear m3 m4
  all_goals go_enter Tryd.func5, Tryd.ntmps5
  all_goals go_wp2_with (first
    | (go_at_call 14; refine (HM.out _).mono ?_; rintro e w1 ⟨rfl, hb⟩; have B := Aside0.mk (below_step (by repeat (first | exact Below.refl w.heap.size w | apply below_alloc | apply pw_below_drewN | apply below_drew1)) hb.below); have R := Aside0.mk (blk_below (blk_new w (.cells #[.int .i64 t] 3)) hb.below); have c := blk_cell R.out 0; clear hb HM)
    | (go_at_call 15; (with_reducible refine (H1.out _ _ (by exact R.out)).mono ?_); rintro e w9 ⟨rfl, hb⟩; have B := Aside0.mk (below_step (by repeat (first | exact B.out | apply below_alloc | apply pw_below_drewN | apply below_drew1)) hb); have R := Aside0.mk (blk_below (by exact R.out) hb); have c := blk_cell R.out 0; clear hb)
    | (go_at_call 15; (with_reducible refine (H2.out _ _ (by exact R.out)).mono ?_); rintro e w9 ⟨rfl, hb⟩; have B := Aside0.mk (below_step (by repeat (first | exact B.out | apply below_alloc | apply pw_below_drewN | apply below_drew1)) hb); have R := Aside0.mk (blk_below (by exact R.out) hb); have c := blk_cell R.out 0; clear hb)
    | (go_at_call 15; (with_reducible refine (H3.out _ _ (by exact R.out)).mono ?_); rintro e w9 ⟨rfl, hb⟩; have B := Aside0.mk (below_step (by repeat (first | exact B.out | apply below_alloc | apply pw_below_drewN | apply below_drew1)) hb); have R := Aside0.mk (blk_below (by exact R.out) hb); have c := blk_cell R.out 0; clear hb)
    | (go_at_call 15; (with_reducible refine (H4.out _ _ _ (by exact R.out)).mono ?_); rintro e w9 ⟨rfl, hb⟩; have B := Aside0.mk (below_step (by repeat (first | exact B.out | apply below_alloc | apply pw_below_drewN | apply below_drew1)) hb); have R := Aside0.mk (blk_below (by exact R.out) hb); have c := blk_cell R.out 0; clear hb)
    | (go_at_call 15; (with_reducible refine (H5.out _ _ _ (by exact R.out)).mono ?_); rintro e w9 ⟨rfl, hb⟩; have B := Aside0.mk (below_step (by repeat (first | exact B.out | apply below_alloc | apply pw_below_drewN | apply below_drew1)) hb); have R := Aside0.mk (blk_below (by exact R.out) hb); have c := blk_cell R.out 0; clear hb)
    | (go_at_call 17; refine (HU.out _ _).mono ?_; rintro e w8 ⟨⟨ub, rfl⟩, hb⟩; have B := Aside0.mk (below_step (by repeat (first | exact B.out | apply below_alloc | apply pw_below_drewN | apply below_drew1)) hb); have R := Aside0.mk (blk_below (by exact R.out) hb); have c := blk_cell R.out 0; clear hb))
  all_goals (repeat (go_quiet (fail); try go_wp2))
  all_goals go_ret
  all_goals exact ⟨rfl, by repeat (first | (with_reducible exact B.out) | apply below_alloc | apply pw_below_drewN | apply below_drew1)⟩
theorem wf8 {x : Int} (h : (Lit.int .u8 x).wf = true) : 0 ≤ x ∧ x ≤ 255 := by
  simp [Lit.wf, IntKind.min, IntKind.max, IntKind.signed, IntKind.bits] at h
  omega
theorem rounds_all (a b t : Int) (wa : (Lit.int .u8 a).wf = true) (wb : (Lit.int .u8 b).wf = true) (w : World) :
    Calls Tryd.prog 5 #[.int .u8 a, .int .u8 b, .int .i64 t] w fun e w' => e = .returned (.bool true) ∧ Below w.heap.size w w' := by
  have ha := wf8 wa
  have hb := wf8 wb
  obtain ⟨x, hx, hc⟩ := small_f 200 t
  obtain ⟨k, hk⟩ := hx.rounds
  cases x with
  | false => exact rounds_out a b t k hk w
  | true =>
    obtain ⟨_, h2, _⟩ := hc rfl
    exact rounds_in a b t ha.1 ha.2 hb.1 hb.2 (by omega) (by omega) k hk w
end Go.Proofs.YtihlmkgffifknaaDoor.Sc
