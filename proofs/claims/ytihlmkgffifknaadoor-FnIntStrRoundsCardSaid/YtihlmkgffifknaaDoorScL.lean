/- A part by percent: the law's walk. -/
import Derived.Test.YtihlmkgffifknaaDoorScM
set_option linter.unusedVariables false
set_option linter.unusedSimpArgs false
namespace Go.Proofs.YtihlmkgffifknaaDoor.Sc
open Go Go.Sort Go.RowKit Go.Proofs.YtihlmkgffifknaaDoor Go.Proofs.YtihlmkgffifknaaDoorW.PrintWords Go.Proofs.YtihlmkgffifknaaDoor.PFnIntStrScaled Go.Proofs.YtihlmkgffifknaaDoor.Txt

theorem div_nat (A : Nat) : wrap64 ((9007199254740991 : Int) / (A : Int)) = ((9007199254740991 / A : Nat) : Int) := by
  have e : (9007199254740991 : Int) / (A : Int) = ((9007199254740991 / A : Nat) : Int) := (Int.natCast_ediv 9007199254740991 A).symm
  have l : 9007199254740991 / A ≤ 9007199254740991 := Nat.div_le_self _ _
  rw [e]
  generalize 9007199254740991 / A = m at l
  rw [Small.w64 _ (by omega) (by omega)]
theorem small_f (v t : Int) : ∃ b, Ev (fun k => laws_intSmall.f k v t) b ∧ (b = true → v.natAbs ≤ 2147483648 ∧ t.natAbs ≤ 2147483648 ∧ (v * t).natAbs < 9007199254740992) := by
  have bad : ∀ b, b = true → Ev (fun k => laws_intSmall.j0 k v t b) false := fun b hb => Evs.at1 fun k => by rw [laws_intSmall.j0, if_pos hb]
  by_cases h1 : v < -2147483648
  · exact ⟨false, Evs.yes h1 (bad _ rfl), fun h => by cases h⟩
  · by_cases h2 : v > 2147483648
    · exact ⟨false, Evs.no h1 (Evs.yes h2 (bad _ rfl)), fun h => by cases h⟩
    · by_cases h3 : t < -2147483648
      · exact ⟨false, Evs.no h1 (Evs.no h2 (Evs.yes h3 (bad _ rfl))), fun h => by cases h⟩
      · by_cases h4 : t > 2147483648
        · exact ⟨false, Evs.no h1 (Evs.no h2 (Evs.no h3 (bad _ (decide_eq_true h4)))), fun h => by cases h⟩
        · have wv : v < 0 → wrap64 (-v) = (v.natAbs : Int) := fun h => by rw [Small.w64 _ (by omega) (by omega)]; omega
          have wt : t < 0 → wrap64 (-t) = (t.natAbs : Int) := fun h => by rw [Small.w64 _ (by omega) (by omega)]; omega
          have pv : ¬ v < 0 → v = (v.natAbs : Int) := fun h => by omega
          have pt : ¬ t < 0 → t = (t.natAbs : Int) := fun h => by omega
          have key : Ev (fun k => laws_intSmall.j0 k v t (decide (t > 2147483648))) (if v.natAbs = 0 then true else decide ((t.natAbs : Int) ≤ wrap64 ((9007199254740991 : Int) / (v.natAbs : Int)))) := Evs.at1 fun k => by
            rw [laws_intSmall.j0, decide_eq_false h4, if_neg (by simp)]
            by_cases a : v < 0
            · have n0 : ¬ (v.natAbs : Int) = 0 := by omega
              rw [if_pos a, wv a]
              by_cases b : t < 0
              · rw [if_pos b, wt b, if_neg n0, if_neg (by omega)]
              · have e := pt b
                rw [if_neg b, if_neg n0, if_neg (by omega)]
                rw [← e]
            · have e := pv a
              rw [if_neg a]
              by_cases b : t < 0
              · rw [if_pos b, wt b]
                by_cases z : v = 0
                · rw [if_pos z, if_pos (by omega)]
                · rw [if_neg z, if_neg (by omega), ← e]
              · have e' := pt b
                rw [if_neg b]
                by_cases z : v = 0
                · rw [if_pos z, if_pos (by omega)]
                · rw [if_neg z, if_neg (by omega), ← e, ← e']
          refine ⟨_, Evs.no h1 (Evs.no h2 (Evs.no h3 key)), fun h => ⟨by omega, by omega, ?_⟩⟩
          rw [Int.natAbs_mul]
          by_cases z : v.natAbs = 0
          · rw [z, Nat.zero_mul]; omega
          · rw [if_neg z, div_nat] at h
            have hl : t.natAbs ≤ 9007199254740991 / v.natAbs := by have := of_decide_eq_true h; omega
            have := (Nat.le_div_iff_mul_le (by omega)).1 hl
            rw [Nat.mul_comm]
            omega

/-! ### the call, case by case -/
section
variable (total : Int) (up : Bool) (n : Int) (s : ByteArray) (w : World)
theorem call_int (h0 : -2147483648 ≤ n) (h1 : n ≤ 2147483647) :
    Calls Tryd.prog 16 #[.agg #[.int .i64 0, .int .i32 n, .string s], .int .i64 total, .bool up] w fun e w' => e = .returned (.tuple #[.int .i64 n, .bool true]) ∧ Below w.heap.size w w' :=
  (scaled_ok 0 n s total up (fun _ => n) w ⟨fun w' g _ hg => got_int g n total up w' ⟨fun w'' hb => safe_int n h0 h1 s g w'' (blk_below hg hb)⟩⟩).mono fun e w' ⟨⟨_, h⟩, hb⟩ => ⟨h, hb⟩
theorem call_other (ty : Int) (k0 : ty ≠ 0) (k1 : ty ≠ 1) :
    Calls Tryd.prog 16 #[.agg #[.int .i64 ty, .int .i32 n, .string s], .int .i64 total, .bool up] w fun e w' => e = .returned (.tuple #[.int .i64 0, .bool false]) ∧ Below w.heap.size w w' :=
  scaled_err ty n s total up w ⟨fun w' g _ hg => got_err g total up w' ⟨fun w'' hb => safe_other ty n k0 k1 s g w'' (blk_below hg hb)⟩⟩
theorem call_plain (hs : strings_HasSuffix.f s ⟨#[37]⟩ = some false) :
    Calls Tryd.prog 16 #[.agg #[.int .i64 1, .int .i32 n, .string s], .int .i64 total, .bool up] w fun e w' => e = .returned (.tuple #[.int .i64 0, .bool false]) ∧ Below w.heap.size w w' :=
  scaled_err 1 n s total up w ⟨fun w' g _ hg => got_err g total up w' ⟨fun w'' hb => safe_plain n s hs g w'' (blk_below hg hb)⟩⟩
theorem call_bad (t : ByteArray) (hs : strings_HasSuffix.f s ⟨#[37]⟩ = some true) (ht : strings_TrimSuffix.f s ⟨#[37]⟩ = some t) (hmax : t.size ≤ 2147483647) (hv : ∀ v, Lib.atoiAll t.data.toList ≠ .ok v) (he : Errs w) :
    Calls Tryd.prog 16 #[.agg #[.int .i64 1, .int .i32 n, .string s], .int .i64 total, .bool up] w fun e w' => e = .returned (.tuple #[.int .i64 0, .bool false]) ∧ Below w.heap.size w w' :=
  scaled_err 1 n s total up w ⟨fun w' g hb0 hg => got_err g total up w' ⟨fun w'' hb => safe_bad n s t hs ht hmax hv g w'' ((he.below hb0).below hb) (blk_below hg hb)⟩⟩
/-- What is told of so many percent of a total. -/
def part (up : Bool) (x : Int) : Int := if up then -((-x) / 100) else x / 100
theorem call_pct (t : ByteArray) (v : Int) (hs : strings_HasSuffix.f s ⟨#[37]⟩ = some true) (ht : strings_TrimSuffix.f s ⟨#[37]⟩ = some t) (hmax : t.size ≤ 2147483647) (hv : Lib.atoiAll t.data.toList = .ok v) (g0 : -9223372036854775808 ≤ total) (g1 : total ≤ 9223372036854775807) :
    Calls Tryd.prog 16 #[.agg #[.int .i64 1, .int .i32 n, .string s], .int .i64 total, .bool up] w fun e w' => (∃ z, e = .returned (.tuple #[.int .i64 z, .bool true]) ∧ ((v * total).natAbs < 9007199254740992 → v.natAbs ≤ 2147483648 → total.natAbs ≤ 2147483648 → z = part up (v * total))) ∧ Below w.heap.size w w' := by
  have vb := Lib.atoiAll_bounds hv
  obtain ⟨r, q, hm, hq, hn⟩ := Fl.part_any v total (by omega) (by omega)
  cases up with
  | true =>
    obtain ⟨zf, wf, hz, hw, hk⟩ := to_int (FloatKind.f64.encode ((FloatKind.f64.decode q).integral .up))
    refine (scaled_ok 1 n s total true zf w ⟨fun w' g hb0 hg => got_up g v total r q zf wf w' hm hq hn hz hw ⟨fun w'' hb => safe_ok n v s t hs ht hmax hv g w'' (blk_below hg hb)⟩⟩).mono fun e w' ⟨⟨W, h⟩, hb⟩ => ⟨⟨zf W, h, fun a1 a2 a3 => ?_⟩, hb⟩
    exact hk _ (Fl.part_small v total a1 (by omega) (by omega) r q hm hq).2 W
  | false =>
    obtain ⟨zf, wf, hz, hw, hk⟩ := to_int (FloatKind.f64.encode ((FloatKind.f64.decode q).integral .down))
    refine (scaled_ok 1 n s total false zf w ⟨fun w' g hb0 hg => got_down g v total r q zf wf w' hm hq hn hz hw ⟨fun w'' hb => safe_ok n v s t hs ht hmax hv g w'' (blk_below hg hb)⟩⟩).mono fun e w' ⟨⟨W, h⟩, hb⟩ => ⟨⟨zf W, h, fun a1 a2 a3 => ?_⟩, hb⟩
    exact hk _ (Fl.part_small v total a1 (by omega) (by omega) r q hm hq).1 W
end

/-! ### the law -/
set_option maxRecDepth 100000 in
theorem law_out (ty n total : Int) (up : Bool) (s : ByteArray) (hf : laws_zzFits5.f ty n s = some false) (w : World) :
    Calls Tryd.prog 6 #[.agg #[.int .i64 ty, .int .i32 n, .string s], .int .i64 total, .bool up] w fun e w' => e = .returned (.bool true) ∧ Below w.heap.size w w' := by
  have mixed : Tryd.prog.follows .mixedOrders = true := by kernel_rfl
  have hu24 := Tryd.underlying24
  have HF := Aside0.mk (fun w => laws_zzFits5.calls ty n s false w hf)
  clear hf
  go_enter Tryd.func6, Tryd.ntmps6
  go_wp2_with (first
    | (go_at_call 18; (with_reducible refine (HF.out _).mono ?_); rintro e w1 ⟨rfl, hb⟩; have B1 := Aside0.mk (below_step (by repeat (first | exact Below.refl w.heap.size w | apply below_alloc | apply pw_below_drewN | apply below_drew1)) (hb)); have R1 := Aside0.mk (blk_below (blk_new w (.cells #[.int .i64 ty, .int .i32 n, .string s] 24)) (hb)); have c10 : w1.cell? ⟨w.heap.size, 0, none⟩ = some (.int .i64 ty) := blk_cell R1.out 0; have c11 : w1.cell? ⟨w.heap.size, 1, none⟩ = some (.int .i32 n) := blk_cell R1.out 1; have c12 : w1.cell? ⟨w.heap.size, 2, none⟩ = some (.string s) := blk_cell R1.out 2; clear hb HF))
  repeat (go_quiet (fail); try go_wp2)
  go_ret
  exact ⟨rfl, by repeat (first | (with_reducible exact B1.out) | apply below_alloc | apply pw_below_drewN | apply below_drew1)⟩
set_option maxRecDepth 100000 in
theorem law_int (n total : Int) (up : Bool) (s : ByteArray) (h0 : -2147483648 ≤ n) (h1 : n ≤ 2147483647) (hf : laws_zzFits5.f 0 n s = some true) (w : World) :
    Calls Tryd.prog 6 #[.agg #[.int .i64 0, .int .i32 n, .string s], .int .i64 total, .bool up] w fun e w' => e = .returned (.bool true) ∧ Below w.heap.size w w' := by
  have mixed : Tryd.prog.follows .mixedOrders = true := by kernel_rfl
  have hu24 := Tryd.underlying24
  have HF := Aside0.mk (fun w => laws_zzFits5.calls 0 n s true w hf)
  clear hf
  have e1 : wrap64 n = n := IntWalk.wrap64_in _ ⟨by omega, by omega⟩
  have e2 : IntKind.i64.wrap n = n := (IntWalk.i64_left _).trans e1
  have HC := Aside0.mk (fun w => call_int total up n s w h0 h1)
  clear h0 h1
  go_enter Tryd.func6, Tryd.ntmps6
  go_wp2_with (first
    | (go_at_call 18; (with_reducible refine (HF.out _).mono ?_); rintro e w1 ⟨rfl, hb⟩; have B1 := Aside0.mk (below_step (by repeat (first | exact Below.refl w.heap.size w | apply below_alloc | apply pw_below_drewN | apply below_drew1)) (hb)); have R1 := Aside0.mk (blk_below (blk_new w (.cells #[.int .i64 0, .int .i32 n, .string s] 24)) (hb)); have c10 : w1.cell? ⟨w.heap.size, 0, none⟩ = some (.int .i64 0) := blk_cell R1.out 0; have c11 : w1.cell? ⟨w.heap.size, 1, none⟩ = some (.int .i32 n) := blk_cell R1.out 1; have c12 : w1.cell? ⟨w.heap.size, 2, none⟩ = some (.string s) := blk_cell R1.out 2; clear hb HF)
    | (go_at_call 16; (with_reducible refine (HC.out _).mono ?_); rintro e w2 ⟨rfl, hb⟩; have B2 := Aside0.mk (below_step (by repeat (first | exact B1.out | apply below_alloc | apply pw_below_drewN | apply below_drew1)) (hb)); have R2 := Aside0.mk (blk_below (by exact R1.out) (hb)); have c20 : w2.cell? ⟨w.heap.size, 0, none⟩ = some (.int .i64 0) := blk_cell R2.out 0; have c21 : w2.cell? ⟨w.heap.size, 1, none⟩ = some (.int .i32 n) := blk_cell R2.out 1; have c22 : w2.cell? ⟨w.heap.size, 2, none⟩ = some (.string s) := blk_cell R2.out 2; clear hb HC))
  repeat (go_quiet (fail); try go_wp2)
  go_ret
  exact ⟨rfl, by repeat (first | (with_reducible exact B2.out) | apply below_alloc | apply pw_below_drewN | apply below_drew1)⟩
set_option maxRecDepth 100000 in
theorem law_other (ty n total : Int) (up : Bool) (s : ByteArray) (k0 : ty ≠ 0) (k1 : ty ≠ 1) (hf : laws_zzFits5.f ty n s = some true) (w : World) :
    Calls Tryd.prog 6 #[.agg #[.int .i64 ty, .int .i32 n, .string s], .int .i64 total, .bool up] w fun e w' => e = .returned (.bool true) ∧ Below w.heap.size w w' := by
  have mixed : Tryd.prog.follows .mixedOrders = true := by kernel_rfl
  have hu24 := Tryd.underlying24
  have HF := Aside0.mk (fun w => laws_zzFits5.calls ty n s true w hf)
  clear hf
  have HC := Aside0.mk (fun w => call_other total up n s w ty k0 k1)
  have d0 : (ty == 0) = false := beq_eq_false_iff_ne.2 k0
  have d1 : (ty == 1) = false := beq_eq_false_iff_ne.2 k1
  have q0 : (ty = 0) = False := eq_false k0
  have q1 : (ty = 1) = False := eq_false k1
  clear k0 k1
  go_enter Tryd.func6, Tryd.ntmps6
  go_wp2_with (first
    | (go_at_call 18; (with_reducible refine (HF.out _).mono ?_); rintro e w1 ⟨rfl, hb⟩; have B1 := Aside0.mk (below_step (by repeat (first | exact Below.refl w.heap.size w | apply below_alloc | apply pw_below_drewN | apply below_drew1)) (hb)); have R1 := Aside0.mk (blk_below (blk_new w (.cells #[.int .i64 ty, .int .i32 n, .string s] 24)) (hb)); have c10 : w1.cell? ⟨w.heap.size, 0, none⟩ = some (.int .i64 ty) := blk_cell R1.out 0; have c11 : w1.cell? ⟨w.heap.size, 1, none⟩ = some (.int .i32 n) := blk_cell R1.out 1; have c12 : w1.cell? ⟨w.heap.size, 2, none⟩ = some (.string s) := blk_cell R1.out 2; clear hb HF)
    | (go_at_call 16; (with_reducible refine (HC.out _).mono ?_); rintro e w2 ⟨rfl, hb⟩; have B2 := Aside0.mk (below_step (by repeat (first | exact B1.out | apply below_alloc | apply pw_below_drewN | apply below_drew1)) (hb)); have R2 := Aside0.mk (blk_below (by exact R1.out) (hb)); have c20 : w2.cell? ⟨w.heap.size, 0, none⟩ = some (.int .i64 ty) := blk_cell R2.out 0; have c21 : w2.cell? ⟨w.heap.size, 1, none⟩ = some (.int .i32 n) := blk_cell R2.out 1; have c22 : w2.cell? ⟨w.heap.size, 2, none⟩ = some (.string s) := blk_cell R2.out 2; clear hb HC))
  repeat (go_quiet (fail); try go_wp2)
  go_ret
  exact ⟨rfl, by repeat (first | (with_reducible exact B2.out) | apply below_alloc | apply pw_below_drewN | apply below_drew1)⟩
set_option maxRecDepth 100000 in
theorem law_no (n total : Int) (up : Bool) (s : ByteArray) (v : Int) (k : Nat) (w : World) (hp : laws_intPercent.f k s = some (v, false)) (hc : Aside0 (∀ w', Below w.heap.size w w' → Calls Tryd.prog 16 #[.agg #[.int .i64 1, .int .i32 n, .string s], .int .i64 total, .bool up] w' fun e w'' => e = .returned (.tuple #[.int .i64 0, .bool false]) ∧ Below w'.heap.size w' w'')) (hf : laws_zzFits5.f 1 n s = some true) :
    Calls Tryd.prog 6 #[.agg #[.int .i64 1, .int .i32 n, .string s], .int .i64 total, .bool up] w fun e w' => e = .returned (.bool true) ∧ Below w.heap.size w w' := by
  have mixed : Tryd.prog.follows .mixedOrders = true := by kernel_rfl
  have hu24 := Tryd.underlying24
  have HF := Aside0.mk (fun w => laws_zzFits5.calls 1 n s true w hf)
  clear hf
  have HP := Aside0.mk (fun w => laws_intPercent.calls k s v false w hp)
  clear hp
  go_enter Tryd.func6, Tryd.ntmps6
  go_wp2_with (first
    | (go_at_call 18; (with_reducible refine (HF.out _).mono ?_); rintro e w1 ⟨rfl, hb⟩; have B1 := Aside0.mk (below_step (by repeat (first | exact Below.refl w.heap.size w | apply below_alloc | apply pw_below_drewN | apply below_drew1)) (hb)); have R1 := Aside0.mk (blk_below (blk_new w (.cells #[.int .i64 1, .int .i32 n, .string s] 24)) (hb)); have c10 : w1.cell? ⟨w.heap.size, 0, none⟩ = some (.int .i64 1) := blk_cell R1.out 0; have c11 : w1.cell? ⟨w.heap.size, 1, none⟩ = some (.int .i32 n) := blk_cell R1.out 1; have c12 : w1.cell? ⟨w.heap.size, 2, none⟩ = some (.string s) := blk_cell R1.out 2; clear hb HF)
    | (go_at_call 16; (with_reducible refine (hc.out _ (by repeat (first | exact B1.out | apply below_alloc | apply pw_below_drewN | apply below_drew1))).mono ?_); rintro e w2 ⟨rfl, hb⟩; have B2 := Aside0.mk (below_step (by repeat (first | exact B1.out | apply below_alloc | apply pw_below_drewN | apply below_drew1)) (hb)); have R2 := Aside0.mk (blk_below (by exact R1.out) (hb)); have c20 : w2.cell? ⟨w.heap.size, 0, none⟩ = some (.int .i64 1) := blk_cell R2.out 0; have c21 : w2.cell? ⟨w.heap.size, 1, none⟩ = some (.int .i32 n) := blk_cell R2.out 1; have c22 : w2.cell? ⟨w.heap.size, 2, none⟩ = some (.string s) := blk_cell R2.out 2; clear hb hc)
    | (go_at_call 19; (with_reducible refine (HP.out _).mono ?_); rintro e w3 ⟨rfl, hb⟩; have B3 := Aside0.mk (below_step (by repeat (first | exact B2.out | apply below_alloc | apply pw_below_drewN | apply below_drew1)) (hb.below)); have R3 := Aside0.mk (blk_below (by exact R2.out) (hb.below)); have c30 : w3.cell? ⟨w.heap.size, 0, none⟩ = some (.int .i64 1) := blk_cell R3.out 0; have c31 : w3.cell? ⟨w.heap.size, 1, none⟩ = some (.int .i32 n) := blk_cell R3.out 1; have c32 : w3.cell? ⟨w.heap.size, 2, none⟩ = some (.string s) := blk_cell R3.out 2; clear hb HP))
  repeat (go_quiet (fail); try go_wp2)
  go_ret
  exact ⟨rfl, by repeat (first | (with_reducible exact B3.out) | apply below_alloc | apply pw_below_drewN | apply below_drew1)⟩
set_option maxRecDepth 100000 in
theorem law_big (n total : Int) (up : Bool) (s : ByteArray) (v : Int) (k : Nat) (w : World) (hp : laws_intPercent.f k s = some (v, true)) (hm : laws_intSmall.f k v total = some false) (hc : Aside0 (∀ w', Below w.heap.size w w' → Calls Tryd.prog 16 #[.agg #[.int .i64 1, .int .i32 n, .string s], .int .i64 total, .bool up] w' fun e w'' => (∃ z, e = .returned (.tuple #[.int .i64 z, .bool true])) ∧ Below w'.heap.size w' w'')) (hf : laws_zzFits5.f 1 n s = some true) :
    Calls Tryd.prog 6 #[.agg #[.int .i64 1, .int .i32 n, .string s], .int .i64 total, .bool up] w fun e w' => e = .returned (.bool true) ∧ Below w.heap.size w w' := by
  have mixed : Tryd.prog.follows .mixedOrders = true := by kernel_rfl
  have hu24 := Tryd.underlying24
  have HF := Aside0.mk (fun w => laws_zzFits5.calls 1 n s true w hf)
  clear hf
  have HP := Aside0.mk (fun w => laws_intPercent.calls k s v true w hp)
  have HM := Aside0.mk (fun w => laws_intSmall.calls k v total false w hm)
  clear hp hm
  go_enter Tryd.func6, Tryd.ntmps6
  go_wp2_with (first
    | (go_at_call 18; (with_reducible refine (HF.out _).mono ?_); rintro e w1 ⟨rfl, hb⟩; have B1 := Aside0.mk (below_step (by repeat (first | exact Below.refl w.heap.size w | apply below_alloc | apply pw_below_drewN | apply below_drew1)) (hb)); have R1 := Aside0.mk (blk_below (blk_new w (.cells #[.int .i64 1, .int .i32 n, .string s] 24)) (hb)); have c10 : w1.cell? ⟨w.heap.size, 0, none⟩ = some (.int .i64 1) := blk_cell R1.out 0; have c11 : w1.cell? ⟨w.heap.size, 1, none⟩ = some (.int .i32 n) := blk_cell R1.out 1; have c12 : w1.cell? ⟨w.heap.size, 2, none⟩ = some (.string s) := blk_cell R1.out 2; clear hb HF)
    | (go_at_call 16; (with_reducible refine (hc.out _ (by repeat (first | exact B1.out | apply below_alloc | apply pw_below_drewN | apply below_drew1))).mono ?_); rintro e w2 ⟨⟨z, rfl⟩, hb⟩; have B2 := Aside0.mk (below_step (by repeat (first | exact B1.out | apply below_alloc | apply pw_below_drewN | apply below_drew1)) (hb)); have R2 := Aside0.mk (blk_below (by exact R1.out) (hb)); have c20 : w2.cell? ⟨w.heap.size, 0, none⟩ = some (.int .i64 1) := blk_cell R2.out 0; have c21 : w2.cell? ⟨w.heap.size, 1, none⟩ = some (.int .i32 n) := blk_cell R2.out 1; have c22 : w2.cell? ⟨w.heap.size, 2, none⟩ = some (.string s) := blk_cell R2.out 2; clear hb hc)
    | (go_at_call 19; (with_reducible refine (HP.out _).mono ?_); rintro e w3 ⟨rfl, hb⟩; have B3 := Aside0.mk (below_step (by repeat (first | exact B2.out | apply below_alloc | apply pw_below_drewN | apply below_drew1)) (hb.below)); have R3 := Aside0.mk (blk_below (by exact R2.out) (hb.below)); have c30 : w3.cell? ⟨w.heap.size, 0, none⟩ = some (.int .i64 1) := blk_cell R3.out 0; have c31 : w3.cell? ⟨w.heap.size, 1, none⟩ = some (.int .i32 n) := blk_cell R3.out 1; have c32 : w3.cell? ⟨w.heap.size, 2, none⟩ = some (.string s) := blk_cell R3.out 2; clear hb HP)
    | (go_at_call 14; (with_reducible refine (HM.out _).mono ?_); rintro e w4 ⟨rfl, hb⟩; have B4 := Aside0.mk (below_step (by repeat (first | exact B3.out | apply below_alloc | apply pw_below_drewN | apply below_drew1)) (hb.below)); have R4 := Aside0.mk (blk_below (by exact R3.out) (hb.below)); have c40 : w4.cell? ⟨w.heap.size, 0, none⟩ = some (.int .i64 1) := blk_cell R4.out 0; have c41 : w4.cell? ⟨w.heap.size, 1, none⟩ = some (.int .i32 n) := blk_cell R4.out 1; have c42 : w4.cell? ⟨w.heap.size, 2, none⟩ = some (.string s) := blk_cell R4.out 2; clear hb HM))
  repeat (go_quiet (fail); try go_wp2)
  go_ret
  exact ⟨rfl, by repeat (first | (with_reducible exact B4.out) | apply below_alloc | apply pw_below_drewN | apply below_drew1)⟩
set_option maxRecDepth 100000 in
theorem law_up (n total : Int) (s : ByteArray) (v z : Int) (k : Nat) (w : World) (hp : laws_intPercent.f k s = some (v, true)) (hm : laws_intSmall.f k v total = some true) (hc : Aside0 (∀ w', Below w.heap.size w w' → Calls Tryd.prog 16 #[.agg #[.int .i64 1, .int .i32 n, .string s], .int .i64 total, .bool true] w' fun e w'' => e = .returned (.tuple #[.int .i64 z, .bool true]) ∧ Below w'.heap.size w' w'')) (hn : spec_NumAbove.f (v * total) 100 = some z) (hw : wrap64 (v * total) = v * total) (hf : laws_zzFits5.f 1 n s = some true) :
    Calls Tryd.prog 6 #[.agg #[.int .i64 1, .int .i32 n, .string s], .int .i64 total, .bool true] w fun e w' => e = .returned (.bool true) ∧ Below w.heap.size w w' := by
  have mixed : Tryd.prog.follows .mixedOrders = true := by kernel_rfl
  have hu24 := Tryd.underlying24
  have HF := Aside0.mk (fun w => laws_zzFits5.calls 1 n s true w hf)
  clear hf
  have HP := Aside0.mk (fun w => laws_intPercent.calls k s v true w hp)
  have HM := Aside0.mk (fun w => laws_intSmall.calls k v total true w hm)
  clear hp hm
  have HN := Aside0.mk (fun w => spec_NumAbove.calls (v * total) 100 z w hn)
  have hw2 : IntKind.i64.wrap (v * total) = v * total := (IntWalk.i64_left _).trans hw
  clear hn
  go_enter Tryd.func6, Tryd.ntmps6
  go_wp2_with (first
    | (go_at_call 18; (with_reducible refine (HF.out _).mono ?_); rintro e w1 ⟨rfl, hb⟩; have B1 := Aside0.mk (below_step (by repeat (first | exact Below.refl w.heap.size w | apply below_alloc | apply pw_below_drewN | apply below_drew1)) (hb)); have R1 := Aside0.mk (blk_below (blk_new w (.cells #[.int .i64 1, .int .i32 n, .string s] 24)) (hb)); have c10 : w1.cell? ⟨w.heap.size, 0, none⟩ = some (.int .i64 1) := blk_cell R1.out 0; have c11 : w1.cell? ⟨w.heap.size, 1, none⟩ = some (.int .i32 n) := blk_cell R1.out 1; have c12 : w1.cell? ⟨w.heap.size, 2, none⟩ = some (.string s) := blk_cell R1.out 2; clear hb HF)
    | (go_at_call 16; (with_reducible refine (hc.out _ (by repeat (first | exact B1.out | apply below_alloc | apply pw_below_drewN | apply below_drew1))).mono ?_); rintro e w2 ⟨rfl, hb⟩; have B2 := Aside0.mk (below_step (by repeat (first | exact B1.out | apply below_alloc | apply pw_below_drewN | apply below_drew1)) (hb)); have R2 := Aside0.mk (blk_below (by exact R1.out) (hb)); have c20 : w2.cell? ⟨w.heap.size, 0, none⟩ = some (.int .i64 1) := blk_cell R2.out 0; have c21 : w2.cell? ⟨w.heap.size, 1, none⟩ = some (.int .i32 n) := blk_cell R2.out 1; have c22 : w2.cell? ⟨w.heap.size, 2, none⟩ = some (.string s) := blk_cell R2.out 2; clear hb hc)
    | (go_at_call 19; (with_reducible refine (HP.out _).mono ?_); rintro e w3 ⟨rfl, hb⟩; have B3 := Aside0.mk (below_step (by repeat (first | exact B2.out | apply below_alloc | apply pw_below_drewN | apply below_drew1)) (hb.below)); have R3 := Aside0.mk (blk_below (by exact R2.out) (hb.below)); have c30 : w3.cell? ⟨w.heap.size, 0, none⟩ = some (.int .i64 1) := blk_cell R3.out 0; have c31 : w3.cell? ⟨w.heap.size, 1, none⟩ = some (.int .i32 n) := blk_cell R3.out 1; have c32 : w3.cell? ⟨w.heap.size, 2, none⟩ = some (.string s) := blk_cell R3.out 2; clear hb HP)
    | (go_at_call 14; (with_reducible refine (HM.out _).mono ?_); rintro e w4 ⟨rfl, hb⟩; have B4 := Aside0.mk (below_step (by repeat (first | exact B3.out | apply below_alloc | apply pw_below_drewN | apply below_drew1)) (hb.below)); have R4 := Aside0.mk (blk_below (by exact R3.out) (hb.below)); have c40 : w4.cell? ⟨w.heap.size, 0, none⟩ = some (.int .i64 1) := blk_cell R4.out 0; have c41 : w4.cell? ⟨w.heap.size, 1, none⟩ = some (.int .i32 n) := blk_cell R4.out 1; have c42 : w4.cell? ⟨w.heap.size, 2, none⟩ = some (.string s) := blk_cell R4.out 2; clear hb HM)
    | (go_at_call 20; (with_reducible refine (HN.out _).mono ?_); rintro e w5 ⟨rfl, hb⟩; have B5 := Aside0.mk (below_step (by repeat (first | exact B4.out | apply below_alloc | apply pw_below_drewN | apply below_drew1)) (hb.below)); have R5 := Aside0.mk (blk_below (by exact R4.out) (hb.below)); have c50 : w5.cell? ⟨w.heap.size, 0, none⟩ = some (.int .i64 1) := blk_cell R5.out 0; have c51 : w5.cell? ⟨w.heap.size, 1, none⟩ = some (.int .i32 n) := blk_cell R5.out 1; have c52 : w5.cell? ⟨w.heap.size, 2, none⟩ = some (.string s) := blk_cell R5.out 2; clear hb HN))
  repeat (go_quiet (fail); try go_wp2)
  go_ret
  exact ⟨rfl, by repeat (first | (with_reducible exact B5.out) | apply below_alloc | apply pw_below_drewN | apply below_drew1)⟩
set_option maxRecDepth 100000 in
theorem law_down (n total : Int) (s : ByteArray) (v z : Int) (k : Nat) (w : World) (hp : laws_intPercent.f k s = some (v, true)) (hm : laws_intSmall.f k v total = some true) (hc : Aside0 (∀ w', Below w.heap.size w w' → Calls Tryd.prog 16 #[.agg #[.int .i64 1, .int .i32 n, .string s], .int .i64 total, .bool false] w' fun e w'' => e = .returned (.tuple #[.int .i64 z, .bool true]) ∧ Below w'.heap.size w' w'')) (hn : spec_NumBelow.f (v * total) 100 = some z) (hw : wrap64 (v * total) = v * total) (hf : laws_zzFits5.f 1 n s = some true) :
    Calls Tryd.prog 6 #[.agg #[.int .i64 1, .int .i32 n, .string s], .int .i64 total, .bool false] w fun e w' => e = .returned (.bool true) ∧ Below w.heap.size w w' := by
  have mixed : Tryd.prog.follows .mixedOrders = true := by kernel_rfl
  have hu24 := Tryd.underlying24
  have HF := Aside0.mk (fun w => laws_zzFits5.calls 1 n s true w hf)
  clear hf
  have HP := Aside0.mk (fun w => laws_intPercent.calls k s v true w hp)
  have HM := Aside0.mk (fun w => laws_intSmall.calls k v total true w hm)
  clear hp hm
  have HN := Aside0.mk (fun w => spec_NumBelow.calls (v * total) 100 z w hn)
  have hw2 : IntKind.i64.wrap (v * total) = v * total := (IntWalk.i64_left _).trans hw
  clear hn
  go_enter Tryd.func6, Tryd.ntmps6
  go_wp2_with (first
    | (go_at_call 18; (with_reducible refine (HF.out _).mono ?_); rintro e w1 ⟨rfl, hb⟩; have B1 := Aside0.mk (below_step (by repeat (first | exact Below.refl w.heap.size w | apply below_alloc | apply pw_below_drewN | apply below_drew1)) (hb)); have R1 := Aside0.mk (blk_below (blk_new w (.cells #[.int .i64 1, .int .i32 n, .string s] 24)) (hb)); have c10 : w1.cell? ⟨w.heap.size, 0, none⟩ = some (.int .i64 1) := blk_cell R1.out 0; have c11 : w1.cell? ⟨w.heap.size, 1, none⟩ = some (.int .i32 n) := blk_cell R1.out 1; have c12 : w1.cell? ⟨w.heap.size, 2, none⟩ = some (.string s) := blk_cell R1.out 2; clear hb HF)
    | (go_at_call 16; (with_reducible refine (hc.out _ (by repeat (first | exact B1.out | apply below_alloc | apply pw_below_drewN | apply below_drew1))).mono ?_); rintro e w2 ⟨rfl, hb⟩; have B2 := Aside0.mk (below_step (by repeat (first | exact B1.out | apply below_alloc | apply pw_below_drewN | apply below_drew1)) (hb)); have R2 := Aside0.mk (blk_below (by exact R1.out) (hb)); have c20 : w2.cell? ⟨w.heap.size, 0, none⟩ = some (.int .i64 1) := blk_cell R2.out 0; have c21 : w2.cell? ⟨w.heap.size, 1, none⟩ = some (.int .i32 n) := blk_cell R2.out 1; have c22 : w2.cell? ⟨w.heap.size, 2, none⟩ = some (.string s) := blk_cell R2.out 2; clear hb hc)
    | (go_at_call 19; (with_reducible refine (HP.out _).mono ?_); rintro e w3 ⟨rfl, hb⟩; have B3 := Aside0.mk (below_step (by repeat (first | exact B2.out | apply below_alloc | apply pw_below_drewN | apply below_drew1)) (hb.below)); have R3 := Aside0.mk (blk_below (by exact R2.out) (hb.below)); have c30 : w3.cell? ⟨w.heap.size, 0, none⟩ = some (.int .i64 1) := blk_cell R3.out 0; have c31 : w3.cell? ⟨w.heap.size, 1, none⟩ = some (.int .i32 n) := blk_cell R3.out 1; have c32 : w3.cell? ⟨w.heap.size, 2, none⟩ = some (.string s) := blk_cell R3.out 2; clear hb HP)
    | (go_at_call 14; (with_reducible refine (HM.out _).mono ?_); rintro e w4 ⟨rfl, hb⟩; have B4 := Aside0.mk (below_step (by repeat (first | exact B3.out | apply below_alloc | apply pw_below_drewN | apply below_drew1)) (hb.below)); have R4 := Aside0.mk (blk_below (by exact R3.out) (hb.below)); have c40 : w4.cell? ⟨w.heap.size, 0, none⟩ = some (.int .i64 1) := blk_cell R4.out 0; have c41 : w4.cell? ⟨w.heap.size, 1, none⟩ = some (.int .i32 n) := blk_cell R4.out 1; have c42 : w4.cell? ⟨w.heap.size, 2, none⟩ = some (.string s) := blk_cell R4.out 2; clear hb HM)
    | (go_at_call 21; (with_reducible refine (HN.out _).mono ?_); rintro e w5 ⟨rfl, hb⟩; have B5 := Aside0.mk (below_step (by repeat (first | exact B4.out | apply below_alloc | apply pw_below_drewN | apply below_drew1)) (hb.below)); have R5 := Aside0.mk (blk_below (by exact R4.out) (hb.below)); have c50 : w5.cell? ⟨w.heap.size, 0, none⟩ = some (.int .i64 1) := blk_cell R5.out 0; have c51 : w5.cell? ⟨w.heap.size, 1, none⟩ = some (.int .i32 n) := blk_cell R5.out 1; have c52 : w5.cell? ⟨w.heap.size, 2, none⟩ = some (.string s) := blk_cell R5.out 2; clear hb HN))
  repeat (go_quiet (fail); try go_wp2)
  go_ret
  exact ⟨rfl, by repeat (first | (with_reducible exact B5.out) | apply below_alloc | apply pw_below_drewN | apply below_drew1)⟩

theorem wf32 {x : Int} (h : (Lit.int .i32 x).wf = true) : -2147483648 ≤ x ∧ x ≤ 2147483647 := by
  simp [Lit.wf, IntKind.min, IntKind.max, IntKind.signed, IntKind.bits] at h
  omega
theorem fits_f (ty n : Int) (s : ByteArray) : laws_zzFits5.f ty n s = some (decide (¬ (s.size : Int) > 2147483647)) := by
  unfold laws_zzFits5.f
  by_cases h : (s.size : Int) > 2147483647
  · rw [if_pos h]; simp [h]
  · rw [if_neg h]; simp [h]
theorem law_all (ty n total : Int) (up : Bool) (s : ByteArray) (wn : (Lit.int .i32 n).wf = true) (wt : (Lit.int .i64 total).wf = true) (w : World) (he : Errs w) :
    Calls Tryd.prog 6 #[.agg #[.int .i64 ty, .int .i32 n, .string s], .int .i64 total, .bool up] w fun e w' => e = .returned (.bool true) ∧ Below w.heap.size w w' := by
  have hn := wf32 wn
  have ht := Small.wf64 wt
  by_cases hs : (s.size : Int) > 2147483647
  · exact law_out ty n total up s (by rw [fits_f]; simp [hs]) w
  · have hf : laws_zzFits5.f ty n s = some true := by rw [fits_f]; simp [hs]
    by_cases k0 : ty = 0
    · subst k0; exact law_int n total up s hn.1 hn.2 hf w
    · by_cases k1 : ty = 1
      · subst k1
        rcases pct s (by omega) with ⟨hp, hS⟩ | ⟨t, v, ok, hts, hp, h1, h2, hS, _⟩
        · obtain ⟨k, hk⟩ := hp.rounds
          exact law_no n total up s 0 k w hk ⟨fun w' _ => call_plain total up n s w' hS⟩ hf
        · obtain ⟨k, hk⟩ := hp.rounds
          rcases hS with ⟨hv, rfl⟩ | ⟨rfl, hv⟩
          · obtain ⟨b, hb, hc⟩ := small_f v total
            obtain ⟨k', hk'⟩ := hb
            have hkk : laws_intPercent.f (k + k') s = some (v, true) := at_rounds (fun j => laws_intPercent.mono s j) (Nat.le_add_right k k') hk
            have hmm := hk' (k + k') (Nat.le_add_left k' k)
            cases b with
            | false =>
              exact law_big n total up s v (k + k') w hkk hmm ⟨fun w' _ => (call_pct total up n s w' t v h1 h2 hts hv ht.1 ht.2).mono fun e w'' ⟨⟨z, h, _⟩, hb⟩ => ⟨⟨z, h⟩, hb⟩⟩ hf
            | true =>
              obtain ⟨b1, b2, b3⟩ := hc rfl
              have hw : wrap64 (v * total) = v * total := Small.w64 _ (by omega) (by omega)
              cases up with
              | true =>
                exact law_up n total s v (-((-(v * total)) / 100)) (k + k') w hkk hmm ⟨fun w' _ => (call_pct total true n s w' t v h1 h2 hts hv ht.1 ht.2).mono fun e w'' ⟨⟨z, h, hz⟩, hb⟩ => ⟨by rw [h, hz b3 b1 b2]; rfl, hb⟩⟩ (above_f _ (by omega) (by omega)) hw hf
              | false =>
                exact law_down n total s v ((v * total) / 100) (k + k') w hkk hmm ⟨fun w' _ => (call_pct total false n s w' t v h1 h2 hts hv ht.1 ht.2).mono fun e w'' ⟨⟨z, h, hz⟩, hb⟩ => ⟨by rw [h, hz b3 b1 b2]; rfl, hb⟩⟩ (below_f _ (by omega) (by omega)) hw hf
          · exact law_no n total up s v k w hk ⟨fun w' hb => call_bad total up n s w' t h1 h2 hts hv (he.below hb)⟩ hf
      · exact law_other ty n total up s k0 k1 hf w
end Go.Proofs.YtihlmkgffifknaaDoor.Sc
