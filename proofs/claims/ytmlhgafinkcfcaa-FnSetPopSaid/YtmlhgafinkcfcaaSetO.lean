/- Sets of whole numbers: setOps, one theorem for each operation. Printed by wip/mkops.py. -/
import Derived.Test.YtmlhgafinkcfcaaSetZ
set_option linter.unusedVariables false
set_option linter.unusedSimpArgs false
namespace Go.Proofs.Ytmlhgafinkcfcaa.SetW
open Go Go.RowKit Go.Maps Go.Sort Go.MapKept Go.ChangeMaps Go.Proofs.YtmlhgafinkcfcaaW.PrintWords

/-- A value that is a set of just these numbers; nil is one of none. -/
def IsSetV (w : World) (v : Value) (L : List Int) : Prop := (v = .map none ∧ L = []) ∨ ∃ b n, v = .map (some b) ∧ n ≤ 4294967296000 ∧ IsSet w b n L
theorem IsSetV.mk {w : World} {b n : Nat} {L : List Int} (h : IsSet w b n L) (hn : n ≤ 4294967296000) : IsSetV w (.map (some b)) L := Or.inr ⟨b, n, rfl, hn, h⟩
theorem IsSetV.nil (w : World) : IsSetV w (.map none) [] := Or.inl ⟨rfl, rfl⟩
theorem IsSetV.below {w w' : World} {v : Value} {L : List Int} (h : IsSetV w v L) (hb : Below w.heap.size w w') : IsSetV w' v L := by
  rcases h with h | ⟨b, n, h1, h2, h3⟩
  · exact Or.inl h
  · exact Or.inr ⟨b, n, h1, h2, h3.kept (grown_of_below hb none) (by simp)⟩
theorem listV (v : Value) (L : List Int) (w : World) (h : IsSetV w v L) :
    Calls Try.prog 47 #[v] w fun e w' => ∃ v : Value, e = .returned v ∧ w'.ownsRow w.heap.size 3 1 v (ks L).length ((ks L).map (Value.int .i64)) ∧ Below w.heap.size w w' := by
  rcases h with ⟨rfl, rfl⟩ | ⟨b, n, rfl, h2, h3⟩
  · exact list_nil w
  · exact list_any b n L w h3 h2
/-- Three rows of the call's own, each apart from the others. -/
def Told (w w' : World) (v0 v1 v2 : Value) (l0 l1 l2 : List Int) : Prop :=
  Kd.R (Kd.int .i64) 3 w' w.heap.size (fun k_ => some k_ ≠ (v1 : Value).ownBlock ∧ some k_ ≠ (v2 : Value).ownBlock) v0 l0 ∧ Kd.R (Kd.int .i64) 3 w' w.heap.size (fun k_ => some k_ ≠ (v0 : Value).ownBlock ∧ some k_ ≠ (v2 : Value).ownBlock) v1 l1 ∧
  Kd.R (Kd.int .i64) 3 w' w.heap.size (fun k_ => some k_ ≠ (v0 : Value).ownBlock ∧ some k_ ≠ (v1 : Value).ownBlock) v2 l2 ∧ Below w.heap.size w w'
theorem row_R {w w' : World} {base : Nat} {v : Value} {l : List Int} (h : w.ownsRow base 3 1 v l.length (l.map (Value.int .i64))) (hb : Below w.heap.size w w') : Kd.R (Kd.int .i64) 3 w' base (fun k => base ≤ k ∧ k < w.heap.size) v l := by
  have h0 : Kd.R (Kd.int .i64) 3 w base (fun _ => True) v l := Kd.R_of_own h (fun _ _ => trivial)
  have h1 : Kd.R (Kd.int .i64) 3 w base (fun k => base ≤ k ∧ k < w.heap.size) v l := Kd.R_mono (Kd.R_bound h0) (fun k hk => ⟨hk.2.1, hk.2.2.1⟩)
  exact Kd.R_below h1 hb
theorem told_three {w w3 w4 w5 w6 : World} {v0 v1 v2 : Value} {l0 l1 l2 : List Int} (hb : Below w.heap.size w w3) (h0 : w4.ownsRow w3.heap.size 3 1 v0 l0.length (l0.map (Value.int .i64))) (b4 : Below w3.heap.size w3 w4)
    (h1 : w5.ownsRow w4.heap.size 3 1 v1 l1.length (l1.map (Value.int .i64))) (b5 : Below w4.heap.size w4 w5) (h2 : w6.ownsRow w5.heap.size 3 1 v2 l2.length (l2.map (Value.int .i64))) (b6 : Below w5.heap.size w5 w6) : Told w w6 v0 v1 v2 l0 l1 l2 := by
  have r0 := row_R h0 (below_step b5 b6)
  have r1 := row_R h1 b6
  have r2 := row_R h2 (Below.refl _ _)
  have s3 := hb.size
  have s4 := b4.size
  have s5 := b5.size
  have e0 : ∀ k, v0.ownBlock = some k → w3.heap.size ≤ k ∧ k < w4.heap.size := fun k hk => r0.1 k hk
  have e1 : ∀ k, v1.ownBlock = some k → w4.heap.size ≤ k ∧ k < w5.heap.size := fun k hk => r1.1 k hk
  have e2 : ∀ k, v2.ownBlock = some k → w5.heap.size ≤ k ∧ k < w6.heap.size := fun k hk => r2.1 k hk
  refine ⟨Kd.R_lower (Kd.R_mono r0 fun k hk => ⟨fun e => ?_, fun e => ?_⟩) s3, Kd.R_lower (Kd.R_mono r1 fun k hk => ⟨fun e => ?_, fun e => ?_⟩) (by omega), Kd.R_lower (Kd.R_mono r2 fun k hk => ⟨fun e => ?_, fun e => ?_⟩) (by omega), below_step (below_step (below_step hb b4) b5) b6⟩
  · have := e1 k e.symm; omega
  · have := e2 k e.symm; omega
  · have := e0 k e.symm; omega
  · have := e2 k e.symm; omega
  · have := e0 k e.symm; omega
  · have := e1 k e.symm; omega
theorem results_tmp4 {fn : Func} {t u v x : Tmp} (h : fn.results = #[.tmp t, .tmp u, .tmp v, .tmp x]) (tmps : Array Value) (P : Program) (w : World) :
    (results fn tmps).run P w = .ok (.tuple #[tmps.getD t undef, tmps.getD u undef, tmps.getD v undef, tmps.getD x undef]) w := by
  simp [results, h]
def Small (l : List Int) : Prop := l.length ≤ 4294967296 ∧ ∀ x ∈ l, (Lit.int .i64 x).wf = true

set_option maxRecDepth 100000 in
set_option maxHeartbeats 4000000 in
theorem op_0 (A0 : Option Addr) (c0 : Nat) (a : List Int) (A1 : Option Addr) (c1 : Nat) (b : List Int) (A2 : Option Addr) (c2 : Nat) (wi : List Int) (w : World) (hr0 : Kd.C (Kd.int .i64) w A0 a.length a) (hr1 : Kd.C (Kd.int .i64) w A1 b.length b) (hr2 : Kd.C (Kd.int .i64) w A2 wi.length wi) (h1 : Small a) (h2 : Small b) (h3 : Small wi) :
    Calls Try.prog 21 #[.int .i64 0, .slice A0 a.length c0, .slice A1 b.length c1, .slice A2 wi.length c2] w fun e w' => ∃ v0 v1 v2 : Value, e = .returned (.tuple #[v0, v1, v2, .bool false]) ∧ Told w w' v0 v1 v2 (ks a) (ks a) (ks b) := by
  have HR1 := Aside0.mk hr1
  have HR2 := Aside0.mk hr2
  have HR0 := Aside0.mk hr0
  have HG1 := Aside0.mk h1
  have HG2 := Aside0.mk h2
  have HG3 := Aside0.mk h3
  have HN1 := Aside0.mk (new_any A0 c0 a w hr0 (by have q1 := HG1.out.1; have q2 := HG2.out.1; have q3 := HG3.out.1; (try unfold maxLen); omega) h1.2)
  clear hr0 hr1 hr2 h1 h2 h3
  go_enter Try.func21, Try.ntmps21
  go_wp2_with (first
    | (go_at_call 31; (with_reducible refine (HN1.out).mono ?_); rintro e w1 ⟨rfl, hs1, hb1⟩; have HS1 := Aside0.mk hs1; have HB1 := Aside0.mk hb1; clear hs1 hb1 HN1; have HN2 := Aside0.mk (new_any A1 c1 b w1 (Kd.C_below HR1.out HB1.out) (by have q1 := HG1.out.1; have q2 := HG2.out.1; have q3 := HG3.out.1; (try unfold maxLen); omega) HG2.out.2))
    | (go_at_call 31; (with_reducible refine (HN2.out).mono ?_); rintro e w2 ⟨rfl, hs2, hb2⟩; have HX2 := Aside0.mk (HS1.out.kept (grown_of_below hb2 none) (by simp)); have HY2 := Aside0.mk hs2; have HB2 := Aside0.mk (below_step HB1.out hb2); clear hs2 hb2 HN2; have HO := Aside0.mk (clone_any w.heap.size a.length a w2 HX2.out (by have q1 := HG1.out.1; have q2 := HG2.out.1; have q3 := HG3.out.1; (try unfold maxLen); omega)))
    | (go_at_call 32; (with_reducible refine (HO.out).mono ?_); rintro e w3 ⟨rfl, hz, h3⟩; have HZ3 := Aside0.mk (IsSetV.mk hz (by have q1 := HG1.out.1; have q2 := HG2.out.1; have q3 := HG3.out.1; (try unfold maxLen); omega)); have HX3 := Aside0.mk (IsSetV.mk (HX2.out.kept (grown_of_below h3 none) (by simp)) (by have q1 := HG1.out.1; have q2 := HG2.out.1; have q3 := HG3.out.1; (try unfold maxLen); omega)); have HY3 := Aside0.mk (IsSetV.mk (HY2.out.kept (grown_of_below h3 none) (by simp)) (by have q1 := HG1.out.1; have q2 := HG2.out.1; have q3 := HG3.out.1; (try unfold maxLen); omega)); have HB3 := Aside0.mk (below_step HB2.out h3); clear hz h3; clear HO; have HL1 := Aside0.mk (listV _ _ w3 HZ3.out))
    | (go_at_call 47; (with_reducible refine (HL1.out).mono ?_); rintro e w4 ⟨v0, rfl, ho, hb⟩; have HO0 := Aside0.mk ho; have HB4 := Aside0.mk hb; clear ho hb HL1; have HL2 := Aside0.mk (listV _ _ w4 (HX3.out.below HB4.out)))
    | (go_at_call 47; (with_reducible refine (HL2.out).mono ?_); rintro e w5 ⟨v1, rfl, ho, hb⟩; have HO1 := Aside0.mk ho; have HB5 := Aside0.mk hb; clear ho hb HL2; have HL3 := Aside0.mk (listV _ _ w5 ((HY3.out.below HB4.out).below HB5.out)))
    | (go_at_call 47; (with_reducible refine (HL3.out).mono ?_); rintro e w6 ⟨v2, rfl, ho, hb⟩; have HO2 := Aside0.mk ho; have HB6 := Aside0.mk hb; clear ho hb HL3))
  (try simp only [Exit.inBlock, Exit.then]); refine bodyPost_ret (results_tmp4 rfl _ _ _) rfl ?_
  exact ⟨v0, v1, v2, rfl, told_three HB3.out HO0.out HB4.out HO1.out HB5.out HO2.out HB6.out⟩

set_option maxRecDepth 100000 in
set_option maxHeartbeats 4000000 in
theorem op_1 (A0 : Option Addr) (c0 : Nat) (a : List Int) (A1 : Option Addr) (c1 : Nat) (b : List Int) (A2 : Option Addr) (c2 : Nat) (wi : List Int) (w : World) (hr0 : Kd.C (Kd.int .i64) w A0 a.length a) (hr1 : Kd.C (Kd.int .i64) w A1 b.length b) (hr2 : Kd.C (Kd.int .i64) w A2 wi.length wi) (h1 : Small a) (h2 : Small b) (h3 : Small wi) :
    Calls Try.prog 21 #[.int .i64 1, .slice A0 a.length c0, .slice A1 b.length c1, .slice A2 wi.length c2] w fun e w' => ∃ v0 v1 v2 : Value, e = .returned (.tuple #[v0, v1, v2, .bool false]) ∧ Told w w' v0 v1 v2 (ks (a ++ b)) (ks a) (ks b) := by
  have HR1 := Aside0.mk hr1
  have HR2 := Aside0.mk hr2
  have HR0 := Aside0.mk hr0
  have HG1 := Aside0.mk h1
  have HG2 := Aside0.mk h2
  have HG3 := Aside0.mk h3
  have HN1 := Aside0.mk (new_any A0 c0 a w hr0 (by have q1 := HG1.out.1; have q2 := HG2.out.1; have q3 := HG3.out.1; (try unfold maxLen); omega) h1.2)
  clear hr0 hr1 hr2 h1 h2 h3
  go_enter Try.func21, Try.ntmps21
  go_wp2_with (first
    | (go_at_call 31; (with_reducible refine (HN1.out).mono ?_); rintro e w1 ⟨rfl, hs1, hb1⟩; have HS1 := Aside0.mk hs1; have HB1 := Aside0.mk hb1; clear hs1 hb1 HN1; have HN2 := Aside0.mk (new_any A1 c1 b w1 (Kd.C_below HR1.out HB1.out) (by have q1 := HG1.out.1; have q2 := HG2.out.1; have q3 := HG3.out.1; (try unfold maxLen); omega) HG2.out.2))
    | (go_at_call 31; (with_reducible refine (HN2.out).mono ?_); rintro e w2 ⟨rfl, hs2, hb2⟩; have HX2 := Aside0.mk (HS1.out.kept (grown_of_below hb2 none) (by simp)); have HY2 := Aside0.mk hs2; have HB2 := Aside0.mk (below_step HB1.out hb2); clear hs2 hb2 HN2; have HO := Aside0.mk (union_any w.heap.size a.length w1.heap.size b.length a b w2 HX2.out HY2.out (by have q1 := HG1.out.1; have q2 := HG2.out.1; have q3 := HG3.out.1; (try unfold maxLen); omega)))
    | (go_at_call 33; (with_reducible refine (HO.out).mono ?_); rintro e w3 ⟨rfl, hz, h3⟩; have HZ3 := Aside0.mk (IsSetV.mk hz (by have q1 := HG1.out.1; have q2 := HG2.out.1; have q3 := HG3.out.1; (try unfold maxLen); omega)); have HX3 := Aside0.mk (IsSetV.mk (HX2.out.kept (grown_of_below h3 none) (by simp)) (by have q1 := HG1.out.1; have q2 := HG2.out.1; have q3 := HG3.out.1; (try unfold maxLen); omega)); have HY3 := Aside0.mk (IsSetV.mk (HY2.out.kept (grown_of_below h3 none) (by simp)) (by have q1 := HG1.out.1; have q2 := HG2.out.1; have q3 := HG3.out.1; (try unfold maxLen); omega)); have HB3 := Aside0.mk (below_step HB2.out h3); clear hz h3; clear HO; have HL1 := Aside0.mk (listV _ _ w3 HZ3.out))
    | (go_at_call 47; (with_reducible refine (HL1.out).mono ?_); rintro e w4 ⟨v0, rfl, ho, hb⟩; have HO0 := Aside0.mk ho; have HB4 := Aside0.mk hb; clear ho hb HL1; have HL2 := Aside0.mk (listV _ _ w4 (HX3.out.below HB4.out)))
    | (go_at_call 47; (with_reducible refine (HL2.out).mono ?_); rintro e w5 ⟨v1, rfl, ho, hb⟩; have HO1 := Aside0.mk ho; have HB5 := Aside0.mk hb; clear ho hb HL2; have HL3 := Aside0.mk (listV _ _ w5 ((HY3.out.below HB4.out).below HB5.out)))
    | (go_at_call 47; (with_reducible refine (HL3.out).mono ?_); rintro e w6 ⟨v2, rfl, ho, hb⟩; have HO2 := Aside0.mk ho; have HB6 := Aside0.mk hb; clear ho hb HL3))
  (try simp only [Exit.inBlock, Exit.then]); refine bodyPost_ret (results_tmp4 rfl _ _ _) rfl ?_
  exact ⟨v0, v1, v2, rfl, told_three HB3.out HO0.out HB4.out HO1.out HB5.out HO2.out HB6.out⟩

set_option maxRecDepth 100000 in
set_option maxHeartbeats 4000000 in
theorem op_2 (A0 : Option Addr) (c0 : Nat) (a : List Int) (A1 : Option Addr) (c1 : Nat) (b : List Int) (A2 : Option Addr) (c2 : Nat) (wi : List Int) (w : World) (hr0 : Kd.C (Kd.int .i64) w A0 a.length a) (hr1 : Kd.C (Kd.int .i64) w A1 b.length b) (hr2 : Kd.C (Kd.int .i64) w A2 wi.length wi) (h1 : Small a) (h2 : Small b) (h3 : Small wi) :
    Calls Try.prog 21 #[.int .i64 2, .slice A0 a.length c0, .slice A1 b.length c1, .slice A2 wi.length c2] w fun e w' => ∃ v0 v1 v2 : Value, e = .returned (.tuple #[v0, v1, v2, .bool false]) ∧ Told w w' v0 v1 v2 (ks (a.filter fun x => decide (x ∈ b))) (ks a) (ks b) := by
  have HR1 := Aside0.mk hr1
  have HR2 := Aside0.mk hr2
  have HR0 := Aside0.mk hr0
  have HG1 := Aside0.mk h1
  have HG2 := Aside0.mk h2
  have HG3 := Aside0.mk h3
  have HN1 := Aside0.mk (new_any A0 c0 a w hr0 (by have q1 := HG1.out.1; have q2 := HG2.out.1; have q3 := HG3.out.1; (try unfold maxLen); omega) h1.2)
  clear hr0 hr1 hr2 h1 h2 h3
  go_enter Try.func21, Try.ntmps21
  go_wp2_with (first
    | (go_at_call 31; (with_reducible refine (HN1.out).mono ?_); rintro e w1 ⟨rfl, hs1, hb1⟩; have HS1 := Aside0.mk hs1; have HB1 := Aside0.mk hb1; clear hs1 hb1 HN1; have HN2 := Aside0.mk (new_any A1 c1 b w1 (Kd.C_below HR1.out HB1.out) (by have q1 := HG1.out.1; have q2 := HG2.out.1; have q3 := HG3.out.1; (try unfold maxLen); omega) HG2.out.2))
    | (go_at_call 31; (with_reducible refine (HN2.out).mono ?_); rintro e w2 ⟨rfl, hs2, hb2⟩; have HX2 := Aside0.mk (HS1.out.kept (grown_of_below hb2 none) (by simp)); have HY2 := Aside0.mk hs2; have HB2 := Aside0.mk (below_step HB1.out hb2); clear hs2 hb2 HN2; have HO := Aside0.mk (intersection_any w.heap.size a.length w1.heap.size b.length a b w2 HX2.out HY2.out (by have q1 := HG1.out.1; have q2 := HG2.out.1; have q3 := HG3.out.1; (try unfold maxLen); omega)))
    | (go_at_call 34; (with_reducible refine (HO.out).mono ?_); rintro e w3 ⟨rfl, hz, h3⟩; have HZ3 := Aside0.mk (IsSetV.mk hz (by have q1 := HG1.out.1; have q2 := HG2.out.1; have q3 := HG3.out.1; (try unfold maxLen); omega)); have HX3 := Aside0.mk (IsSetV.mk (HX2.out.kept (grown_of_below h3 none) (by simp)) (by have q1 := HG1.out.1; have q2 := HG2.out.1; have q3 := HG3.out.1; (try unfold maxLen); omega)); have HY3 := Aside0.mk (IsSetV.mk (HY2.out.kept (grown_of_below h3 none) (by simp)) (by have q1 := HG1.out.1; have q2 := HG2.out.1; have q3 := HG3.out.1; (try unfold maxLen); omega)); have HB3 := Aside0.mk (below_step HB2.out h3); clear hz h3; clear HO; have HL1 := Aside0.mk (listV _ _ w3 HZ3.out))
    | (go_at_call 47; (with_reducible refine (HL1.out).mono ?_); rintro e w4 ⟨v0, rfl, ho, hb⟩; have HO0 := Aside0.mk ho; have HB4 := Aside0.mk hb; clear ho hb HL1; have HL2 := Aside0.mk (listV _ _ w4 (HX3.out.below HB4.out)))
    | (go_at_call 47; (with_reducible refine (HL2.out).mono ?_); rintro e w5 ⟨v1, rfl, ho, hb⟩; have HO1 := Aside0.mk ho; have HB5 := Aside0.mk hb; clear ho hb HL2; have HL3 := Aside0.mk (listV _ _ w5 ((HY3.out.below HB4.out).below HB5.out)))
    | (go_at_call 47; (with_reducible refine (HL3.out).mono ?_); rintro e w6 ⟨v2, rfl, ho, hb⟩; have HO2 := Aside0.mk ho; have HB6 := Aside0.mk hb; clear ho hb HL3))
  (try simp only [Exit.inBlock, Exit.then]); refine bodyPost_ret (results_tmp4 rfl _ _ _) rfl ?_
  exact ⟨v0, v1, v2, rfl, told_three HB3.out HO0.out HB4.out HO1.out HB5.out HO2.out HB6.out⟩

set_option maxRecDepth 100000 in
set_option maxHeartbeats 4000000 in
theorem op_3 (A0 : Option Addr) (c0 : Nat) (a : List Int) (A1 : Option Addr) (c1 : Nat) (b : List Int) (A2 : Option Addr) (c2 : Nat) (wi : List Int) (w : World) (hr0 : Kd.C (Kd.int .i64) w A0 a.length a) (hr1 : Kd.C (Kd.int .i64) w A1 b.length b) (hr2 : Kd.C (Kd.int .i64) w A2 wi.length wi) (h1 : Small a) (h2 : Small b) (h3 : Small wi) :
    Calls Try.prog 21 #[.int .i64 3, .slice A0 a.length c0, .slice A1 b.length c1, .slice A2 wi.length c2] w fun e w' => ∃ v0 v1 v2 : Value, e = .returned (.tuple #[v0, v1, v2, .bool false]) ∧ Told w w' v0 v1 v2 (ks (a.filter fun x => !decide (x ∈ b))) (ks a) (ks b) := by
  have HR1 := Aside0.mk hr1
  have HR2 := Aside0.mk hr2
  have HR0 := Aside0.mk hr0
  have HG1 := Aside0.mk h1
  have HG2 := Aside0.mk h2
  have HG3 := Aside0.mk h3
  have HN1 := Aside0.mk (new_any A0 c0 a w hr0 (by have q1 := HG1.out.1; have q2 := HG2.out.1; have q3 := HG3.out.1; (try unfold maxLen); omega) h1.2)
  clear hr0 hr1 hr2 h1 h2 h3
  go_enter Try.func21, Try.ntmps21
  go_wp2_with (first
    | (go_at_call 31; (with_reducible refine (HN1.out).mono ?_); rintro e w1 ⟨rfl, hs1, hb1⟩; have HS1 := Aside0.mk hs1; have HB1 := Aside0.mk hb1; clear hs1 hb1 HN1; have HN2 := Aside0.mk (new_any A1 c1 b w1 (Kd.C_below HR1.out HB1.out) (by have q1 := HG1.out.1; have q2 := HG2.out.1; have q3 := HG3.out.1; (try unfold maxLen); omega) HG2.out.2))
    | (go_at_call 31; (with_reducible refine (HN2.out).mono ?_); rintro e w2 ⟨rfl, hs2, hb2⟩; have HX2 := Aside0.mk (HS1.out.kept (grown_of_below hb2 none) (by simp)); have HY2 := Aside0.mk hs2; have HB2 := Aside0.mk (below_step HB1.out hb2); clear hs2 hb2 HN2; have HO := Aside0.mk (difference_any w.heap.size a.length w1.heap.size b.length a b w2 HX2.out HY2.out (by have q1 := HG1.out.1; have q2 := HG2.out.1; have q3 := HG3.out.1; (try unfold maxLen); omega)))
    | (go_at_call 35; (with_reducible refine (HO.out).mono ?_); rintro e w3 ⟨rfl, hz, h3⟩; have HZ3 := Aside0.mk (IsSetV.mk hz (by have q1 := HG1.out.1; have q2 := HG2.out.1; have q3 := HG3.out.1; (try unfold maxLen); omega)); have HX3 := Aside0.mk (IsSetV.mk (HX2.out.kept (grown_of_below h3 none) (by simp)) (by have q1 := HG1.out.1; have q2 := HG2.out.1; have q3 := HG3.out.1; (try unfold maxLen); omega)); have HY3 := Aside0.mk (IsSetV.mk (HY2.out.kept (grown_of_below h3 none) (by simp)) (by have q1 := HG1.out.1; have q2 := HG2.out.1; have q3 := HG3.out.1; (try unfold maxLen); omega)); have HB3 := Aside0.mk (below_step HB2.out h3); clear hz h3; clear HO; have HL1 := Aside0.mk (listV _ _ w3 HZ3.out))
    | (go_at_call 47; (with_reducible refine (HL1.out).mono ?_); rintro e w4 ⟨v0, rfl, ho, hb⟩; have HO0 := Aside0.mk ho; have HB4 := Aside0.mk hb; clear ho hb HL1; have HL2 := Aside0.mk (listV _ _ w4 (HX3.out.below HB4.out)))
    | (go_at_call 47; (with_reducible refine (HL2.out).mono ?_); rintro e w5 ⟨v1, rfl, ho, hb⟩; have HO1 := Aside0.mk ho; have HB5 := Aside0.mk hb; clear ho hb HL2; have HL3 := Aside0.mk (listV _ _ w5 ((HY3.out.below HB4.out).below HB5.out)))
    | (go_at_call 47; (with_reducible refine (HL3.out).mono ?_); rintro e w6 ⟨v2, rfl, ho, hb⟩; have HO2 := Aside0.mk ho; have HB6 := Aside0.mk hb; clear ho hb HL3))
  (try simp only [Exit.inBlock, Exit.then]); refine bodyPost_ret (results_tmp4 rfl _ _ _) rfl ?_
  exact ⟨v0, v1, v2, rfl, told_three HB3.out HO0.out HB4.out HO1.out HB5.out HO2.out HB6.out⟩

set_option maxRecDepth 100000 in
set_option maxHeartbeats 4000000 in
theorem op_4 (A0 : Option Addr) (c0 : Nat) (a : List Int) (A1 : Option Addr) (c1 : Nat) (b : List Int) (A2 : Option Addr) (c2 : Nat) (wi : List Int) (w : World) (hr0 : Kd.C (Kd.int .i64) w A0 a.length a) (hr1 : Kd.C (Kd.int .i64) w A1 b.length b) (hr2 : Kd.C (Kd.int .i64) w A2 wi.length wi) (h1 : Small a) (h2 : Small b) (h3 : Small wi) :
    Calls Try.prog 21 #[.int .i64 4, .slice A0 a.length c0, .slice A1 b.length c1, .slice A2 wi.length c2] w fun e w' => ∃ v0 v1 v2 : Value, e = .returned (.tuple #[v0, v1, v2, .bool false]) ∧ Told w w' v0 v1 v2 (ks ((a.filter fun x => !decide (x ∈ b)) ++ (b.filter fun x => !decide (x ∈ a)))) (ks a) (ks b) := by
  have HR1 := Aside0.mk hr1
  have HR2 := Aside0.mk hr2
  have HR0 := Aside0.mk hr0
  have HG1 := Aside0.mk h1
  have HG2 := Aside0.mk h2
  have HG3 := Aside0.mk h3
  have HN1 := Aside0.mk (new_any A0 c0 a w hr0 (by have q1 := HG1.out.1; have q2 := HG2.out.1; have q3 := HG3.out.1; (try unfold maxLen); omega) h1.2)
  clear hr0 hr1 hr2 h1 h2 h3
  go_enter Try.func21, Try.ntmps21
  go_wp2_with (first
    | (go_at_call 31; (with_reducible refine (HN1.out).mono ?_); rintro e w1 ⟨rfl, hs1, hb1⟩; have HS1 := Aside0.mk hs1; have HB1 := Aside0.mk hb1; clear hs1 hb1 HN1; have HN2 := Aside0.mk (new_any A1 c1 b w1 (Kd.C_below HR1.out HB1.out) (by have q1 := HG1.out.1; have q2 := HG2.out.1; have q3 := HG3.out.1; (try unfold maxLen); omega) HG2.out.2))
    | (go_at_call 31; (with_reducible refine (HN2.out).mono ?_); rintro e w2 ⟨rfl, hs2, hb2⟩; have HX2 := Aside0.mk (HS1.out.kept (grown_of_below hb2 none) (by simp)); have HY2 := Aside0.mk hs2; have HB2 := Aside0.mk (below_step HB1.out hb2); clear hs2 hb2 HN2; have HO := Aside0.mk (sym_any w.heap.size a.length w1.heap.size b.length a b w2 HX2.out HY2.out (by have q1 := HG1.out.1; have q2 := HG2.out.1; have q3 := HG3.out.1; (try unfold maxLen); omega)))
    | (go_at_call 36; (with_reducible refine (HO.out).mono ?_); rintro e w3 ⟨g, rfl, hge, hz, h3⟩; have HZ3 := Aside0.mk (IsSetV.mk hz (by have q1 := HG1.out.1; have q2 := HG2.out.1; have q3 := HG3.out.1; (try unfold maxLen); omega)); have HX3 := Aside0.mk (IsSetV.mk (HX2.out.kept (grown_of_below h3 none) (by simp)) (by have q1 := HG1.out.1; have q2 := HG2.out.1; have q3 := HG3.out.1; (try unfold maxLen); omega)); have HY3 := Aside0.mk (IsSetV.mk (HY2.out.kept (grown_of_below h3 none) (by simp)) (by have q1 := HG1.out.1; have q2 := HG2.out.1; have q3 := HG3.out.1; (try unfold maxLen); omega)); have HB3 := Aside0.mk (below_step HB2.out h3); clear hz h3; clear HO; have HL1 := Aside0.mk (listV _ _ w3 HZ3.out))
    | (go_at_call 47; (with_reducible refine (HL1.out).mono ?_); rintro e w4 ⟨v0, rfl, ho, hb⟩; have HO0 := Aside0.mk ho; have HB4 := Aside0.mk hb; clear ho hb HL1; have HL2 := Aside0.mk (listV _ _ w4 (HX3.out.below HB4.out)))
    | (go_at_call 47; (with_reducible refine (HL2.out).mono ?_); rintro e w5 ⟨v1, rfl, ho, hb⟩; have HO1 := Aside0.mk ho; have HB5 := Aside0.mk hb; clear ho hb HL2; have HL3 := Aside0.mk (listV _ _ w5 ((HY3.out.below HB4.out).below HB5.out)))
    | (go_at_call 47; (with_reducible refine (HL3.out).mono ?_); rintro e w6 ⟨v2, rfl, ho, hb⟩; have HO2 := Aside0.mk ho; have HB6 := Aside0.mk hb; clear ho hb HL3))
  (try simp only [Exit.inBlock, Exit.then]); refine bodyPost_ret (results_tmp4 rfl _ _ _) rfl ?_
  exact ⟨v0, v1, v2, rfl, told_three HB3.out HO0.out HB4.out HO1.out HB5.out HO2.out HB6.out⟩

set_option maxRecDepth 100000 in
set_option maxHeartbeats 4000000 in
theorem op_5 (A0 : Option Addr) (c0 : Nat) (a : List Int) (A1 : Option Addr) (c1 : Nat) (b : List Int) (A2 : Option Addr) (c2 : Nat) (wi : List Int) (w : World) (hr0 : Kd.C (Kd.int .i64) w A0 a.length a) (hr1 : Kd.C (Kd.int .i64) w A1 b.length b) (hr2 : Kd.C (Kd.int .i64) w A2 wi.length wi) (h1 : Small a) (h2 : Small b) (h3 : Small wi) :
    Calls Try.prog 21 #[.int .i64 5, .slice A0 a.length c0, .slice A1 b.length c1, .slice A2 wi.length c2] w fun e w' => ∃ v0 v1 v2 : Value, e = .returned (.tuple #[v0, v1, v2, .bool false]) ∧ Told w w' v0 v1 v2 (ks (a ++ wi)) (ks (a ++ wi)) (ks b) := by
  have HR1 := Aside0.mk hr1
  have HR2 := Aside0.mk hr2
  have HR0 := Aside0.mk hr0
  have HG1 := Aside0.mk h1
  have HG2 := Aside0.mk h2
  have HG3 := Aside0.mk h3
  have HN1 := Aside0.mk (new_any A0 c0 a w hr0 (by have q1 := HG1.out.1; have q2 := HG2.out.1; have q3 := HG3.out.1; (try unfold maxLen); omega) h1.2)
  clear hr0 hr1 hr2 h1 h2 h3
  go_enter Try.func21, Try.ntmps21
  go_wp2_with (first
    | (go_at_call 31; (with_reducible refine (HN1.out).mono ?_); rintro e w1 ⟨rfl, hs1, hb1⟩; have HS1 := Aside0.mk hs1; have HB1 := Aside0.mk hb1; clear hs1 hb1 HN1; have HN2 := Aside0.mk (new_any A1 c1 b w1 (Kd.C_below HR1.out HB1.out) (by have q1 := HG1.out.1; have q2 := HG2.out.1; have q3 := HG3.out.1; (try unfold maxLen); omega) HG2.out.2))
    | (go_at_call 31; (with_reducible refine (HN2.out).mono ?_); rintro e w2 ⟨rfl, hs2, hb2⟩; have HX2 := Aside0.mk (HS1.out.kept (grown_of_below hb2 none) (by simp)); have HY2 := Aside0.mk hs2; have HB2 := Aside0.mk (below_step HB1.out hb2); clear hs2 hb2 HN2; have HO := Aside0.mk (insert_any w.heap.size a.length a A2 c2 wi w2 HX2.out (Kd.C_below HR2.out HB2.out) (by have q1 := HG1.out.1; have q2 := HG2.out.1; have q3 := HG3.out.1; (try unfold maxLen); omega) HG3.out.2))
    | (go_at_call 37; (with_reducible refine (HO.out).mono ?_); rintro e w3 ⟨rfl, hz, h3⟩; have HZ3 := Aside0.mk (IsSetV.mk hz (by have q1 := HG1.out.1; have q2 := HG2.out.1; have q3 := HG3.out.1; (try unfold maxLen); omega)); have HX3 := Aside0.mk HZ3.out; have HY3 := Aside0.mk (IsSetV.mk (HY2.out.kept h3 (fun e => by have := Option.some.inj e; have := HS1.out.lt; omega)) (by have q1 := HG1.out.1; have q2 := HG2.out.1; have q3 := HG3.out.1; (try unfold maxLen); omega)); have HB3 := Aside0.mk (HB2.out.grown h3 HB2.out.size (fun j hj => by cases hj; exact Nat.le_refl _)); clear hz h3; clear HO; have HL1 := Aside0.mk (listV _ _ w3 HZ3.out))
    | (go_at_call 47; (with_reducible refine (HL1.out).mono ?_); rintro e w4 ⟨v0, rfl, ho, hb⟩; have HO0 := Aside0.mk ho; have HB4 := Aside0.mk hb; clear ho hb HL1; have HL2 := Aside0.mk (listV _ _ w4 (HX3.out.below HB4.out)))
    | (go_at_call 47; (with_reducible refine (HL2.out).mono ?_); rintro e w5 ⟨v1, rfl, ho, hb⟩; have HO1 := Aside0.mk ho; have HB5 := Aside0.mk hb; clear ho hb HL2; have HL3 := Aside0.mk (listV _ _ w5 ((HY3.out.below HB4.out).below HB5.out)))
    | (go_at_call 47; (with_reducible refine (HL3.out).mono ?_); rintro e w6 ⟨v2, rfl, ho, hb⟩; have HO2 := Aside0.mk ho; have HB6 := Aside0.mk hb; clear ho hb HL3))
  (try simp only [Exit.inBlock, Exit.then]); refine bodyPost_ret (results_tmp4 rfl _ _ _) rfl ?_
  exact ⟨v0, v1, v2, rfl, told_three HB3.out HO0.out HB4.out HO1.out HB5.out HO2.out HB6.out⟩

set_option maxRecDepth 100000 in
set_option maxHeartbeats 4000000 in
theorem op_6 (A0 : Option Addr) (c0 : Nat) (a : List Int) (A1 : Option Addr) (c1 : Nat) (b : List Int) (A2 : Option Addr) (c2 : Nat) (wi : List Int) (w : World) (hr0 : Kd.C (Kd.int .i64) w A0 a.length a) (hr1 : Kd.C (Kd.int .i64) w A1 b.length b) (hr2 : Kd.C (Kd.int .i64) w A2 wi.length wi) (h1 : Small a) (h2 : Small b) (h3 : Small wi) :
    Calls Try.prog 21 #[.int .i64 6, .slice A0 a.length c0, .slice A1 b.length c1, .slice A2 wi.length c2] w fun e w' => ∃ v0 v1 v2 : Value, e = .returned (.tuple #[v0, v1, v2, .bool false]) ∧ Told w w' v0 v1 v2 (ks (a.filter fun x => !wi.contains x)) (ks (a.filter fun x => !wi.contains x)) (ks b) := by
  have HR1 := Aside0.mk hr1
  have HR2 := Aside0.mk hr2
  have HR0 := Aside0.mk hr0
  have HG1 := Aside0.mk h1
  have HG2 := Aside0.mk h2
  have HG3 := Aside0.mk h3
  have HN1 := Aside0.mk (new_any A0 c0 a w hr0 (by have q1 := HG1.out.1; have q2 := HG2.out.1; have q3 := HG3.out.1; (try unfold maxLen); omega) h1.2)
  clear hr0 hr1 hr2 h1 h2 h3
  go_enter Try.func21, Try.ntmps21
  go_wp2_with (first
    | (go_at_call 31; (with_reducible refine (HN1.out).mono ?_); rintro e w1 ⟨rfl, hs1, hb1⟩; have HS1 := Aside0.mk hs1; have HB1 := Aside0.mk hb1; clear hs1 hb1 HN1; have HN2 := Aside0.mk (new_any A1 c1 b w1 (Kd.C_below HR1.out HB1.out) (by have q1 := HG1.out.1; have q2 := HG2.out.1; have q3 := HG3.out.1; (try unfold maxLen); omega) HG2.out.2))
    | (go_at_call 31; (with_reducible refine (HN2.out).mono ?_); rintro e w2 ⟨rfl, hs2, hb2⟩; have HX2 := Aside0.mk (HS1.out.kept (grown_of_below hb2 none) (by simp)); have HY2 := Aside0.mk hs2; have HB2 := Aside0.mk (below_step HB1.out hb2); clear hs2 hb2 HN2; have HO := Aside0.mk (delete_any w.heap.size a.length a A2 c2 wi w2 HX2.out (Kd.C_below HR2.out HB2.out) (by have q1 := HG1.out.1; have q2 := HG2.out.1; have q3 := HG3.out.1; (try unfold maxLen); omega) HG3.out.2))
    | (go_at_call 38; (with_reducible refine (HO.out).mono ?_); rintro e w3 ⟨rfl, hz, h3⟩; have HZ3 := Aside0.mk (IsSetV.mk hz (by have q1 := HG1.out.1; have q2 := HG2.out.1; have q3 := HG3.out.1; (try unfold maxLen); omega)); have HX3 := Aside0.mk HZ3.out; have HY3 := Aside0.mk (IsSetV.mk (HY2.out.kept h3 (fun e => by have := Option.some.inj e; have := HS1.out.lt; omega)) (by have q1 := HG1.out.1; have q2 := HG2.out.1; have q3 := HG3.out.1; (try unfold maxLen); omega)); have HB3 := Aside0.mk (HB2.out.grown h3 HB2.out.size (fun j hj => by cases hj; exact Nat.le_refl _)); clear hz h3; clear HO; have HL1 := Aside0.mk (listV _ _ w3 HZ3.out))
    | (go_at_call 47; (with_reducible refine (HL1.out).mono ?_); rintro e w4 ⟨v0, rfl, ho, hb⟩; have HO0 := Aside0.mk ho; have HB4 := Aside0.mk hb; clear ho hb HL1; have HL2 := Aside0.mk (listV _ _ w4 (HX3.out.below HB4.out)))
    | (go_at_call 47; (with_reducible refine (HL2.out).mono ?_); rintro e w5 ⟨v1, rfl, ho, hb⟩; have HO1 := Aside0.mk ho; have HB5 := Aside0.mk hb; clear ho hb HL2; have HL3 := Aside0.mk (listV _ _ w5 ((HY3.out.below HB4.out).below HB5.out)))
    | (go_at_call 47; (with_reducible refine (HL3.out).mono ?_); rintro e w6 ⟨v2, rfl, ho, hb⟩; have HO2 := Aside0.mk ho; have HB6 := Aside0.mk hb; clear ho hb HL3))
  (try simp only [Exit.inBlock, Exit.then]); refine bodyPost_ret (results_tmp4 rfl _ _ _) rfl ?_
  exact ⟨v0, v1, v2, rfl, told_three HB3.out HO0.out HB4.out HO1.out HB5.out HO2.out HB6.out⟩

set_option maxRecDepth 100000 in
set_option maxHeartbeats 4000000 in
theorem op_7 (A0 : Option Addr) (c0 : Nat) (a : List Int) (A1 : Option Addr) (c1 : Nat) (b : List Int) (A2 : Option Addr) (c2 : Nat) (wi : List Int) (w : World) (hr0 : Kd.C (Kd.int .i64) w A0 a.length a) (hr1 : Kd.C (Kd.int .i64) w A1 b.length b) (hr2 : Kd.C (Kd.int .i64) w A2 wi.length wi) (h1 : Small a) (h2 : Small b) (h3 : Small wi) :
    Calls Try.prog 21 #[.int .i64 7, .slice A0 a.length c0, .slice A1 b.length c1, .slice A2 wi.length c2] w fun e w' => ∃ v0 v1 v2 : Value, e = .returned (.tuple #[v0, v1, v2, .bool (wi.all fun x => decide (x ∈ a))]) ∧ Told w w' v0 v1 v2 (ks []) (ks a) (ks b) := by
  have HR1 := Aside0.mk hr1
  have HR2 := Aside0.mk hr2
  have HR0 := Aside0.mk hr0
  have HG1 := Aside0.mk h1
  have HG2 := Aside0.mk h2
  have HG3 := Aside0.mk h3
  have HN1 := Aside0.mk (new_any A0 c0 a w hr0 (by have q1 := HG1.out.1; have q2 := HG2.out.1; have q3 := HG3.out.1; (try unfold maxLen); omega) h1.2)
  clear hr0 hr1 hr2 h1 h2 h3
  go_enter Try.func21, Try.ntmps21
  go_wp2_with (first
    | (go_at_call 31; (with_reducible refine (HN1.out).mono ?_); rintro e w1 ⟨rfl, hs1, hb1⟩; have HS1 := Aside0.mk hs1; have HB1 := Aside0.mk hb1; clear hs1 hb1 HN1; have HN2 := Aside0.mk (new_any A1 c1 b w1 (Kd.C_below HR1.out HB1.out) (by have q1 := HG1.out.1; have q2 := HG2.out.1; have q3 := HG3.out.1; (try unfold maxLen); omega) HG2.out.2))
    | (go_at_call 31; (with_reducible refine (HN2.out).mono ?_); rintro e w2 ⟨rfl, hs2, hb2⟩; have HX2 := Aside0.mk (HS1.out.kept (grown_of_below hb2 none) (by simp)); have HY2 := Aside0.mk hs2; have HB2 := Aside0.mk (below_step HB1.out hb2); clear hs2 hb2 HN2; have HO := Aside0.mk (hasAll_any w.heap.size a.length a A2 c2 wi w2 HX2.out (Kd.C_below HR2.out HB2.out) (by have q1 := HG1.out.1; have q2 := HG2.out.1; have q3 := HG3.out.1; (try unfold maxLen); omega) HG3.out.2))
    | (go_at_call 39; (with_reducible refine (HO.out).mono ?_); rintro e w3 ⟨rfl, h3⟩; have HZ3 := Aside0.mk (IsSetV.nil w3); have HX3 := Aside0.mk (IsSetV.mk (HX2.out.kept h3 (by simp)) (by have q1 := HG1.out.1; have q2 := HG2.out.1; have q3 := HG3.out.1; (try unfold maxLen); omega)); have HY3 := Aside0.mk (IsSetV.mk (HY2.out.kept h3 (by simp)) (by have q1 := HG1.out.1; have q2 := HG2.out.1; have q3 := HG3.out.1; (try unfold maxLen); omega)); have HB3 := Aside0.mk (HB2.out.grown h3 HB2.out.size (fun j hj => by cases hj)); clear h3; clear HO; have HL1 := Aside0.mk (listV _ _ w3 HZ3.out))
    | (go_at_call 47; (with_reducible refine (HL1.out).mono ?_); rintro e w4 ⟨v0, rfl, ho, hb⟩; have HO0 := Aside0.mk ho; have HB4 := Aside0.mk hb; clear ho hb HL1; have HL2 := Aside0.mk (listV _ _ w4 (HX3.out.below HB4.out)))
    | (go_at_call 47; (with_reducible refine (HL2.out).mono ?_); rintro e w5 ⟨v1, rfl, ho, hb⟩; have HO1 := Aside0.mk ho; have HB5 := Aside0.mk hb; clear ho hb HL2; have HL3 := Aside0.mk (listV _ _ w5 ((HY3.out.below HB4.out).below HB5.out)))
    | (go_at_call 47; (with_reducible refine (HL3.out).mono ?_); rintro e w6 ⟨v2, rfl, ho, hb⟩; have HO2 := Aside0.mk ho; have HB6 := Aside0.mk hb; clear ho hb HL3))
  (try simp only [Exit.inBlock, Exit.then]); refine bodyPost_ret (results_tmp4 rfl _ _ _) rfl ?_
  exact ⟨v0, v1, v2, rfl, told_three HB3.out HO0.out HB4.out HO1.out HB5.out HO2.out HB6.out⟩

set_option maxRecDepth 100000 in
set_option maxHeartbeats 4000000 in
theorem op_8 (A0 : Option Addr) (c0 : Nat) (a : List Int) (A1 : Option Addr) (c1 : Nat) (b : List Int) (A2 : Option Addr) (c2 : Nat) (wi : List Int) (w : World) (hr0 : Kd.C (Kd.int .i64) w A0 a.length a) (hr1 : Kd.C (Kd.int .i64) w A1 b.length b) (hr2 : Kd.C (Kd.int .i64) w A2 wi.length wi) (h1 : Small a) (h2 : Small b) (h3 : Small wi) :
    Calls Try.prog 21 #[.int .i64 8, .slice A0 a.length c0, .slice A1 b.length c1, .slice A2 wi.length c2] w fun e w' => ∃ v0 v1 v2 : Value, e = .returned (.tuple #[v0, v1, v2, .bool (wi.any fun x => decide (x ∈ a))]) ∧ Told w w' v0 v1 v2 (ks []) (ks a) (ks b) := by
  have HR1 := Aside0.mk hr1
  have HR2 := Aside0.mk hr2
  have HR0 := Aside0.mk hr0
  have HG1 := Aside0.mk h1
  have HG2 := Aside0.mk h2
  have HG3 := Aside0.mk h3
  have HN1 := Aside0.mk (new_any A0 c0 a w hr0 (by have q1 := HG1.out.1; have q2 := HG2.out.1; have q3 := HG3.out.1; (try unfold maxLen); omega) h1.2)
  clear hr0 hr1 hr2 h1 h2 h3
  go_enter Try.func21, Try.ntmps21
  go_wp2_with (first
    | (go_at_call 31; (with_reducible refine (HN1.out).mono ?_); rintro e w1 ⟨rfl, hs1, hb1⟩; have HS1 := Aside0.mk hs1; have HB1 := Aside0.mk hb1; clear hs1 hb1 HN1; have HN2 := Aside0.mk (new_any A1 c1 b w1 (Kd.C_below HR1.out HB1.out) (by have q1 := HG1.out.1; have q2 := HG2.out.1; have q3 := HG3.out.1; (try unfold maxLen); omega) HG2.out.2))
    | (go_at_call 31; (with_reducible refine (HN2.out).mono ?_); rintro e w2 ⟨rfl, hs2, hb2⟩; have HX2 := Aside0.mk (HS1.out.kept (grown_of_below hb2 none) (by simp)); have HY2 := Aside0.mk hs2; have HB2 := Aside0.mk (below_step HB1.out hb2); clear hs2 hb2 HN2; have HO := Aside0.mk (hasAnyOf_any w.heap.size a.length a A2 c2 wi w2 HX2.out (Kd.C_below HR2.out HB2.out) (by have q1 := HG1.out.1; have q2 := HG2.out.1; have q3 := HG3.out.1; (try unfold maxLen); omega) HG3.out.2))
    | (go_at_call 40; (with_reducible refine (HO.out).mono ?_); rintro e w3 ⟨rfl, h3⟩; have HZ3 := Aside0.mk (IsSetV.nil w3); have HX3 := Aside0.mk (IsSetV.mk (HX2.out.kept h3 (by simp)) (by have q1 := HG1.out.1; have q2 := HG2.out.1; have q3 := HG3.out.1; (try unfold maxLen); omega)); have HY3 := Aside0.mk (IsSetV.mk (HY2.out.kept h3 (by simp)) (by have q1 := HG1.out.1; have q2 := HG2.out.1; have q3 := HG3.out.1; (try unfold maxLen); omega)); have HB3 := Aside0.mk (HB2.out.grown h3 HB2.out.size (fun j hj => by cases hj)); clear h3; clear HO; have HL1 := Aside0.mk (listV _ _ w3 HZ3.out))
    | (go_at_call 47; (with_reducible refine (HL1.out).mono ?_); rintro e w4 ⟨v0, rfl, ho, hb⟩; have HO0 := Aside0.mk ho; have HB4 := Aside0.mk hb; clear ho hb HL1; have HL2 := Aside0.mk (listV _ _ w4 (HX3.out.below HB4.out)))
    | (go_at_call 47; (with_reducible refine (HL2.out).mono ?_); rintro e w5 ⟨v1, rfl, ho, hb⟩; have HO1 := Aside0.mk ho; have HB5 := Aside0.mk hb; clear ho hb HL2; have HL3 := Aside0.mk (listV _ _ w5 ((HY3.out.below HB4.out).below HB5.out)))
    | (go_at_call 47; (with_reducible refine (HL3.out).mono ?_); rintro e w6 ⟨v2, rfl, ho, hb⟩; have HO2 := Aside0.mk ho; have HB6 := Aside0.mk hb; clear ho hb HL3))
  (try simp only [Exit.inBlock, Exit.then]); refine bodyPost_ret (results_tmp4 rfl _ _ _) rfl ?_
  exact ⟨v0, v1, v2, rfl, told_three HB3.out HO0.out HB4.out HO1.out HB5.out HO2.out HB6.out⟩

set_option maxRecDepth 100000 in
set_option maxHeartbeats 4000000 in
theorem op_9 (A0 : Option Addr) (c0 : Nat) (a : List Int) (A1 : Option Addr) (c1 : Nat) (b : List Int) (A2 : Option Addr) (c2 : Nat) (wi : List Int) (w : World) (hr0 : Kd.C (Kd.int .i64) w A0 a.length a) (hr1 : Kd.C (Kd.int .i64) w A1 b.length b) (hr2 : Kd.C (Kd.int .i64) w A2 wi.length wi) (h1 : Small a) (h2 : Small b) (h3 : Small wi) :
    Calls Try.prog 21 #[.int .i64 9, .slice A0 a.length c0, .slice A1 b.length c1, .slice A2 wi.length c2] w fun e w' => ∃ v0 v1 v2 : Value, e = .returned (.tuple #[v0, v1, v2, .bool (b.all fun x => decide (x ∈ a))]) ∧ Told w w' v0 v1 v2 (ks []) (ks a) (ks b) := by
  have HR1 := Aside0.mk hr1
  have HR2 := Aside0.mk hr2
  have HR0 := Aside0.mk hr0
  have HG1 := Aside0.mk h1
  have HG2 := Aside0.mk h2
  have HG3 := Aside0.mk h3
  have HN1 := Aside0.mk (new_any A0 c0 a w hr0 (by have q1 := HG1.out.1; have q2 := HG2.out.1; have q3 := HG3.out.1; (try unfold maxLen); omega) h1.2)
  clear hr0 hr1 hr2 h1 h2 h3
  go_enter Try.func21, Try.ntmps21
  go_wp2_with (first
    | (go_at_call 31; (with_reducible refine (HN1.out).mono ?_); rintro e w1 ⟨rfl, hs1, hb1⟩; have HS1 := Aside0.mk hs1; have HB1 := Aside0.mk hb1; clear hs1 hb1 HN1; have HN2 := Aside0.mk (new_any A1 c1 b w1 (Kd.C_below HR1.out HB1.out) (by have q1 := HG1.out.1; have q2 := HG2.out.1; have q3 := HG3.out.1; (try unfold maxLen); omega) HG2.out.2))
    | (go_at_call 31; (with_reducible refine (HN2.out).mono ?_); rintro e w2 ⟨rfl, hs2, hb2⟩; have HX2 := Aside0.mk (HS1.out.kept (grown_of_below hb2 none) (by simp)); have HY2 := Aside0.mk hs2; have HB2 := Aside0.mk (below_step HB1.out hb2); clear hs2 hb2 HN2; have HO := Aside0.mk (superset_any w.heap.size a.length w1.heap.size b.length a b w2 HX2.out HY2.out))
    | (go_at_call 41; (with_reducible refine (HO.out).mono ?_); rintro e w3 ⟨rfl, h3⟩; have HZ3 := Aside0.mk (IsSetV.nil w3); have HX3 := Aside0.mk (IsSetV.mk (HX2.out.kept h3 (by simp)) (by have q1 := HG1.out.1; have q2 := HG2.out.1; have q3 := HG3.out.1; (try unfold maxLen); omega)); have HY3 := Aside0.mk (IsSetV.mk (HY2.out.kept h3 (by simp)) (by have q1 := HG1.out.1; have q2 := HG2.out.1; have q3 := HG3.out.1; (try unfold maxLen); omega)); have HB3 := Aside0.mk (HB2.out.grown h3 HB2.out.size (fun j hj => by cases hj)); clear h3; clear HO; have HL1 := Aside0.mk (listV _ _ w3 HZ3.out))
    | (go_at_call 47; (with_reducible refine (HL1.out).mono ?_); rintro e w4 ⟨v0, rfl, ho, hb⟩; have HO0 := Aside0.mk ho; have HB4 := Aside0.mk hb; clear ho hb HL1; have HL2 := Aside0.mk (listV _ _ w4 (HX3.out.below HB4.out)))
    | (go_at_call 47; (with_reducible refine (HL2.out).mono ?_); rintro e w5 ⟨v1, rfl, ho, hb⟩; have HO1 := Aside0.mk ho; have HB5 := Aside0.mk hb; clear ho hb HL2; have HL3 := Aside0.mk (listV _ _ w5 ((HY3.out.below HB4.out).below HB5.out)))
    | (go_at_call 47; (with_reducible refine (HL3.out).mono ?_); rintro e w6 ⟨v2, rfl, ho, hb⟩; have HO2 := Aside0.mk ho; have HB6 := Aside0.mk hb; clear ho hb HL3))
  (try simp only [Exit.inBlock, Exit.then]); refine bodyPost_ret (results_tmp4 rfl _ _ _) rfl ?_
  exact ⟨v0, v1, v2, rfl, told_three HB3.out HO0.out HB4.out HO1.out HB5.out HO2.out HB6.out⟩

set_option maxRecDepth 100000 in
set_option maxHeartbeats 4000000 in
theorem op_10 (A0 : Option Addr) (c0 : Nat) (a : List Int) (A1 : Option Addr) (c1 : Nat) (b : List Int) (A2 : Option Addr) (c2 : Nat) (wi : List Int) (w : World) (hr0 : Kd.C (Kd.int .i64) w A0 a.length a) (hr1 : Kd.C (Kd.int .i64) w A1 b.length b) (hr2 : Kd.C (Kd.int .i64) w A2 wi.length wi) (h1 : Small a) (h2 : Small b) (h3 : Small wi) :
    Calls Try.prog 21 #[.int .i64 10, .slice A0 a.length c0, .slice A1 b.length c1, .slice A2 wi.length c2] w fun e w' => ∃ v0 v1 v2 : Value, e = .returned (.tuple #[v0, v1, v2, .bool (decide ((ks a).length = (ks b).length) && b.all fun x => decide (x ∈ a))]) ∧ Told w w' v0 v1 v2 (ks []) (ks a) (ks b) := by
  have HR1 := Aside0.mk hr1
  have HR2 := Aside0.mk hr2
  have HR0 := Aside0.mk hr0
  have HG1 := Aside0.mk h1
  have HG2 := Aside0.mk h2
  have HG3 := Aside0.mk h3
  have HN1 := Aside0.mk (new_any A0 c0 a w hr0 (by have q1 := HG1.out.1; have q2 := HG2.out.1; have q3 := HG3.out.1; (try unfold maxLen); omega) h1.2)
  clear hr0 hr1 hr2 h1 h2 h3
  go_enter Try.func21, Try.ntmps21
  go_wp2_with (first
    | (go_at_call 31; (with_reducible refine (HN1.out).mono ?_); rintro e w1 ⟨rfl, hs1, hb1⟩; have HS1 := Aside0.mk hs1; have HB1 := Aside0.mk hb1; clear hs1 hb1 HN1; have HN2 := Aside0.mk (new_any A1 c1 b w1 (Kd.C_below HR1.out HB1.out) (by have q1 := HG1.out.1; have q2 := HG2.out.1; have q3 := HG3.out.1; (try unfold maxLen); omega) HG2.out.2))
    | (go_at_call 31; (with_reducible refine (HN2.out).mono ?_); rintro e w2 ⟨rfl, hs2, hb2⟩; have HX2 := Aside0.mk (HS1.out.kept (grown_of_below hb2 none) (by simp)); have HY2 := Aside0.mk hs2; have HB2 := Aside0.mk (below_step HB1.out hb2); clear hs2 hb2 HN2; have HO := Aside0.mk (equal_any w.heap.size a.length w1.heap.size b.length a b w2 HX2.out HY2.out))
    | (go_at_call 42; (with_reducible refine (HO.out).mono ?_); rintro e w3 ⟨rfl, h3⟩; have HZ3 := Aside0.mk (IsSetV.nil w3); have HX3 := Aside0.mk (IsSetV.mk (HX2.out.kept h3 (by simp)) (by have q1 := HG1.out.1; have q2 := HG2.out.1; have q3 := HG3.out.1; (try unfold maxLen); omega)); have HY3 := Aside0.mk (IsSetV.mk (HY2.out.kept h3 (by simp)) (by have q1 := HG1.out.1; have q2 := HG2.out.1; have q3 := HG3.out.1; (try unfold maxLen); omega)); have HB3 := Aside0.mk (HB2.out.grown h3 HB2.out.size (fun j hj => by cases hj)); clear h3; clear HO; have HL1 := Aside0.mk (listV _ _ w3 HZ3.out))
    | (go_at_call 47; (with_reducible refine (HL1.out).mono ?_); rintro e w4 ⟨v0, rfl, ho, hb⟩; have HO0 := Aside0.mk ho; have HB4 := Aside0.mk hb; clear ho hb HL1; have HL2 := Aside0.mk (listV _ _ w4 (HX3.out.below HB4.out)))
    | (go_at_call 47; (with_reducible refine (HL2.out).mono ?_); rintro e w5 ⟨v1, rfl, ho, hb⟩; have HO1 := Aside0.mk ho; have HB5 := Aside0.mk hb; clear ho hb HL2; have HL3 := Aside0.mk (listV _ _ w5 ((HY3.out.below HB4.out).below HB5.out)))
    | (go_at_call 47; (with_reducible refine (HL3.out).mono ?_); rintro e w6 ⟨v2, rfl, ho, hb⟩; have HO2 := Aside0.mk ho; have HB6 := Aside0.mk hb; clear ho hb HL3))
  (try simp only [Exit.inBlock, Exit.then]); refine bodyPost_ret (results_tmp4 rfl _ _ _) rfl ?_
  exact ⟨v0, v1, v2, rfl, told_three HB3.out HO0.out HB4.out HO1.out HB5.out HO2.out HB6.out⟩

set_option maxRecDepth 100000 in
set_option maxHeartbeats 4000000 in
theorem op_13 (A0 : Option Addr) (c0 : Nat) (a : List Int) (A1 : Option Addr) (c1 : Nat) (b : List Int) (A2 : Option Addr) (c2 : Nat) (wi : List Int) (w : World) (hr0 : Kd.C (Kd.int .i64) w A0 a.length a) (hr1 : Kd.C (Kd.int .i64) w A1 b.length b) (hr2 : Kd.C (Kd.int .i64) w A2 wi.length wi) (h1 : Small a) (h2 : Small b) (h3 : Small wi) :
    Calls Try.prog 21 #[.int .i64 13, .slice A0 a.length c0, .slice A1 b.length c1, .slice A2 wi.length c2] w fun e w' => ∃ v0 v1 v2 : Value, e = .returned (.tuple #[v0, v1, v2, .bool false]) ∧ Told w w' v0 v1 v2 (ks []) (ks []) (ks b) := by
  have HR1 := Aside0.mk hr1
  have HR2 := Aside0.mk hr2
  have HR0 := Aside0.mk hr0
  have HG1 := Aside0.mk h1
  have HG2 := Aside0.mk h2
  have HG3 := Aside0.mk h3
  have HN1 := Aside0.mk (new_any A0 c0 a w hr0 (by have q1 := HG1.out.1; have q2 := HG2.out.1; have q3 := HG3.out.1; (try unfold maxLen); omega) h1.2)
  clear hr0 hr1 hr2 h1 h2 h3
  go_enter Try.func21, Try.ntmps21
  go_wp2_with (first
    | (go_at_call 31; (with_reducible refine (HN1.out).mono ?_); rintro e w1 ⟨rfl, hs1, hb1⟩; have HS1 := Aside0.mk hs1; have HB1 := Aside0.mk hb1; clear hs1 hb1 HN1; have HN2 := Aside0.mk (new_any A1 c1 b w1 (Kd.C_below HR1.out HB1.out) (by have q1 := HG1.out.1; have q2 := HG2.out.1; have q3 := HG3.out.1; (try unfold maxLen); omega) HG2.out.2))
    | (go_at_call 31; (with_reducible refine (HN2.out).mono ?_); rintro e w2 ⟨rfl, hs2, hb2⟩; have HX2 := Aside0.mk (HS1.out.kept (grown_of_below hb2 none) (by simp)); have HY2 := Aside0.mk hs2; have HB2 := Aside0.mk (below_step HB1.out hb2); clear hs2 hb2 HN2; have HO := Aside0.mk (clear_any w.heap.size a.length a w2 HX2.out))
    | (go_at_call 45; (with_reducible refine (HO.out).mono ?_); rintro e w3 ⟨rfl, hz, h3⟩; have HZ3 := Aside0.mk (IsSetV.mk hz (by have q1 := HG1.out.1; have q2 := HG2.out.1; have q3 := HG3.out.1; (try unfold maxLen); omega)); have HX3 := Aside0.mk HZ3.out; have HY3 := Aside0.mk (IsSetV.mk (HY2.out.kept h3 (fun e => by have := Option.some.inj e; have := HS1.out.lt; omega)) (by have q1 := HG1.out.1; have q2 := HG2.out.1; have q3 := HG3.out.1; (try unfold maxLen); omega)); have HB3 := Aside0.mk (HB2.out.grown h3 HB2.out.size (fun j hj => by cases hj; exact Nat.le_refl _)); clear hz h3; clear HO; have HL1 := Aside0.mk (listV _ _ w3 HZ3.out))
    | (go_at_call 47; (with_reducible refine (HL1.out).mono ?_); rintro e w4 ⟨v0, rfl, ho, hb⟩; have HO0 := Aside0.mk ho; have HB4 := Aside0.mk hb; clear ho hb HL1; have HL2 := Aside0.mk (listV _ _ w4 (HX3.out.below HB4.out)))
    | (go_at_call 47; (with_reducible refine (HL2.out).mono ?_); rintro e w5 ⟨v1, rfl, ho, hb⟩; have HO1 := Aside0.mk ho; have HB5 := Aside0.mk hb; clear ho hb HL2; have HL3 := Aside0.mk (listV _ _ w5 ((HY3.out.below HB4.out).below HB5.out)))
    | (go_at_call 47; (with_reducible refine (HL3.out).mono ?_); rintro e w6 ⟨v2, rfl, ho, hb⟩; have HO2 := Aside0.mk ho; have HB6 := Aside0.mk hb; clear ho hb HL3))
  (try simp only [Exit.inBlock, Exit.then]); refine bodyPost_ret (results_tmp4 rfl _ _ _) rfl ?_
  exact ⟨v0, v1, v2, rfl, told_three HB3.out HO0.out HB4.out HO1.out HB5.out HO2.out HB6.out⟩
end Go.Proofs.Ytmlhgafinkcfcaa.SetW
