/- Sets of whole numbers: one is taken, whichever. Printed by wip/mkops4.py. -/
import Derived.Test.YtmlhgafinkcfcaaSetO
set_option linter.unusedVariables false
set_option linter.unusedSimpArgs false
namespace Go.Proofs.Ytmlhgafinkcfcaa.SetW
open Go Go.RowKit Go.Maps Go.Sort Go.MapKept Go.ChangeMaps Go.Proofs.YtmlhgafinkcfcaaW.PrintWords

set_option maxRecDepth 100000 in
set_option maxHeartbeats 2000000 in
theorem pop_none (b n : Nat) (L : List Int) (w : World) (hs : IsSet w b n L) (hL : L = []) :
    Calls Try.prog 46 #[.map (some b)] w fun e w' => e = .returned (.tuple #[.int .i64 0, .bool false]) ∧ w.grownBy w' none := by
  subst hL
  obtain ⟨D, hown, hD⟩ := hs
  have HD := Aside0.mk hD
  clear hD
  go_enter Try.func46, Try.ntmps46
  go_wp2_with (first | (at_range; refine wpList_range_own _ rfl _ 50 rfl 3 78 law3 Try.underlying50 _ b n D rfl hown ?_; intro w0 hrg0 hg0 hs0))
  try go_frame
  refine wp_loop_rounds 1 ?_
  rw [rounds_succ]
  go_wp2_with (first | (at_next; refine wpList_next_ranges _ rfl _ rfl 3 law3 (unitElem (H := Unit)) (Value.int .i64) (fun _ : Unit => Value.agg #[]) invK invU b w.heap.size n _ _ _ rfl hrg0 ?_ ?_))
  · intro hc0 hl0
    go_wp2
    go_ret2
    exact ⟨rfl, hg0⟩
  · intro x kl yd yp w2 cnt2 hkey hlk hv hat hrg2 hlt hg2 hs2 hen
    obtain ⟨x', ex, rfl, hwx⟩ := Maps.keyOf_int_inv Try.underlying3 hkey
    injection ex with _ ex
    subst ex
    have hin := come_has HD.out hat
    cases hin
theorem pop_some (b n : Nat) (L : List Int) (w : World) (hs : IsSet w b n L) (hn : n < maxLen) (hL : L ≠ []) :
    Calls Try.prog 46 #[.map (some b)] w fun e w' => ∃ x, x ∈ L ∧ (Lit.int .i64 x).wf = true ∧ e = .returned (.tuple #[.int .i64 x, .bool true]) ∧ IsSet w' b n (L.filter fun y => !decide (y = x)) ∧ w.grownBy w' (some b) :=
  (pop_any b n L w hs hn).mono fun e w' h => h.elim (fun h => absurd h.1 hL) id
theorem new_one (x : Int) (w : World) (hw : (Lit.int .i64 x).wf = true) :
    Calls Try.prog 31 #[.slice (some ⟨w.heap.size, 0, none⟩) 1 1] (w.alloc (.cells #[.int .i64 x] 3)) fun e w' => e = .returned (.map (some (w.heap.size + 1))) ∧ IsSet w' (w.heap.size + 1) 1 [x] ∧ Below (w.alloc (.cells #[.int .i64 x] 3)).heap.size (w.alloc (.cells #[.int .i64 x] 3)) w' :=
  by simpa using new_any (some ⟨w.heap.size, 0, none⟩) 1 [x] (w.alloc (.cells #[.int .i64 x] 3)) (one_C w 3 x) (show 1 < maxLen by decide) (by intro y hy; rw [List.mem_singleton.1 hy]; exact hw)

set_option maxRecDepth 100000 in
set_option maxHeartbeats 4000000 in
theorem op_14n (A0 : Option Addr) (c0 : Nat) (a : List Int) (A1 : Option Addr) (c1 : Nat) (b : List Int) (A2 : Option Addr) (c2 : Nat) (wi : List Int) (w : World) (hr0 : Kd.C (Kd.int .i64) w A0 a.length a) (hr1 : Kd.C (Kd.int .i64) w A1 b.length b) (hr2 : Kd.C (Kd.int .i64) w A2 wi.length wi) (h1 : Small a) (h2 : Small b) (h3 : Small wi) (hL : a = []) :
    Calls Try.prog 21 #[.int .i64 14, .slice A0 a.length c0, .slice A1 b.length c1, .slice A2 wi.length c2] w fun e w' => ∃ v0 v1 v2 : Value, e = .returned (.tuple #[v0, v1, v2, .bool false]) ∧ Told w w' v0 v1 v2 (ks []) (ks a) (ks b) := by
  have HR1 := Aside0.mk hr1
  have HR2 := Aside0.mk hr2
  have HR0 := Aside0.mk hr0
  have HG1 := Aside0.mk h1
  have HG2 := Aside0.mk h2
  have HG3 := Aside0.mk h3
  have HN1 := Aside0.mk (new_any A0 c0 a w hr0 (by have q1 := HG1.out.1; have q2 := HG2.out.1; have q3 := HG3.out.1; (try unfold maxLen); omega) h1.2)
  clear hr0 hr1 hr2 h1 h2 h3
  have HLe := Aside0.mk hL
  clear hL
  go_enter Try.func21, Try.ntmps21
  go_wp2_with (first
    | (go_at_call 31; (with_reducible refine (HN1.out).mono ?_); rintro e w1 ⟨rfl, hs1, hb1⟩; have HS1 := Aside0.mk hs1; have HB1 := Aside0.mk hb1; clear hs1 hb1 HN1; have HN2 := Aside0.mk (new_any A1 c1 b w1 (Kd.C_below HR1.out HB1.out) (by have q1 := HG1.out.1; have q2 := HG2.out.1; have q3 := HG3.out.1; (try unfold maxLen); omega) HG2.out.2))
    | (go_at_call 31; (with_reducible refine (HN2.out).mono ?_); rintro e w2 ⟨rfl, hs2, hb2⟩; have HX2 := Aside0.mk (HS1.out.kept (grown_of_below hb2 none) (by simp)); have HY2 := Aside0.mk hs2; have HB2 := Aside0.mk (below_step HB1.out hb2); clear hs2 hb2 HN2; have HO := Aside0.mk (pop_none w.heap.size a.length a w2 HX2.out HLe.out))
    | (go_at_call 46; (with_reducible refine (HO.out).mono ?_); rintro e w3 ⟨rfl, h3⟩; have HZ3 := Aside0.mk (IsSetV.nil w3); have HX3 := Aside0.mk (IsSetV.mk (HX2.out.kept h3 (by simp)) (by have q1 := HG1.out.1; have q2 := HG2.out.1; have q3 := HG3.out.1; (try unfold maxLen); omega)); have HY3 := Aside0.mk (IsSetV.mk (HY2.out.kept h3 (by simp)) (by have q1 := HG1.out.1; have q2 := HG2.out.1; have q3 := HG3.out.1; (try unfold maxLen); omega)); have HB3 := Aside0.mk (HB2.out.grown h3 HB2.out.size (fun j hj => by cases hj)); clear h3 HO; have HL1 := Aside0.mk (listV _ _ w3 HZ3.out))
    | (go_at_call 47; (with_reducible refine (HL1.out).mono ?_); rintro e w4 ⟨v0, rfl, ho, hb⟩; have HO0 := Aside0.mk ho; have HB4 := Aside0.mk hb; clear ho hb HL1; have HL2 := Aside0.mk (listV _ _ w4 (HX3.out.below HB4.out)))
    | (go_at_call 47; (with_reducible refine (HL2.out).mono ?_); rintro e w5 ⟨v1, rfl, ho, hb⟩; have HO1 := Aside0.mk ho; have HB5 := Aside0.mk hb; clear ho hb HL2; have HL3 := Aside0.mk (listV _ _ w5 ((HY3.out.below HB4.out).below HB5.out)))
    | (go_at_call 47; (with_reducible refine (HL3.out).mono ?_); rintro e w6 ⟨v2, rfl, ho, hb⟩; have HO2 := Aside0.mk ho; have HB6 := Aside0.mk hb; clear ho hb HL3))
  (try simp only [Exit.inBlock, Exit.then]); refine bodyPost_ret (results_tmp4 rfl _ _ _) rfl ?_
  exact ⟨v0, v1, v2, rfl, told_three HB3.out HO0.out HB4.out HO1.out HB5.out HO2.out HB6.out⟩

set_option maxRecDepth 100000 in
set_option maxHeartbeats 4000000 in
theorem op_14 (A0 : Option Addr) (c0 : Nat) (a : List Int) (A1 : Option Addr) (c1 : Nat) (b : List Int) (A2 : Option Addr) (c2 : Nat) (wi : List Int) (w : World) (hr0 : Kd.C (Kd.int .i64) w A0 a.length a) (hr1 : Kd.C (Kd.int .i64) w A1 b.length b) (hr2 : Kd.C (Kd.int .i64) w A2 wi.length wi) (h1 : Small a) (h2 : Small b) (h3 : Small wi) (hL : a ≠ []) :
    Calls Try.prog 21 #[.int .i64 14, .slice A0 a.length c0, .slice A1 b.length c1, .slice A2 wi.length c2] w fun e w' => ∃ x, x ∈ a ∧ ∃ v0 v1 v2 : Value, e = .returned (.tuple #[v0, v1, v2, .bool true]) ∧ Told w w' v0 v1 v2 (ks [x]) (ks (a.filter fun y => !decide (y = x))) (ks b) := by
  have HR1 := Aside0.mk hr1
  have HR2 := Aside0.mk hr2
  have HR0 := Aside0.mk hr0
  have HG1 := Aside0.mk h1
  have HG2 := Aside0.mk h2
  have HG3 := Aside0.mk h3
  have HN1 := Aside0.mk (new_any A0 c0 a w hr0 (by have q1 := HG1.out.1; have q2 := HG2.out.1; have q3 := HG3.out.1; (try unfold maxLen); omega) h1.2)
  clear hr0 hr1 hr2 h1 h2 h3
  have HLe := Aside0.mk hL
  clear hL
  go_enter Try.func21, Try.ntmps21
  go_wp2_with (first
    | (go_at_call 31; (with_reducible refine (HN1.out).mono ?_); rintro e w1 ⟨rfl, hs1, hb1⟩; have HS1 := Aside0.mk hs1; have HB1 := Aside0.mk hb1; clear hs1 hb1 HN1; have HN2 := Aside0.mk (new_any A1 c1 b w1 (Kd.C_below HR1.out HB1.out) (by have q1 := HG1.out.1; have q2 := HG2.out.1; have q3 := HG3.out.1; (try unfold maxLen); omega) HG2.out.2))
    | (go_at_call 31; (with_reducible refine (HN2.out).mono ?_); rintro e w2 ⟨rfl, hs2, hb2⟩; have HX2 := Aside0.mk (HS1.out.kept (grown_of_below hb2 none) (by simp)); have HY2 := Aside0.mk hs2; have HB2 := Aside0.mk (below_step HB1.out hb2); clear hs2 hb2 HN2; have HO := Aside0.mk (pop_some w.heap.size a.length a w2 HX2.out (by have q1 := HG1.out.1; have q2 := HG2.out.1; have q3 := HG3.out.1; (try unfold maxLen); omega) HLe.out))
    | (go_at_call 46; (with_reducible refine (HO.out).mono ?_); rintro e wp ⟨x, hin, hwx, rfl, hsp, hgp⟩; have HI := Aside0.mk hin; have HXp := Aside0.mk hsp; have HYp := Aside0.mk (HY2.out.kept hgp (fun e => by have := Option.some.inj e; have := HS1.out.lt; omega)); have HBp := Aside0.mk (HB2.out.grown hgp HB2.out.size (fun j hj => by cases hj; exact Nat.le_refl _)); have HN3 := Aside0.mk (new_one x wp hwx); clear hin hsp hgp hwx HO)
    | (go_at_call 31; (with_reducible refine (HN3.out).mono ?_); rintro e w3 ⟨rfl, hz, h3⟩; have HZ3 := Aside0.mk (IsSetV.mk hz (by simp)); have HX3 := Aside0.mk (IsSetV.mk ((HXp.out.alloc _).kept (grown_of_below h3 none) (by simp)) (by have q1 := HG1.out.1; have q2 := HG2.out.1; have q3 := HG3.out.1; (try unfold maxLen); omega)); have HY3 := Aside0.mk (IsSetV.mk ((HYp.out.alloc _).kept (grown_of_below h3 none) (by simp)) (by have q1 := HG1.out.1; have q2 := HG2.out.1; have q3 := HG3.out.1; (try unfold maxLen); omega)); have HB3 := Aside0.mk (below_step (HBp.out.alloc HBp.out.size _) h3); clear hz h3 HN3; have HL1 := Aside0.mk (listV _ _ w3 HZ3.out))
    | (go_at_call 47; (with_reducible refine (HL1.out).mono ?_); rintro e w4 ⟨v0, rfl, ho, hb⟩; have HO0 := Aside0.mk ho; have HB4 := Aside0.mk hb; clear ho hb HL1; have HL2 := Aside0.mk (listV _ _ w4 (HX3.out.below HB4.out)))
    | (go_at_call 47; (with_reducible refine (HL2.out).mono ?_); rintro e w5 ⟨v1, rfl, ho, hb⟩; have HO1 := Aside0.mk ho; have HB5 := Aside0.mk hb; clear ho hb HL2; have HL3 := Aside0.mk (listV _ _ w5 ((HY3.out.below HB4.out).below HB5.out)))
    | (go_at_call 47; (with_reducible refine (HL3.out).mono ?_); rintro e w6 ⟨v2, rfl, ho, hb⟩; have HO2 := Aside0.mk ho; have HB6 := Aside0.mk hb; clear ho hb HL3))
  (try simp only [Exit.inBlock, Exit.then]); refine bodyPost_ret (results_tmp4 rfl _ _ _) rfl ?_
  exact ⟨x, HI.out, v0, v1, v2, rfl, told_three HB3.out HO0.out HB4.out HO1.out HB5.out HO2.out HB6.out⟩
end Go.Proofs.Ytmlhgafinkcfcaa.SetW
