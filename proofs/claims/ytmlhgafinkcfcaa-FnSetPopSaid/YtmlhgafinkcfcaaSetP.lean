/- Sets of whole numbers: two more operations of setOps. Printed by wip/mkops2.py. -/
import Derived.Test.YtmlhgafinkcfcaaSetO
set_option linter.unusedVariables false
set_option linter.unusedSimpArgs false
namespace Go.Proofs.Ytmlhgafinkcfcaa.SetW
open Go Go.RowKit Go.Maps Go.Sort Go.MapKept Go.ChangeMaps Go.Proofs.YtmlhgafinkcfcaaW.PrintWords
theorem run_madeK (w : World) : (Instr.makeMap 57 none).run Try.prog w = .ok (.map (some w.heap.size)) (w.alloc (.map #[] 0)) := by
  simp [Instr.makeMap, run_underlying Try.underlying57, Result.andThen]

set_option maxRecDepth 100000 in
set_option maxHeartbeats 4000000 in
theorem op_12 (A0 : Option Addr) (c0 : Nat) (a : List Int) (A1 : Option Addr) (c1 : Nat) (b : List Int) (A2 : Option Addr) (c2 : Nat) (wi : List Int) (w : World) (hr0 : Kd.C (Kd.int .i64) w A0 a.length a) (hr1 : Kd.C (Kd.int .i64) w A1 b.length b) (hr2 : Kd.C (Kd.int .i64) w A2 wi.length wi) (h1 : Small a) (h2 : Small b) (h3 : Small wi) :
    Calls Try.prog 21 #[.int .i64 12, .slice A0 a.length c0, .slice A1 b.length c1, .slice A2 wi.length c2] w fun e w' => ∃ v0 v1 v2 : Value, e = .returned (.tuple #[v0, v1, v2, .bool false]) ∧ Told w w' v0 v1 v2 (ks a) (ks a) (ks b) := by
  have HR1 := Aside0.mk hr1
  have HR2 := Aside0.mk hr2
  have HR0 := Aside0.mk hr0
  have HG1 := Aside0.mk h1
  have HG2 := Aside0.mk h2
  have HG3 := Aside0.mk h3
  have HN1 := Aside0.mk (new_any A0 c0 a w hr0 (by have q1 := HG1.out.1; have q2 := HG2.out.1; have q3 := HG3.out.1; (try unfold maxLen); omega) h1.2)
  clear hr0 hr1 hr2 h1 h2 h3
  have hmm := run_madeK
  have hm : a.length ≤ 9223372036854775807 := by have := HG1.out.1; omega
  go_enter Try.func21, Try.ntmps21
  go_wp2_with (first
    | (go_at_call 31; (with_reducible refine (HN1.out).mono ?_); rintro e w1 ⟨rfl, hs1, hb1⟩; have HS1 := Aside0.mk hs1; have HB1 := Aside0.mk hb1; clear hs1 hb1 HN1; have HN2 := Aside0.mk (new_any A1 c1 b w1 (Kd.C_below HR1.out HB1.out) (by have q1 := HG1.out.1; have q2 := HG2.out.1; have q3 := HG3.out.1; (try unfold maxLen); omega) HG2.out.2))
    | (go_at_call 31; (with_reducible refine (HN2.out).mono ?_); rintro e w2 ⟨rfl, hs2, hb2⟩; have HX2 := Aside0.mk (HS1.out.kept (grown_of_below hb2 none) (by simp)); have HY2 := Aside0.mk hs2; have HB2 := Aside0.mk (below_step HB1.out hb2); clear hs2 hb2 HN2))
  clear hmm
  go_loopw [17, 93] (fun _ v wr => ∃ k : Nat, k ≤ a.length ∧ v = .int .i64 k ∧ Aside0 (IsKeys wr w2.heap.size k (a.take k)) ∧ Aside0 ((w2.alloc (.map #[] 0)).grownBy wr (some w2.heap.size))) (fun _ i _ => a.length - (intOf i).toNat)
  case atStart => exact ⟨0, Nat.zero_le _, rfl, ⟨⟨.map [], World.ownsMap_made _ _ _ _, fun x => by simp [Maps.has]⟩⟩, ⟨World.grownBy.refl _ _⟩⟩
  case round =>
    obtain ⟨k, hk, rfl, HS, HG⟩ := hrel
    by_cases hlt : k < a.length
    · have p : (0 ≤ (k : Int)) = True := eq_true (by omega)
      have q : ((k : Int) < (a.length : Int)) = True := eq_true (by omega)
      obtain ⟨ad, rfl, hx⟩ := Kd.at_int HR0.out (k : Int) (by omega) (by omega)
      have hbk := World.block_lt_of_cell? w _ hx
      have hx2 := (HG.out).cell ((((HB2.out.alloc HB2.out.size (.map #[] 0)).cell hbk).trans hx)) (fun e => by have := Option.some.inj e; have := HB2.out.size; omega)
      clear hx
      simp only [Int.toNat_natCast] at hx2
      have hwk : (Lit.int .i64 (rd a (k : Int))).wf = true := HG1.out.2 _ (by rw [rd_at hlt]; exact List.getElem_mem hlt)
      obtain ⟨D, hown, hD⟩ := HS.out
      have HD := Aside0.mk hD
      have HI := Aside0.mk hown.isMap
      clear hD
      go_wp2_with (first | (at_mapUpdate; refine wpList_mapUpdate_own _ rfl _ _ _ 57 rfl 3 4 law3 Try.underlying57 (plainElem (H := Unit) Try.prog 4) w2.heap.size k D rfl hown ?m1 _ _ _ rfl rfl (keyOf_int_mk Try.underlying3 hwk) _ [] (plainElem_bool Try.underlying4 true) ?_; (case m1 => have := HG1.out.1; unfold maxLen; omega); intro w3 hown1 hgrow1; go_frame))
      have HO1 := Aside0.mk hown1
      have HG3 := Aside0.mk hgrow1
      clear hown1 hgrow1 hown
      go_wp2
      go_roundw
      case rel =>
        refine ⟨k + 1, by omega, by go_num, ⟨⟨_, HO1.out, fun x => ?_⟩⟩, ⟨HG.out.trans HG3.out⟩⟩
        rw [has_ins HI.out, HD.out x, take_more hlt, Bool.eq_iff_iff]
        simp only [Bool.or_eq_true, decide_eq_true_eq, List.mem_append, List.mem_singleton]
      case measure => simp [intOf]; omega
    · have he : k = a.length := by omega
      have HK := Aside0.mk (by have := HS.out; rw [he, List.take_length] at this; exact this : IsKeys wr w2.heap.size a.length a)
      have HXr := Aside0.mk ((HX2.out.alloc (.map #[] 0)).kept HG.out (fun e => by have := Option.some.inj e; have := HX2.out.lt; omega))
      have HYr := Aside0.mk ((HY2.out.alloc (.map #[] 0)).kept HG.out (fun e => by have := Option.some.inj e; have := HY2.out.lt; omega))
      have HBr := Aside0.mk ((HB2.out.alloc HB2.out.size (.map #[] 0)).grown HG.out (by have := HB2.out.size; simp; omega) (fun j hj => by cases hj; exact HB2.out.size))
      have HO := Aside0.mk (keyset_any w2.heap.size a.length a wr HK.out (by have q1 := HG1.out.1; have q2 := HG2.out.1; have q3 := HG3.out.1; (try unfold maxLen); omega))
      have q : ((k : Int) < (a.length : Int)) = False := eq_false (by omega)
      clear HX2 HY2 HB2
      go_wp2_with (first
        | (go_at_call 44; (with_reducible refine (HO.out).mono ?_); rintro e w3 ⟨rfl, hz, h3⟩; have HZ3 := Aside0.mk (IsSetV.mk hz (by have q1 := HG1.out.1; have q2 := HG2.out.1; have q3 := HG3.out.1; (try unfold maxLen); omega)); have HX3 := Aside0.mk (IsSetV.mk (HXr.out.kept (grown_of_below h3 none) (by simp)) (by have q1 := HG1.out.1; have q2 := HG2.out.1; have q3 := HG3.out.1; (try unfold maxLen); omega)); have HY3 := Aside0.mk (IsSetV.mk (HYr.out.kept (grown_of_below h3 none) (by simp)) (by have q1 := HG1.out.1; have q2 := HG2.out.1; have q3 := HG3.out.1; (try unfold maxLen); omega)); have HB3 := Aside0.mk (below_step HBr.out h3); clear hz h3; clear HO; have HL1 := Aside0.mk (listV _ _ w3 HZ3.out))
        | (go_at_call 47; (with_reducible refine (HL1.out).mono ?_); rintro e w4 ⟨v0, rfl, ho, hb⟩; have HO0 := Aside0.mk ho; have HB4 := Aside0.mk hb; clear ho hb HL1; have HL2 := Aside0.mk (listV _ _ w4 (HX3.out.below HB4.out)))
        | (go_at_call 47; (with_reducible refine (HL2.out).mono ?_); rintro e w5 ⟨v1, rfl, ho, hb⟩; have HO1 := Aside0.mk ho; have HB5 := Aside0.mk hb; clear ho hb HL2; have HL3 := Aside0.mk (listV _ _ w5 ((HY3.out.below HB4.out).below HB5.out)))
        | (go_at_call 47; (with_reducible refine (HL3.out).mono ?_); rintro e w6 ⟨v2, rfl, ho, hb⟩; have HO2 := Aside0.mk ho; have HB6 := Aside0.mk hb; clear ho hb HL3))
      (try simp only [Exit.inBlock, Exit.then]); refine bodyPost_ret (results_tmp4 rfl _ _ _) rfl ?_
      exact ⟨v0, v1, v2, rfl, told_three HB3.out HO0.out HB4.out HO1.out HB5.out HO2.out HB6.out⟩

set_option maxRecDepth 100000 in
set_option maxHeartbeats 4000000 in
theorem op_11 (A0 : Option Addr) (c0 : Nat) (a : List Int) (A1 : Option Addr) (c1 : Nat) (b : List Int) (A2 : Option Addr) (c2 : Nat) (wi : List Int) (w : World) (hr0 : Kd.C (Kd.int .i64) w A0 a.length a) (hr1 : Kd.C (Kd.int .i64) w A1 b.length b) (hr2 : Kd.C (Kd.int .i64) w A2 wi.length wi) (h1 : Small a) (h2 : Small b) (h3 : Small wi) (hn : 0 < wi.length) :
    Calls Try.prog 21 #[.int .i64 11, .slice A0 a.length c0, .slice A1 b.length c1, .slice A2 wi.length c2] w fun e w' => ∃ v0 v1 v2 : Value, e = .returned (.tuple #[v0, v1, v2, .bool (decide (rd wi 0 ∈ a))]) ∧ Told w w' v0 v1 v2 (ks []) (ks a) (ks b) := by
  have HR1 := Aside0.mk hr1
  have HR2 := Aside0.mk hr2
  have HR0 := Aside0.mk hr0
  have HG1 := Aside0.mk h1
  have HG2 := Aside0.mk h2
  have HG3 := Aside0.mk h3
  have HN1 := Aside0.mk (new_any A0 c0 a w hr0 (by have q1 := HG1.out.1; have q2 := HG2.out.1; have q3 := HG3.out.1; (try unfold maxLen); omega) h1.2)
  clear hr0 hr1 hr2 h1 h2 h3
  have q : (0 < (wi.length : Int)) = True := eq_true (by omega)
  obtain ⟨ad, rfl, hx⟩ := Kd.at_int HR2.out 0 (by omega) (by omega)
  have HX := Aside0.mk hx
  have e0 : ad.add 0 = ad := by cases ad; rfl
  have E0 := Aside0.mk e0
  clear e0
  have hwk : (Lit.int .i64 (rd wi 0)).wf = true := HG3.out.2 _ (by have := rd_at hn; rw [show ((0 : Nat) : Int) = 0 from rfl] at this; rw [this]; exact List.getElem_mem hn)
  clear hx
  go_enter Try.func21, Try.ntmps21
  go_wp2_with (first
    | (go_at_call 31; (with_reducible refine (HN1.out).mono ?_); rintro e w1 ⟨rfl, hs1, hb1⟩; have HS1 := Aside0.mk hs1; have HB1 := Aside0.mk hb1; clear hs1 hb1 HN1; have HN2 := Aside0.mk (new_any A1 c1 b w1 (Kd.C_below HR1.out HB1.out) (by have q1 := HG1.out.1; have q2 := HG2.out.1; have q3 := HG3.out.1; (try unfold maxLen); omega) HG2.out.2))
    | (go_at_call 31; (with_reducible refine (HN2.out).mono ?_); rintro e w2 ⟨rfl, hs2, hb2⟩; have HX2 := Aside0.mk (HS1.out.kept (grown_of_below hb2 none) (by simp)); have HY2 := Aside0.mk hs2; have HB2 := Aside0.mk (below_step HB1.out hb2); clear hs2 hb2 HN2; have hx2 := (HB2.out.cell (World.block_lt_of_cell? w _ HX.out)).trans HX.out; simp only [Int.toNat_zero] at hx2; have hx3 := hx2; rw [E0.out] at hx3; have HO := Aside0.mk (has_any w.heap.size a.length a (rd wi 0) w2 HX2.out hwk))
    | (go_at_call 43; (with_reducible refine (HO.out).mono ?_); rintro e w3 ⟨rfl, h3⟩; clear hx2 hx3; have HZ3 := Aside0.mk (IsSetV.nil w3); have HX3 := Aside0.mk (IsSetV.mk (HX2.out.kept h3 (by simp)) (by have q1 := HG1.out.1; have q2 := HG2.out.1; have q3 := HG3.out.1; (try unfold maxLen); omega)); have HY3 := Aside0.mk (IsSetV.mk (HY2.out.kept h3 (by simp)) (by have q1 := HG1.out.1; have q2 := HG2.out.1; have q3 := HG3.out.1; (try unfold maxLen); omega)); have HB3 := Aside0.mk (HB2.out.grown h3 HB2.out.size (fun j hj => by cases hj)); clear h3; clear HO; have HL1 := Aside0.mk (listV _ _ w3 HZ3.out))
    | (go_at_call 47; (with_reducible refine (HL1.out).mono ?_); rintro e w4 ⟨v0, rfl, ho, hb⟩; have HO0 := Aside0.mk ho; have HB4 := Aside0.mk hb; clear ho hb HL1; have HL2 := Aside0.mk (listV _ _ w4 (HX3.out.below HB4.out)))
    | (go_at_call 47; (with_reducible refine (HL2.out).mono ?_); rintro e w5 ⟨v1, rfl, ho, hb⟩; have HO1 := Aside0.mk ho; have HB5 := Aside0.mk hb; clear ho hb HL2; have HL3 := Aside0.mk (listV _ _ w5 ((HY3.out.below HB4.out).below HB5.out)))
    | (go_at_call 47; (with_reducible refine (HL3.out).mono ?_); rintro e w6 ⟨v2, rfl, ho, hb⟩; have HO2 := Aside0.mk ho; have HB6 := Aside0.mk hb; clear ho hb HL3))
  (try simp only [Exit.inBlock, Exit.then]); refine bodyPost_ret (results_tmp4 rfl _ _ _) rfl ?_
  exact ⟨v0, v1, v2, rfl, told_three HB3.out HO0.out HB4.out HO1.out HB5.out HO2.out HB6.out⟩
end Go.Proofs.Ytmlhgafinkcfcaa.SetW
