/- Functions of the program as plain Lean functions, and that the machine's calls do what these say: written for this claim by wip/myprint.py over the kit's print.py. -/
import Derived.Test.YtlhbmifffmegeaaDoorPFnNeedEqualx0
import Derived.Test.YtlhbmifffmegeaaDoorPFnNeedEqualx1
import Derived.Test.YtlhbmifffmegeaaDoorPFnNeedEqualx4
import Derived.Test.YtlhbmifffmegeaaDoorPFnNeedEqualx5
import Derived.Test.YtlhbmifffmegeaaDoorPFnNeedEqualx6
namespace Go.Proofs.YtlhbmifffmegeaaDoor.PFnNeedEqual
open Go.RowKit Go.Proofs.YtlhbmifffmegeaaDoorW.PrintWords Go.Proofs.YtlhbmifffmegeaaDoorW.PrintLast Go.Proofs.YtlhbmifffmegeaaDoorW.PrintMore
attribute [local go_sem] max2_int min2_int max_two min_two max_three min_three max_four min_four   -- for this text's walks alone
set_option linter.unusedVariables false
set_option linter.unusedSimpArgs false

/-! ### laws_FnNeedEqual: function 3 -/
mutual
def laws_FnNeedEqual.j0 : Nat → Bool → ByteArray → ByteArray → List ByteArray → ByteArray → ByteArray → List ByteArray → Option (Bool)
  | 0, _, _, _, _, _, _, _ => none
  | k + 1, x16, x202000, x202001, x202002, x203000, x203001, x203002 => if x16 = true then (some true) else ((spec_NeedMay.f k x202000 x202001 x202002).bind fun t205 => (if t205 = true then ((spec_NeedMay.f k x203000 x203001 x203002).bind fun t206 => (laws_FnNeedEqual.j1 k (!t206) x202000 x202001 x202002 x203000 x203001 x203002)) else (laws_FnNeedEqual.j1 k true x202000 x202001 x202002 x203000 x203001 x203002)))
def laws_FnNeedEqual.j1 : Nat → Bool → ByteArray → ByteArray → List ByteArray → ByteArray → ByteArray → List ByteArray → Option (Bool)
  | 0, _, _, _, _, _, _, _ => none
  | k + 1, x24, x202000, x202001, x202002, x203000, x203001, x203002 => if x24 = true then (some true) else ((spec_Keys_string.f k x202002).bind fun t207 => ((spec_Keys_string.f k x203002).bind fun t210 => ((impl_NeedEqual.f k x202000 x202001 t207 x203000 x203001 t210).bind fun bt213 => ((impl_NeedEqual.f k x202000 x202001 t207 x202000 x202001 t207).bind fun bt215 => (if bt213.2 = true then (some false) else (if bt215.2 = true then (some false) else (if bt215.1 = true then ((spec_NeedSame.f k x202000 x202001 t207 x203000 x203001 t210).bind fun t217 => (some (bt213.1 == t217))) else (some false))))))))
end
def laws_FnNeedEqual.f (k : Nat) (a0_0 : ByteArray) (a0_1 : ByteArray) (l0_2 : List ByteArray) (a1_0 : ByteArray) (a1_1 : ByteArray) (l1_2 : List ByteArray) : Option (Bool) := (laws_zzFits10.f k a0_0 a0_1 l0_2).bind fun t203 => (if t203 = true then ((laws_zzFits10.f k a1_0 a1_1 l1_2).bind fun t204 => (laws_FnNeedEqual.j0 k (!t204) a0_0 a0_1 l0_2 a1_0 a1_1 l1_2)) else (laws_FnNeedEqual.j0 k true a0_0 a0_1 l0_2 a1_0 a1_1 l1_2))
theorem laws_FnNeedEqual.mono_l : ∀ k, (∀ y0 y1 y2 y3 y4 y5 y6, LeO (laws_FnNeedEqual.j0 k y0 y1 y2 y3 y4 y5 y6) (laws_FnNeedEqual.j0 (k + 1) y0 y1 y2 y3 y4 y5 y6)) ∧ (∀ y0 y1 y2 y3 y4 y5 y6, LeO (laws_FnNeedEqual.j1 k y0 y1 y2 y3 y4 y5 y6) (laws_FnNeedEqual.j1 (k + 1) y0 y1 y2 y3 y4 y5 y6))
  | 0 => ⟨fun _ _ _ _ _ _ _ r h => by simp [laws_FnNeedEqual.j0] at h, fun _ _ _ _ _ _ _ r h => by simp [laws_FnNeedEqual.j1] at h⟩
  | k + 1 => by
    obtain ⟨ih0, ih1⟩ := laws_FnNeedEqual.mono_l k
    refine ⟨?_, ?_⟩
    · intro y0 y1 y2 y3 y4 y5 y6
      unfold laws_FnNeedEqual.j0
      repeat' first
      | (with_reducible exact ih0 _ _ _ _ _ _ _)
      | (with_reducible exact ih1 _ _ _ _ _ _ _)
      | (with_reducible exact impl_NeedEqual.mono _ _ _ _ _ _ _)
      | (with_reducible exact laws_zzFits10.mono _ _ _ _)
      | (with_reducible exact spec_Keys_string.mono _ _)
      | (with_reducible exact spec_NeedMay.mono _ _ _ _)
      | (with_reducible exact spec_NeedSame.mono _ _ _ _ _ _ _)
      | (with_reducible exact LeO.refl _)
      | (with_reducible exact LeO.none _)
      | (with_reducible refine LeO.ite ?_ ?_)
      | (with_reducible refine LeO.bind ?_ (fun _ => ?_))
      | exact ih0 _ _ _ _ _ _ _
      | exact ih1 _ _ _ _ _ _ _
      | exact impl_NeedEqual.mono _ _ _ _ _ _ _
      | exact laws_zzFits10.mono _ _ _ _
      | exact spec_Keys_string.mono _ _
      | exact spec_NeedMay.mono _ _ _ _
      | exact spec_NeedSame.mono _ _ _ _ _ _ _
      | exact LeO.none _
      | refine LeO.ite ?_ ?_
      | refine LeO.bind ?_ (fun _ => ?_)
    · intro y0 y1 y2 y3 y4 y5 y6
      unfold laws_FnNeedEqual.j1
      repeat' first
      | (with_reducible exact ih0 _ _ _ _ _ _ _)
      | (with_reducible exact ih1 _ _ _ _ _ _ _)
      | (with_reducible exact impl_NeedEqual.mono _ _ _ _ _ _ _)
      | (with_reducible exact laws_zzFits10.mono _ _ _ _)
      | (with_reducible exact spec_Keys_string.mono _ _)
      | (with_reducible exact spec_NeedMay.mono _ _ _ _)
      | (with_reducible exact spec_NeedSame.mono _ _ _ _ _ _ _)
      | (with_reducible exact LeO.refl _)
      | (with_reducible exact LeO.none _)
      | (with_reducible refine LeO.ite ?_ ?_)
      | (with_reducible refine LeO.bind ?_ (fun _ => ?_))
      | exact ih0 _ _ _ _ _ _ _
      | exact ih1 _ _ _ _ _ _ _
      | exact impl_NeedEqual.mono _ _ _ _ _ _ _
      | exact laws_zzFits10.mono _ _ _ _
      | exact spec_Keys_string.mono _ _
      | exact spec_NeedMay.mono _ _ _ _
      | exact spec_NeedSame.mono _ _ _ _ _ _ _
      | exact LeO.none _
      | refine LeO.ite ?_ ?_
      | refine LeO.bind ?_ (fun _ => ?_)
theorem laws_FnNeedEqual.mono : ∀ a0 a1 a2 a3 a4 a5 k, LeO (laws_FnNeedEqual.f k a0 a1 a2 a3 a4 a5) (laws_FnNeedEqual.f (k + 1) a0 a1 a2 a3 a4 a5) := by
  intro a0 a1 a2 a3 a4 a5 k
  obtain ⟨ih0, ih1⟩ := laws_FnNeedEqual.mono_l k
  unfold laws_FnNeedEqual.f
  repeat' first
      | (with_reducible exact ih0 _ _ _ _ _ _ _)
      | (with_reducible exact ih1 _ _ _ _ _ _ _)
      | (with_reducible exact impl_NeedEqual.mono _ _ _ _ _ _ _)
      | (with_reducible exact laws_zzFits10.mono _ _ _ _)
      | (with_reducible exact spec_Keys_string.mono _ _)
      | (with_reducible exact spec_NeedMay.mono _ _ _ _)
      | (with_reducible exact spec_NeedSame.mono _ _ _ _ _ _ _)
      | (with_reducible exact LeO.refl _)
      | (with_reducible exact LeO.none _)
      | (with_reducible refine LeO.ite ?_ ?_)
      | (with_reducible refine LeO.bind ?_ (fun _ => ?_))
      | exact ih0 _ _ _ _ _ _ _
      | exact ih1 _ _ _ _ _ _ _
      | exact impl_NeedEqual.mono _ _ _ _ _ _ _
      | exact laws_zzFits10.mono _ _ _ _
      | exact spec_Keys_string.mono _ _
      | exact spec_NeedMay.mono _ _ _ _
      | exact spec_NeedSame.mono _ _ _ _ _ _ _
      | exact LeO.none _
      | refine LeO.ite ?_ ?_
      | refine LeO.bind ?_ (fun _ => ?_)
def laws_FnNeedEqual.T5 : Bool × List (List Nat × List Nat) := (true, [([], []), ([0], [0]), ([1], [1]), ([], []), ([3], [3]), ([4, 2], [4]), ([0, 1, 2], []), ([6, 2, 5, 0, 1, 2], [2, 6]), ([0, 1, 2, 3, 4, 5, 6, 7], []), ([8, 5, 7, 0, 1, 2, 3, 4, 5, 6, 7], [5, 8])])
def laws_FnNeedEqual.B5 : List Nat := [0, 1, 3, 0, 8, 31, 7, 127, 255, 511]
theorem laws_FnNeedEqual.tab5 : rtab .any (opsOf Tryd.f3 5) = laws_FnNeedEqual.T5 := by kernel_rfl
theorem laws_FnNeedEqual.bits5 : waitsOk laws_FnNeedEqual.T5.2 laws_FnNeedEqual.B5 = true := by kernel_rfl
set_option maxHeartbeats 8000000 in
set_option maxRecDepth 100000 in
theorem laws_FnNeedEqual.calls (k : Nat) (a0_0 : ByteArray) (a0_1 : ByteArray) (A0_2 : Option Addr) (c0_2 : Nat) (l0_2 : List ByteArray) (a1_0 : ByteArray) (a1_1 : ByteArray) (A1_2 : Option Addr) (c1_2 : Nat) (l1_2 : List ByteArray) (r : Bool) (w : World) (hr0_2 : Kd.C Kd.string w A0_2 l0_2.length l0_2) (hc0_2 : l0_2.length ≤ c0_2) (hr1_2 : Kd.C Kd.string w A1_2 l1_2.length l1_2) (hc1_2 : l1_2.length ≤ c1_2) (h : laws_FnNeedEqual.f k a0_0 a0_1 l0_2 a1_0 a1_1 l1_2 = some r) :
    Calls Tryd.prog 3 #[.agg #[.string a0_0, .string a0_1, .slice A0_2 l0_2.length c0_2], .agg #[.string a1_0, .string a1_1, .slice A1_2 l1_2.length c1_2]] w fun e w' => e = .returned (.bool r) ∧ Below w.heap.size w w' := by
  have hu24 := Tryd.underlying24
  have HR0_2 := Aside0.mk hr0_2
  have HC0_2 := Aside0.mk hc0_2
  clear hr0_2 hc0_2
  have HR1_2 := Aside0.mk hr1_2
  have HC1_2 := Aside0.mk hc1_2
  clear hr1_2 hc1_2
  have HB := Aside0.mk (Below.refl w.heap.size w)
  have H : ((laws_zzFits10.f k a0_0 a0_1 l0_2).bind fun t203 => (if t203 = true then ((laws_zzFits10.f k a1_0 a1_1 l1_2).bind fun t204 => (laws_FnNeedEqual.j0 k (!t204) a0_0 a0_1 l0_2 a1_0 a1_1 l1_2)) else (laws_FnNeedEqual.j0 k true a0_0 a0_1 l0_2 a1_0 a1_1 l1_2))) = some r := h
  clear h
  have HC3 := Aside0.mk H
  clear H
  go_enter Tryd.func3, Tryd.ntmps3
  go_upto_region 1 with (first | ((with_reducible refine gate_dst (N := 2) rfl ?_); refine box_event ?hg (N := 2) ?hd (cs := #[.string a0_0, .string a0_1, .slice A0_2 l0_2.length c0_2]) (t := 24) ?hr ?_; (case hd => rfl); (case hg => rfl); (case hr => first | (go_simp; done) | (go_simp; rfl)); intro gb201 hg w4 hbox hb; have n0_ := Aside0.mk (below_step (by repeat (first | (with_reducible first | exact HB.out | apply below_alloc | apply pw_below_drewN | apply below_drew1) | exact HB.out)) hb); have n1_ := Aside0.mk (hbox); have n2_ := Aside0.mk ((by rw [hg]; exact (below_size (by repeat (first | (with_reducible first | exact HB.out | apply below_alloc | apply pw_below_drewN | apply below_drew1) | exact HB.out))) : w.heap.size ≤ gb201)); have n3_ := Aside0.mk ((by rw [hg]; exact (below_size (by repeat (first | (with_reducible first | exact HB.out | apply below_alloc | apply pw_below_drewN | apply below_drew1) | exact HB.out))) : w.heap.size ≤ gb201)); clear HB; have HB := n0_; have BK201 := n1_; have GW201 := n2_; have GE201 := n3_; clear n0_ n1_ n2_ n3_; clear hb hbox hg) | ((with_reducible refine gate_dst (N := 3) rfl ?_); refine box_event ?hg (N := 3) ?hd (cs := #[.string a1_0, .string a1_1, .slice A1_2 l1_2.length c1_2]) (t := 24) ?hr ?_; (case hd => rfl); (case hg => rfl); (case hr => first | (go_simp; done) | (go_simp; rfl)); intro gb202 hg w5 hbox hb; have n0_ := Aside0.mk (blk_below (g := gb201) (o := .cells #[.string a0_0, .string a0_1, .slice A0_2 l0_2.length c0_2] 24 (0, 0)) (by (with_reducible repeat (first | refine blk_drewN ?_ _ | refine blk_drew ?_ | refine blk_alloc ?_ _)); exact BK201.out) hb); have n1_ := Aside0.mk (below_step (by repeat (first | (with_reducible first | exact HB.out | apply below_alloc | apply pw_below_drewN | apply below_drew1 | refine below_set ?_ GE201.out) | exact HB.out)) hb); have n2_ := Aside0.mk (hbox); have n3_ := Aside0.mk ((by rw [hg]; exact (below_size (by repeat (first | (with_reducible first | exact HB.out | apply below_alloc | apply pw_below_drewN | apply below_drew1 | refine below_set ?_ GE201.out) | exact HB.out))) : w.heap.size ≤ gb202)); have n4_ := Aside0.mk ((by rw [hg]; exact (below_size (by repeat (first | (with_reducible first | exact HB.out | apply below_alloc | apply pw_below_drewN | apply below_drew1 | refine below_set ?_ GE201.out) | exact HB.out))) : w.heap.size ≤ gb202)); have n5_ := Aside0.mk ((by rw [hg]; exact Nat.ne_of_lt (blk_lt (g := gb201) (o := .cells #[.string a0_0, .string a0_1, .slice A0_2 l0_2.length c0_2] 24 (0, 0)) (by (with_reducible repeat (first | refine blk_drewN ?_ _ | refine blk_drew ?_ | refine blk_alloc ?_ _)); exact BK201.out)) : gb201 ≠ gb202)); have n6_ := Aside0.mk ((by rw [hg]; exact Nat.ne_of_gt (blk_lt (g := gb201) (o := .cells #[.string a0_0, .string a0_1, .slice A0_2 l0_2.length c0_2] 24 (0, 0)) (by (with_reducible repeat (first | refine blk_drewN ?_ _ | refine blk_drew ?_ | refine blk_alloc ?_ _)); exact BK201.out)) : gb202 ≠ gb201)); clear BK201; clear HB; have BK201 := n0_; have HB := n1_; have BK202 := n2_; have GW202 := n3_; have GE202 := n4_; have NB201_202 := n5_; have NB202_201 := n6_; clear n0_ n1_ n2_ n3_ n4_ n5_ n6_; clear hb hbox hg))
  (try simp only [Act.put, List.setIfInBounds_toArray, List.set_cons_zero, List.set_cons_succ])
  go_cut [16] (fun v16 wc => ∃ (kq : Nat) (x16_2 : Bool), v16 = .bool x16_2 ∧ Aside0 (laws_FnNeedEqual.j0 kq x16_2 a0_0 a0_1 l0_2 a1_0 a1_1 l1_2 = some r) ∧ Aside0 (kq ≤ k) ∧ Aside0 (wc.heap[gb201]? = some (.cells #[.string a0_0, .string a0_1, (.slice A0_2 l0_2.length c0_2)] 24 (0, 0))) ∧ Aside0 (wc.heap[gb202]? = some (.cells #[.string a1_0, .string a1_1, (.slice A1_2 l1_2.length c1_2)] 24 (0, 0))) ∧ Aside0 (Below w.heap.size w wc))
  case first =>
    have H := HC3.out
    clear HC3
    replace H := Option.bind_eq_some_iff.mp H
    obtain ⟨t203, A60, H⟩ := H
    replace H : (if t203 = true then ((laws_zzFits10.f k a1_0 a1_1 l1_2).bind fun t204 => (laws_FnNeedEqual.j0 k (!t204) a0_0 a0_1 l0_2 a1_0 a1_1 l1_2)) else (laws_FnNeedEqual.j0 k true a0_0 a0_1 l0_2 a1_0 a1_1 l1_2)) = some r := H
    have A6 := Aside0.mk A60
    clear A60
    by_cases c7 : t203 = true
    · subst c7
      have H1 : ((laws_zzFits10.f k a1_0 a1_1 l1_2).bind fun t204 => (laws_FnNeedEqual.j0 k (!t204) a0_0 a0_1 l0_2 a1_0 a1_1 l1_2)) = some r := by rw [if_pos rfl] at H; exact H
      clear H
      have H := H1
      clear H1
      replace H := Option.bind_eq_some_iff.mp H
      obtain ⟨t204, A80, H⟩ := H
      replace H : (laws_FnNeedEqual.j0 k (!t204) a0_0 a0_1 l0_2 a1_0 a1_1 l1_2) = some r := H
      have A8 := Aside0.mk A80
      clear A80
      have H' := Aside0.mk H
      clear H
      have hnb9 := NB201_202.out
      have hnc9 := NB202_201.out
      have hcz10_0 : w5.cell? ⟨gb201, 0, none⟩ = some (.string a0_0) := (blk_cell BK201.out 0).trans rfl
      have hcz10_1 : w5.cell? ⟨gb201, 1, none⟩ = some (.string a0_1) := (blk_cell BK201.out 1).trans rfl
      have hcz10_2 : w5.cell? ⟨gb201, 2, none⟩ = some (.slice A0_2 l0_2.length c0_2) := (blk_cell BK201.out 2).trans rfl
      have hfz10_0 := blk_frozen BK201.out 0
      have hfz10_1 := blk_frozen BK201.out 1
      have hfz10_2 := blk_frozen BK201.out 2
      go_wp2_with (first | ((with_reducible refine gate_callee (f := 6) rfl ?_); refine goesL_ (some 10) rfl rfl Tryd.func6 (by kernel_rfl) rfl #[.agg #[.string a0_0, .string a0_1, .slice A0_2 l0_2.length c0_2]] rfl (by (try simp only [List.map_toArray, List.map_cons, List.map_nil]); first | done | rfl | (simp only [List.length_drop, List.length_take]; rfl)) ?_; (with_reducible refine (laws_zzFits10.calls k a0_0 a0_1 _ _ l0_2 true _ ?side1 ?side2 A6.out).mono ?_); (case side1 => repeat (first | exact (Kd.C_below HR0_2.out HB.out) | (with_reducible refine Kd.C_alloc ?_ _) | (with_reducible refine Kd.C_drewN ?_ _) | (with_reducible refine Kd.C_drew ?_))); (case side2 => exact HC0_2.out); rintro e w11 ⟨rfl, hb⟩; refine ⟨_, rfl, ?_⟩; have n0_ := Aside0.mk (blk_below (g := gb201) (o := .cells #[.string a0_0, .string a0_1, .slice A0_2 l0_2.length c0_2] 24 (0, 0)) (by (with_reducible repeat (first | refine blk_drewN ?_ _ | refine blk_drew ?_ | refine blk_alloc ?_ _)); exact BK201.out) hb); have n1_ := Aside0.mk (blk_below (g := gb202) (o := .cells #[.string a1_0, .string a1_1, .slice A1_2 l1_2.length c1_2] 24 (0, 0)) (by (with_reducible repeat (first | refine blk_drewN ?_ _ | refine blk_drew ?_ | refine blk_alloc ?_ _)); exact BK202.out) hb); have n2_ := Aside0.mk (below_step (by repeat (first | (with_reducible first | exact HB.out | apply below_alloc | apply pw_below_drewN | apply below_drew1 | refine below_set ?_ GE201.out | refine below_set ?_ GE202.out) | exact HB.out)) hb); clear BK201; clear BK202; clear HB; have BK201 := n0_; have BK202 := n1_; have HB := n2_; clear n0_ n1_ n2_; (try clear hb); (try clear hb2); (try clear hk); (try clear hi); have hcz12_0 : w11.cell? ⟨gb202, 0, none⟩ = some (.string a1_0) := (blk_cell BK202.out 0).trans rfl; have hcz12_1 : w11.cell? ⟨gb202, 1, none⟩ = some (.string a1_1) := (blk_cell BK202.out 1).trans rfl; have hcz12_2 : w11.cell? ⟨gb202, 2, none⟩ = some (.slice A1_2 l1_2.length c1_2) := (blk_cell BK202.out 2).trans rfl; have hfz12_0 := blk_frozen BK202.out 0; have hfz12_1 := blk_frozen BK202.out 1; have hfz12_2 := blk_frozen BK202.out 2) | (go_at_call 6; (with_reducible refine (laws_zzFits10.calls k a1_0 a1_1 _ _ l1_2 t204 _ ?side1 ?side2 A8.out).mono ?_); (case side1 => repeat (first | exact (Kd.C_below HR1_2.out HB.out) | (with_reducible refine Kd.C_alloc ?_ _) | (with_reducible refine Kd.C_drewN ?_ _) | (with_reducible refine Kd.C_drew ?_))); (case side2 => exact HC1_2.out); rintro e w13 ⟨rfl, hb⟩; have n0_ := Aside0.mk (blk_below (g := gb201) (o := .cells #[.string a0_0, .string a0_1, .slice A0_2 l0_2.length c0_2] 24 (0, 0)) (by (with_reducible repeat (first | refine blk_drewN ?_ _ | refine blk_drew ?_ | refine blk_alloc ?_ _)); exact BK201.out) hb); have n1_ := Aside0.mk (blk_below (g := gb202) (o := .cells #[.string a1_0, .string a1_1, .slice A1_2 l1_2.length c1_2] 24 (0, 0)) (by (with_reducible repeat (first | refine blk_drewN ?_ _ | refine blk_drew ?_ | refine blk_alloc ?_ _)); exact BK202.out) hb); have n2_ := Aside0.mk (below_step (by repeat (first | (with_reducible first | exact HB.out | apply below_alloc | apply pw_below_drewN | apply below_drew1 | refine below_set ?_ GE201.out | refine below_set ?_ GE202.out) | exact HB.out)) hb); clear BK201; clear BK202; clear HB; have BK201 := n0_; have BK202 := n1_; have HB := n2_; clear n0_ n1_ n2_; (try clear hb); (try clear hb2); (try clear hk); (try clear hi)))
      go_meet
      case rel => exact ⟨_, (!t204), (by first | rfl | (simp; done) | (simp [*]; done)), H', ⟨by first | omega | exact Nat.le_refl _⟩, ⟨by (with_reducible repeat (first | refine blk_drewN ?_ _ | refine blk_drew ?_ | refine blk_alloc ?_ _)); exact BK201.out⟩, ⟨by (with_reducible repeat (first | refine blk_drewN ?_ _ | refine blk_drew ?_ | refine blk_alloc ?_ _)); exact BK202.out⟩, ⟨by repeat (first | (with_reducible first | exact HB.out | apply below_alloc | apply pw_below_drewN | apply below_drew1 | refine below_set ?_ GE201.out | refine below_set ?_ GE202.out) | exact HB.out)⟩⟩
    · replace c7 := Bool.eq_false_iff.mpr c7
      subst c7
      have H1 : (laws_FnNeedEqual.j0 k true a0_0 a0_1 l0_2 a1_0 a1_1 l1_2) = some r := by rw [if_neg (show ¬ (false = true) by decide)] at H; exact H
      clear H
      have H := H1
      clear H1
      have H' := Aside0.mk H
      clear H
      have hnb14 := NB201_202.out
      have hnc14 := NB202_201.out
      have hcz15_0 : w5.cell? ⟨gb201, 0, none⟩ = some (.string a0_0) := (blk_cell BK201.out 0).trans rfl
      have hcz15_1 : w5.cell? ⟨gb201, 1, none⟩ = some (.string a0_1) := (blk_cell BK201.out 1).trans rfl
      have hcz15_2 : w5.cell? ⟨gb201, 2, none⟩ = some (.slice A0_2 l0_2.length c0_2) := (blk_cell BK201.out 2).trans rfl
      have hfz15_0 := blk_frozen BK201.out 0
      have hfz15_1 := blk_frozen BK201.out 1
      have hfz15_2 := blk_frozen BK201.out 2
      go_wp2_with (first | ((with_reducible refine gate_callee (f := 6) rfl ?_); refine goesL_ (some 10) rfl rfl Tryd.func6 (by kernel_rfl) rfl #[.agg #[.string a0_0, .string a0_1, .slice A0_2 l0_2.length c0_2]] rfl (by (try simp only [List.map_toArray, List.map_cons, List.map_nil]); first | done | rfl | (simp only [List.length_drop, List.length_take]; rfl)) ?_; (with_reducible refine (laws_zzFits10.calls k a0_0 a0_1 _ _ l0_2 false _ ?side1 ?side2 A6.out).mono ?_); (case side1 => repeat (first | exact (Kd.C_below HR0_2.out HB.out) | (with_reducible refine Kd.C_alloc ?_ _) | (with_reducible refine Kd.C_drewN ?_ _) | (with_reducible refine Kd.C_drew ?_))); (case side2 => exact HC0_2.out); rintro e w16 ⟨rfl, hb⟩; refine ⟨_, rfl, ?_⟩; have n0_ := Aside0.mk (blk_below (g := gb201) (o := .cells #[.string a0_0, .string a0_1, .slice A0_2 l0_2.length c0_2] 24 (0, 0)) (by (with_reducible repeat (first | refine blk_drewN ?_ _ | refine blk_drew ?_ | refine blk_alloc ?_ _)); exact BK201.out) hb); have n1_ := Aside0.mk (blk_below (g := gb202) (o := .cells #[.string a1_0, .string a1_1, .slice A1_2 l1_2.length c1_2] 24 (0, 0)) (by (with_reducible repeat (first | refine blk_drewN ?_ _ | refine blk_drew ?_ | refine blk_alloc ?_ _)); exact BK202.out) hb); have n2_ := Aside0.mk (below_step (by repeat (first | (with_reducible first | exact HB.out | apply below_alloc | apply pw_below_drewN | apply below_drew1 | refine below_set ?_ GE201.out | refine below_set ?_ GE202.out) | exact HB.out)) hb); clear BK201; clear BK202; clear HB; have BK201 := n0_; have BK202 := n1_; have HB := n2_; clear n0_ n1_ n2_; (try clear hb); (try clear hb2); (try clear hk); (try clear hi)))
      go_meet
      case rel => exact ⟨_, (true), (by first | rfl | (simp; done) | (simp [*]; done)), H', ⟨by first | omega | exact Nat.le_refl _⟩, ⟨by (with_reducible repeat (first | refine blk_drewN ?_ _ | refine blk_drew ?_ | refine blk_alloc ?_ _)); exact BK201.out⟩, ⟨by (with_reducible repeat (first | refine blk_drewN ?_ _ | refine blk_drew ?_ | refine blk_alloc ?_ _)); exact BK202.out⟩, ⟨by repeat (first | (with_reducible first | exact HB.out | apply below_alloc | apply pw_below_drewN | apply below_drew1 | refine below_set ?_ GE201.out | refine below_set ?_ GE202.out) | exact HB.out)⟩⟩
  case rest =>
    clear HC3
    try clear c1
    try clear p2
    try clear c3
    try clear c6
    try clear c7
    try clear c9
    try clear c14
    try clear hcz10_0
    try clear hcz10_1
    try clear hcz10_2
    try clear hcz12_0
    try clear hcz12_1
    try clear hcz12_2
    try clear hcz15_0
    try clear hcz15_1
    try clear hcz15_2
    try clear hfz10_0
    try clear hfz10_1
    try clear hfz10_2
    try clear hfz12_0
    try clear hfz12_1
    try clear hfz12_2
    try clear hfz15_0
    try clear hfz15_1
    try clear hfz15_2
    obtain ⟨kq, x16_2, rfl, HA, HJ2, BK201, BK202, HB⟩ := hcut
    cases kq with
    | zero => exact absurd HA.out (by simp [laws_FnNeedEqual.j0])
    | succ kj2 =>
      have H := HA.out
      clear HA
      simp only [laws_FnNeedEqual.j0] at H
      by_cases c17 : x16_2 = true
      · subst c17
        have H1 : (some true) = some r := by rw [if_pos rfl] at H; exact H
        clear H
        have H := H1
        clear H1
        obtain rfl := Option.some.inj H
        go_wp2
        go_ret
        exact ⟨by first | rfl | (simp [errW_none, errW_some] <;> rfl) | (simp [*, errW_none, errW_some] <;> rfl) | (exfalso; contradiction), by repeat (first | (with_reducible first | exact HB.out | apply below_alloc | apply pw_below_drewN | apply below_drew1 | refine below_set ?_ GE201.out | refine below_set ?_ GE202.out) | exact HB.out)⟩
      · replace c17 := Bool.eq_false_iff.mpr c17
        subst c17
        have H1 : ((spec_NeedMay.f kj2 a0_0 a0_1 l0_2).bind fun t205 => (if t205 = true then ((spec_NeedMay.f kj2 a1_0 a1_1 l1_2).bind fun t206 => (laws_FnNeedEqual.j1 kj2 (!t206) a0_0 a0_1 l0_2 a1_0 a1_1 l1_2)) else (laws_FnNeedEqual.j1 kj2 true a0_0 a0_1 l0_2 a1_0 a1_1 l1_2))) = some r := by rw [if_neg (show ¬ (false = true) by decide)] at H; exact H
        clear H
        have H := H1
        clear H1
        have HC18 := Aside0.mk H
        clear H
        go_upto_region 3 with (fail)
        go_cut [24] (fun v24 wc => ∃ (kq : Nat) (x24_17 : Bool), v24 = .bool x24_17 ∧ Aside0 (laws_FnNeedEqual.j1 kq x24_17 a0_0 a0_1 l0_2 a1_0 a1_1 l1_2 = some r) ∧ Aside0 (kq ≤ kj2) ∧ Aside0 (wc.heap[gb201]? = some (.cells #[.string a0_0, .string a0_1, (.slice A0_2 l0_2.length c0_2)] 24 (0, 0))) ∧ Aside0 (wc.heap[gb202]? = some (.cells #[.string a1_0, .string a1_1, (.slice A1_2 l1_2.length c1_2)] 24 (0, 0))) ∧ Aside0 (Below w.heap.size w wc))
        case first =>
          have H := HC18.out
          clear HC18
          replace H := Option.bind_eq_some_iff.mp H
          obtain ⟨t205, A190, H⟩ := H
          replace H : (if t205 = true then ((spec_NeedMay.f kj2 a1_0 a1_1 l1_2).bind fun t206 => (laws_FnNeedEqual.j1 kj2 (!t206) a0_0 a0_1 l0_2 a1_0 a1_1 l1_2)) else (laws_FnNeedEqual.j1 kj2 true a0_0 a0_1 l0_2 a1_0 a1_1 l1_2)) = some r := H
          have A19 := Aside0.mk A190
          clear A190
          by_cases c20 : t205 = true
          · subst c20
            have H1 : ((spec_NeedMay.f kj2 a1_0 a1_1 l1_2).bind fun t206 => (laws_FnNeedEqual.j1 kj2 (!t206) a0_0 a0_1 l0_2 a1_0 a1_1 l1_2)) = some r := by rw [if_pos rfl] at H; exact H
            clear H
            have H := H1
            clear H1
            replace H := Option.bind_eq_some_iff.mp H
            obtain ⟨t206, A210, H⟩ := H
            replace H : (laws_FnNeedEqual.j1 kj2 (!t206) a0_0 a0_1 l0_2 a1_0 a1_1 l1_2) = some r := H
            have A21 := Aside0.mk A210
            clear A210
            have H' := Aside0.mk H
            clear H
            have hnb22 := NB201_202.out
            have hnc22 := NB202_201.out
            have hcz23_0 : wc.cell? ⟨gb201, 0, none⟩ = some (.string a0_0) := (blk_cell BK201.out 0).trans rfl
            have hcz23_1 : wc.cell? ⟨gb201, 1, none⟩ = some (.string a0_1) := (blk_cell BK201.out 1).trans rfl
            have hcz23_2 : wc.cell? ⟨gb201, 2, none⟩ = some (.slice A0_2 l0_2.length c0_2) := (blk_cell BK201.out 2).trans rfl
            have hfz23_0 := blk_frozen BK201.out 0
            have hfz23_1 := blk_frozen BK201.out 1
            have hfz23_2 := blk_frozen BK201.out 2
            go_wp2_with (first | ((with_reducible refine gate_callee (f := 7) rfl ?_); refine goesL_ (some 18) rfl rfl Tryd.func7 (by kernel_rfl) rfl #[.agg #[.string a0_0, .string a0_1, .slice A0_2 l0_2.length c0_2]] rfl (by (try simp only [List.map_toArray, List.map_cons, List.map_nil]); first | done | rfl | (simp only [List.length_drop, List.length_take]; rfl)) ?_; (with_reducible refine (spec_NeedMay.calls kj2 a0_0 a0_1 _ _ l0_2 true _ ?side1 ?side2 A19.out).mono ?_); (case side1 => repeat (first | exact (Kd.C_below HR0_2.out HB.out) | (with_reducible refine Kd.C_alloc ?_ _) | (with_reducible refine Kd.C_drewN ?_ _) | (with_reducible refine Kd.C_drew ?_))); (case side2 => exact HC0_2.out); rintro e w24 ⟨rfl, hb⟩; refine ⟨_, rfl, ?_⟩; have n0_ := Aside0.mk (blk_below (g := gb201) (o := .cells #[.string a0_0, .string a0_1, .slice A0_2 l0_2.length c0_2] 24 (0, 0)) (by (with_reducible repeat (first | refine blk_drewN ?_ _ | refine blk_drew ?_ | refine blk_alloc ?_ _)); exact BK201.out) hb); have n1_ := Aside0.mk (blk_below (g := gb202) (o := .cells #[.string a1_0, .string a1_1, .slice A1_2 l1_2.length c1_2] 24 (0, 0)) (by (with_reducible repeat (first | refine blk_drewN ?_ _ | refine blk_drew ?_ | refine blk_alloc ?_ _)); exact BK202.out) hb); have n2_ := Aside0.mk (below_step (by repeat (first | (with_reducible first | exact HB.out | apply below_alloc | apply pw_below_drewN | apply below_drew1 | refine below_set ?_ GE201.out | refine below_set ?_ GE202.out) | exact HB.out)) hb); clear BK201; clear BK202; clear HB; have BK201 := n0_; have BK202 := n1_; have HB := n2_; clear n0_ n1_ n2_; (try clear hb); (try clear hb2); (try clear hk); (try clear hi); have hcz25_0 : w24.cell? ⟨gb202, 0, none⟩ = some (.string a1_0) := (blk_cell BK202.out 0).trans rfl; have hcz25_1 : w24.cell? ⟨gb202, 1, none⟩ = some (.string a1_1) := (blk_cell BK202.out 1).trans rfl; have hcz25_2 : w24.cell? ⟨gb202, 2, none⟩ = some (.slice A1_2 l1_2.length c1_2) := (blk_cell BK202.out 2).trans rfl; have hfz25_0 := blk_frozen BK202.out 0; have hfz25_1 := blk_frozen BK202.out 1; have hfz25_2 := blk_frozen BK202.out 2) | (go_at_call 7; (with_reducible refine (spec_NeedMay.calls kj2 a1_0 a1_1 _ _ l1_2 t206 _ ?side1 ?side2 A21.out).mono ?_); (case side1 => repeat (first | exact (Kd.C_below HR1_2.out HB.out) | (with_reducible refine Kd.C_alloc ?_ _) | (with_reducible refine Kd.C_drewN ?_ _) | (with_reducible refine Kd.C_drew ?_))); (case side2 => exact HC1_2.out); rintro e w26 ⟨rfl, hb⟩; have n0_ := Aside0.mk (blk_below (g := gb201) (o := .cells #[.string a0_0, .string a0_1, .slice A0_2 l0_2.length c0_2] 24 (0, 0)) (by (with_reducible repeat (first | refine blk_drewN ?_ _ | refine blk_drew ?_ | refine blk_alloc ?_ _)); exact BK201.out) hb); have n1_ := Aside0.mk (blk_below (g := gb202) (o := .cells #[.string a1_0, .string a1_1, .slice A1_2 l1_2.length c1_2] 24 (0, 0)) (by (with_reducible repeat (first | refine blk_drewN ?_ _ | refine blk_drew ?_ | refine blk_alloc ?_ _)); exact BK202.out) hb); have n2_ := Aside0.mk (below_step (by repeat (first | (with_reducible first | exact HB.out | apply below_alloc | apply pw_below_drewN | apply below_drew1 | refine below_set ?_ GE201.out | refine below_set ?_ GE202.out) | exact HB.out)) hb); clear BK201; clear BK202; clear HB; have BK201 := n0_; have BK202 := n1_; have HB := n2_; clear n0_ n1_ n2_; (try clear hb); (try clear hb2); (try clear hk); (try clear hi)))
            go_meet
            case rel => exact ⟨_, (!t206), (by first | rfl | (simp; done) | (simp [*]; done)), H', ⟨by have := HJ2.out; first | omega | exact Nat.le_refl _⟩, ⟨by (with_reducible repeat (first | refine blk_drewN ?_ _ | refine blk_drew ?_ | refine blk_alloc ?_ _)); exact BK201.out⟩, ⟨by (with_reducible repeat (first | refine blk_drewN ?_ _ | refine blk_drew ?_ | refine blk_alloc ?_ _)); exact BK202.out⟩, ⟨by repeat (first | (with_reducible first | exact HB.out | apply below_alloc | apply pw_below_drewN | apply below_drew1 | refine below_set ?_ GE201.out | refine below_set ?_ GE202.out) | exact HB.out)⟩⟩
          · replace c20 := Bool.eq_false_iff.mpr c20
            subst c20
            have H1 : (laws_FnNeedEqual.j1 kj2 true a0_0 a0_1 l0_2 a1_0 a1_1 l1_2) = some r := by rw [if_neg (show ¬ (false = true) by decide)] at H; exact H
            clear H
            have H := H1
            clear H1
            have H' := Aside0.mk H
            clear H
            have hnb27 := NB201_202.out
            have hnc27 := NB202_201.out
            have hcz28_0 : wc.cell? ⟨gb201, 0, none⟩ = some (.string a0_0) := (blk_cell BK201.out 0).trans rfl
            have hcz28_1 : wc.cell? ⟨gb201, 1, none⟩ = some (.string a0_1) := (blk_cell BK201.out 1).trans rfl
            have hcz28_2 : wc.cell? ⟨gb201, 2, none⟩ = some (.slice A0_2 l0_2.length c0_2) := (blk_cell BK201.out 2).trans rfl
            have hfz28_0 := blk_frozen BK201.out 0
            have hfz28_1 := blk_frozen BK201.out 1
            have hfz28_2 := blk_frozen BK201.out 2
            go_wp2_with (first | ((with_reducible refine gate_callee (f := 7) rfl ?_); refine goesL_ (some 18) rfl rfl Tryd.func7 (by kernel_rfl) rfl #[.agg #[.string a0_0, .string a0_1, .slice A0_2 l0_2.length c0_2]] rfl (by (try simp only [List.map_toArray, List.map_cons, List.map_nil]); first | done | rfl | (simp only [List.length_drop, List.length_take]; rfl)) ?_; (with_reducible refine (spec_NeedMay.calls kj2 a0_0 a0_1 _ _ l0_2 false _ ?side1 ?side2 A19.out).mono ?_); (case side1 => repeat (first | exact (Kd.C_below HR0_2.out HB.out) | (with_reducible refine Kd.C_alloc ?_ _) | (with_reducible refine Kd.C_drewN ?_ _) | (with_reducible refine Kd.C_drew ?_))); (case side2 => exact HC0_2.out); rintro e w29 ⟨rfl, hb⟩; refine ⟨_, rfl, ?_⟩; have n0_ := Aside0.mk (blk_below (g := gb201) (o := .cells #[.string a0_0, .string a0_1, .slice A0_2 l0_2.length c0_2] 24 (0, 0)) (by (with_reducible repeat (first | refine blk_drewN ?_ _ | refine blk_drew ?_ | refine blk_alloc ?_ _)); exact BK201.out) hb); have n1_ := Aside0.mk (blk_below (g := gb202) (o := .cells #[.string a1_0, .string a1_1, .slice A1_2 l1_2.length c1_2] 24 (0, 0)) (by (with_reducible repeat (first | refine blk_drewN ?_ _ | refine blk_drew ?_ | refine blk_alloc ?_ _)); exact BK202.out) hb); have n2_ := Aside0.mk (below_step (by repeat (first | (with_reducible first | exact HB.out | apply below_alloc | apply pw_below_drewN | apply below_drew1 | refine below_set ?_ GE201.out | refine below_set ?_ GE202.out) | exact HB.out)) hb); clear BK201; clear BK202; clear HB; have BK201 := n0_; have BK202 := n1_; have HB := n2_; clear n0_ n1_ n2_; (try clear hb); (try clear hb2); (try clear hk); (try clear hi)))
            go_meet
            case rel => exact ⟨_, (true), (by first | rfl | (simp; done) | (simp [*]; done)), H', ⟨by have := HJ2.out; first | omega | exact Nat.le_refl _⟩, ⟨by (with_reducible repeat (first | refine blk_drewN ?_ _ | refine blk_drew ?_ | refine blk_alloc ?_ _)); exact BK201.out⟩, ⟨by (with_reducible repeat (first | refine blk_drewN ?_ _ | refine blk_drew ?_ | refine blk_alloc ?_ _)); exact BK202.out⟩, ⟨by repeat (first | (with_reducible first | exact HB.out | apply below_alloc | apply pw_below_drewN | apply below_drew1 | refine below_set ?_ GE201.out | refine below_set ?_ GE202.out) | exact HB.out)⟩⟩
        case rest =>
          clear HC18
          try clear c1
          try clear c2
          try clear p2
          try clear c3
          try clear c6
          try clear c7
          try clear c9
          try clear c14
          try clear c17
          try clear c20
          try clear c22
          try clear c27
          try clear hcz10_0
          try clear hcz10_1
          try clear hcz10_2
          try clear hcz12_0
          try clear hcz12_1
          try clear hcz12_2
          try clear hcz15_0
          try clear hcz15_1
          try clear hcz15_2
          try clear hcz23_0
          try clear hcz23_1
          try clear hcz23_2
          try clear hcz25_0
          try clear hcz25_1
          try clear hcz25_2
          try clear hcz28_0
          try clear hcz28_1
          try clear hcz28_2
          try clear hfz10_0
          try clear hfz10_1
          try clear hfz10_2
          try clear hfz12_0
          try clear hfz12_1
          try clear hfz12_2
          try clear hfz15_0
          try clear hfz15_1
          try clear hfz15_2
          try clear hfz23_0
          try clear hfz23_1
          try clear hfz23_2
          try clear hfz25_0
          try clear hfz25_1
          try clear hfz25_2
          try clear hfz28_0
          try clear hfz28_1
          try clear hfz28_2
          try clear p2
          obtain ⟨kq, x24_17, rfl, HA, HJ17, BK201, BK202, HB⟩ := hcut
          cases kq with
          | zero => exact absurd HA.out (by simp [laws_FnNeedEqual.j1])
          | succ kj17 =>
            have H := HA.out
            clear HA
            simp only [laws_FnNeedEqual.j1] at H
            by_cases c30 : x24_17 = true
            · subst c30
              have H1 : (some true) = some r := by rw [if_pos rfl] at H; exact H
              clear H
              have H := H1
              clear H1
              obtain rfl := Option.some.inj H
              go_wp2
              go_ret
              exact ⟨by first | rfl | (simp [errW_none, errW_some] <;> rfl) | (simp [*, errW_none, errW_some] <;> rfl) | (exfalso; contradiction), by repeat (first | (with_reducible first | exact HB.out | apply below_alloc | apply pw_below_drewN | apply below_drew1 | refine below_set ?_ GE201.out | refine below_set ?_ GE202.out) | exact HB.out)⟩
            · replace c30 := Bool.eq_false_iff.mpr c30
              subst c30
              have H1 : ((spec_Keys_string.f kj17 l0_2).bind fun t207 => ((spec_Keys_string.f kj17 l1_2).bind fun t210 => ((impl_NeedEqual.f kj17 a0_0 a0_1 t207 a1_0 a1_1 t210).bind fun bt213 => ((impl_NeedEqual.f kj17 a0_0 a0_1 t207 a0_0 a0_1 t207).bind fun bt215 => (if bt213.2 = true then (some false) else (if bt215.2 = true then (some false) else (if bt215.1 = true then ((spec_NeedSame.f kj17 a0_0 a0_1 t207 a1_0 a1_1 t210).bind fun t217 => (some (bt213.1 == t217))) else (some false)))))))) = some r := by rw [if_neg (show ¬ (false = true) by decide)] at H; exact H
              clear H
              have H := H1
              clear H1
              replace H := Option.bind_eq_some_iff.mp H
              obtain ⟨t207, A310, H⟩ := H
              replace H : ((spec_Keys_string.f kj17 l1_2).bind fun t210 => ((impl_NeedEqual.f kj17 a0_0 a0_1 t207 a1_0 a1_1 t210).bind fun bt213 => ((impl_NeedEqual.f kj17 a0_0 a0_1 t207 a0_0 a0_1 t207).bind fun bt215 => (if bt213.2 = true then (some false) else (if bt215.2 = true then (some false) else (if bt215.1 = true then ((spec_NeedSame.f kj17 a0_0 a0_1 t207 a1_0 a1_1 t210).bind fun t217 => (some (bt213.1 == t217))) else (some false))))))) = some r := H
              have A31 := Aside0.mk A310
              clear A310
              replace H := Option.bind_eq_some_iff.mp H
              obtain ⟨t210, A320, H⟩ := H
              replace H : ((impl_NeedEqual.f kj17 a0_0 a0_1 t207 a1_0 a1_1 t210).bind fun bt213 => ((impl_NeedEqual.f kj17 a0_0 a0_1 t207 a0_0 a0_1 t207).bind fun bt215 => (if bt213.2 = true then (some false) else (if bt215.2 = true then (some false) else (if bt215.1 = true then ((spec_NeedSame.f kj17 a0_0 a0_1 t207 a1_0 a1_1 t210).bind fun t217 => (some (bt213.1 == t217))) else (some false)))))) = some r := H
              have A32 := Aside0.mk A320
              clear A320
              replace H := Option.bind_eq_some_iff.mp H
              obtain ⟨⟨t213, t214⟩, A330, H⟩ := H
              replace H : ((impl_NeedEqual.f kj17 a0_0 a0_1 t207 a0_0 a0_1 t207).bind fun bt215 => (if t214 = true then (some false) else (if bt215.2 = true then (some false) else (if bt215.1 = true then ((spec_NeedSame.f kj17 a0_0 a0_1 t207 a1_0 a1_1 t210).bind fun t217 => (some (t213 == t217))) else (some false))))) = some r := H
              have A33 := Aside0.mk A330
              clear A330
              replace H := Option.bind_eq_some_iff.mp H
              obtain ⟨⟨t215, t216⟩, A340, H⟩ := H
              replace H : (if t214 = true then (some false) else (if t216 = true then (some false) else (if t215 = true then ((spec_NeedSame.f kj17 a0_0 a0_1 t207 a1_0 a1_1 t210).bind fun t217 => (some (t213 == t217))) else (some false)))) = some r := H
              have A34 := Aside0.mk A340
              clear A340
              by_cases c35 : t214 = true
              · subst c35
                have H1 : (some false) = some r := by rw [if_pos rfl] at H; exact H
                clear H
                have H := H1
                clear H1
                obtain rfl := Option.some.inj H
                try go_wp2
                have n0_ := Aside0.mk (blk_drew BK201.out)
                have n1_ := Aside0.mk (blk_drew BK202.out)
                have n2_ := Aside0.mk (below_drew1 HB.out)
                clear BK201
                clear BK202
                clear HB
                have BK201 := n0_
                have BK202 := n1_
                have HB := n2_
                clear n0_ n1_ n2_
                refine start_ (n := 10) (S := fun w' => w'.cell? ⟨gb201, 0, none⟩ = some (.string a0_0) ∧ w'.cell? ⟨gb201, 1, none⟩ = some (.string a0_1) ∧ w'.cell? ⟨gb201, 2, none⟩ = some (.slice A0_2 l0_2.length c0_2) ∧ w'.cell? ⟨gb202, 0, none⟩ = some (.string a1_0) ∧ w'.cell? ⟨gb202, 1, none⟩ = some (.string a1_1) ∧ w'.cell? ⟨gb202, 2, none⟩ = some (.slice A1_2 l1_2.length c1_2)) (ds := [7, 9]) #[false, false, false, false, false, false, false, false, false, false] (by kernel_rfl) rfl rfl ⟨(blk_cell BK201.out 0).trans rfl, (blk_cell BK201.out 1).trans rfl, (blk_cell BK201.out 2).trans rfl, (blk_cell BK202.out 0).trans rfl, (blk_cell BK202.out 1).trans rfl, (blk_cell BK202.out 2).trans rfl⟩ (fun hHeld => ?_); refine with_tabW laws_FnNeedEqual.tab5 laws_FnNeedEqual.bits5 (fun HT_ HW_ => ?_)
                generalize wc.drew = w36 at BK201 BK202 HB hHeld ⊢
                refine pure_ (i := 0) (N := some 25) (v := ?_) (a' := ?_) #[true, false, false, false, false, false, false, false, false, false] rfl rfl (any_of HT_.out (by kernel_rfl)) (fun _ _ _ h => h) (Or.inl ⟨by rfl, ?_⟩) ?_ ?_
                rotate_left
                · intro w'
                  go_simp
                  with_reducible rfl
                rotate_left
                · simp only [Act.put, List.setIfInBounds_toArray, List.set_cons_zero, List.set_cons_succ, i64_w, i32_w]
                  rfl
                refine pure_ (i := 3) (N := some 28) (v := ?_) (a' := ?_) #[true, false, false, true, false, false, false, false, false, false] rfl rfl (any_of HT_.out (by kernel_rfl)) (fun _ _ _ h => h) (Or.inl ⟨by rfl, ?_⟩) ?_ ?_
                rotate_left
                · intro w'
                  go_simp
                  with_reducible rfl
                rotate_left
                · simp only [Act.put, List.setIfInBounds_toArray, List.set_cons_zero, List.set_cons_succ, i64_w, i32_w]
                  rfl
                refine take_ (i := 1) (N := some 26) (v := ?_) (a' := ?_) #[true, true, false, true, false, false, false, false, false, false] rfl rfl (take_ofW HT_.out HW_.out (by kernel_rfl)) (fun _ _ _ h => h) (Or.inl ⟨by rfl, ?_⟩) hHeld ?_ ?_
                rotate_left
                · rintro w' ⟨s0, s1, s2, s3, s4, s5⟩
                  go_simp
                  with_reducible rfl
                rotate_left
                · simp only [Act.put, List.setIfInBounds_toArray, List.set_cons_zero, List.set_cons_succ, i64_w, i32_w]
                  rfl
                refine take_ (i := 4) (N := some 29) (v := ?_) (a' := ?_) #[true, true, false, true, true, false, false, false, false, false] rfl rfl (take_ofW HT_.out HW_.out (by kernel_rfl)) (fun _ _ _ h => h) (Or.inl ⟨by rfl, ?_⟩) hHeld ?_ ?_
                rotate_left
                · rintro w' ⟨s0, s1, s2, s3, s4, s5⟩
                  go_simp
                  with_reducible rfl
                rotate_left
                · simp only [Act.put, List.setIfInBounds_toArray, List.set_cons_zero, List.set_cons_succ, i64_w, i32_w]
                  rfl
                refine one_ (i := 2) (N := some 27) #[true, true, true, true, true, false, false, false, false, false] rfl rfl (one_of HT_.out (by kernel_rfl)) (by decide) (fun K hK => ?_)
                refine goes_ Tryd.func8 (by kernel_rfl) rfl #[.slice A0_2 l0_2.length c0_2] (by rfl) rfl rfl (by (try simp only [List.map_toArray, List.map_cons, List.map_nil]); first | done | rfl | (simp only [List.length_drop, List.length_take]; rfl)) ?_
                with_reducible refine (spec_Keys_string.calls kj17 _ _ l0_2 t207 _ ?side1 ?side2 A31.out).mono ?_
                (case side1 => repeat (first | exact (Kd.C_below HR0_2.out HB.out) | (with_reducible refine Kd.C_alloc ?_ _) | (with_reducible refine Kd.C_drewN ?_ _) | (with_reducible refine Kd.C_drew ?_)))
                (case side2 => exact HC0_2.out)
                rintro e w37 ⟨v208, rfl, ho0, hb⟩
                refine ⟨_, rfl, ?_⟩
                have n0_ := Aside0.mk (Kd.R_lower ho0 (below_size (by repeat (first | (with_reducible first | exact HB.out | apply below_alloc | apply pw_below_drewN | apply below_drew1 | refine below_set ?_ GE201.out | refine below_set ?_ GE202.out) | exact HB.out))))
                have n1_ := Aside0.mk (blk_below (g := gb201) (o := .cells #[.string a0_0, .string a0_1, .slice A0_2 l0_2.length c0_2] 24 (0, 0)) (by (with_reducible repeat (first | refine blk_drewN ?_ _ | refine blk_drew ?_ | refine blk_alloc ?_ _)); exact BK201.out) hb)
                have n2_ := Aside0.mk (blk_below (g := gb202) (o := .cells #[.string a1_0, .string a1_1, .slice A1_2 l1_2.length c1_2] 24 (0, 0)) (by (with_reducible repeat (first | refine blk_drewN ?_ _ | refine blk_drew ?_ | refine blk_alloc ?_ _)); exact BK202.out) hb)
                have n3_ := Aside0.mk (below_step (by repeat (first | (with_reducible first | exact HB.out | apply below_alloc | apply pw_below_drewN | apply below_drew1 | refine below_set ?_ GE201.out | refine below_set ?_ GE202.out) | exact HB.out)) hb)
                clear BK201
                clear BK202
                clear HB
                have HO209 := n0_
                have BK201 := n1_
                have BK202 := n2_
                have HB := n3_
                clear n0_ n1_ n2_ n3_
                (try clear hb)
                (try clear hb2)
                (try clear hk)
                (try clear hi)
                (try clear ho0)
                refine hK.out _ _ ⟨(blk_cell BK201.out 0).trans rfl, (blk_cell BK201.out 1).trans rfl, (blk_cell BK201.out 2).trans rfl, (blk_cell BK202.out 0).trans rfl, (blk_cell BK202.out 1).trans rfl, (blk_cell BK202.out 2).trans rfl⟩ (fun hHeld => ?_)
                clear hK K
                refine norm_ (a' := ?_) ?_ ?_
                rotate_left
                · show Act.put _ (some 27) _ = _
                  simp only [Act.put, List.setIfInBounds_toArray, List.set_cons_zero, List.set_cons_succ, i64_w, i32_w]
                  rfl
                refine pure_ (i := 6) (N := some 31) (v := ?_) (a' := ?_) #[true, true, true, true, true, false, true, false, false, false] rfl rfl (any_of HT_.out (by kernel_rfl)) (fun _ _ _ h => h) (Or.inl ⟨by rfl, ?_⟩) ?_ ?_
                rotate_left
                · intro w'
                  go_simp
                  with_reducible rfl
                rotate_left
                · simp only [Act.put, List.setIfInBounds_toArray, List.set_cons_zero, List.set_cons_succ, i64_w, i32_w]
                  rfl
                refine one_ (i := 5) (N := some 30) #[true, true, true, true, true, true, true, false, false, false] rfl rfl (one_of HT_.out (by kernel_rfl)) (by decide) (fun K hK => ?_)
                refine goes_ Tryd.func8 (by kernel_rfl) rfl #[.slice A1_2 l1_2.length c1_2] (by rfl) rfl rfl (by (try simp only [List.map_toArray, List.map_cons, List.map_nil]); first | done | rfl | (simp only [List.length_drop, List.length_take]; rfl)) ?_
                with_reducible refine (spec_Keys_string.calls kj17 _ _ l1_2 t210 _ ?side1 ?side2 A32.out).mono ?_
                (case side1 => repeat (first | exact (Kd.C_below HR1_2.out HB.out) | (with_reducible refine Kd.C_alloc ?_ _) | (with_reducible refine Kd.C_drewN ?_ _) | (with_reducible refine Kd.C_drew ?_)))
                (case side2 => exact HC1_2.out)
                rintro e w38 ⟨v211, rfl, ho0, hb⟩
                refine ⟨_, rfl, ?_⟩
                have n0_ := Aside0.mk (Kd.R_elder' (by (with_reducible repeat (first | apply Kd.R_alloc | apply Kd.R_drewN | apply Kd.R_drew)); exact HO209.out) (Kd.R_base ho0) hb)
                have n1_ := Aside0.mk (Kd.R_lower (Kd.R_new' ho0 (Kd.R_lt (by (with_reducible repeat (first | apply Kd.R_alloc | apply Kd.R_drewN | apply Kd.R_drew)); exact HO209.out))) (below_size (by repeat (first | (with_reducible first | exact HB.out | apply below_alloc | apply pw_below_drewN | apply below_drew1 | refine below_set ?_ GE201.out | refine below_set ?_ GE202.out) | exact HB.out))))
                have n2_ := Aside0.mk (blk_below (g := gb201) (o := .cells #[.string a0_0, .string a0_1, .slice A0_2 l0_2.length c0_2] 24 (0, 0)) (by (with_reducible repeat (first | refine blk_drewN ?_ _ | refine blk_drew ?_ | refine blk_alloc ?_ _)); exact BK201.out) hb)
                have n3_ := Aside0.mk (blk_below (g := gb202) (o := .cells #[.string a1_0, .string a1_1, .slice A1_2 l1_2.length c1_2] 24 (0, 0)) (by (with_reducible repeat (first | refine blk_drewN ?_ _ | refine blk_drew ?_ | refine blk_alloc ?_ _)); exact BK202.out) hb)
                have n4_ := Aside0.mk (below_step (by repeat (first | (with_reducible first | exact HB.out | apply below_alloc | apply pw_below_drewN | apply below_drew1 | refine below_set ?_ GE201.out | refine below_set ?_ GE202.out) | exact HB.out)) hb)
                clear HO209
                clear BK201
                clear BK202
                clear HB
                have HO209 := n0_
                have HO212 := n1_
                have BK201 := n2_
                have BK202 := n3_
                have HB := n4_
                clear n0_ n1_ n2_ n3_ n4_
                (try clear hb)
                (try clear hb2)
                (try clear hk)
                (try clear hi)
                (try clear ho0)
                obtain ⟨Ao39, co39, eo39⟩ := Kd.R_slice HO209.out
                (first | subst eo39 | (injection eo39 with f1_ f2_ f3_; have f4_ := f1_.symm; have f5_ := f3_.symm; clear f1_ f2_ f3_; subst f4_; subst f5_))
                obtain ⟨Ao41, co41, eo41⟩ := Kd.R_slice HO212.out
                (first | subst eo41 | (injection eo41 with f1_ f2_ f3_; have f4_ := f1_.symm; have f5_ := f3_.symm; clear f1_ f2_ f3_; subst f4_; subst f5_))
                refine hK.out _ _ ⟨(blk_cell BK201.out 0).trans rfl, (blk_cell BK201.out 1).trans rfl, (blk_cell BK201.out 2).trans rfl, (blk_cell BK202.out 0).trans rfl, (blk_cell BK202.out 1).trans rfl, (blk_cell BK202.out 2).trans rfl⟩ (fun hHeld => ?_)
                clear hK K
                refine norm_ (a' := ?_) ?_ ?_
                rotate_left
                · show Act.put _ (some 30) _ = _
                  simp only [Act.put, List.setIfInBounds_toArray, List.set_cons_zero, List.set_cons_succ, i64_w, i32_w]
                  rfl
                refine last_ (i := 7) (N := none) #[true, true, true, true, true, true, true, true, false, false] rfl rfl (one_of HT_.out (by kernel_rfl)) (by decide) (fun K hK => ?_)
                have hs40 : w38.cell? ⟨gb201, 2, none⟩ = some (.slice A0_2 l0_2.length c0_2) := (blk_cell BK201.out 2).trans rfl
                have hfs40 := blk_frozen BK201.out 2
                have hns40_1 := NB202_201.out
                have hms40_1 := NB201_202.out
                refine skip_ (w1 := ?_) (by rfl) rfl ?_ ?_
                rotate_left
                · go_simp
                  rfl
                refine hK.out _ _ ?_
                clear hK K
                refine pure_ (i := 8) (N := some 32) (v := ?_) (a' := ?_) #[true, true, true, true, true, true, true, true, true, false] rfl rfl (any_of HT_.out (by kernel_rfl)) (fun _ _ _ h => h) (Or.inl ⟨by rfl, ?_⟩) ?_ ?_
                rotate_left
                · intro w'
                  go_simp
                  with_reducible rfl
                rotate_left
                · simp only [Act.put, List.setIfInBounds_toArray, List.set_cons_zero, List.set_cons_succ, i64_w, i32_w]
                  rfl
                refine last_ (i := 9) (N := none) #[true, true, true, true, true, true, true, true, true, true] rfl rfl (one_of HT_.out (by kernel_rfl)) (by decide) (fun K hK => ?_)
                have hs42 : w38.cell? ⟨gb202, 2, none⟩ = some (.slice A1_2 l1_2.length c1_2) := (blk_cell BK202.out 2).trans rfl
                have hfs42 := blk_frozen BK202.out 2
                have hns42_0 := NB201_202.out
                have hms42_0 := NB202_201.out
                refine skip_ (w1 := ?_) (by rfl) rfl ?_ ?_
                rotate_left
                · go_simp
                  rfl
                refine hK.out _ _ ?_
                clear hK K
                refine done_ (done_of HT_.out (by kernel_rfl)) ?_
                have hnb43 := NB201_202.out
                have hnc43 := NB202_201.out
                have hcz44_0 : w38.cell? ⟨gb201, 0, none⟩ = some (.string a0_0) := (blk_cell BK201.out 0).trans rfl
                have hcz44_1 : w38.cell? ⟨gb201, 1, none⟩ = some (.string a0_1) := (blk_cell BK201.out 1).trans rfl
                have hcz44_2 : w38.cell? ⟨gb201, 2, none⟩ = some (.slice A0_2 l0_2.length c0_2) := (blk_cell BK201.out 2).trans rfl
                have hfz44_0 := blk_frozen BK201.out 0
                have hfz44_1 := blk_frozen BK201.out 1
                have hfz44_2 := blk_frozen BK201.out 2
                have hcz45_0 : w38.cell? ⟨gb202, 0, none⟩ = some (.string a1_0) := (blk_cell BK202.out 0).trans rfl
                have hcz45_1 : w38.cell? ⟨gb202, 1, none⟩ = some (.string a1_1) := (blk_cell BK202.out 1).trans rfl
                have hcz45_2 : w38.cell? ⟨gb202, 2, none⟩ = some (.slice A1_2 l1_2.length c1_2) := (blk_cell BK202.out 2).trans rfl
                have hfz45_0 := blk_frozen BK202.out 0
                have hfz45_1 := blk_frozen BK202.out 1
                have hfz45_2 := blk_frozen BK202.out 2
                try go_wp2_with (first | ((with_reducible refine gate_callee (f := 9) rfl ?_); refine goesL_ (some 36) rfl rfl Tryd.func9 (by kernel_rfl) rfl #[.agg #[.string a0_0, .string a0_1, .slice Ao39 t207.length co39], .agg #[.string a1_0, .string a1_1, .slice Ao41 t210.length co41]] rfl (by (try simp only [List.map_toArray, List.map_cons, List.map_nil]); first | done | rfl | (simp only [List.length_drop, List.length_take]; rfl)) ?_; (with_reducible refine (impl_NeedEqual.calls kj17 a0_0 a0_1 _ _ t207 a1_0 a1_1 _ _ t210 t213 true _ ?side1 ?side2 ?side3 ?side4 A33.out).mono ?_); (case side1 => refine (Kd.R_reads' (e := 9) (base := w.heap.size) (ok := fun k_ => (True ∧ some k_ ≠ (.slice Ao41 t210.length co41 : Value).ownBlock)) (n := t207.length) (c := co39) ?_).2.2; exact (by (with_reducible repeat (first | apply Kd.R_alloc | apply Kd.R_drewN | apply Kd.R_drew)); exact (Kd.R_mono (Kd.R_mono (Kd.R_far (p := ⟨gb202, 2, none⟩) (Kd.R_far (p := ⟨gb201, 2, none⟩) (Kd.R_types (Kd.R_types HO209.out BK201.out (by decide)) BK202.out (by decide)) (fun _ hk => hk.1.2) (.slice Ao39 t207.length co39)) (fun _ hk => hk.2) (.slice Ao41 t210.length co41)) (fun _ h_ => h_.1)) (fun _ h_ => h_.1)))); (case side2 => exact (Kd.R_reads' HO209.out).2.1); (case side3 => refine (Kd.R_reads' (e := 9) (base := w.heap.size) (ok := fun k_ => (True ∧ some k_ ≠ (.slice Ao39 t207.length co39 : Value).ownBlock)) (n := t210.length) (c := co41) ?_).2.2; exact (by (with_reducible repeat (first | apply Kd.R_alloc | apply Kd.R_drewN | apply Kd.R_drew)); exact (Kd.R_mono (Kd.R_mono (Kd.R_far (p := ⟨gb202, 2, none⟩) (Kd.R_far (p := ⟨gb201, 2, none⟩) (Kd.R_types (Kd.R_types HO212.out BK201.out (by decide)) BK202.out (by decide)) (fun _ hk => hk.1.2) (.slice Ao39 t207.length co39)) (fun _ hk => hk.2) (.slice Ao41 t210.length co41)) (fun _ h_ => h_.1)) (fun _ h_ => h_.1)))); (case side4 => exact (Kd.R_reads' HO212.out).2.1); rintro e w46 ⟨rfl, hb⟩; refine ⟨_, rfl, ?_⟩; have n0_ := Aside0.mk (Kd.R_below (by (with_reducible repeat (first | apply Kd.R_alloc | apply Kd.R_drewN | apply Kd.R_drew)); exact (Kd.R_mono (Kd.R_mono (Kd.R_far (p := ⟨gb202, 2, none⟩) (Kd.R_far (p := ⟨gb201, 2, none⟩) (Kd.R_types (Kd.R_types HO209.out BK201.out (by decide)) BK202.out (by decide)) (fun _ hk => hk.1.2) (.slice Ao39 t207.length co39)) (fun _ hk => hk.2) (.slice Ao41 t210.length co41)) (fun _ h_ => h_.1)) (fun _ h_ => h_.1))) hb); have n1_ := Aside0.mk (Kd.R_below (by (with_reducible repeat (first | apply Kd.R_alloc | apply Kd.R_drewN | apply Kd.R_drew)); exact (Kd.R_mono (Kd.R_mono (Kd.R_far (p := ⟨gb202, 2, none⟩) (Kd.R_far (p := ⟨gb201, 2, none⟩) (Kd.R_types (Kd.R_types HO212.out BK201.out (by decide)) BK202.out (by decide)) (fun _ hk => hk.1.2) (.slice Ao39 t207.length co39)) (fun _ hk => hk.2) (.slice Ao41 t210.length co41)) (fun _ h_ => h_.1)) (fun _ h_ => h_.1))) hb); have n2_ := Aside0.mk (blk_below (g := gb201) (o := .cells #[.string a0_0, .string a0_1, .slice Ao39 t207.length co39] 24 (0, 0)) (by (with_reducible repeat (first | refine blk_drewN ?_ _ | refine blk_drew ?_ | refine blk_alloc ?_ _)); refine blk_far ?_ NB201_202.out _; (with_reducible repeat (first | refine blk_drewN ?_ _ | refine blk_drew ?_ | refine blk_alloc ?_ _)); refine blk_put (cs := #[.string a0_0, .string a0_1, .slice A0_2 l0_2.length c0_2]) ?_ 2 _ rfl; (with_reducible repeat (first | refine blk_drewN ?_ _ | refine blk_drew ?_ | refine blk_alloc ?_ _)); exact BK201.out) hb); have n3_ := Aside0.mk (blk_below (g := gb202) (o := .cells #[.string a1_0, .string a1_1, .slice Ao41 t210.length co41] 24 (0, 0)) (by (with_reducible repeat (first | refine blk_drewN ?_ _ | refine blk_drew ?_ | refine blk_alloc ?_ _)); refine blk_put (cs := #[.string a1_0, .string a1_1, .slice A1_2 l1_2.length c1_2]) ?_ 2 _ rfl; (with_reducible repeat (first | refine blk_drewN ?_ _ | refine blk_drew ?_ | refine blk_alloc ?_ _)); refine blk_far ?_ NB202_201.out _; (with_reducible repeat (first | refine blk_drewN ?_ _ | refine blk_drew ?_ | refine blk_alloc ?_ _)); exact BK202.out) hb); have n4_ := Aside0.mk (below_step (by repeat (first | (with_reducible first | exact HB.out | apply below_alloc | apply pw_below_drewN | apply below_drew1 | refine below_set ?_ GE201.out | refine below_set ?_ GE202.out) | exact HB.out)) hb); clear HO209; clear HO212; clear BK201; clear BK202; clear HB; have HO209 := n0_; have HO212 := n1_; have BK201 := n2_; have BK202 := n3_; have HB := n4_; clear n0_ n1_ n2_ n3_ n4_; (try clear hb); (try clear hb2); (try clear hk); (try clear hi); have hcz47_0 : w46.cell? ⟨gb201, 0, none⟩ = some (.string a0_0) := (blk_cell BK201.out 0).trans rfl; have hcz47_1 : w46.cell? ⟨gb201, 1, none⟩ = some (.string a0_1) := (blk_cell BK201.out 1).trans rfl; have hcz47_2 : w46.cell? ⟨gb201, 2, none⟩ = some (.slice Ao39 t207.length co39) := (blk_cell BK201.out 2).trans rfl; have hfz47_0 := blk_frozen BK201.out 0; have hfz47_1 := blk_frozen BK201.out 1; have hfz47_2 := blk_frozen BK201.out 2) | ((with_reducible refine gate_callee (f := 9) rfl ?_); refine goesL_ (some 42) rfl rfl Tryd.func9 (by kernel_rfl) rfl #[.agg #[.string a0_0, .string a0_1, .slice Ao39 t207.length co39], .agg #[.string a0_0, .string a0_1, .slice Ao39 t207.length co39]] rfl (by (try simp only [List.map_toArray, List.map_cons, List.map_nil]); first | done | rfl | (simp only [List.length_drop, List.length_take]; rfl)) ?_; (with_reducible refine (impl_NeedEqual.calls kj17 a0_0 a0_1 _ _ t207 a0_0 a0_1 _ _ t207 t215 t216 _ ?side1 ?side2 ?side3 ?side4 A34.out).mono ?_); (case side1 => repeat (first | exact (Kd.R_reads' HO209.out).2.2 | (with_reducible refine Kd.C_alloc ?_ _) | (with_reducible refine Kd.C_drewN ?_ _) | (with_reducible refine Kd.C_drew ?_))); (case side2 => exact (Kd.R_reads' HO209.out).2.1); (case side3 => repeat (first | exact (Kd.R_reads' HO209.out).2.2 | (with_reducible refine Kd.C_alloc ?_ _) | (with_reducible refine Kd.C_drewN ?_ _) | (with_reducible refine Kd.C_drew ?_))); (case side4 => exact (Kd.R_reads' HO209.out).2.1); rintro e w48 ⟨rfl, hb⟩; refine ⟨_, rfl, ?_⟩; have n0_ := Aside0.mk (Kd.R_below (by (with_reducible repeat (first | apply Kd.R_alloc | apply Kd.R_drewN | apply Kd.R_drew)); exact HO209.out) hb); have n1_ := Aside0.mk (Kd.R_below (by (with_reducible repeat (first | apply Kd.R_alloc | apply Kd.R_drewN | apply Kd.R_drew)); exact HO212.out) hb); have n2_ := Aside0.mk (blk_below (g := gb201) (o := .cells #[.string a0_0, .string a0_1, .slice Ao39 t207.length co39] 24 (0, 0)) (by (with_reducible repeat (first | refine blk_drewN ?_ _ | refine blk_drew ?_ | refine blk_alloc ?_ _)); exact BK201.out) hb); have n3_ := Aside0.mk (blk_below (g := gb202) (o := .cells #[.string a1_0, .string a1_1, .slice Ao41 t210.length co41] 24 (0, 0)) (by (with_reducible repeat (first | refine blk_drewN ?_ _ | refine blk_drew ?_ | refine blk_alloc ?_ _)); exact BK202.out) hb); have n4_ := Aside0.mk (below_step (by repeat (first | (with_reducible first | exact HB.out | apply below_alloc | apply pw_below_drewN | apply below_drew1 | refine below_set ?_ GE201.out | refine below_set ?_ GE202.out) | exact HB.out)) hb); clear HO209; clear HO212; clear BK201; clear BK202; clear HB; have HO209 := n0_; have HO212 := n1_; have BK201 := n2_; have BK202 := n3_; have HB := n4_; clear n0_ n1_ n2_ n3_ n4_; (try clear hb); (try clear hb2); (try clear hk); (try clear hi)))
                go_ret
                exact ⟨by first | rfl | (simp [errW_none, errW_some] <;> rfl) | (simp [*, errW_none, errW_some] <;> rfl) | (exfalso; contradiction), by repeat (first | (with_reducible first | exact HB.out | apply below_alloc | apply pw_below_drewN | apply below_drew1 | refine below_set ?_ GE201.out | refine below_set ?_ GE202.out) | exact HB.out)⟩
              · replace c35 := Bool.eq_false_iff.mpr c35
                subst c35
                have H1 : (if t216 = true then (some false) else (if t215 = true then ((spec_NeedSame.f kj17 a0_0 a0_1 t207 a1_0 a1_1 t210).bind fun t217 => (some (t213 == t217))) else (some false))) = some r := by rw [if_neg (show ¬ (false = true) by decide)] at H; exact H
                clear H
                have H := H1
                clear H1
                by_cases c49 : t216 = true
                · subst c49
                  have H1 : (some false) = some r := by rw [if_pos rfl] at H; exact H
                  clear H
                  have H := H1
                  clear H1
                  obtain rfl := Option.some.inj H
                  try go_wp2
                  have n0_ := Aside0.mk (blk_drew BK201.out)
                  have n1_ := Aside0.mk (blk_drew BK202.out)
                  have n2_ := Aside0.mk (below_drew1 HB.out)
                  clear BK201
                  clear BK202
                  clear HB
                  have BK201 := n0_
                  have BK202 := n1_
                  have HB := n2_
                  clear n0_ n1_ n2_
                  refine start_ (n := 10) (S := fun w' => w'.cell? ⟨gb201, 0, none⟩ = some (.string a0_0) ∧ w'.cell? ⟨gb201, 1, none⟩ = some (.string a0_1) ∧ w'.cell? ⟨gb201, 2, none⟩ = some (.slice A0_2 l0_2.length c0_2) ∧ w'.cell? ⟨gb202, 0, none⟩ = some (.string a1_0) ∧ w'.cell? ⟨gb202, 1, none⟩ = some (.string a1_1) ∧ w'.cell? ⟨gb202, 2, none⟩ = some (.slice A1_2 l1_2.length c1_2)) (ds := [7, 9]) #[false, false, false, false, false, false, false, false, false, false] (by kernel_rfl) rfl rfl ⟨(blk_cell BK201.out 0).trans rfl, (blk_cell BK201.out 1).trans rfl, (blk_cell BK201.out 2).trans rfl, (blk_cell BK202.out 0).trans rfl, (blk_cell BK202.out 1).trans rfl, (blk_cell BK202.out 2).trans rfl⟩ (fun hHeld => ?_); refine with_tabW laws_FnNeedEqual.tab5 laws_FnNeedEqual.bits5 (fun HT_ HW_ => ?_)
                  generalize wc.drew = w50 at BK201 BK202 HB hHeld ⊢
                  refine pure_ (i := 0) (N := some 25) (v := ?_) (a' := ?_) #[true, false, false, false, false, false, false, false, false, false] rfl rfl (any_of HT_.out (by kernel_rfl)) (fun _ _ _ h => h) (Or.inl ⟨by rfl, ?_⟩) ?_ ?_
                  rotate_left
                  · intro w'
                    go_simp
                    with_reducible rfl
                  rotate_left
                  · simp only [Act.put, List.setIfInBounds_toArray, List.set_cons_zero, List.set_cons_succ, i64_w, i32_w]
                    rfl
                  refine pure_ (i := 3) (N := some 28) (v := ?_) (a' := ?_) #[true, false, false, true, false, false, false, false, false, false] rfl rfl (any_of HT_.out (by kernel_rfl)) (fun _ _ _ h => h) (Or.inl ⟨by rfl, ?_⟩) ?_ ?_
                  rotate_left
                  · intro w'
                    go_simp
                    with_reducible rfl
                  rotate_left
                  · simp only [Act.put, List.setIfInBounds_toArray, List.set_cons_zero, List.set_cons_succ, i64_w, i32_w]
                    rfl
                  refine take_ (i := 1) (N := some 26) (v := ?_) (a' := ?_) #[true, true, false, true, false, false, false, false, false, false] rfl rfl (take_ofW HT_.out HW_.out (by kernel_rfl)) (fun _ _ _ h => h) (Or.inl ⟨by rfl, ?_⟩) hHeld ?_ ?_
                  rotate_left
                  · rintro w' ⟨s0, s1, s2, s3, s4, s5⟩
                    go_simp
                    with_reducible rfl
                  rotate_left
                  · simp only [Act.put, List.setIfInBounds_toArray, List.set_cons_zero, List.set_cons_succ, i64_w, i32_w]
                    rfl
                  refine take_ (i := 4) (N := some 29) (v := ?_) (a' := ?_) #[true, true, false, true, true, false, false, false, false, false] rfl rfl (take_ofW HT_.out HW_.out (by kernel_rfl)) (fun _ _ _ h => h) (Or.inl ⟨by rfl, ?_⟩) hHeld ?_ ?_
                  rotate_left
                  · rintro w' ⟨s0, s1, s2, s3, s4, s5⟩
                    go_simp
                    with_reducible rfl
                  rotate_left
                  · simp only [Act.put, List.setIfInBounds_toArray, List.set_cons_zero, List.set_cons_succ, i64_w, i32_w]
                    rfl
                  refine one_ (i := 2) (N := some 27) #[true, true, true, true, true, false, false, false, false, false] rfl rfl (one_of HT_.out (by kernel_rfl)) (by decide) (fun K hK => ?_)
                  refine goes_ Tryd.func8 (by kernel_rfl) rfl #[.slice A0_2 l0_2.length c0_2] (by rfl) rfl rfl (by (try simp only [List.map_toArray, List.map_cons, List.map_nil]); first | done | rfl | (simp only [List.length_drop, List.length_take]; rfl)) ?_
                  with_reducible refine (spec_Keys_string.calls kj17 _ _ l0_2 t207 _ ?side1 ?side2 A31.out).mono ?_
                  (case side1 => repeat (first | exact (Kd.C_below HR0_2.out HB.out) | (with_reducible refine Kd.C_alloc ?_ _) | (with_reducible refine Kd.C_drewN ?_ _) | (with_reducible refine Kd.C_drew ?_)))
                  (case side2 => exact HC0_2.out)
                  rintro e w51 ⟨v208, rfl, ho0, hb⟩
                  refine ⟨_, rfl, ?_⟩
                  have n0_ := Aside0.mk (Kd.R_lower ho0 (below_size (by repeat (first | (with_reducible first | exact HB.out | apply below_alloc | apply pw_below_drewN | apply below_drew1 | refine below_set ?_ GE201.out | refine below_set ?_ GE202.out) | exact HB.out))))
                  have n1_ := Aside0.mk (blk_below (g := gb201) (o := .cells #[.string a0_0, .string a0_1, .slice A0_2 l0_2.length c0_2] 24 (0, 0)) (by (with_reducible repeat (first | refine blk_drewN ?_ _ | refine blk_drew ?_ | refine blk_alloc ?_ _)); exact BK201.out) hb)
                  have n2_ := Aside0.mk (blk_below (g := gb202) (o := .cells #[.string a1_0, .string a1_1, .slice A1_2 l1_2.length c1_2] 24 (0, 0)) (by (with_reducible repeat (first | refine blk_drewN ?_ _ | refine blk_drew ?_ | refine blk_alloc ?_ _)); exact BK202.out) hb)
                  have n3_ := Aside0.mk (below_step (by repeat (first | (with_reducible first | exact HB.out | apply below_alloc | apply pw_below_drewN | apply below_drew1 | refine below_set ?_ GE201.out | refine below_set ?_ GE202.out) | exact HB.out)) hb)
                  clear BK201
                  clear BK202
                  clear HB
                  have HO209 := n0_
                  have BK201 := n1_
                  have BK202 := n2_
                  have HB := n3_
                  clear n0_ n1_ n2_ n3_
                  (try clear hb)
                  (try clear hb2)
                  (try clear hk)
                  (try clear hi)
                  (try clear ho0)
                  refine hK.out _ _ ⟨(blk_cell BK201.out 0).trans rfl, (blk_cell BK201.out 1).trans rfl, (blk_cell BK201.out 2).trans rfl, (blk_cell BK202.out 0).trans rfl, (blk_cell BK202.out 1).trans rfl, (blk_cell BK202.out 2).trans rfl⟩ (fun hHeld => ?_)
                  clear hK K
                  refine norm_ (a' := ?_) ?_ ?_
                  rotate_left
                  · show Act.put _ (some 27) _ = _
                    simp only [Act.put, List.setIfInBounds_toArray, List.set_cons_zero, List.set_cons_succ, i64_w, i32_w]
                    rfl
                  refine pure_ (i := 6) (N := some 31) (v := ?_) (a' := ?_) #[true, true, true, true, true, false, true, false, false, false] rfl rfl (any_of HT_.out (by kernel_rfl)) (fun _ _ _ h => h) (Or.inl ⟨by rfl, ?_⟩) ?_ ?_
                  rotate_left
                  · intro w'
                    go_simp
                    with_reducible rfl
                  rotate_left
                  · simp only [Act.put, List.setIfInBounds_toArray, List.set_cons_zero, List.set_cons_succ, i64_w, i32_w]
                    rfl
                  refine one_ (i := 5) (N := some 30) #[true, true, true, true, true, true, true, false, false, false] rfl rfl (one_of HT_.out (by kernel_rfl)) (by decide) (fun K hK => ?_)
                  refine goes_ Tryd.func8 (by kernel_rfl) rfl #[.slice A1_2 l1_2.length c1_2] (by rfl) rfl rfl (by (try simp only [List.map_toArray, List.map_cons, List.map_nil]); first | done | rfl | (simp only [List.length_drop, List.length_take]; rfl)) ?_
                  with_reducible refine (spec_Keys_string.calls kj17 _ _ l1_2 t210 _ ?side1 ?side2 A32.out).mono ?_
                  (case side1 => repeat (first | exact (Kd.C_below HR1_2.out HB.out) | (with_reducible refine Kd.C_alloc ?_ _) | (with_reducible refine Kd.C_drewN ?_ _) | (with_reducible refine Kd.C_drew ?_)))
                  (case side2 => exact HC1_2.out)
                  rintro e w52 ⟨v211, rfl, ho0, hb⟩
                  refine ⟨_, rfl, ?_⟩
                  have n0_ := Aside0.mk (Kd.R_elder' (by (with_reducible repeat (first | apply Kd.R_alloc | apply Kd.R_drewN | apply Kd.R_drew)); exact HO209.out) (Kd.R_base ho0) hb)
                  have n1_ := Aside0.mk (Kd.R_lower (Kd.R_new' ho0 (Kd.R_lt (by (with_reducible repeat (first | apply Kd.R_alloc | apply Kd.R_drewN | apply Kd.R_drew)); exact HO209.out))) (below_size (by repeat (first | (with_reducible first | exact HB.out | apply below_alloc | apply pw_below_drewN | apply below_drew1 | refine below_set ?_ GE201.out | refine below_set ?_ GE202.out) | exact HB.out))))
                  have n2_ := Aside0.mk (blk_below (g := gb201) (o := .cells #[.string a0_0, .string a0_1, .slice A0_2 l0_2.length c0_2] 24 (0, 0)) (by (with_reducible repeat (first | refine blk_drewN ?_ _ | refine blk_drew ?_ | refine blk_alloc ?_ _)); exact BK201.out) hb)
                  have n3_ := Aside0.mk (blk_below (g := gb202) (o := .cells #[.string a1_0, .string a1_1, .slice A1_2 l1_2.length c1_2] 24 (0, 0)) (by (with_reducible repeat (first | refine blk_drewN ?_ _ | refine blk_drew ?_ | refine blk_alloc ?_ _)); exact BK202.out) hb)
                  have n4_ := Aside0.mk (below_step (by repeat (first | (with_reducible first | exact HB.out | apply below_alloc | apply pw_below_drewN | apply below_drew1 | refine below_set ?_ GE201.out | refine below_set ?_ GE202.out) | exact HB.out)) hb)
                  clear HO209
                  clear BK201
                  clear BK202
                  clear HB
                  have HO209 := n0_
                  have HO212 := n1_
                  have BK201 := n2_
                  have BK202 := n3_
                  have HB := n4_
                  clear n0_ n1_ n2_ n3_ n4_
                  (try clear hb)
                  (try clear hb2)
                  (try clear hk)
                  (try clear hi)
                  (try clear ho0)
                  obtain ⟨Ao53, co53, eo53⟩ := Kd.R_slice HO209.out
                  (first | subst eo53 | (injection eo53 with f1_ f2_ f3_; have f4_ := f1_.symm; have f5_ := f3_.symm; clear f1_ f2_ f3_; subst f4_; subst f5_))
                  obtain ⟨Ao55, co55, eo55⟩ := Kd.R_slice HO212.out
                  (first | subst eo55 | (injection eo55 with f1_ f2_ f3_; have f4_ := f1_.symm; have f5_ := f3_.symm; clear f1_ f2_ f3_; subst f4_; subst f5_))
                  refine hK.out _ _ ⟨(blk_cell BK201.out 0).trans rfl, (blk_cell BK201.out 1).trans rfl, (blk_cell BK201.out 2).trans rfl, (blk_cell BK202.out 0).trans rfl, (blk_cell BK202.out 1).trans rfl, (blk_cell BK202.out 2).trans rfl⟩ (fun hHeld => ?_)
                  clear hK K
                  refine norm_ (a' := ?_) ?_ ?_
                  rotate_left
                  · show Act.put _ (some 30) _ = _
                    simp only [Act.put, List.setIfInBounds_toArray, List.set_cons_zero, List.set_cons_succ, i64_w, i32_w]
                    rfl
                  refine last_ (i := 7) (N := none) #[true, true, true, true, true, true, true, true, false, false] rfl rfl (one_of HT_.out (by kernel_rfl)) (by decide) (fun K hK => ?_)
                  have hs54 : w52.cell? ⟨gb201, 2, none⟩ = some (.slice A0_2 l0_2.length c0_2) := (blk_cell BK201.out 2).trans rfl
                  have hfs54 := blk_frozen BK201.out 2
                  have hns54_1 := NB202_201.out
                  have hms54_1 := NB201_202.out
                  refine skip_ (w1 := ?_) (by rfl) rfl ?_ ?_
                  rotate_left
                  · go_simp
                    rfl
                  refine hK.out _ _ ?_
                  clear hK K
                  refine pure_ (i := 8) (N := some 32) (v := ?_) (a' := ?_) #[true, true, true, true, true, true, true, true, true, false] rfl rfl (any_of HT_.out (by kernel_rfl)) (fun _ _ _ h => h) (Or.inl ⟨by rfl, ?_⟩) ?_ ?_
                  rotate_left
                  · intro w'
                    go_simp
                    with_reducible rfl
                  rotate_left
                  · simp only [Act.put, List.setIfInBounds_toArray, List.set_cons_zero, List.set_cons_succ, i64_w, i32_w]
                    rfl
                  refine last_ (i := 9) (N := none) #[true, true, true, true, true, true, true, true, true, true] rfl rfl (one_of HT_.out (by kernel_rfl)) (by decide) (fun K hK => ?_)
                  have hs56 : w52.cell? ⟨gb202, 2, none⟩ = some (.slice A1_2 l1_2.length c1_2) := (blk_cell BK202.out 2).trans rfl
                  have hfs56 := blk_frozen BK202.out 2
                  have hns56_0 := NB201_202.out
                  have hms56_0 := NB202_201.out
                  refine skip_ (w1 := ?_) (by rfl) rfl ?_ ?_
                  rotate_left
                  · go_simp
                    rfl
                  refine hK.out _ _ ?_
                  clear hK K
                  refine done_ (done_of HT_.out (by kernel_rfl)) ?_
                  have hnb57 := NB201_202.out
                  have hnc57 := NB202_201.out
                  have hcz58_0 : w52.cell? ⟨gb201, 0, none⟩ = some (.string a0_0) := (blk_cell BK201.out 0).trans rfl
                  have hcz58_1 : w52.cell? ⟨gb201, 1, none⟩ = some (.string a0_1) := (blk_cell BK201.out 1).trans rfl
                  have hcz58_2 : w52.cell? ⟨gb201, 2, none⟩ = some (.slice A0_2 l0_2.length c0_2) := (blk_cell BK201.out 2).trans rfl
                  have hfz58_0 := blk_frozen BK201.out 0
                  have hfz58_1 := blk_frozen BK201.out 1
                  have hfz58_2 := blk_frozen BK201.out 2
                  have hcz59_0 : w52.cell? ⟨gb202, 0, none⟩ = some (.string a1_0) := (blk_cell BK202.out 0).trans rfl
                  have hcz59_1 : w52.cell? ⟨gb202, 1, none⟩ = some (.string a1_1) := (blk_cell BK202.out 1).trans rfl
                  have hcz59_2 : w52.cell? ⟨gb202, 2, none⟩ = some (.slice A1_2 l1_2.length c1_2) := (blk_cell BK202.out 2).trans rfl
                  have hfz59_0 := blk_frozen BK202.out 0
                  have hfz59_1 := blk_frozen BK202.out 1
                  have hfz59_2 := blk_frozen BK202.out 2
                  try go_wp2_with (first | ((with_reducible refine gate_callee (f := 9) rfl ?_); refine goesL_ (some 36) rfl rfl Tryd.func9 (by kernel_rfl) rfl #[.agg #[.string a0_0, .string a0_1, .slice Ao53 t207.length co53], .agg #[.string a1_0, .string a1_1, .slice Ao55 t210.length co55]] rfl (by (try simp only [List.map_toArray, List.map_cons, List.map_nil]); first | done | rfl | (simp only [List.length_drop, List.length_take]; rfl)) ?_; (with_reducible refine (impl_NeedEqual.calls kj17 a0_0 a0_1 _ _ t207 a1_0 a1_1 _ _ t210 t213 false _ ?side1 ?side2 ?side3 ?side4 A33.out).mono ?_); (case side1 => refine (Kd.R_reads' (e := 9) (base := w.heap.size) (ok := fun k_ => (True ∧ some k_ ≠ (.slice Ao55 t210.length co55 : Value).ownBlock)) (n := t207.length) (c := co53) ?_).2.2; exact (by (with_reducible repeat (first | apply Kd.R_alloc | apply Kd.R_drewN | apply Kd.R_drew)); exact (Kd.R_mono (Kd.R_mono (Kd.R_far (p := ⟨gb202, 2, none⟩) (Kd.R_far (p := ⟨gb201, 2, none⟩) (Kd.R_types (Kd.R_types HO209.out BK201.out (by decide)) BK202.out (by decide)) (fun _ hk => hk.1.2) (.slice Ao53 t207.length co53)) (fun _ hk => hk.2) (.slice Ao55 t210.length co55)) (fun _ h_ => h_.1)) (fun _ h_ => h_.1)))); (case side2 => exact (Kd.R_reads' HO209.out).2.1); (case side3 => refine (Kd.R_reads' (e := 9) (base := w.heap.size) (ok := fun k_ => (True ∧ some k_ ≠ (.slice Ao53 t207.length co53 : Value).ownBlock)) (n := t210.length) (c := co55) ?_).2.2; exact (by (with_reducible repeat (first | apply Kd.R_alloc | apply Kd.R_drewN | apply Kd.R_drew)); exact (Kd.R_mono (Kd.R_mono (Kd.R_far (p := ⟨gb202, 2, none⟩) (Kd.R_far (p := ⟨gb201, 2, none⟩) (Kd.R_types (Kd.R_types HO212.out BK201.out (by decide)) BK202.out (by decide)) (fun _ hk => hk.1.2) (.slice Ao53 t207.length co53)) (fun _ hk => hk.2) (.slice Ao55 t210.length co55)) (fun _ h_ => h_.1)) (fun _ h_ => h_.1)))); (case side4 => exact (Kd.R_reads' HO212.out).2.1); rintro e w60 ⟨rfl, hb⟩; refine ⟨_, rfl, ?_⟩; have n0_ := Aside0.mk (Kd.R_below (by (with_reducible repeat (first | apply Kd.R_alloc | apply Kd.R_drewN | apply Kd.R_drew)); exact (Kd.R_mono (Kd.R_mono (Kd.R_far (p := ⟨gb202, 2, none⟩) (Kd.R_far (p := ⟨gb201, 2, none⟩) (Kd.R_types (Kd.R_types HO209.out BK201.out (by decide)) BK202.out (by decide)) (fun _ hk => hk.1.2) (.slice Ao53 t207.length co53)) (fun _ hk => hk.2) (.slice Ao55 t210.length co55)) (fun _ h_ => h_.1)) (fun _ h_ => h_.1))) hb); have n1_ := Aside0.mk (Kd.R_below (by (with_reducible repeat (first | apply Kd.R_alloc | apply Kd.R_drewN | apply Kd.R_drew)); exact (Kd.R_mono (Kd.R_mono (Kd.R_far (p := ⟨gb202, 2, none⟩) (Kd.R_far (p := ⟨gb201, 2, none⟩) (Kd.R_types (Kd.R_types HO212.out BK201.out (by decide)) BK202.out (by decide)) (fun _ hk => hk.1.2) (.slice Ao53 t207.length co53)) (fun _ hk => hk.2) (.slice Ao55 t210.length co55)) (fun _ h_ => h_.1)) (fun _ h_ => h_.1))) hb); have n2_ := Aside0.mk (blk_below (g := gb201) (o := .cells #[.string a0_0, .string a0_1, .slice Ao53 t207.length co53] 24 (0, 0)) (by (with_reducible repeat (first | refine blk_drewN ?_ _ | refine blk_drew ?_ | refine blk_alloc ?_ _)); refine blk_far ?_ NB201_202.out _; (with_reducible repeat (first | refine blk_drewN ?_ _ | refine blk_drew ?_ | refine blk_alloc ?_ _)); refine blk_put (cs := #[.string a0_0, .string a0_1, .slice A0_2 l0_2.length c0_2]) ?_ 2 _ rfl; (with_reducible repeat (first | refine blk_drewN ?_ _ | refine blk_drew ?_ | refine blk_alloc ?_ _)); exact BK201.out) hb); have n3_ := Aside0.mk (blk_below (g := gb202) (o := .cells #[.string a1_0, .string a1_1, .slice Ao55 t210.length co55] 24 (0, 0)) (by (with_reducible repeat (first | refine blk_drewN ?_ _ | refine blk_drew ?_ | refine blk_alloc ?_ _)); refine blk_put (cs := #[.string a1_0, .string a1_1, .slice A1_2 l1_2.length c1_2]) ?_ 2 _ rfl; (with_reducible repeat (first | refine blk_drewN ?_ _ | refine blk_drew ?_ | refine blk_alloc ?_ _)); refine blk_far ?_ NB202_201.out _; (with_reducible repeat (first | refine blk_drewN ?_ _ | refine blk_drew ?_ | refine blk_alloc ?_ _)); exact BK202.out) hb); have n4_ := Aside0.mk (below_step (by repeat (first | (with_reducible first | exact HB.out | apply below_alloc | apply pw_below_drewN | apply below_drew1 | refine below_set ?_ GE201.out | refine below_set ?_ GE202.out) | exact HB.out)) hb); clear HO209; clear HO212; clear BK201; clear BK202; clear HB; have HO209 := n0_; have HO212 := n1_; have BK201 := n2_; have BK202 := n3_; have HB := n4_; clear n0_ n1_ n2_ n3_ n4_; (try clear hb); (try clear hb2); (try clear hk); (try clear hi); have hcz61_0 : w60.cell? ⟨gb201, 0, none⟩ = some (.string a0_0) := (blk_cell BK201.out 0).trans rfl; have hcz61_1 : w60.cell? ⟨gb201, 1, none⟩ = some (.string a0_1) := (blk_cell BK201.out 1).trans rfl; have hcz61_2 : w60.cell? ⟨gb201, 2, none⟩ = some (.slice Ao53 t207.length co53) := (blk_cell BK201.out 2).trans rfl; have hfz61_0 := blk_frozen BK201.out 0; have hfz61_1 := blk_frozen BK201.out 1; have hfz61_2 := blk_frozen BK201.out 2) | ((with_reducible refine gate_callee (f := 9) rfl ?_); refine goesL_ (some 42) rfl rfl Tryd.func9 (by kernel_rfl) rfl #[.agg #[.string a0_0, .string a0_1, .slice Ao53 t207.length co53], .agg #[.string a0_0, .string a0_1, .slice Ao53 t207.length co53]] rfl (by (try simp only [List.map_toArray, List.map_cons, List.map_nil]); first | done | rfl | (simp only [List.length_drop, List.length_take]; rfl)) ?_; (with_reducible refine (impl_NeedEqual.calls kj17 a0_0 a0_1 _ _ t207 a0_0 a0_1 _ _ t207 t215 true _ ?side1 ?side2 ?side3 ?side4 A34.out).mono ?_); (case side1 => repeat (first | exact (Kd.R_reads' HO209.out).2.2 | (with_reducible refine Kd.C_alloc ?_ _) | (with_reducible refine Kd.C_drewN ?_ _) | (with_reducible refine Kd.C_drew ?_))); (case side2 => exact (Kd.R_reads' HO209.out).2.1); (case side3 => repeat (first | exact (Kd.R_reads' HO209.out).2.2 | (with_reducible refine Kd.C_alloc ?_ _) | (with_reducible refine Kd.C_drewN ?_ _) | (with_reducible refine Kd.C_drew ?_))); (case side4 => exact (Kd.R_reads' HO209.out).2.1); rintro e w62 ⟨rfl, hb⟩; refine ⟨_, rfl, ?_⟩; have n0_ := Aside0.mk (Kd.R_below (by (with_reducible repeat (first | apply Kd.R_alloc | apply Kd.R_drewN | apply Kd.R_drew)); exact HO209.out) hb); have n1_ := Aside0.mk (Kd.R_below (by (with_reducible repeat (first | apply Kd.R_alloc | apply Kd.R_drewN | apply Kd.R_drew)); exact HO212.out) hb); have n2_ := Aside0.mk (blk_below (g := gb201) (o := .cells #[.string a0_0, .string a0_1, .slice Ao53 t207.length co53] 24 (0, 0)) (by (with_reducible repeat (first | refine blk_drewN ?_ _ | refine blk_drew ?_ | refine blk_alloc ?_ _)); exact BK201.out) hb); have n3_ := Aside0.mk (blk_below (g := gb202) (o := .cells #[.string a1_0, .string a1_1, .slice Ao55 t210.length co55] 24 (0, 0)) (by (with_reducible repeat (first | refine blk_drewN ?_ _ | refine blk_drew ?_ | refine blk_alloc ?_ _)); exact BK202.out) hb); have n4_ := Aside0.mk (below_step (by repeat (first | (with_reducible first | exact HB.out | apply below_alloc | apply pw_below_drewN | apply below_drew1 | refine below_set ?_ GE201.out | refine below_set ?_ GE202.out) | exact HB.out)) hb); clear HO209; clear HO212; clear BK201; clear BK202; clear HB; have HO209 := n0_; have HO212 := n1_; have BK201 := n2_; have BK202 := n3_; have HB := n4_; clear n0_ n1_ n2_ n3_ n4_; (try clear hb); (try clear hb2); (try clear hk); (try clear hi)))
                  go_ret
                  exact ⟨by first | rfl | (simp [errW_none, errW_some] <;> rfl) | (simp [*, errW_none, errW_some] <;> rfl) | (exfalso; contradiction), by repeat (first | (with_reducible first | exact HB.out | apply below_alloc | apply pw_below_drewN | apply below_drew1 | refine below_set ?_ GE201.out | refine below_set ?_ GE202.out) | exact HB.out)⟩
                · replace c49 := Bool.eq_false_iff.mpr c49
                  subst c49
                  have H1 : (if t215 = true then ((spec_NeedSame.f kj17 a0_0 a0_1 t207 a1_0 a1_1 t210).bind fun t217 => (some (t213 == t217))) else (some false)) = some r := by rw [if_neg (show ¬ (false = true) by decide)] at H; exact H
                  clear H
                  have H := H1
                  clear H1
                  by_cases c63 : t215 = true
                  · subst c63
                    have H1 : ((spec_NeedSame.f kj17 a0_0 a0_1 t207 a1_0 a1_1 t210).bind fun t217 => (some (t213 == t217))) = some r := by rw [if_pos rfl] at H; exact H
                    clear H
                    have H := H1
                    clear H1
                    replace H := Option.bind_eq_some_iff.mp H
                    obtain ⟨t217, A640, H⟩ := H
                    replace H : (some (t213 == t217)) = some r := H
                    have A64 := Aside0.mk A640
                    clear A640
                    obtain rfl := Option.some.inj H
                    try go_wp2
                    have n0_ := Aside0.mk (blk_drew BK201.out)
                    have n1_ := Aside0.mk (blk_drew BK202.out)
                    have n2_ := Aside0.mk (below_drew1 HB.out)
                    clear BK201
                    clear BK202
                    clear HB
                    have BK201 := n0_
                    have BK202 := n1_
                    have HB := n2_
                    clear n0_ n1_ n2_
                    refine start_ (n := 10) (S := fun w' => w'.cell? ⟨gb201, 0, none⟩ = some (.string a0_0) ∧ w'.cell? ⟨gb201, 1, none⟩ = some (.string a0_1) ∧ w'.cell? ⟨gb201, 2, none⟩ = some (.slice A0_2 l0_2.length c0_2) ∧ w'.cell? ⟨gb202, 0, none⟩ = some (.string a1_0) ∧ w'.cell? ⟨gb202, 1, none⟩ = some (.string a1_1) ∧ w'.cell? ⟨gb202, 2, none⟩ = some (.slice A1_2 l1_2.length c1_2)) (ds := [7, 9]) #[false, false, false, false, false, false, false, false, false, false] (by kernel_rfl) rfl rfl ⟨(blk_cell BK201.out 0).trans rfl, (blk_cell BK201.out 1).trans rfl, (blk_cell BK201.out 2).trans rfl, (blk_cell BK202.out 0).trans rfl, (blk_cell BK202.out 1).trans rfl, (blk_cell BK202.out 2).trans rfl⟩ (fun hHeld => ?_); refine with_tabW laws_FnNeedEqual.tab5 laws_FnNeedEqual.bits5 (fun HT_ HW_ => ?_)
                    generalize wc.drew = w65 at BK201 BK202 HB hHeld ⊢
                    refine pure_ (i := 0) (N := some 25) (v := ?_) (a' := ?_) #[true, false, false, false, false, false, false, false, false, false] rfl rfl (any_of HT_.out (by kernel_rfl)) (fun _ _ _ h => h) (Or.inl ⟨by rfl, ?_⟩) ?_ ?_
                    rotate_left
                    · intro w'
                      go_simp
                      with_reducible rfl
                    rotate_left
                    · simp only [Act.put, List.setIfInBounds_toArray, List.set_cons_zero, List.set_cons_succ, i64_w, i32_w]
                      rfl
                    refine pure_ (i := 3) (N := some 28) (v := ?_) (a' := ?_) #[true, false, false, true, false, false, false, false, false, false] rfl rfl (any_of HT_.out (by kernel_rfl)) (fun _ _ _ h => h) (Or.inl ⟨by rfl, ?_⟩) ?_ ?_
                    rotate_left
                    · intro w'
                      go_simp
                      with_reducible rfl
                    rotate_left
                    · simp only [Act.put, List.setIfInBounds_toArray, List.set_cons_zero, List.set_cons_succ, i64_w, i32_w]
                      rfl
                    refine take_ (i := 1) (N := some 26) (v := ?_) (a' := ?_) #[true, true, false, true, false, false, false, false, false, false] rfl rfl (take_ofW HT_.out HW_.out (by kernel_rfl)) (fun _ _ _ h => h) (Or.inl ⟨by rfl, ?_⟩) hHeld ?_ ?_
                    rotate_left
                    · rintro w' ⟨s0, s1, s2, s3, s4, s5⟩
                      go_simp
                      with_reducible rfl
                    rotate_left
                    · simp only [Act.put, List.setIfInBounds_toArray, List.set_cons_zero, List.set_cons_succ, i64_w, i32_w]
                      rfl
                    refine take_ (i := 4) (N := some 29) (v := ?_) (a' := ?_) #[true, true, false, true, true, false, false, false, false, false] rfl rfl (take_ofW HT_.out HW_.out (by kernel_rfl)) (fun _ _ _ h => h) (Or.inl ⟨by rfl, ?_⟩) hHeld ?_ ?_
                    rotate_left
                    · rintro w' ⟨s0, s1, s2, s3, s4, s5⟩
                      go_simp
                      with_reducible rfl
                    rotate_left
                    · simp only [Act.put, List.setIfInBounds_toArray, List.set_cons_zero, List.set_cons_succ, i64_w, i32_w]
                      rfl
                    refine one_ (i := 2) (N := some 27) #[true, true, true, true, true, false, false, false, false, false] rfl rfl (one_of HT_.out (by kernel_rfl)) (by decide) (fun K hK => ?_)
                    refine goes_ Tryd.func8 (by kernel_rfl) rfl #[.slice A0_2 l0_2.length c0_2] (by rfl) rfl rfl (by (try simp only [List.map_toArray, List.map_cons, List.map_nil]); first | done | rfl | (simp only [List.length_drop, List.length_take]; rfl)) ?_
                    with_reducible refine (spec_Keys_string.calls kj17 _ _ l0_2 t207 _ ?side1 ?side2 A31.out).mono ?_
                    (case side1 => repeat (first | exact (Kd.C_below HR0_2.out HB.out) | (with_reducible refine Kd.C_alloc ?_ _) | (with_reducible refine Kd.C_drewN ?_ _) | (with_reducible refine Kd.C_drew ?_)))
                    (case side2 => exact HC0_2.out)
                    rintro e w66 ⟨v208, rfl, ho0, hb⟩
                    refine ⟨_, rfl, ?_⟩
                    have n0_ := Aside0.mk (Kd.R_lower ho0 (below_size (by repeat (first | (with_reducible first | exact HB.out | apply below_alloc | apply pw_below_drewN | apply below_drew1 | refine below_set ?_ GE201.out | refine below_set ?_ GE202.out) | exact HB.out))))
                    have n1_ := Aside0.mk (blk_below (g := gb201) (o := .cells #[.string a0_0, .string a0_1, .slice A0_2 l0_2.length c0_2] 24 (0, 0)) (by (with_reducible repeat (first | refine blk_drewN ?_ _ | refine blk_drew ?_ | refine blk_alloc ?_ _)); exact BK201.out) hb)
                    have n2_ := Aside0.mk (blk_below (g := gb202) (o := .cells #[.string a1_0, .string a1_1, .slice A1_2 l1_2.length c1_2] 24 (0, 0)) (by (with_reducible repeat (first | refine blk_drewN ?_ _ | refine blk_drew ?_ | refine blk_alloc ?_ _)); exact BK202.out) hb)
                    have n3_ := Aside0.mk (below_step (by repeat (first | (with_reducible first | exact HB.out | apply below_alloc | apply pw_below_drewN | apply below_drew1 | refine below_set ?_ GE201.out | refine below_set ?_ GE202.out) | exact HB.out)) hb)
                    clear BK201
                    clear BK202
                    clear HB
                    have HO209 := n0_
                    have BK201 := n1_
                    have BK202 := n2_
                    have HB := n3_
                    clear n0_ n1_ n2_ n3_
                    (try clear hb)
                    (try clear hb2)
                    (try clear hk)
                    (try clear hi)
                    (try clear ho0)
                    refine hK.out _ _ ⟨(blk_cell BK201.out 0).trans rfl, (blk_cell BK201.out 1).trans rfl, (blk_cell BK201.out 2).trans rfl, (blk_cell BK202.out 0).trans rfl, (blk_cell BK202.out 1).trans rfl, (blk_cell BK202.out 2).trans rfl⟩ (fun hHeld => ?_)
                    clear hK K
                    refine norm_ (a' := ?_) ?_ ?_
                    rotate_left
                    · show Act.put _ (some 27) _ = _
                      simp only [Act.put, List.setIfInBounds_toArray, List.set_cons_zero, List.set_cons_succ, i64_w, i32_w]
                      rfl
                    refine pure_ (i := 6) (N := some 31) (v := ?_) (a' := ?_) #[true, true, true, true, true, false, true, false, false, false] rfl rfl (any_of HT_.out (by kernel_rfl)) (fun _ _ _ h => h) (Or.inl ⟨by rfl, ?_⟩) ?_ ?_
                    rotate_left
                    · intro w'
                      go_simp
                      with_reducible rfl
                    rotate_left
                    · simp only [Act.put, List.setIfInBounds_toArray, List.set_cons_zero, List.set_cons_succ, i64_w, i32_w]
                      rfl
                    refine one_ (i := 5) (N := some 30) #[true, true, true, true, true, true, true, false, false, false] rfl rfl (one_of HT_.out (by kernel_rfl)) (by decide) (fun K hK => ?_)
                    refine goes_ Tryd.func8 (by kernel_rfl) rfl #[.slice A1_2 l1_2.length c1_2] (by rfl) rfl rfl (by (try simp only [List.map_toArray, List.map_cons, List.map_nil]); first | done | rfl | (simp only [List.length_drop, List.length_take]; rfl)) ?_
                    with_reducible refine (spec_Keys_string.calls kj17 _ _ l1_2 t210 _ ?side1 ?side2 A32.out).mono ?_
                    (case side1 => repeat (first | exact (Kd.C_below HR1_2.out HB.out) | (with_reducible refine Kd.C_alloc ?_ _) | (with_reducible refine Kd.C_drewN ?_ _) | (with_reducible refine Kd.C_drew ?_)))
                    (case side2 => exact HC1_2.out)
                    rintro e w67 ⟨v211, rfl, ho0, hb⟩
                    refine ⟨_, rfl, ?_⟩
                    have n0_ := Aside0.mk (Kd.R_elder' (by (with_reducible repeat (first | apply Kd.R_alloc | apply Kd.R_drewN | apply Kd.R_drew)); exact HO209.out) (Kd.R_base ho0) hb)
                    have n1_ := Aside0.mk (Kd.R_lower (Kd.R_new' ho0 (Kd.R_lt (by (with_reducible repeat (first | apply Kd.R_alloc | apply Kd.R_drewN | apply Kd.R_drew)); exact HO209.out))) (below_size (by repeat (first | (with_reducible first | exact HB.out | apply below_alloc | apply pw_below_drewN | apply below_drew1 | refine below_set ?_ GE201.out | refine below_set ?_ GE202.out) | exact HB.out))))
                    have n2_ := Aside0.mk (blk_below (g := gb201) (o := .cells #[.string a0_0, .string a0_1, .slice A0_2 l0_2.length c0_2] 24 (0, 0)) (by (with_reducible repeat (first | refine blk_drewN ?_ _ | refine blk_drew ?_ | refine blk_alloc ?_ _)); exact BK201.out) hb)
                    have n3_ := Aside0.mk (blk_below (g := gb202) (o := .cells #[.string a1_0, .string a1_1, .slice A1_2 l1_2.length c1_2] 24 (0, 0)) (by (with_reducible repeat (first | refine blk_drewN ?_ _ | refine blk_drew ?_ | refine blk_alloc ?_ _)); exact BK202.out) hb)
                    have n4_ := Aside0.mk (below_step (by repeat (first | (with_reducible first | exact HB.out | apply below_alloc | apply pw_below_drewN | apply below_drew1 | refine below_set ?_ GE201.out | refine below_set ?_ GE202.out) | exact HB.out)) hb)
                    clear HO209
                    clear BK201
                    clear BK202
                    clear HB
                    have HO209 := n0_
                    have HO212 := n1_
                    have BK201 := n2_
                    have BK202 := n3_
                    have HB := n4_
                    clear n0_ n1_ n2_ n3_ n4_
                    (try clear hb)
                    (try clear hb2)
                    (try clear hk)
                    (try clear hi)
                    (try clear ho0)
                    obtain ⟨Ao68, co68, eo68⟩ := Kd.R_slice HO209.out
                    (first | subst eo68 | (injection eo68 with f1_ f2_ f3_; have f4_ := f1_.symm; have f5_ := f3_.symm; clear f1_ f2_ f3_; subst f4_; subst f5_))
                    obtain ⟨Ao70, co70, eo70⟩ := Kd.R_slice HO212.out
                    (first | subst eo70 | (injection eo70 with f1_ f2_ f3_; have f4_ := f1_.symm; have f5_ := f3_.symm; clear f1_ f2_ f3_; subst f4_; subst f5_))
                    refine hK.out _ _ ⟨(blk_cell BK201.out 0).trans rfl, (blk_cell BK201.out 1).trans rfl, (blk_cell BK201.out 2).trans rfl, (blk_cell BK202.out 0).trans rfl, (blk_cell BK202.out 1).trans rfl, (blk_cell BK202.out 2).trans rfl⟩ (fun hHeld => ?_)
                    clear hK K
                    refine norm_ (a' := ?_) ?_ ?_
                    rotate_left
                    · show Act.put _ (some 30) _ = _
                      simp only [Act.put, List.setIfInBounds_toArray, List.set_cons_zero, List.set_cons_succ, i64_w, i32_w]
                      rfl
                    refine last_ (i := 7) (N := none) #[true, true, true, true, true, true, true, true, false, false] rfl rfl (one_of HT_.out (by kernel_rfl)) (by decide) (fun K hK => ?_)
                    have hs69 : w67.cell? ⟨gb201, 2, none⟩ = some (.slice A0_2 l0_2.length c0_2) := (blk_cell BK201.out 2).trans rfl
                    have hfs69 := blk_frozen BK201.out 2
                    have hns69_1 := NB202_201.out
                    have hms69_1 := NB201_202.out
                    refine skip_ (w1 := ?_) (by rfl) rfl ?_ ?_
                    rotate_left
                    · go_simp
                      rfl
                    refine hK.out _ _ ?_
                    clear hK K
                    refine pure_ (i := 8) (N := some 32) (v := ?_) (a' := ?_) #[true, true, true, true, true, true, true, true, true, false] rfl rfl (any_of HT_.out (by kernel_rfl)) (fun _ _ _ h => h) (Or.inl ⟨by rfl, ?_⟩) ?_ ?_
                    rotate_left
                    · intro w'
                      go_simp
                      with_reducible rfl
                    rotate_left
                    · simp only [Act.put, List.setIfInBounds_toArray, List.set_cons_zero, List.set_cons_succ, i64_w, i32_w]
                      rfl
                    refine last_ (i := 9) (N := none) #[true, true, true, true, true, true, true, true, true, true] rfl rfl (one_of HT_.out (by kernel_rfl)) (by decide) (fun K hK => ?_)
                    have hs71 : w67.cell? ⟨gb202, 2, none⟩ = some (.slice A1_2 l1_2.length c1_2) := (blk_cell BK202.out 2).trans rfl
                    have hfs71 := blk_frozen BK202.out 2
                    have hns71_0 := NB201_202.out
                    have hms71_0 := NB202_201.out
                    refine skip_ (w1 := ?_) (by rfl) rfl ?_ ?_
                    rotate_left
                    · go_simp
                      rfl
                    refine hK.out _ _ ?_
                    clear hK K
                    refine done_ (done_of HT_.out (by kernel_rfl)) ?_
                    have hnb72 := NB201_202.out
                    have hnc72 := NB202_201.out
                    have hcz73_0 : w67.cell? ⟨gb201, 0, none⟩ = some (.string a0_0) := (blk_cell BK201.out 0).trans rfl
                    have hcz73_1 : w67.cell? ⟨gb201, 1, none⟩ = some (.string a0_1) := (blk_cell BK201.out 1).trans rfl
                    have hcz73_2 : w67.cell? ⟨gb201, 2, none⟩ = some (.slice A0_2 l0_2.length c0_2) := (blk_cell BK201.out 2).trans rfl
                    have hfz73_0 := blk_frozen BK201.out 0
                    have hfz73_1 := blk_frozen BK201.out 1
                    have hfz73_2 := blk_frozen BK201.out 2
                    have hcz74_0 : w67.cell? ⟨gb202, 0, none⟩ = some (.string a1_0) := (blk_cell BK202.out 0).trans rfl
                    have hcz74_1 : w67.cell? ⟨gb202, 1, none⟩ = some (.string a1_1) := (blk_cell BK202.out 1).trans rfl
                    have hcz74_2 : w67.cell? ⟨gb202, 2, none⟩ = some (.slice A1_2 l1_2.length c1_2) := (blk_cell BK202.out 2).trans rfl
                    have hfz74_0 := blk_frozen BK202.out 0
                    have hfz74_1 := blk_frozen BK202.out 1
                    have hfz74_2 := blk_frozen BK202.out 2
                    try go_wp2_with (first | ((with_reducible refine gate_callee (f := 9) rfl ?_); refine goesL_ (some 36) rfl rfl Tryd.func9 (by kernel_rfl) rfl #[.agg #[.string a0_0, .string a0_1, .slice Ao68 t207.length co68], .agg #[.string a1_0, .string a1_1, .slice Ao70 t210.length co70]] rfl (by (try simp only [List.map_toArray, List.map_cons, List.map_nil]); first | done | rfl | (simp only [List.length_drop, List.length_take]; rfl)) ?_; (with_reducible refine (impl_NeedEqual.calls kj17 a0_0 a0_1 _ _ t207 a1_0 a1_1 _ _ t210 t213 false _ ?side1 ?side2 ?side3 ?side4 A33.out).mono ?_); (case side1 => refine (Kd.R_reads' (e := 9) (base := w.heap.size) (ok := fun k_ => (True ∧ some k_ ≠ (.slice Ao70 t210.length co70 : Value).ownBlock)) (n := t207.length) (c := co68) ?_).2.2; exact (by (with_reducible repeat (first | apply Kd.R_alloc | apply Kd.R_drewN | apply Kd.R_drew)); exact (Kd.R_mono (Kd.R_mono (Kd.R_far (p := ⟨gb202, 2, none⟩) (Kd.R_far (p := ⟨gb201, 2, none⟩) (Kd.R_types (Kd.R_types HO209.out BK201.out (by decide)) BK202.out (by decide)) (fun _ hk => hk.1.2) (.slice Ao68 t207.length co68)) (fun _ hk => hk.2) (.slice Ao70 t210.length co70)) (fun _ h_ => h_.1)) (fun _ h_ => h_.1)))); (case side2 => exact (Kd.R_reads' HO209.out).2.1); (case side3 => refine (Kd.R_reads' (e := 9) (base := w.heap.size) (ok := fun k_ => (True ∧ some k_ ≠ (.slice Ao68 t207.length co68 : Value).ownBlock)) (n := t210.length) (c := co70) ?_).2.2; exact (by (with_reducible repeat (first | apply Kd.R_alloc | apply Kd.R_drewN | apply Kd.R_drew)); exact (Kd.R_mono (Kd.R_mono (Kd.R_far (p := ⟨gb202, 2, none⟩) (Kd.R_far (p := ⟨gb201, 2, none⟩) (Kd.R_types (Kd.R_types HO212.out BK201.out (by decide)) BK202.out (by decide)) (fun _ hk => hk.1.2) (.slice Ao68 t207.length co68)) (fun _ hk => hk.2) (.slice Ao70 t210.length co70)) (fun _ h_ => h_.1)) (fun _ h_ => h_.1)))); (case side4 => exact (Kd.R_reads' HO212.out).2.1); rintro e w75 ⟨rfl, hb⟩; refine ⟨_, rfl, ?_⟩; have n0_ := Aside0.mk (Kd.R_below (by (with_reducible repeat (first | apply Kd.R_alloc | apply Kd.R_drewN | apply Kd.R_drew)); exact (Kd.R_mono (Kd.R_mono (Kd.R_far (p := ⟨gb202, 2, none⟩) (Kd.R_far (p := ⟨gb201, 2, none⟩) (Kd.R_types (Kd.R_types HO209.out BK201.out (by decide)) BK202.out (by decide)) (fun _ hk => hk.1.2) (.slice Ao68 t207.length co68)) (fun _ hk => hk.2) (.slice Ao70 t210.length co70)) (fun _ h_ => h_.1)) (fun _ h_ => h_.1))) hb); have n1_ := Aside0.mk (Kd.R_below (by (with_reducible repeat (first | apply Kd.R_alloc | apply Kd.R_drewN | apply Kd.R_drew)); exact (Kd.R_mono (Kd.R_mono (Kd.R_far (p := ⟨gb202, 2, none⟩) (Kd.R_far (p := ⟨gb201, 2, none⟩) (Kd.R_types (Kd.R_types HO212.out BK201.out (by decide)) BK202.out (by decide)) (fun _ hk => hk.1.2) (.slice Ao68 t207.length co68)) (fun _ hk => hk.2) (.slice Ao70 t210.length co70)) (fun _ h_ => h_.1)) (fun _ h_ => h_.1))) hb); have n2_ := Aside0.mk (blk_below (g := gb201) (o := .cells #[.string a0_0, .string a0_1, .slice Ao68 t207.length co68] 24 (0, 0)) (by (with_reducible repeat (first | refine blk_drewN ?_ _ | refine blk_drew ?_ | refine blk_alloc ?_ _)); refine blk_far ?_ NB201_202.out _; (with_reducible repeat (first | refine blk_drewN ?_ _ | refine blk_drew ?_ | refine blk_alloc ?_ _)); refine blk_put (cs := #[.string a0_0, .string a0_1, .slice A0_2 l0_2.length c0_2]) ?_ 2 _ rfl; (with_reducible repeat (first | refine blk_drewN ?_ _ | refine blk_drew ?_ | refine blk_alloc ?_ _)); exact BK201.out) hb); have n3_ := Aside0.mk (blk_below (g := gb202) (o := .cells #[.string a1_0, .string a1_1, .slice Ao70 t210.length co70] 24 (0, 0)) (by (with_reducible repeat (first | refine blk_drewN ?_ _ | refine blk_drew ?_ | refine blk_alloc ?_ _)); refine blk_put (cs := #[.string a1_0, .string a1_1, .slice A1_2 l1_2.length c1_2]) ?_ 2 _ rfl; (with_reducible repeat (first | refine blk_drewN ?_ _ | refine blk_drew ?_ | refine blk_alloc ?_ _)); refine blk_far ?_ NB202_201.out _; (with_reducible repeat (first | refine blk_drewN ?_ _ | refine blk_drew ?_ | refine blk_alloc ?_ _)); exact BK202.out) hb); have n4_ := Aside0.mk (below_step (by repeat (first | (with_reducible first | exact HB.out | apply below_alloc | apply pw_below_drewN | apply below_drew1 | refine below_set ?_ GE201.out | refine below_set ?_ GE202.out) | exact HB.out)) hb); clear HO209; clear HO212; clear BK201; clear BK202; clear HB; have HO209 := n0_; have HO212 := n1_; have BK201 := n2_; have BK202 := n3_; have HB := n4_; clear n0_ n1_ n2_ n3_ n4_; (try clear hb); (try clear hb2); (try clear hk); (try clear hi); have hcz76_0 : w75.cell? ⟨gb201, 0, none⟩ = some (.string a0_0) := (blk_cell BK201.out 0).trans rfl; have hcz76_1 : w75.cell? ⟨gb201, 1, none⟩ = some (.string a0_1) := (blk_cell BK201.out 1).trans rfl; have hcz76_2 : w75.cell? ⟨gb201, 2, none⟩ = some (.slice Ao68 t207.length co68) := (blk_cell BK201.out 2).trans rfl; have hfz76_0 := blk_frozen BK201.out 0; have hfz76_1 := blk_frozen BK201.out 1; have hfz76_2 := blk_frozen BK201.out 2) | ((with_reducible refine gate_callee (f := 9) rfl ?_); refine goesL_ (some 42) rfl rfl Tryd.func9 (by kernel_rfl) rfl #[.agg #[.string a0_0, .string a0_1, .slice Ao68 t207.length co68], .agg #[.string a0_0, .string a0_1, .slice Ao68 t207.length co68]] rfl (by (try simp only [List.map_toArray, List.map_cons, List.map_nil]); first | done | rfl | (simp only [List.length_drop, List.length_take]; rfl)) ?_; (with_reducible refine (impl_NeedEqual.calls kj17 a0_0 a0_1 _ _ t207 a0_0 a0_1 _ _ t207 true false _ ?side1 ?side2 ?side3 ?side4 A34.out).mono ?_); (case side1 => repeat (first | exact (Kd.R_reads' HO209.out).2.2 | (with_reducible refine Kd.C_alloc ?_ _) | (with_reducible refine Kd.C_drewN ?_ _) | (with_reducible refine Kd.C_drew ?_))); (case side2 => exact (Kd.R_reads' HO209.out).2.1); (case side3 => repeat (first | exact (Kd.R_reads' HO209.out).2.2 | (with_reducible refine Kd.C_alloc ?_ _) | (with_reducible refine Kd.C_drewN ?_ _) | (with_reducible refine Kd.C_drew ?_))); (case side4 => exact (Kd.R_reads' HO209.out).2.1); rintro e w77 ⟨rfl, hb⟩; refine ⟨_, rfl, ?_⟩; have n0_ := Aside0.mk (Kd.R_below (by (with_reducible repeat (first | apply Kd.R_alloc | apply Kd.R_drewN | apply Kd.R_drew)); exact HO209.out) hb); have n1_ := Aside0.mk (Kd.R_below (by (with_reducible repeat (first | apply Kd.R_alloc | apply Kd.R_drewN | apply Kd.R_drew)); exact HO212.out) hb); have n2_ := Aside0.mk (blk_below (g := gb201) (o := .cells #[.string a0_0, .string a0_1, .slice Ao68 t207.length co68] 24 (0, 0)) (by (with_reducible repeat (first | refine blk_drewN ?_ _ | refine blk_drew ?_ | refine blk_alloc ?_ _)); exact BK201.out) hb); have n3_ := Aside0.mk (blk_below (g := gb202) (o := .cells #[.string a1_0, .string a1_1, .slice Ao70 t210.length co70] 24 (0, 0)) (by (with_reducible repeat (first | refine blk_drewN ?_ _ | refine blk_drew ?_ | refine blk_alloc ?_ _)); exact BK202.out) hb); have n4_ := Aside0.mk (below_step (by repeat (first | (with_reducible first | exact HB.out | apply below_alloc | apply pw_below_drewN | apply below_drew1 | refine below_set ?_ GE201.out | refine below_set ?_ GE202.out) | exact HB.out)) hb); clear HO209; clear HO212; clear BK201; clear BK202; clear HB; have HO209 := n0_; have HO212 := n1_; have BK201 := n2_; have BK202 := n3_; have HB := n4_; clear n0_ n1_ n2_ n3_ n4_; (try clear hb); (try clear hb2); (try clear hk); (try clear hi); have hcz78_0 : w77.cell? ⟨gb201, 0, none⟩ = some (.string a0_0) := (blk_cell BK201.out 0).trans rfl; have hcz78_1 : w77.cell? ⟨gb201, 1, none⟩ = some (.string a0_1) := (blk_cell BK201.out 1).trans rfl; have hcz78_2 : w77.cell? ⟨gb201, 2, none⟩ = some (.slice Ao68 t207.length co68) := (blk_cell BK201.out 2).trans rfl; have hfz78_0 := blk_frozen BK201.out 0; have hfz78_1 := blk_frozen BK201.out 1; have hfz78_2 := blk_frozen BK201.out 2; have hcz79_0 : w77.cell? ⟨gb202, 0, none⟩ = some (.string a1_0) := (blk_cell BK202.out 0).trans rfl; have hcz79_1 : w77.cell? ⟨gb202, 1, none⟩ = some (.string a1_1) := (blk_cell BK202.out 1).trans rfl; have hcz79_2 : w77.cell? ⟨gb202, 2, none⟩ = some (.slice Ao70 t210.length co70) := (blk_cell BK202.out 2).trans rfl; have hfz79_0 := blk_frozen BK202.out 0; have hfz79_1 := blk_frozen BK202.out 1; have hfz79_2 := blk_frozen BK202.out 2) | (go_at_call 10; (with_reducible refine (spec_NeedSame.calls kj17 a0_0 a0_1 _ _ t207 a1_0 a1_1 _ _ t210 t217 _ ?side1 ?side2 ?side3 ?side4 A64.out).mono ?_); (case side1 => repeat (first | exact (Kd.R_reads' HO209.out).2.2 | (with_reducible refine Kd.C_alloc ?_ _) | (with_reducible refine Kd.C_drewN ?_ _) | (with_reducible refine Kd.C_drew ?_))); (case side2 => exact (Kd.R_reads' HO209.out).2.1); (case side3 => repeat (first | exact (Kd.R_reads' HO212.out).2.2 | (with_reducible refine Kd.C_alloc ?_ _) | (with_reducible refine Kd.C_drewN ?_ _) | (with_reducible refine Kd.C_drew ?_))); (case side4 => exact (Kd.R_reads' HO212.out).2.1); rintro e w80 ⟨rfl, hb⟩; have n0_ := Aside0.mk (Kd.R_below (by (with_reducible repeat (first | apply Kd.R_alloc | apply Kd.R_drewN | apply Kd.R_drew)); exact HO209.out) hb); have n1_ := Aside0.mk (Kd.R_below (by (with_reducible repeat (first | apply Kd.R_alloc | apply Kd.R_drewN | apply Kd.R_drew)); exact HO212.out) hb); have n2_ := Aside0.mk (blk_below (g := gb201) (o := .cells #[.string a0_0, .string a0_1, .slice Ao68 t207.length co68] 24 (0, 0)) (by (with_reducible repeat (first | refine blk_drewN ?_ _ | refine blk_drew ?_ | refine blk_alloc ?_ _)); exact BK201.out) hb); have n3_ := Aside0.mk (blk_below (g := gb202) (o := .cells #[.string a1_0, .string a1_1, .slice Ao70 t210.length co70] 24 (0, 0)) (by (with_reducible repeat (first | refine blk_drewN ?_ _ | refine blk_drew ?_ | refine blk_alloc ?_ _)); exact BK202.out) hb); have n4_ := Aside0.mk (below_step (by repeat (first | (with_reducible first | exact HB.out | apply below_alloc | apply pw_below_drewN | apply below_drew1 | refine below_set ?_ GE201.out | refine below_set ?_ GE202.out) | exact HB.out)) hb); clear HO209; clear HO212; clear BK201; clear BK202; clear HB; have HO209 := n0_; have HO212 := n1_; have BK201 := n2_; have BK202 := n3_; have HB := n4_; clear n0_ n1_ n2_ n3_ n4_; (try clear hb); (try clear hb2); (try clear hk); (try clear hi)))
                    go_ret
                    exact ⟨by first | rfl | (simp [errW_none, errW_some] <;> rfl) | (simp [*, errW_none, errW_some] <;> rfl) | (exfalso; contradiction), by repeat (first | (with_reducible first | exact HB.out | apply below_alloc | apply pw_below_drewN | apply below_drew1 | refine below_set ?_ GE201.out | refine below_set ?_ GE202.out) | exact HB.out)⟩
                  · replace c63 := Bool.eq_false_iff.mpr c63
                    subst c63
                    have H1 : (some false) = some r := by rw [if_neg (show ¬ (false = true) by decide)] at H; exact H
                    clear H
                    have H := H1
                    clear H1
                    obtain rfl := Option.some.inj H
                    try go_wp2
                    have n0_ := Aside0.mk (blk_drew BK201.out)
                    have n1_ := Aside0.mk (blk_drew BK202.out)
                    have n2_ := Aside0.mk (below_drew1 HB.out)
                    clear BK201
                    clear BK202
                    clear HB
                    have BK201 := n0_
                    have BK202 := n1_
                    have HB := n2_
                    clear n0_ n1_ n2_
                    refine start_ (n := 10) (S := fun w' => w'.cell? ⟨gb201, 0, none⟩ = some (.string a0_0) ∧ w'.cell? ⟨gb201, 1, none⟩ = some (.string a0_1) ∧ w'.cell? ⟨gb201, 2, none⟩ = some (.slice A0_2 l0_2.length c0_2) ∧ w'.cell? ⟨gb202, 0, none⟩ = some (.string a1_0) ∧ w'.cell? ⟨gb202, 1, none⟩ = some (.string a1_1) ∧ w'.cell? ⟨gb202, 2, none⟩ = some (.slice A1_2 l1_2.length c1_2)) (ds := [7, 9]) #[false, false, false, false, false, false, false, false, false, false] (by kernel_rfl) rfl rfl ⟨(blk_cell BK201.out 0).trans rfl, (blk_cell BK201.out 1).trans rfl, (blk_cell BK201.out 2).trans rfl, (blk_cell BK202.out 0).trans rfl, (blk_cell BK202.out 1).trans rfl, (blk_cell BK202.out 2).trans rfl⟩ (fun hHeld => ?_); refine with_tabW laws_FnNeedEqual.tab5 laws_FnNeedEqual.bits5 (fun HT_ HW_ => ?_)
                    generalize wc.drew = w81 at BK201 BK202 HB hHeld ⊢
                    refine pure_ (i := 0) (N := some 25) (v := ?_) (a' := ?_) #[true, false, false, false, false, false, false, false, false, false] rfl rfl (any_of HT_.out (by kernel_rfl)) (fun _ _ _ h => h) (Or.inl ⟨by rfl, ?_⟩) ?_ ?_
                    rotate_left
                    · intro w'
                      go_simp
                      with_reducible rfl
                    rotate_left
                    · simp only [Act.put, List.setIfInBounds_toArray, List.set_cons_zero, List.set_cons_succ, i64_w, i32_w]
                      rfl
                    refine pure_ (i := 3) (N := some 28) (v := ?_) (a' := ?_) #[true, false, false, true, false, false, false, false, false, false] rfl rfl (any_of HT_.out (by kernel_rfl)) (fun _ _ _ h => h) (Or.inl ⟨by rfl, ?_⟩) ?_ ?_
                    rotate_left
                    · intro w'
                      go_simp
                      with_reducible rfl
                    rotate_left
                    · simp only [Act.put, List.setIfInBounds_toArray, List.set_cons_zero, List.set_cons_succ, i64_w, i32_w]
                      rfl
                    refine take_ (i := 1) (N := some 26) (v := ?_) (a' := ?_) #[true, true, false, true, false, false, false, false, false, false] rfl rfl (take_ofW HT_.out HW_.out (by kernel_rfl)) (fun _ _ _ h => h) (Or.inl ⟨by rfl, ?_⟩) hHeld ?_ ?_
                    rotate_left
                    · rintro w' ⟨s0, s1, s2, s3, s4, s5⟩
                      go_simp
                      with_reducible rfl
                    rotate_left
                    · simp only [Act.put, List.setIfInBounds_toArray, List.set_cons_zero, List.set_cons_succ, i64_w, i32_w]
                      rfl
                    refine take_ (i := 4) (N := some 29) (v := ?_) (a' := ?_) #[true, true, false, true, true, false, false, false, false, false] rfl rfl (take_ofW HT_.out HW_.out (by kernel_rfl)) (fun _ _ _ h => h) (Or.inl ⟨by rfl, ?_⟩) hHeld ?_ ?_
                    rotate_left
                    · rintro w' ⟨s0, s1, s2, s3, s4, s5⟩
                      go_simp
                      with_reducible rfl
                    rotate_left
                    · simp only [Act.put, List.setIfInBounds_toArray, List.set_cons_zero, List.set_cons_succ, i64_w, i32_w]
                      rfl
                    refine one_ (i := 2) (N := some 27) #[true, true, true, true, true, false, false, false, false, false] rfl rfl (one_of HT_.out (by kernel_rfl)) (by decide) (fun K hK => ?_)
                    refine goes_ Tryd.func8 (by kernel_rfl) rfl #[.slice A0_2 l0_2.length c0_2] (by rfl) rfl rfl (by (try simp only [List.map_toArray, List.map_cons, List.map_nil]); first | done | rfl | (simp only [List.length_drop, List.length_take]; rfl)) ?_
                    with_reducible refine (spec_Keys_string.calls kj17 _ _ l0_2 t207 _ ?side1 ?side2 A31.out).mono ?_
                    (case side1 => repeat (first | exact (Kd.C_below HR0_2.out HB.out) | (with_reducible refine Kd.C_alloc ?_ _) | (with_reducible refine Kd.C_drewN ?_ _) | (with_reducible refine Kd.C_drew ?_)))
                    (case side2 => exact HC0_2.out)
                    rintro e w82 ⟨v208, rfl, ho0, hb⟩
                    refine ⟨_, rfl, ?_⟩
                    have n0_ := Aside0.mk (Kd.R_lower ho0 (below_size (by repeat (first | (with_reducible first | exact HB.out | apply below_alloc | apply pw_below_drewN | apply below_drew1 | refine below_set ?_ GE201.out | refine below_set ?_ GE202.out) | exact HB.out))))
                    have n1_ := Aside0.mk (blk_below (g := gb201) (o := .cells #[.string a0_0, .string a0_1, .slice A0_2 l0_2.length c0_2] 24 (0, 0)) (by (with_reducible repeat (first | refine blk_drewN ?_ _ | refine blk_drew ?_ | refine blk_alloc ?_ _)); exact BK201.out) hb)
                    have n2_ := Aside0.mk (blk_below (g := gb202) (o := .cells #[.string a1_0, .string a1_1, .slice A1_2 l1_2.length c1_2] 24 (0, 0)) (by (with_reducible repeat (first | refine blk_drewN ?_ _ | refine blk_drew ?_ | refine blk_alloc ?_ _)); exact BK202.out) hb)
                    have n3_ := Aside0.mk (below_step (by repeat (first | (with_reducible first | exact HB.out | apply below_alloc | apply pw_below_drewN | apply below_drew1 | refine below_set ?_ GE201.out | refine below_set ?_ GE202.out) | exact HB.out)) hb)
                    clear BK201
                    clear BK202
                    clear HB
                    have HO209 := n0_
                    have BK201 := n1_
                    have BK202 := n2_
                    have HB := n3_
                    clear n0_ n1_ n2_ n3_
                    (try clear hb)
                    (try clear hb2)
                    (try clear hk)
                    (try clear hi)
                    (try clear ho0)
                    refine hK.out _ _ ⟨(blk_cell BK201.out 0).trans rfl, (blk_cell BK201.out 1).trans rfl, (blk_cell BK201.out 2).trans rfl, (blk_cell BK202.out 0).trans rfl, (blk_cell BK202.out 1).trans rfl, (blk_cell BK202.out 2).trans rfl⟩ (fun hHeld => ?_)
                    clear hK K
                    refine norm_ (a' := ?_) ?_ ?_
                    rotate_left
                    · show Act.put _ (some 27) _ = _
                      simp only [Act.put, List.setIfInBounds_toArray, List.set_cons_zero, List.set_cons_succ, i64_w, i32_w]
                      rfl
                    refine pure_ (i := 6) (N := some 31) (v := ?_) (a' := ?_) #[true, true, true, true, true, false, true, false, false, false] rfl rfl (any_of HT_.out (by kernel_rfl)) (fun _ _ _ h => h) (Or.inl ⟨by rfl, ?_⟩) ?_ ?_
                    rotate_left
                    · intro w'
                      go_simp
                      with_reducible rfl
                    rotate_left
                    · simp only [Act.put, List.setIfInBounds_toArray, List.set_cons_zero, List.set_cons_succ, i64_w, i32_w]
                      rfl
                    refine one_ (i := 5) (N := some 30) #[true, true, true, true, true, true, true, false, false, false] rfl rfl (one_of HT_.out (by kernel_rfl)) (by decide) (fun K hK => ?_)
                    refine goes_ Tryd.func8 (by kernel_rfl) rfl #[.slice A1_2 l1_2.length c1_2] (by rfl) rfl rfl (by (try simp only [List.map_toArray, List.map_cons, List.map_nil]); first | done | rfl | (simp only [List.length_drop, List.length_take]; rfl)) ?_
                    with_reducible refine (spec_Keys_string.calls kj17 _ _ l1_2 t210 _ ?side1 ?side2 A32.out).mono ?_
                    (case side1 => repeat (first | exact (Kd.C_below HR1_2.out HB.out) | (with_reducible refine Kd.C_alloc ?_ _) | (with_reducible refine Kd.C_drewN ?_ _) | (with_reducible refine Kd.C_drew ?_)))
                    (case side2 => exact HC1_2.out)
                    rintro e w83 ⟨v211, rfl, ho0, hb⟩
                    refine ⟨_, rfl, ?_⟩
                    have n0_ := Aside0.mk (Kd.R_elder' (by (with_reducible repeat (first | apply Kd.R_alloc | apply Kd.R_drewN | apply Kd.R_drew)); exact HO209.out) (Kd.R_base ho0) hb)
                    have n1_ := Aside0.mk (Kd.R_lower (Kd.R_new' ho0 (Kd.R_lt (by (with_reducible repeat (first | apply Kd.R_alloc | apply Kd.R_drewN | apply Kd.R_drew)); exact HO209.out))) (below_size (by repeat (first | (with_reducible first | exact HB.out | apply below_alloc | apply pw_below_drewN | apply below_drew1 | refine below_set ?_ GE201.out | refine below_set ?_ GE202.out) | exact HB.out))))
                    have n2_ := Aside0.mk (blk_below (g := gb201) (o := .cells #[.string a0_0, .string a0_1, .slice A0_2 l0_2.length c0_2] 24 (0, 0)) (by (with_reducible repeat (first | refine blk_drewN ?_ _ | refine blk_drew ?_ | refine blk_alloc ?_ _)); exact BK201.out) hb)
                    have n3_ := Aside0.mk (blk_below (g := gb202) (o := .cells #[.string a1_0, .string a1_1, .slice A1_2 l1_2.length c1_2] 24 (0, 0)) (by (with_reducible repeat (first | refine blk_drewN ?_ _ | refine blk_drew ?_ | refine blk_alloc ?_ _)); exact BK202.out) hb)
                    have n4_ := Aside0.mk (below_step (by repeat (first | (with_reducible first | exact HB.out | apply below_alloc | apply pw_below_drewN | apply below_drew1 | refine below_set ?_ GE201.out | refine below_set ?_ GE202.out) | exact HB.out)) hb)
                    clear HO209
                    clear BK201
                    clear BK202
                    clear HB
                    have HO209 := n0_
                    have HO212 := n1_
                    have BK201 := n2_
                    have BK202 := n3_
                    have HB := n4_
                    clear n0_ n1_ n2_ n3_ n4_
                    (try clear hb)
                    (try clear hb2)
                    (try clear hk)
                    (try clear hi)
                    (try clear ho0)
                    obtain ⟨Ao84, co84, eo84⟩ := Kd.R_slice HO209.out
                    (first | subst eo84 | (injection eo84 with f1_ f2_ f3_; have f4_ := f1_.symm; have f5_ := f3_.symm; clear f1_ f2_ f3_; subst f4_; subst f5_))
                    obtain ⟨Ao86, co86, eo86⟩ := Kd.R_slice HO212.out
                    (first | subst eo86 | (injection eo86 with f1_ f2_ f3_; have f4_ := f1_.symm; have f5_ := f3_.symm; clear f1_ f2_ f3_; subst f4_; subst f5_))
                    refine hK.out _ _ ⟨(blk_cell BK201.out 0).trans rfl, (blk_cell BK201.out 1).trans rfl, (blk_cell BK201.out 2).trans rfl, (blk_cell BK202.out 0).trans rfl, (blk_cell BK202.out 1).trans rfl, (blk_cell BK202.out 2).trans rfl⟩ (fun hHeld => ?_)
                    clear hK K
                    refine norm_ (a' := ?_) ?_ ?_
                    rotate_left
                    · show Act.put _ (some 30) _ = _
                      simp only [Act.put, List.setIfInBounds_toArray, List.set_cons_zero, List.set_cons_succ, i64_w, i32_w]
                      rfl
                    refine last_ (i := 7) (N := none) #[true, true, true, true, true, true, true, true, false, false] rfl rfl (one_of HT_.out (by kernel_rfl)) (by decide) (fun K hK => ?_)
                    have hs85 : w83.cell? ⟨gb201, 2, none⟩ = some (.slice A0_2 l0_2.length c0_2) := (blk_cell BK201.out 2).trans rfl
                    have hfs85 := blk_frozen BK201.out 2
                    have hns85_1 := NB202_201.out
                    have hms85_1 := NB201_202.out
                    refine skip_ (w1 := ?_) (by rfl) rfl ?_ ?_
                    rotate_left
                    · go_simp
                      rfl
                    refine hK.out _ _ ?_
                    clear hK K
                    refine pure_ (i := 8) (N := some 32) (v := ?_) (a' := ?_) #[true, true, true, true, true, true, true, true, true, false] rfl rfl (any_of HT_.out (by kernel_rfl)) (fun _ _ _ h => h) (Or.inl ⟨by rfl, ?_⟩) ?_ ?_
                    rotate_left
                    · intro w'
                      go_simp
                      with_reducible rfl
                    rotate_left
                    · simp only [Act.put, List.setIfInBounds_toArray, List.set_cons_zero, List.set_cons_succ, i64_w, i32_w]
                      rfl
                    refine last_ (i := 9) (N := none) #[true, true, true, true, true, true, true, true, true, true] rfl rfl (one_of HT_.out (by kernel_rfl)) (by decide) (fun K hK => ?_)
                    have hs87 : w83.cell? ⟨gb202, 2, none⟩ = some (.slice A1_2 l1_2.length c1_2) := (blk_cell BK202.out 2).trans rfl
                    have hfs87 := blk_frozen BK202.out 2
                    have hns87_0 := NB201_202.out
                    have hms87_0 := NB202_201.out
                    refine skip_ (w1 := ?_) (by rfl) rfl ?_ ?_
                    rotate_left
                    · go_simp
                      rfl
                    refine hK.out _ _ ?_
                    clear hK K
                    refine done_ (done_of HT_.out (by kernel_rfl)) ?_
                    have hnb88 := NB201_202.out
                    have hnc88 := NB202_201.out
                    have hcz89_0 : w83.cell? ⟨gb201, 0, none⟩ = some (.string a0_0) := (blk_cell BK201.out 0).trans rfl
                    have hcz89_1 : w83.cell? ⟨gb201, 1, none⟩ = some (.string a0_1) := (blk_cell BK201.out 1).trans rfl
                    have hcz89_2 : w83.cell? ⟨gb201, 2, none⟩ = some (.slice A0_2 l0_2.length c0_2) := (blk_cell BK201.out 2).trans rfl
                    have hfz89_0 := blk_frozen BK201.out 0
                    have hfz89_1 := blk_frozen BK201.out 1
                    have hfz89_2 := blk_frozen BK201.out 2
                    have hcz90_0 : w83.cell? ⟨gb202, 0, none⟩ = some (.string a1_0) := (blk_cell BK202.out 0).trans rfl
                    have hcz90_1 : w83.cell? ⟨gb202, 1, none⟩ = some (.string a1_1) := (blk_cell BK202.out 1).trans rfl
                    have hcz90_2 : w83.cell? ⟨gb202, 2, none⟩ = some (.slice A1_2 l1_2.length c1_2) := (blk_cell BK202.out 2).trans rfl
                    have hfz90_0 := blk_frozen BK202.out 0
                    have hfz90_1 := blk_frozen BK202.out 1
                    have hfz90_2 := blk_frozen BK202.out 2
                    try go_wp2_with (first | ((with_reducible refine gate_callee (f := 9) rfl ?_); refine goesL_ (some 36) rfl rfl Tryd.func9 (by kernel_rfl) rfl #[.agg #[.string a0_0, .string a0_1, .slice Ao84 t207.length co84], .agg #[.string a1_0, .string a1_1, .slice Ao86 t210.length co86]] rfl (by (try simp only [List.map_toArray, List.map_cons, List.map_nil]); first | done | rfl | (simp only [List.length_drop, List.length_take]; rfl)) ?_; (with_reducible refine (impl_NeedEqual.calls kj17 a0_0 a0_1 _ _ t207 a1_0 a1_1 _ _ t210 t213 false _ ?side1 ?side2 ?side3 ?side4 A33.out).mono ?_); (case side1 => refine (Kd.R_reads' (e := 9) (base := w.heap.size) (ok := fun k_ => (True ∧ some k_ ≠ (.slice Ao86 t210.length co86 : Value).ownBlock)) (n := t207.length) (c := co84) ?_).2.2; exact (by (with_reducible repeat (first | apply Kd.R_alloc | apply Kd.R_drewN | apply Kd.R_drew)); exact (Kd.R_mono (Kd.R_mono (Kd.R_far (p := ⟨gb202, 2, none⟩) (Kd.R_far (p := ⟨gb201, 2, none⟩) (Kd.R_types (Kd.R_types HO209.out BK201.out (by decide)) BK202.out (by decide)) (fun _ hk => hk.1.2) (.slice Ao84 t207.length co84)) (fun _ hk => hk.2) (.slice Ao86 t210.length co86)) (fun _ h_ => h_.1)) (fun _ h_ => h_.1)))); (case side2 => exact (Kd.R_reads' HO209.out).2.1); (case side3 => refine (Kd.R_reads' (e := 9) (base := w.heap.size) (ok := fun k_ => (True ∧ some k_ ≠ (.slice Ao84 t207.length co84 : Value).ownBlock)) (n := t210.length) (c := co86) ?_).2.2; exact (by (with_reducible repeat (first | apply Kd.R_alloc | apply Kd.R_drewN | apply Kd.R_drew)); exact (Kd.R_mono (Kd.R_mono (Kd.R_far (p := ⟨gb202, 2, none⟩) (Kd.R_far (p := ⟨gb201, 2, none⟩) (Kd.R_types (Kd.R_types HO212.out BK201.out (by decide)) BK202.out (by decide)) (fun _ hk => hk.1.2) (.slice Ao84 t207.length co84)) (fun _ hk => hk.2) (.slice Ao86 t210.length co86)) (fun _ h_ => h_.1)) (fun _ h_ => h_.1)))); (case side4 => exact (Kd.R_reads' HO212.out).2.1); rintro e w91 ⟨rfl, hb⟩; refine ⟨_, rfl, ?_⟩; have n0_ := Aside0.mk (Kd.R_below (by (with_reducible repeat (first | apply Kd.R_alloc | apply Kd.R_drewN | apply Kd.R_drew)); exact (Kd.R_mono (Kd.R_mono (Kd.R_far (p := ⟨gb202, 2, none⟩) (Kd.R_far (p := ⟨gb201, 2, none⟩) (Kd.R_types (Kd.R_types HO209.out BK201.out (by decide)) BK202.out (by decide)) (fun _ hk => hk.1.2) (.slice Ao84 t207.length co84)) (fun _ hk => hk.2) (.slice Ao86 t210.length co86)) (fun _ h_ => h_.1)) (fun _ h_ => h_.1))) hb); have n1_ := Aside0.mk (Kd.R_below (by (with_reducible repeat (first | apply Kd.R_alloc | apply Kd.R_drewN | apply Kd.R_drew)); exact (Kd.R_mono (Kd.R_mono (Kd.R_far (p := ⟨gb202, 2, none⟩) (Kd.R_far (p := ⟨gb201, 2, none⟩) (Kd.R_types (Kd.R_types HO212.out BK201.out (by decide)) BK202.out (by decide)) (fun _ hk => hk.1.2) (.slice Ao84 t207.length co84)) (fun _ hk => hk.2) (.slice Ao86 t210.length co86)) (fun _ h_ => h_.1)) (fun _ h_ => h_.1))) hb); have n2_ := Aside0.mk (blk_below (g := gb201) (o := .cells #[.string a0_0, .string a0_1, .slice Ao84 t207.length co84] 24 (0, 0)) (by (with_reducible repeat (first | refine blk_drewN ?_ _ | refine blk_drew ?_ | refine blk_alloc ?_ _)); refine blk_far ?_ NB201_202.out _; (with_reducible repeat (first | refine blk_drewN ?_ _ | refine blk_drew ?_ | refine blk_alloc ?_ _)); refine blk_put (cs := #[.string a0_0, .string a0_1, .slice A0_2 l0_2.length c0_2]) ?_ 2 _ rfl; (with_reducible repeat (first | refine blk_drewN ?_ _ | refine blk_drew ?_ | refine blk_alloc ?_ _)); exact BK201.out) hb); have n3_ := Aside0.mk (blk_below (g := gb202) (o := .cells #[.string a1_0, .string a1_1, .slice Ao86 t210.length co86] 24 (0, 0)) (by (with_reducible repeat (first | refine blk_drewN ?_ _ | refine blk_drew ?_ | refine blk_alloc ?_ _)); refine blk_put (cs := #[.string a1_0, .string a1_1, .slice A1_2 l1_2.length c1_2]) ?_ 2 _ rfl; (with_reducible repeat (first | refine blk_drewN ?_ _ | refine blk_drew ?_ | refine blk_alloc ?_ _)); refine blk_far ?_ NB202_201.out _; (with_reducible repeat (first | refine blk_drewN ?_ _ | refine blk_drew ?_ | refine blk_alloc ?_ _)); exact BK202.out) hb); have n4_ := Aside0.mk (below_step (by repeat (first | (with_reducible first | exact HB.out | apply below_alloc | apply pw_below_drewN | apply below_drew1 | refine below_set ?_ GE201.out | refine below_set ?_ GE202.out) | exact HB.out)) hb); clear HO209; clear HO212; clear BK201; clear BK202; clear HB; have HO209 := n0_; have HO212 := n1_; have BK201 := n2_; have BK202 := n3_; have HB := n4_; clear n0_ n1_ n2_ n3_ n4_; (try clear hb); (try clear hb2); (try clear hk); (try clear hi); have hcz92_0 : w91.cell? ⟨gb201, 0, none⟩ = some (.string a0_0) := (blk_cell BK201.out 0).trans rfl; have hcz92_1 : w91.cell? ⟨gb201, 1, none⟩ = some (.string a0_1) := (blk_cell BK201.out 1).trans rfl; have hcz92_2 : w91.cell? ⟨gb201, 2, none⟩ = some (.slice Ao84 t207.length co84) := (blk_cell BK201.out 2).trans rfl; have hfz92_0 := blk_frozen BK201.out 0; have hfz92_1 := blk_frozen BK201.out 1; have hfz92_2 := blk_frozen BK201.out 2) | ((with_reducible refine gate_callee (f := 9) rfl ?_); refine goesL_ (some 42) rfl rfl Tryd.func9 (by kernel_rfl) rfl #[.agg #[.string a0_0, .string a0_1, .slice Ao84 t207.length co84], .agg #[.string a0_0, .string a0_1, .slice Ao84 t207.length co84]] rfl (by (try simp only [List.map_toArray, List.map_cons, List.map_nil]); first | done | rfl | (simp only [List.length_drop, List.length_take]; rfl)) ?_; (with_reducible refine (impl_NeedEqual.calls kj17 a0_0 a0_1 _ _ t207 a0_0 a0_1 _ _ t207 false false _ ?side1 ?side2 ?side3 ?side4 A34.out).mono ?_); (case side1 => repeat (first | exact (Kd.R_reads' HO209.out).2.2 | (with_reducible refine Kd.C_alloc ?_ _) | (with_reducible refine Kd.C_drewN ?_ _) | (with_reducible refine Kd.C_drew ?_))); (case side2 => exact (Kd.R_reads' HO209.out).2.1); (case side3 => repeat (first | exact (Kd.R_reads' HO209.out).2.2 | (with_reducible refine Kd.C_alloc ?_ _) | (with_reducible refine Kd.C_drewN ?_ _) | (with_reducible refine Kd.C_drew ?_))); (case side4 => exact (Kd.R_reads' HO209.out).2.1); rintro e w93 ⟨rfl, hb⟩; refine ⟨_, rfl, ?_⟩; have n0_ := Aside0.mk (Kd.R_below (by (with_reducible repeat (first | apply Kd.R_alloc | apply Kd.R_drewN | apply Kd.R_drew)); exact HO209.out) hb); have n1_ := Aside0.mk (Kd.R_below (by (with_reducible repeat (first | apply Kd.R_alloc | apply Kd.R_drewN | apply Kd.R_drew)); exact HO212.out) hb); have n2_ := Aside0.mk (blk_below (g := gb201) (o := .cells #[.string a0_0, .string a0_1, .slice Ao84 t207.length co84] 24 (0, 0)) (by (with_reducible repeat (first | refine blk_drewN ?_ _ | refine blk_drew ?_ | refine blk_alloc ?_ _)); exact BK201.out) hb); have n3_ := Aside0.mk (blk_below (g := gb202) (o := .cells #[.string a1_0, .string a1_1, .slice Ao86 t210.length co86] 24 (0, 0)) (by (with_reducible repeat (first | refine blk_drewN ?_ _ | refine blk_drew ?_ | refine blk_alloc ?_ _)); exact BK202.out) hb); have n4_ := Aside0.mk (below_step (by repeat (first | (with_reducible first | exact HB.out | apply below_alloc | apply pw_below_drewN | apply below_drew1 | refine below_set ?_ GE201.out | refine below_set ?_ GE202.out) | exact HB.out)) hb); clear HO209; clear HO212; clear BK201; clear BK202; clear HB; have HO209 := n0_; have HO212 := n1_; have BK201 := n2_; have BK202 := n3_; have HB := n4_; clear n0_ n1_ n2_ n3_ n4_; (try clear hb); (try clear hb2); (try clear hk); (try clear hi)))
                    go_ret
                    exact ⟨by first | rfl | (simp [errW_none, errW_some] <;> rfl) | (simp [*, errW_none, errW_some] <;> rfl) | (exfalso; contradiction), by repeat (first | (with_reducible first | exact HB.out | apply below_alloc | apply pw_below_drewN | apply below_drew1 | refine below_set ?_ GE201.out | refine below_set ?_ GE202.out) | exact HB.out)⟩

/-- THE ONE PURE STATEMENT of laws_FnNeedEqual: yours. -/
def laws_FnNeedEqual.Pure : Prop := ∀ (a0_0 : ByteArray) (a0_1 : ByteArray) (l0_2 : List ByteArray) (a1_0 : ByteArray) (a1_1 : ByteArray) (l1_2 : List ByteArray), a0_0.size ≤ maxLen → a0_1.size ≤ maxLen → (l0_2.length ≤ maxLen ∧ ∀ x_ ∈ l0_2, x_.size ≤ maxLen) → a1_0.size ≤ maxLen → a1_1.size ≤ maxLen → (l1_2.length ≤ maxLen ∧ ∀ x_ ∈ l1_2, x_.size ≤ maxLen) → ∃ k, laws_FnNeedEqual.f k a0_0 a0_1 l0_2 a1_0 a1_1 l1_2 = some true
theorem laws_FnNeedEqual.walk (P : laws_FnNeedEqual.Pure) (a0_0 : ByteArray) (a0_1 : ByteArray) (A0_2 : Option Addr) (c0_2 : Nat) (l0_2 : List ByteArray) (a1_0 : ByteArray) (a1_1 : ByteArray) (A1_2 : Option Addr) (c1_2 : Nat) (l1_2 : List ByteArray) (w : World) (hr0_2 : Kd.C Kd.string w A0_2 l0_2.length l0_2) (hc0_2 : l0_2.length ≤ c0_2) (hr1_2 : Kd.C Kd.string w A1_2 l1_2.length l1_2) (hc1_2 : l1_2.length ≤ c1_2) (w0_0 : a0_0.size ≤ maxLen) (w0_1 : a0_1.size ≤ maxLen) (w0_2 : (l0_2.length ≤ maxLen ∧ ∀ x_ ∈ l0_2, x_.size ≤ maxLen)) (w1_0 : a1_0.size ≤ maxLen) (w1_1 : a1_1.size ≤ maxLen) (w1_2 : (l1_2.length ≤ maxLen ∧ ∀ x_ ∈ l1_2, x_.size ≤ maxLen)) :
    Calls Tryd.prog 3 #[.agg #[.string a0_0, .string a0_1, .slice A0_2 l0_2.length c0_2], .agg #[.string a1_0, .string a1_1, .slice A1_2 l1_2.length c1_2]] w fun e w' => e = .returned (.bool true) ∧ Below w.heap.size w w' := by
  obtain ⟨k, h⟩ := P a0_0 a0_1 l0_2 a1_0 a1_1 l1_2 w0_0 w0_1 w0_2 w1_0 w1_1 w1_2
  refine (laws_FnNeedEqual.calls k a0_0 a0_1 _ _ l0_2 a1_0 a1_1 _ _ l1_2 true w hr0_2 hc0_2 hr1_2 hc1_2 h).mono ?_
  rintro e w' ⟨rfl, hd⟩
  exact ⟨rfl, hd⟩

end Go.Proofs.YtlhbmifffmegeaaDoor.PFnNeedEqual
