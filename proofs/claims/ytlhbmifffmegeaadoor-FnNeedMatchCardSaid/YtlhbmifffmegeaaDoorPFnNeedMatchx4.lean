/- Functions of the program as plain Lean functions, and that the machine's calls do what these say: written for this claim by wip/myprint.py over the kit's print.py. -/
import Derived.Test.YtlhbmifffmegeaaDoorPFnNeedMatchx0
import Derived.Test.YtlhbmifffmegeaaDoorPFnNeedMatchx1
import Derived.Test.YtlhbmifffmegeaaDoorPFnNeedMatchx2
import Derived.Test.YtlhbmifffmegeaaDoorPFnNeedMatchx3
namespace Go.Proofs.YtlhbmifffmegeaaDoor.PFnNeedMatch
open Go.RowKit Go.Proofs.YtlhbmifffmegeaaDoorW.PrintWords Go.Proofs.YtlhbmifffmegeaaDoorW.PrintLast Go.Proofs.YtlhbmifffmegeaaDoorW.PrintMore
attribute [local go_sem] max2_int min2_int max_two min_two max_three min_three max_four min_four   -- for this text's walks alone
set_option linter.unusedVariables false
set_option linter.unusedSimpArgs false

/-! ### spec_NeedMay: function 7 -/
mutual
def spec_NeedMay.j0 : Nat → Bool → ByteArray → ByteArray → List ByteArray → Option (Bool)
  | 0, _, _, _, _ => none
  | k + 1, x13, x128000, x128001, x128002 => if x13 = true then (some false) else (spec_NeedMay.l0 k 0 x128000 x128001 x128002)
def spec_NeedMay.l0 : Nat → Int → ByteArray → ByteArray → List ByteArray → Option (Bool)
  | 0, _, _, _, _ => none
  | k + 1, x3, x128000, x128001, x128002 => if x3 < (x128002.length : Int) then (if 0 ≤ x3 then ((spec_NameValue.f (rdOf ByteArray.empty x128002 x3)).bind fun t131 => (if t131 = true then (spec_NeedMay.l0 k (wrap64 (x3 + 1)) x128000 x128001 x128002) else (some false))) else (none)) else ((spec_NeedCount.f k x128000 x128001 x128002).bind fun t132 => (some t132))
end
def spec_NeedMay.f (k : Nat) (a0_0 : ByteArray) (a0_1 : ByteArray) (l0_2 : List ByteArray) : Option (Bool) := (spec_NeedOp.f k a0_1).bind fun t128 => (if t128 = true then ((spec_NameKey.f k a0_0).bind fun t129 => (spec_NeedMay.j0 k (!t129) a0_0 a0_1 l0_2)) else (spec_NeedMay.j0 k true a0_0 a0_1 l0_2))
theorem spec_NeedMay.mono_l : ∀ k, (∀ y0 y1 y2 y3, LeO (spec_NeedMay.j0 k y0 y1 y2 y3) (spec_NeedMay.j0 (k + 1) y0 y1 y2 y3)) ∧ (∀ y0 y1 y2 y3, LeO (spec_NeedMay.l0 k y0 y1 y2 y3) (spec_NeedMay.l0 (k + 1) y0 y1 y2 y3))
  | 0 => ⟨fun _ _ _ _ r h => by simp [spec_NeedMay.j0] at h, fun _ _ _ _ r h => by simp [spec_NeedMay.l0] at h⟩
  | k + 1 => by
    obtain ⟨ih0, ih1⟩ := spec_NeedMay.mono_l k
    refine ⟨?_, ?_⟩
    · intro y0 y1 y2 y3
      unfold spec_NeedMay.j0
      repeat' first
      | (with_reducible exact ih0 _ _ _ _)
      | (with_reducible exact ih1 _ _ _ _)
      | (with_reducible exact spec_NameKey.mono _ _)
      | (with_reducible exact spec_NeedCount.mono _ _ _ _)
      | (with_reducible exact spec_NeedOp.mono _ _)
      | (with_reducible exact LeO.refl _)
      | (with_reducible exact LeO.none _)
      | (with_reducible refine LeO.ite ?_ ?_)
      | (with_reducible refine LeO.bind ?_ (fun _ => ?_))
      | exact ih0 _ _ _ _
      | exact ih1 _ _ _ _
      | exact spec_NameKey.mono _ _
      | exact spec_NeedCount.mono _ _ _ _
      | exact spec_NeedOp.mono _ _
      | exact LeO.none _
      | refine LeO.ite ?_ ?_
      | refine LeO.bind ?_ (fun _ => ?_)
    · intro y0 y1 y2 y3
      unfold spec_NeedMay.l0
      repeat' first
      | (with_reducible exact ih0 _ _ _ _)
      | (with_reducible exact ih1 _ _ _ _)
      | (with_reducible exact spec_NameKey.mono _ _)
      | (with_reducible exact spec_NeedCount.mono _ _ _ _)
      | (with_reducible exact spec_NeedOp.mono _ _)
      | (with_reducible exact LeO.refl _)
      | (with_reducible exact LeO.none _)
      | (with_reducible refine LeO.ite ?_ ?_)
      | (with_reducible refine LeO.bind ?_ (fun _ => ?_))
      | exact ih0 _ _ _ _
      | exact ih1 _ _ _ _
      | exact spec_NameKey.mono _ _
      | exact spec_NeedCount.mono _ _ _ _
      | exact spec_NeedOp.mono _ _
      | exact LeO.none _
      | refine LeO.ite ?_ ?_
      | refine LeO.bind ?_ (fun _ => ?_)
theorem spec_NeedMay.mono : ∀ a0 a1 a2 k, LeO (spec_NeedMay.f k a0 a1 a2) (spec_NeedMay.f (k + 1) a0 a1 a2) := by
  intro a0 a1 a2 k
  obtain ⟨ih0, ih1⟩ := spec_NeedMay.mono_l k
  unfold spec_NeedMay.f
  repeat' first
      | (with_reducible exact ih0 _ _ _ _)
      | (with_reducible exact ih1 _ _ _ _)
      | (with_reducible exact spec_NameKey.mono _ _)
      | (with_reducible exact spec_NeedCount.mono _ _ _ _)
      | (with_reducible exact spec_NeedOp.mono _ _)
      | (with_reducible exact LeO.refl _)
      | (with_reducible exact LeO.none _)
      | (with_reducible refine LeO.ite ?_ ?_)
      | (with_reducible refine LeO.bind ?_ (fun _ => ?_))
      | exact ih0 _ _ _ _
      | exact ih1 _ _ _ _
      | exact spec_NameKey.mono _ _
      | exact spec_NeedCount.mono _ _ _ _
      | exact spec_NeedOp.mono _ _
      | exact LeO.none _
      | refine LeO.ite ?_ ?_
      | refine LeO.bind ?_ (fun _ => ?_)
set_option maxHeartbeats 8000000 in
set_option maxRecDepth 100000 in
theorem spec_NeedMay.calls (k : Nat) (a0_0 : ByteArray) (a0_1 : ByteArray) (A0_2 : Option Addr) (c0_2 : Nat) (l0_2 : List ByteArray) (r : Bool) (w : World) (hr0_2 : Kd.C Kd.string w A0_2 l0_2.length l0_2) (hc0_2 : l0_2.length ≤ c0_2) (h : spec_NeedMay.f k a0_0 a0_1 l0_2 = some r) :
    Calls Tryd.prog 7 #[.agg #[.string a0_0, .string a0_1, .slice A0_2 l0_2.length c0_2]] w fun e w' => e = .returned (.bool r) ∧ Below w.heap.size w w' := by
  have hu24 := Tryd.underlying24
  have HR0_2 := Aside0.mk hr0_2
  have HC0_2 := Aside0.mk hc0_2
  clear hr0_2 hc0_2
  have HB := Aside0.mk (Below.refl w.heap.size w)
  have H : ((spec_NeedOp.f k a0_1).bind fun t128 => (if t128 = true then ((spec_NameKey.f k a0_0).bind fun t129 => (spec_NeedMay.j0 k (!t129) a0_0 a0_1 l0_2)) else (spec_NeedMay.j0 k true a0_0 a0_1 l0_2))) = some r := h
  clear h
  have HC2 := Aside0.mk H
  clear H
  go_enter Tryd.func7, Tryd.ntmps7
  go_upto_region 1 with (first | ((with_reducible refine gate_dst (N := 1) rfl ?_); refine box_event ?hg (N := 1) ?hd (cs := #[.string a0_0, .string a0_1, .slice A0_2 l0_2.length c0_2]) (t := 24) ?hr ?_; (case hd => rfl); (case hg => rfl); (case hr => first | (go_simp; done) | (go_simp; rfl)); intro gb127 hg w3 hbox hb; have n0_ := Aside0.mk (below_step (by repeat (first | (with_reducible first | exact HB.out | apply below_alloc | apply pw_below_drewN | apply below_drew1) | exact HB.out)) hb); have n1_ := Aside0.mk (hbox); have n2_ := Aside0.mk ((by rw [hg]; exact (below_size (by repeat (first | (with_reducible first | exact HB.out | apply below_alloc | apply pw_below_drewN | apply below_drew1) | exact HB.out))) : w.heap.size ≤ gb127)); have n3_ := Aside0.mk ((by rw [hg]; exact (below_size (by repeat (first | (with_reducible first | exact HB.out | apply below_alloc | apply pw_below_drewN | apply below_drew1) | exact HB.out))) : w.heap.size ≤ gb127)); clear HB; have HB := n0_; have BK127 := n1_; have GW127 := n2_; have GE127 := n3_; clear n0_ n1_ n2_ n3_; clear hb hbox hg))
  (try simp only [Act.put, List.setIfInBounds_toArray, List.set_cons_zero, List.set_cons_succ])
  go_cut [13] (fun v13 wc => ∃ (kq : Nat) (x13_1 : Bool), v13 = .bool x13_1 ∧ Aside0 (spec_NeedMay.j0 kq x13_1 a0_0 a0_1 l0_2 = some r) ∧ Aside0 (kq ≤ k) ∧ Aside0 (wc.heap[gb127]? = some (.cells #[.string a0_0, .string a0_1, (.slice A0_2 l0_2.length c0_2)] 24 (0, 0))) ∧ Aside0 (Below w.heap.size w wc))
  case first =>
    have H := HC2.out
    clear HC2
    replace H := Option.bind_eq_some_iff.mp H
    obtain ⟨t128, A40, H⟩ := H
    replace H : (if t128 = true then ((spec_NameKey.f k a0_0).bind fun t129 => (spec_NeedMay.j0 k (!t129) a0_0 a0_1 l0_2)) else (spec_NeedMay.j0 k true a0_0 a0_1 l0_2)) = some r := H
    have A4 := Aside0.mk A40
    clear A40
    by_cases c5 : t128 = true
    · subst c5
      have H1 : ((spec_NameKey.f k a0_0).bind fun t129 => (spec_NeedMay.j0 k (!t129) a0_0 a0_1 l0_2)) = some r := by rw [if_pos rfl] at H; exact H
      clear H
      have H := H1
      clear H1
      replace H := Option.bind_eq_some_iff.mp H
      obtain ⟨t129, A60, H⟩ := H
      replace H : (spec_NeedMay.j0 k (!t129) a0_0 a0_1 l0_2) = some r := H
      have A6 := Aside0.mk A60
      clear A60
      have H' := Aside0.mk H
      clear H
      have hcz7_0 : w3.cell? ⟨gb127, 0, none⟩ = some (.string a0_0) := (blk_cell BK127.out 0).trans rfl
      have hcz7_1 : w3.cell? ⟨gb127, 1, none⟩ = some (.string a0_1) := (blk_cell BK127.out 1).trans rfl
      have hcz7_2 : w3.cell? ⟨gb127, 2, none⟩ = some (.slice A0_2 l0_2.length c0_2) := (blk_cell BK127.out 2).trans rfl
      have hfz7_0 := blk_frozen BK127.out 0
      have hfz7_1 := blk_frozen BK127.out 1
      have hfz7_2 := blk_frozen BK127.out 2
      go_wp2_with (first | ((with_reducible refine gate_callee (f := 20) rfl ?_); refine goesL_ (some 6) rfl rfl Tryd.func20 (by kernel_rfl) rfl #[.string a0_1] rfl (by (try simp only [List.map_toArray, List.map_cons, List.map_nil]); first | done | rfl | (simp only [List.length_drop, List.length_take]; rfl)) ?_; (with_reducible refine (spec_NeedOp.calls k a0_1 true _ A4.out).mono ?_); rintro e w8 ⟨rfl, hb⟩; refine ⟨_, rfl, ?_⟩; have n0_ := Aside0.mk (blk_below (g := gb127) (o := .cells #[.string a0_0, .string a0_1, .slice A0_2 l0_2.length c0_2] 24 (0, 0)) (by (with_reducible repeat (first | refine blk_drewN ?_ _ | refine blk_drew ?_ | refine blk_alloc ?_ _)); exact BK127.out) hb); have n1_ := Aside0.mk (below_step (by repeat (first | (with_reducible first | exact HB.out | apply below_alloc | apply pw_below_drewN | apply below_drew1 | refine below_set ?_ GE127.out) | exact HB.out)) hb); clear BK127; clear HB; have BK127 := n0_; have HB := n1_; clear n0_ n1_; (try clear hb); (try clear hb2); (try clear hk); (try clear hi); have hcz9_0 : w8.cell? ⟨gb127, 0, none⟩ = some (.string a0_0) := (blk_cell BK127.out 0).trans rfl; have hcz9_1 : w8.cell? ⟨gb127, 1, none⟩ = some (.string a0_1) := (blk_cell BK127.out 1).trans rfl; have hcz9_2 : w8.cell? ⟨gb127, 2, none⟩ = some (.slice A0_2 l0_2.length c0_2) := (blk_cell BK127.out 2).trans rfl; have hfz9_0 := blk_frozen BK127.out 0; have hfz9_1 := blk_frozen BK127.out 1; have hfz9_2 := blk_frozen BK127.out 2) | (go_at_call 21; (with_reducible refine (spec_NameKey.calls k a0_0 t129 _ A6.out).mono ?_); rintro e w10 ⟨rfl, hb⟩; have n0_ := Aside0.mk (blk_below (g := gb127) (o := .cells #[.string a0_0, .string a0_1, .slice A0_2 l0_2.length c0_2] 24 (0, 0)) (by (with_reducible repeat (first | refine blk_drewN ?_ _ | refine blk_drew ?_ | refine blk_alloc ?_ _)); exact BK127.out) hb); have n1_ := Aside0.mk (below_step (by repeat (first | (with_reducible first | exact HB.out | apply below_alloc | apply pw_below_drewN | apply below_drew1 | refine below_set ?_ GE127.out) | exact HB.out)) hb); clear BK127; clear HB; have BK127 := n0_; have HB := n1_; clear n0_ n1_; (try clear hb); (try clear hb2); (try clear hk); (try clear hi)))
      go_meet
      case rel => exact ⟨_, (!t129), (by first | rfl | (simp; done) | (simp [*]; done)), H', ⟨by first | omega | exact Nat.le_refl _⟩, ⟨by (with_reducible repeat (first | refine blk_drewN ?_ _ | refine blk_drew ?_ | refine blk_alloc ?_ _)); exact BK127.out⟩, ⟨by repeat (first | (with_reducible first | exact HB.out | apply below_alloc | apply pw_below_drewN | apply below_drew1 | refine below_set ?_ GE127.out) | exact HB.out)⟩⟩
    · replace c5 := Bool.eq_false_iff.mpr c5
      subst c5
      have H1 : (spec_NeedMay.j0 k true a0_0 a0_1 l0_2) = some r := by rw [if_neg (show ¬ (false = true) by decide)] at H; exact H
      clear H
      have H := H1
      clear H1
      have H' := Aside0.mk H
      clear H
      have hcz11_0 : w3.cell? ⟨gb127, 0, none⟩ = some (.string a0_0) := (blk_cell BK127.out 0).trans rfl
      have hcz11_1 : w3.cell? ⟨gb127, 1, none⟩ = some (.string a0_1) := (blk_cell BK127.out 1).trans rfl
      have hcz11_2 : w3.cell? ⟨gb127, 2, none⟩ = some (.slice A0_2 l0_2.length c0_2) := (blk_cell BK127.out 2).trans rfl
      have hfz11_0 := blk_frozen BK127.out 0
      have hfz11_1 := blk_frozen BK127.out 1
      have hfz11_2 := blk_frozen BK127.out 2
      go_wp2_with (first | ((with_reducible refine gate_callee (f := 20) rfl ?_); refine goesL_ (some 6) rfl rfl Tryd.func20 (by kernel_rfl) rfl #[.string a0_1] rfl (by (try simp only [List.map_toArray, List.map_cons, List.map_nil]); first | done | rfl | (simp only [List.length_drop, List.length_take]; rfl)) ?_; (with_reducible refine (spec_NeedOp.calls k a0_1 false _ A4.out).mono ?_); rintro e w12 ⟨rfl, hb⟩; refine ⟨_, rfl, ?_⟩; have n0_ := Aside0.mk (blk_below (g := gb127) (o := .cells #[.string a0_0, .string a0_1, .slice A0_2 l0_2.length c0_2] 24 (0, 0)) (by (with_reducible repeat (first | refine blk_drewN ?_ _ | refine blk_drew ?_ | refine blk_alloc ?_ _)); exact BK127.out) hb); have n1_ := Aside0.mk (below_step (by repeat (first | (with_reducible first | exact HB.out | apply below_alloc | apply pw_below_drewN | apply below_drew1 | refine below_set ?_ GE127.out) | exact HB.out)) hb); clear BK127; clear HB; have BK127 := n0_; have HB := n1_; clear n0_ n1_; (try clear hb); (try clear hb2); (try clear hk); (try clear hi)))
      go_meet
      case rel => exact ⟨_, (true), (by first | rfl | (simp; done) | (simp [*]; done)), H', ⟨by first | omega | exact Nat.le_refl _⟩, ⟨by (with_reducible repeat (first | refine blk_drewN ?_ _ | refine blk_drew ?_ | refine blk_alloc ?_ _)); exact BK127.out⟩, ⟨by repeat (first | (with_reducible first | exact HB.out | apply below_alloc | apply pw_below_drewN | apply below_drew1 | refine below_set ?_ GE127.out) | exact HB.out)⟩⟩
  case rest =>
    clear HC2
    try clear c2
    try clear p2
    try clear c5
    try clear c7
    try clear hcz11_0
    try clear hcz11_1
    try clear hcz11_2
    try clear hcz7_0
    try clear hcz7_1
    try clear hcz7_2
    try clear hcz9_0
    try clear hcz9_1
    try clear hcz9_2
    try clear hfz11_0
    try clear hfz11_1
    try clear hfz11_2
    try clear hfz7_0
    try clear hfz7_1
    try clear hfz7_2
    try clear hfz9_0
    try clear hfz9_1
    try clear hfz9_2
    obtain ⟨kq, x13_1, rfl, HA, HJ1, BK127, HB⟩ := hcut
    cases kq with
    | zero => exact absurd HA.out (by simp [spec_NeedMay.j0])
    | succ kj1 =>
      have H := HA.out
      clear HA
      simp only [spec_NeedMay.j0] at H
      by_cases c13 : x13_1 = true
      · subst c13
        have H1 : (some false) = some r := by rw [if_pos rfl] at H; exact H
        clear H
        have H := H1
        clear H1
        obtain rfl := Option.some.inj H
        go_wp2
        go_ret
        exact ⟨by first | rfl | (simp [errW_none, errW_some] <;> rfl) | (simp [*, errW_none, errW_some] <;> rfl) | (exfalso; contradiction), by repeat (first | (with_reducible first | exact HB.out | apply below_alloc | apply pw_below_drewN | apply below_drew1 | refine below_set ?_ GE127.out) | exact HB.out)⟩
      · replace c13 := Bool.eq_false_iff.mpr c13
        subst c13
        have H1 : (spec_NeedMay.l0 kj1 0 a0_0 a0_1 l0_2) = some r := by rw [if_neg (show ¬ (false = true) by decide)] at H; exact H
        clear H
        have H := H1
        clear H1
        have H' := Aside0.mk H
        clear H
        go_wp2
        go_loopg [3] kj1 (fun kq v3 w' => ∃ (x3_2 : Int), v3 = .int .i64 x3_2 ∧ Aside0 (spec_NeedMay.l0 kq x3_2 a0_0 a0_1 l0_2 = some r) ∧ Aside0 (kq ≤ kj1) ∧ Aside0 (w'.heap[gb127]? = some (.cells #[.string a0_0, .string a0_1, (.slice A0_2 l0_2.length c0_2)] 24 (0, 0))) ∧ Aside0 (Below w.heap.size w w'))
        case atStart => exact ⟨(0), (by first | rfl | (simp; done) | (simp [*]; done)), H', ⟨Nat.le_refl _⟩, ⟨by (with_reducible repeat (first | refine blk_drewN ?_ _ | refine blk_drew ?_ | refine blk_alloc ?_ _)); exact BK127.out⟩, ⟨by repeat (first | (with_reducible first | exact HB.out | apply below_alloc | apply pw_below_drewN | apply below_drew1 | refine below_set ?_ GE127.out) | exact HB.out)⟩⟩
        case round =>
          clear H'
          try clear c1
          try clear c2
          try clear p2
          try clear c5
          try clear c7
          try clear c13
          try clear hcz11_0
          try clear hcz11_1
          try clear hcz11_2
          try clear hcz7_0
          try clear hcz7_1
          try clear hcz7_2
          try clear hcz9_0
          try clear hcz9_1
          try clear hcz9_2
          try clear hfz11_0
          try clear hfz11_1
          try clear hfz11_2
          try clear hfz7_0
          try clear hfz7_1
          try clear hfz7_2
          try clear hfz9_0
          try clear hfz9_1
          try clear hfz9_2
          try clear p2
          obtain ⟨x3_2, rfl, HA, HK2, BK127, HB⟩ := hrel
          cases gk with
          | zero => exact absurd HA.out (by simp [spec_NeedMay.l0])
          | succ k2 =>
            have H := HA.out
            clear HA
            simp only [spec_NeedMay.l0] at H
            by_cases c14 : x3_2 < (l0_2.length : Int)
            · rw [if_pos c14] at H
              have c14b0 : decide (x3_2 < (l0_2.length : Int)) = true := decide_eq_true c14
              clear c14
              by_cases c15 : 0 ≤ x3_2
              · rw [if_pos c15] at H
                have c15b0 : decide (0 ≤ x3_2) = true := decide_eq_true c15
                clear c15
                replace H := Option.bind_eq_some_iff.mp H
                obtain ⟨t131, A160, H⟩ := H
                replace H : (if t131 = true then (spec_NeedMay.l0 k2 (wrap64 (x3_2 + 1)) a0_0 a0_1 l0_2) else (some false)) = some r := H
                have A16 := Aside0.mk A160
                clear A160
                by_cases c17 : t131 = true
                · subst c17
                  have H1 : (spec_NeedMay.l0 k2 (wrap64 (x3_2 + 1)) a0_0 a0_1 l0_2) = some r := by rw [if_pos rfl] at H; exact H
                  clear H
                  have H := H1
                  clear H1
                  have H' := Aside0.mk H
                  clear H
                  have hcz18_0 : wr.cell? ⟨gb127, 0, none⟩ = some (.string a0_0) := (blk_cell BK127.out 0).trans rfl
                  have hcz18_1 : wr.cell? ⟨gb127, 1, none⟩ = some (.string a0_1) := (blk_cell BK127.out 1).trans rfl
                  have hcz18_2 : wr.cell? ⟨gb127, 2, none⟩ = some (.slice A0_2 l0_2.length c0_2) := (blk_cell BK127.out 2).trans rfl
                  have hfz18_0 := blk_frozen BK127.out 0
                  have hfz18_1 := blk_frozen BK127.out 1
                  have hfz18_2 := blk_frozen BK127.out 2
                  have p130 : 0 ≤ (x3_2 : Int) := of_decide_eq_true (by first | (with_reducible assumption) | assumption)
                  have q130 : x3_2 < (l0_2.length : Int) := of_decide_eq_true (by first | (with_reducible assumption) | assumption)
                  obtain ⟨ad130, e130, hx130_0⟩ := Kd.at_string HR0_2.out x3_2 p130 q130
                  cases e130
                  replace hx130_0 := (HB.out.cell (World.block_lt_of_cell? w _ hx130_0)).trans hx130_0
                  replace p130 := eq_true p130
                  replace q130 := eq_true q130
                  go_wp2_with (first | ((with_reducible refine gate_callee (f := 22) rfl ?_); refine goesL_ (some 26) rfl rfl Tryd.func22 (by kernel_rfl) rfl #[.string (rdOf ByteArray.empty l0_2 x3_2)] rfl (by (try simp only [List.map_toArray, List.map_cons, List.map_nil]); first | done | rfl | (simp only [List.length_drop, List.length_take]; rfl)) ?_; (with_reducible refine (spec_NameValue.calls (rdOf ByteArray.empty l0_2 x3_2) true _ A16.out).mono ?_); rintro e w19 ⟨rfl, hb⟩; refine ⟨_, rfl, ?_⟩; have n0_ := Aside0.mk (blk_below (g := gb127) (o := .cells #[.string a0_0, .string a0_1, .slice (some ad130) l0_2.length c0_2] 24 (0, 0)) (by (with_reducible repeat (first | refine blk_drewN ?_ _ | refine blk_drew ?_ | refine blk_alloc ?_ _)); exact BK127.out) hb); have n1_ := Aside0.mk (below_step (by repeat (first | (with_reducible first | exact HB.out | apply below_alloc | apply pw_below_drewN | apply below_drew1 | refine below_set ?_ GE127.out) | exact HB.out)) hb); clear BK127; clear HB; have BK127 := n0_; have HB := n1_; clear n0_ n1_; (try clear hb); (try clear hb2); (try clear hk); (try clear hi)))
                  go_roundg k2
                  case measure => have := HJ1.out; have := HK2.out; omega
                  case rel => exact ⟨(wrap64 (x3_2 + 1)), (by first | rfl | (simp; done) | (simp [*]; done)), H', ⟨by have := HJ1.out; have := HK2.out; omega⟩, ⟨by (with_reducible repeat (first | refine blk_drewN ?_ _ | refine blk_drew ?_ | refine blk_alloc ?_ _)); exact BK127.out⟩, ⟨by repeat (first | (with_reducible first | exact HB.out | apply below_alloc | apply pw_below_drewN | apply below_drew1 | refine below_set ?_ GE127.out) | exact HB.out)⟩⟩
                · replace c17 := Bool.eq_false_iff.mpr c17
                  subst c17
                  have H1 : (some false) = some r := by rw [if_neg (show ¬ (false = true) by decide)] at H; exact H
                  clear H
                  have H := H1
                  clear H1
                  obtain rfl := Option.some.inj H
                  have hcz20_0 : wr.cell? ⟨gb127, 0, none⟩ = some (.string a0_0) := (blk_cell BK127.out 0).trans rfl
                  have hcz20_1 : wr.cell? ⟨gb127, 1, none⟩ = some (.string a0_1) := (blk_cell BK127.out 1).trans rfl
                  have hcz20_2 : wr.cell? ⟨gb127, 2, none⟩ = some (.slice A0_2 l0_2.length c0_2) := (blk_cell BK127.out 2).trans rfl
                  have hfz20_0 := blk_frozen BK127.out 0
                  have hfz20_1 := blk_frozen BK127.out 1
                  have hfz20_2 := blk_frozen BK127.out 2
                  have p130 : 0 ≤ (x3_2 : Int) := of_decide_eq_true (by first | (with_reducible assumption) | assumption)
                  have q130 : x3_2 < (l0_2.length : Int) := of_decide_eq_true (by first | (with_reducible assumption) | assumption)
                  obtain ⟨ad130, e130, hx130_0⟩ := Kd.at_string HR0_2.out x3_2 p130 q130
                  cases e130
                  replace hx130_0 := (HB.out.cell (World.block_lt_of_cell? w _ hx130_0)).trans hx130_0
                  replace p130 := eq_true p130
                  replace q130 := eq_true q130
                  go_wp2_with (first | ((with_reducible refine gate_callee (f := 22) rfl ?_); refine goesL_ (some 26) rfl rfl Tryd.func22 (by kernel_rfl) rfl #[.string (rdOf ByteArray.empty l0_2 x3_2)] rfl (by (try simp only [List.map_toArray, List.map_cons, List.map_nil]); first | done | rfl | (simp only [List.length_drop, List.length_take]; rfl)) ?_; (with_reducible refine (spec_NameValue.calls (rdOf ByteArray.empty l0_2 x3_2) false _ A16.out).mono ?_); rintro e w21 ⟨rfl, hb⟩; refine ⟨_, rfl, ?_⟩; have n0_ := Aside0.mk (blk_below (g := gb127) (o := .cells #[.string a0_0, .string a0_1, .slice (some ad130) l0_2.length c0_2] 24 (0, 0)) (by (with_reducible repeat (first | refine blk_drewN ?_ _ | refine blk_drew ?_ | refine blk_alloc ?_ _)); exact BK127.out) hb); have n1_ := Aside0.mk (below_step (by repeat (first | (with_reducible first | exact HB.out | apply below_alloc | apply pw_below_drewN | apply below_drew1 | refine below_set ?_ GE127.out) | exact HB.out)) hb); clear BK127; clear HB; have BK127 := n0_; have HB := n1_; clear n0_ n1_; (try clear hb); (try clear hb2); (try clear hk); (try clear hi)))
                  go_ret
                  exact ⟨by first | rfl | (simp [errW_none, errW_some] <;> rfl) | (simp [*, errW_none, errW_some] <;> rfl) | (exfalso; contradiction), by repeat (first | (with_reducible first | exact HB.out | apply below_alloc | apply pw_below_drewN | apply below_drew1 | refine below_set ?_ GE127.out) | exact HB.out)⟩
              · rw [if_neg c15] at H
                exact absurd H (by simp)
            · rw [if_neg c14] at H
              have c14b0 : decide (x3_2 < (l0_2.length : Int)) = false := decide_eq_false c14
              clear c14
              replace H := Option.bind_eq_some_iff.mp H
              obtain ⟨t132, A220, H⟩ := H
              replace H : (some t132) = some r := H
              have A22 := Aside0.mk A220
              clear A220
              obtain rfl := Option.some.inj H
              have hcz23_0 : wr.cell? ⟨gb127, 0, none⟩ = some (.string a0_0) := (blk_cell BK127.out 0).trans rfl
              have hcz23_1 : wr.cell? ⟨gb127, 1, none⟩ = some (.string a0_1) := (blk_cell BK127.out 1).trans rfl
              have hcz23_2 : wr.cell? ⟨gb127, 2, none⟩ = some (.slice A0_2 l0_2.length c0_2) := (blk_cell BK127.out 2).trans rfl
              have hfz23_0 := blk_frozen BK127.out 0
              have hfz23_1 := blk_frozen BK127.out 1
              have hfz23_2 := blk_frozen BK127.out 2
              go_wp2_with (first | ((with_reducible refine gate_callee (f := 23) rfl ?_); refine goesL_ (some 29) rfl rfl Tryd.func23 (by kernel_rfl) rfl #[.agg #[.string a0_0, .string a0_1, .slice A0_2 l0_2.length c0_2]] rfl (by (try simp only [List.map_toArray, List.map_cons, List.map_nil]); first | done | rfl | (simp only [List.length_drop, List.length_take]; rfl)) ?_; (with_reducible refine (spec_NeedCount.calls k2 a0_0 a0_1 _ _ l0_2 t132 _ ?side1 ?side2 A22.out).mono ?_); (case side1 => repeat (first | exact (Kd.C_below HR0_2.out HB.out) | (with_reducible refine Kd.C_alloc ?_ _) | (with_reducible refine Kd.C_drewN ?_ _) | (with_reducible refine Kd.C_drew ?_))); (case side2 => exact HC0_2.out); rintro e w24 ⟨rfl, hb⟩; refine ⟨_, rfl, ?_⟩; have n0_ := Aside0.mk (blk_below (g := gb127) (o := .cells #[.string a0_0, .string a0_1, .slice A0_2 l0_2.length c0_2] 24 (0, 0)) (by (with_reducible repeat (first | refine blk_drewN ?_ _ | refine blk_drew ?_ | refine blk_alloc ?_ _)); exact BK127.out) hb); have n1_ := Aside0.mk (below_step (by repeat (first | (with_reducible first | exact HB.out | apply below_alloc | apply pw_below_drewN | apply below_drew1 | refine below_set ?_ GE127.out) | exact HB.out)) hb); clear BK127; clear HB; have BK127 := n0_; have HB := n1_; clear n0_ n1_; (try clear hb); (try clear hb2); (try clear hk); (try clear hi)))
              go_ret
              exact ⟨by first | rfl | (simp [errW_none, errW_some] <;> rfl) | (simp [*, errW_none, errW_some] <;> rfl) | (exfalso; contradiction), by repeat (first | (with_reducible first | exact HB.out | apply below_alloc | apply pw_below_drewN | apply below_drew1 | refine below_set ?_ GE127.out) | exact HB.out)⟩

/-! ### laws_zzFits3: function 28 -/
def laws_zzFits3.f (a0_0 : ByteArray) (a0_1 : ByteArray) : Option (Bool) := if (a0_0.size : Int) > 2147483647 then (some false) else (if (a0_1.size : Int) > 2147483647 then (some false) else (some true))
set_option maxHeartbeats 8000000 in
set_option maxRecDepth 100000 in
theorem laws_zzFits3.calls (a0_0 : ByteArray) (a0_1 : ByteArray) (r : Bool) (w : World) (h : laws_zzFits3.f a0_0 a0_1 = some r) :
    Calls Tryd.prog 28 #[.agg #[.string a0_0, .string a0_1]] w fun e w' => e = .returned (.bool r) ∧ Below w.heap.size w w' := by
  have hu37 := Tryd.underlying37
  have HB := Aside0.mk (Below.refl w.heap.size w)
  have H : (if (a0_0.size : Int) > 2147483647 then (some false) else (if (a0_1.size : Int) > 2147483647 then (some false) else (some true))) = some r := h
  clear h
  by_cases c2 : (a0_0.size : Int) > 2147483647
  · rw [if_pos c2] at H
    have c2b0 : decide (2147483647 < (a0_0.size : Int)) = true := decide_eq_true c2
    have c2b1 : decide (2147483647 < a0_0.size) = true := decide_eq_true (by omega)
    clear c2
    obtain rfl := Option.some.inj H
    go_enter Tryd.func28, Tryd.ntmps28
    go_wp2_with (first | ((with_reducible refine gate_dst (N := 1) rfl ?_); refine box_event ?hg (N := 1) ?hd (cs := #[.string a0_0, .string a0_1]) (t := 37) ?hr ?_; (case hd => rfl); (case hg => rfl); (case hr => first | (go_simp; done) | (go_simp; rfl)); intro gb133 hg w3 hbox hb; have n0_ := Aside0.mk (below_step (by repeat (first | (with_reducible first | exact HB.out | apply below_alloc | apply pw_below_drewN | apply below_drew1) | exact HB.out)) hb); have n1_ := Aside0.mk (hbox); have n2_ := Aside0.mk ((by rw [hg]; exact (below_size (by repeat (first | (with_reducible first | exact HB.out | apply below_alloc | apply pw_below_drewN | apply below_drew1) | exact HB.out))) : w.heap.size ≤ gb133)); have n3_ := Aside0.mk ((by rw [hg]; exact (below_size (by repeat (first | (with_reducible first | exact HB.out | apply below_alloc | apply pw_below_drewN | apply below_drew1) | exact HB.out))) : w.heap.size ≤ gb133)); clear HB; have HB := n0_; have BK133 := n1_; have GW133 := n2_; have GE133 := n3_; clear n0_ n1_ n2_ n3_; clear hb hbox hg; have hcz4_0 : w3.cell? ⟨gb133, 0, none⟩ = some (.string a0_0) := (blk_cell BK133.out 0).trans rfl; have hcz4_1 : w3.cell? ⟨gb133, 1, none⟩ = some (.string a0_1) := (blk_cell BK133.out 1).trans rfl; have hfz4_0 := blk_frozen BK133.out 0; have hfz4_1 := blk_frozen BK133.out 1))
    go_ret
    exact ⟨by first | rfl | (simp [errW_none, errW_some] <;> rfl) | (simp [*, errW_none, errW_some] <;> rfl) | (exfalso; contradiction), by repeat (first | (with_reducible first | exact HB.out | apply below_alloc | apply pw_below_drewN | apply below_drew1 | refine below_set ?_ GE133.out) | exact HB.out)⟩
  · rw [if_neg c2] at H
    have c2b0 : decide (2147483647 < (a0_0.size : Int)) = false := decide_eq_false c2
    have c2b1 : decide (2147483647 < a0_0.size) = false := decide_eq_false (by omega)
    clear c2
    by_cases c5 : (a0_1.size : Int) > 2147483647
    · rw [if_pos c5] at H
      have c5b0 : decide (2147483647 < (a0_1.size : Int)) = true := decide_eq_true c5
      have c5b1 : decide (2147483647 < a0_1.size) = true := decide_eq_true (by omega)
      clear c5
      obtain rfl := Option.some.inj H
      go_enter Tryd.func28, Tryd.ntmps28
      go_wp2_with (first | ((with_reducible refine gate_dst (N := 1) rfl ?_); refine box_event ?hg (N := 1) ?hd (cs := #[.string a0_0, .string a0_1]) (t := 37) ?hr ?_; (case hd => rfl); (case hg => rfl); (case hr => first | (go_simp; done) | (go_simp; rfl)); intro gb133 hg w6 hbox hb; have n0_ := Aside0.mk (below_step (by repeat (first | (with_reducible first | exact HB.out | apply below_alloc | apply pw_below_drewN | apply below_drew1) | exact HB.out)) hb); have n1_ := Aside0.mk (hbox); have n2_ := Aside0.mk ((by rw [hg]; exact (below_size (by repeat (first | (with_reducible first | exact HB.out | apply below_alloc | apply pw_below_drewN | apply below_drew1) | exact HB.out))) : w.heap.size ≤ gb133)); have n3_ := Aside0.mk ((by rw [hg]; exact (below_size (by repeat (first | (with_reducible first | exact HB.out | apply below_alloc | apply pw_below_drewN | apply below_drew1) | exact HB.out))) : w.heap.size ≤ gb133)); clear HB; have HB := n0_; have BK133 := n1_; have GW133 := n2_; have GE133 := n3_; clear n0_ n1_ n2_ n3_; clear hb hbox hg; have hcz7_0 : w6.cell? ⟨gb133, 0, none⟩ = some (.string a0_0) := (blk_cell BK133.out 0).trans rfl; have hcz7_1 : w6.cell? ⟨gb133, 1, none⟩ = some (.string a0_1) := (blk_cell BK133.out 1).trans rfl; have hfz7_0 := blk_frozen BK133.out 0; have hfz7_1 := blk_frozen BK133.out 1))
      go_ret
      exact ⟨by first | rfl | (simp [errW_none, errW_some] <;> rfl) | (simp [*, errW_none, errW_some] <;> rfl) | (exfalso; contradiction), by repeat (first | (with_reducible first | exact HB.out | apply below_alloc | apply pw_below_drewN | apply below_drew1 | refine below_set ?_ GE133.out) | exact HB.out)⟩
    · rw [if_neg c5] at H
      have c5b0 : decide (2147483647 < (a0_1.size : Int)) = false := decide_eq_false c5
      have c5b1 : decide (2147483647 < a0_1.size) = false := decide_eq_false (by omega)
      clear c5
      obtain rfl := Option.some.inj H
      go_enter Tryd.func28, Tryd.ntmps28
      go_wp2_with (first | ((with_reducible refine gate_dst (N := 1) rfl ?_); refine box_event ?hg (N := 1) ?hd (cs := #[.string a0_0, .string a0_1]) (t := 37) ?hr ?_; (case hd => rfl); (case hg => rfl); (case hr => first | (go_simp; done) | (go_simp; rfl)); intro gb133 hg w8 hbox hb; have n0_ := Aside0.mk (below_step (by repeat (first | (with_reducible first | exact HB.out | apply below_alloc | apply pw_below_drewN | apply below_drew1) | exact HB.out)) hb); have n1_ := Aside0.mk (hbox); have n2_ := Aside0.mk ((by rw [hg]; exact (below_size (by repeat (first | (with_reducible first | exact HB.out | apply below_alloc | apply pw_below_drewN | apply below_drew1) | exact HB.out))) : w.heap.size ≤ gb133)); have n3_ := Aside0.mk ((by rw [hg]; exact (below_size (by repeat (first | (with_reducible first | exact HB.out | apply below_alloc | apply pw_below_drewN | apply below_drew1) | exact HB.out))) : w.heap.size ≤ gb133)); clear HB; have HB := n0_; have BK133 := n1_; have GW133 := n2_; have GE133 := n3_; clear n0_ n1_ n2_ n3_; clear hb hbox hg; have hcz9_0 : w8.cell? ⟨gb133, 0, none⟩ = some (.string a0_0) := (blk_cell BK133.out 0).trans rfl; have hcz9_1 : w8.cell? ⟨gb133, 1, none⟩ = some (.string a0_1) := (blk_cell BK133.out 1).trans rfl; have hfz9_0 := blk_frozen BK133.out 0; have hfz9_1 := blk_frozen BK133.out 1))
      go_ret
      exact ⟨by first | rfl | (simp [errW_none, errW_some] <;> rfl) | (simp [*, errW_none, errW_some] <;> rfl) | (exfalso; contradiction), by repeat (first | (with_reducible first | exact HB.out | apply below_alloc | apply pw_below_drewN | apply below_drew1 | refine below_set ?_ GE133.out) | exact HB.out)⟩

/-! ### laws_zzFits2: function 11 -/
def laws_zzFits2.l0 : Nat → List (S37) → Int → Int → Option (Bool)
  | 0, _, _, _ => none
  | k + 1, x8, x9, x10 => if x10 < x9 then (if 0 ≤ x10 then (if x10 < (x8.length : Int) then ((laws_zzFits3.f ((rd_T37 x8 x10).f0) ((rd_T37 x8 x10).f1)).bind fun t136 => (if t136 = true then (laws_zzFits2.l0 k x8 x9 (wrap64 (x10 + 1))) else (some false))) else (none)) else (none)) else (some true)
def laws_zzFits2.f (k : Nat) (l0 : List (S37)) : Option (Bool) := if (l0.length : Int) > 2147483647 then (some false) else (laws_zzFits2.l0 k l0 (l0.length : Int) 0)
theorem laws_zzFits2.mono_l : ∀ k, (∀ y0 y1 y2, LeO (laws_zzFits2.l0 k y0 y1 y2) (laws_zzFits2.l0 (k + 1) y0 y1 y2))
  | 0 => fun _ _ _ r h => by simp [laws_zzFits2.l0] at h
  | k + 1 => by
    have ih0 := laws_zzFits2.mono_l k
    · intro y0 y1 y2
      unfold laws_zzFits2.l0
      repeat' first
      | (with_reducible exact ih0 _ _ _)
      | (with_reducible exact LeO.refl _)
      | (with_reducible exact LeO.none _)
      | (with_reducible refine LeO.ite ?_ ?_)
      | (with_reducible refine LeO.bind ?_ (fun _ => ?_))
      | exact ih0 _ _ _
      | exact LeO.none _
      | refine LeO.ite ?_ ?_
      | refine LeO.bind ?_ (fun _ => ?_)
theorem laws_zzFits2.mono : ∀ a0 k, LeO (laws_zzFits2.f k a0) (laws_zzFits2.f (k + 1) a0) := by
  intro a0 k
  have ih0 := laws_zzFits2.mono_l k
  unfold laws_zzFits2.f
  repeat' first
      | (with_reducible exact ih0 _ _ _)
      | (with_reducible exact LeO.refl _)
      | (with_reducible exact LeO.none _)
      | (with_reducible refine LeO.ite ?_ ?_)
      | (with_reducible refine LeO.bind ?_ (fun _ => ?_))
      | exact ih0 _ _ _
      | exact LeO.none _
      | refine LeO.ite ?_ ?_
      | refine LeO.bind ?_ (fun _ => ?_)
set_option maxHeartbeats 8000000 in
set_option maxRecDepth 100000 in
theorem laws_zzFits2.calls (k : Nat) (A0 : Option Addr) (c0 : Nat) (l0 : List (S37)) (r : Bool) (w : World) (hr0 : Kd.C k37 w A0 l0.length l0) (hc0 : l0.length ≤ c0) (h : laws_zzFits2.f k l0 = some r) :
    Calls Tryd.prog 11 #[.slice A0 l0.length c0] w fun e w' => e = .returned (.bool r) ∧ Below w.heap.size w w' := by
  have hu37 := Tryd.underlying37
  have HR0 := Aside0.mk hr0
  have HC0 := Aside0.mk hc0
  clear hr0 hc0
  have HB := Aside0.mk (Below.refl w.heap.size w)
  have H : (if (l0.length : Int) > 2147483647 then (some false) else (laws_zzFits2.l0 k l0 (l0.length : Int) 0)) = some r := h
  clear h
  by_cases c2 : (l0.length : Int) > 2147483647
  · rw [if_pos c2] at H
    have c2b0 : decide (2147483647 < (l0.length : Int)) = true := decide_eq_true c2
    have c2b1 : decide (2147483647 < l0.length) = true := decide_eq_true (by omega)
    clear c2
    obtain rfl := Option.some.inj H
    go_enter Tryd.func11, Tryd.ntmps11
    go_wp2
    go_ret
    exact ⟨by first | rfl | (simp [errW_none, errW_some] <;> rfl) | (simp [*, errW_none, errW_some] <;> rfl) | (exfalso; contradiction), by repeat (first | (with_reducible first | exact HB.out | apply below_alloc | apply pw_below_drewN | apply below_drew1) | exact HB.out)⟩
  · rw [if_neg c2] at H
    have c2b0 : decide (2147483647 < (l0.length : Int)) = false := decide_eq_false c2
    have c2b1 : decide (2147483647 < l0.length) = false := decide_eq_false (by omega)
    clear c2
    have H' := Aside0.mk H
    clear H
    go_enter Tryd.func11, Tryd.ntmps11
    go_wp2
    go_loopg [10] k (fun kq v10 w' => ∃ (x10_1 : Int), v10 = .int .i64 x10_1 ∧ Aside0 (laws_zzFits2.l0 kq l0 (l0.length : Int) x10_1 = some r) ∧ Aside0 (kq ≤ k) ∧ Aside0 (Below w.heap.size w w'))
    case atStart => exact ⟨(0), (by first | rfl | (simp; done) | (simp [*]; done)), H', ⟨Nat.le_refl _⟩, ⟨by repeat (first | (with_reducible first | exact HB.out | apply below_alloc | apply pw_below_drewN | apply below_drew1) | exact HB.out)⟩⟩
    case round =>
      clear H'
      try clear c1
      try clear c2
      try clear c2b0
      try clear c2b1
      try clear p2
      obtain ⟨x10_1, rfl, HA, HK1, HB⟩ := hrel
      cases gk with
      | zero => exact absurd HA.out (by simp [laws_zzFits2.l0])
      | succ k1 =>
        have H := HA.out
        clear HA
        simp only [laws_zzFits2.l0] at H
        by_cases c3 : x10_1 < (l0.length : Int)
        · rw [if_pos c3] at H
          have c3b0 : decide (x10_1 < (l0.length : Int)) = true := decide_eq_true c3
          clear c3
          by_cases c4 : 0 ≤ x10_1
          · rw [if_pos c4] at H
            have c4b0 : decide (0 ≤ x10_1) = true := decide_eq_true c4
            clear c4
            by_cases c5 : x10_1 < (l0.length : Int)
            · rw [if_pos c5] at H
              have c5b0 : decide (x10_1 < (l0.length : Int)) = true := decide_eq_true c5
              clear c5
              replace H := Option.bind_eq_some_iff.mp H
              obtain ⟨t136, A60, H⟩ := H
              replace H : (if t136 = true then (laws_zzFits2.l0 k1 l0 (l0.length : Int) (wrap64 (x10_1 + 1))) else (some false)) = some r := H
              have A6 := Aside0.mk A60
              clear A60
              by_cases c7 : t136 = true
              · subst c7
                have H1 : (laws_zzFits2.l0 k1 l0 (l0.length : Int) (wrap64 (x10_1 + 1))) = some r := by rw [if_pos rfl] at H; exact H
                clear H
                have H := H1
                clear H1
                have H' := Aside0.mk H
                clear H
                have p134 : 0 ≤ (x10_1 : Int) := of_decide_eq_true (by first | (with_reducible assumption) | assumption)
                have q134 : x10_1 < (l0.length : Int) := of_decide_eq_true (by first | (with_reducible assumption) | assumption)
                obtain ⟨ad134, e134, hx134_0, hx134_1⟩ := at_T37 HR0.out x10_1 p134 q134
                cases e134
                replace hx134_0 := (HB.out.cell (World.block_lt_of_cell? w _ hx134_0)).trans hx134_0
                replace hx134_1 := (HB.out.cell (World.block_lt_of_cell? w _ hx134_1)).trans hx134_1
                replace p134 := eq_true p134
                replace q134 := eq_true q134
                go_wp2_with (first | ((with_reducible refine gate_dst (N := 4) rfl ?_); refine box_event ?hg (N := 4) ?hd (cs := #[.string (⟨#[]⟩ : ByteArray), .string (⟨#[]⟩ : ByteArray)]) (t := 37) ?hr ?_; (case hd => rfl); (case hg => rfl); (case hr => first | (go_simp; done) | (go_simp; rfl)); intro gb135 hg w8 hbox hb; have n0_ := Aside0.mk (below_step (by repeat (first | (with_reducible first | exact HB.out | apply below_alloc | apply pw_below_drewN | apply below_drew1) | exact HB.out)) hb); have n1_ := Aside0.mk (hbox); have n2_ := Aside0.mk ((by rw [hg]; exact (below_size (by repeat (first | (with_reducible first | exact HB.out | apply below_alloc | apply pw_below_drewN | apply below_drew1) | exact HB.out))) : w.heap.size ≤ gb135)); have n3_ := Aside0.mk ((by rw [hg]; exact (below_size (by repeat (first | (with_reducible first | exact HB.out | apply below_alloc | apply pw_below_drewN | apply below_drew1) | exact HB.out))) : w.heap.size ≤ gb135)); clear HB; have HB := n0_; have BK135 := n1_; have GW135 := n2_; have GE135 := n3_; clear n0_ n1_ n2_ n3_; clear hb hbox hg; have hcz9_0 : w8.cell? ⟨gb135, 0, none⟩ = some (.string (⟨#[]⟩ : ByteArray)) := (blk_cell BK135.out 0).trans rfl; have hcz9_1 : w8.cell? ⟨gb135, 1, none⟩ = some (.string (⟨#[]⟩ : ByteArray)) := (blk_cell BK135.out 1).trans rfl; have hfz9_0 := blk_frozen BK135.out 0; have hfz9_1 := blk_frozen BK135.out 1) | ((with_reducible refine gate_callee (f := 28) rfl ?_); refine goesL_ (some 15) rfl rfl Tryd.func28 (by kernel_rfl) rfl #[.agg #[.string ((rd_T37 l0 x10_1).f0), .string ((rd_T37 l0 x10_1).f1)]] rfl (by (try simp only [List.map_toArray, List.map_cons, List.map_nil]); first | done | rfl | (simp only [List.length_drop, List.length_take]; rfl)) ?_; (with_reducible refine (laws_zzFits3.calls ((rd_T37 l0 x10_1).f0) ((rd_T37 l0 x10_1).f1) true _ A6.out).mono ?_); rintro e w10 ⟨rfl, hb⟩; refine ⟨_, rfl, ?_⟩; have n0_ := Aside0.mk (blk_below (g := gb135) (o := .cells #[.string ((rd_T37 l0 x10_1).f0), .string ((rd_T37 l0 x10_1).f1)] 37 (0, 0)) (by (with_reducible repeat (first | refine blk_drewN ?_ _ | refine blk_drew ?_ | refine blk_alloc ?_ _)); refine blk_put (cs := #[.string ((rd_T37 l0 x10_1).f0), .string (⟨#[]⟩ : ByteArray)]) ?_ 1 _ rfl; (with_reducible repeat (first | refine blk_drewN ?_ _ | refine blk_drew ?_ | refine blk_alloc ?_ _)); refine blk_put (cs := #[.string (⟨#[]⟩ : ByteArray), .string (⟨#[]⟩ : ByteArray)]) ?_ 0 _ rfl; (with_reducible repeat (first | refine blk_drewN ?_ _ | refine blk_drew ?_ | refine blk_alloc ?_ _)); exact BK135.out) hb); have n1_ := Aside0.mk (below_step (by repeat (first | (with_reducible first | exact HB.out | apply below_alloc | apply pw_below_drewN | apply below_drew1 | refine below_set ?_ GE135.out) | exact HB.out)) hb); clear BK135; clear HB; have BK135 := n0_; have HB := n1_; clear n0_ n1_; (try clear hb); (try clear hb2); (try clear hk); (try clear hi)))
                go_roundg k1
                case measure => have := HK1.out; omega
                case rel => exact ⟨(wrap64 (x10_1 + 1)), (by first | rfl | (simp; done) | (simp [*]; done)), H', ⟨by have := HK1.out; omega⟩, ⟨by repeat (first | (with_reducible first | exact HB.out | apply below_alloc | apply pw_below_drewN | apply below_drew1 | refine below_set ?_ GE135.out) | exact HB.out)⟩⟩
              · replace c7 := Bool.eq_false_iff.mpr c7
                subst c7
                have H1 : (some false) = some r := by rw [if_neg (show ¬ (false = true) by decide)] at H; exact H
                clear H
                have H := H1
                clear H1
                obtain rfl := Option.some.inj H
                have p134 : 0 ≤ (x10_1 : Int) := of_decide_eq_true (by first | (with_reducible assumption) | assumption)
                have q134 : x10_1 < (l0.length : Int) := of_decide_eq_true (by first | (with_reducible assumption) | assumption)
                obtain ⟨ad134, e134, hx134_0, hx134_1⟩ := at_T37 HR0.out x10_1 p134 q134
                cases e134
                replace hx134_0 := (HB.out.cell (World.block_lt_of_cell? w _ hx134_0)).trans hx134_0
                replace hx134_1 := (HB.out.cell (World.block_lt_of_cell? w _ hx134_1)).trans hx134_1
                replace p134 := eq_true p134
                replace q134 := eq_true q134
                go_wp2_with (first | ((with_reducible refine gate_dst (N := 4) rfl ?_); refine box_event ?hg (N := 4) ?hd (cs := #[.string (⟨#[]⟩ : ByteArray), .string (⟨#[]⟩ : ByteArray)]) (t := 37) ?hr ?_; (case hd => rfl); (case hg => rfl); (case hr => first | (go_simp; done) | (go_simp; rfl)); intro gb135 hg w11 hbox hb; have n0_ := Aside0.mk (below_step (by repeat (first | (with_reducible first | exact HB.out | apply below_alloc | apply pw_below_drewN | apply below_drew1) | exact HB.out)) hb); have n1_ := Aside0.mk (hbox); have n2_ := Aside0.mk ((by rw [hg]; exact (below_size (by repeat (first | (with_reducible first | exact HB.out | apply below_alloc | apply pw_below_drewN | apply below_drew1) | exact HB.out))) : w.heap.size ≤ gb135)); have n3_ := Aside0.mk ((by rw [hg]; exact (below_size (by repeat (first | (with_reducible first | exact HB.out | apply below_alloc | apply pw_below_drewN | apply below_drew1) | exact HB.out))) : w.heap.size ≤ gb135)); clear HB; have HB := n0_; have BK135 := n1_; have GW135 := n2_; have GE135 := n3_; clear n0_ n1_ n2_ n3_; clear hb hbox hg; have hcz12_0 : w11.cell? ⟨gb135, 0, none⟩ = some (.string (⟨#[]⟩ : ByteArray)) := (blk_cell BK135.out 0).trans rfl; have hcz12_1 : w11.cell? ⟨gb135, 1, none⟩ = some (.string (⟨#[]⟩ : ByteArray)) := (blk_cell BK135.out 1).trans rfl; have hfz12_0 := blk_frozen BK135.out 0; have hfz12_1 := blk_frozen BK135.out 1) | ((with_reducible refine gate_callee (f := 28) rfl ?_); refine goesL_ (some 15) rfl rfl Tryd.func28 (by kernel_rfl) rfl #[.agg #[.string ((rd_T37 l0 x10_1).f0), .string ((rd_T37 l0 x10_1).f1)]] rfl (by (try simp only [List.map_toArray, List.map_cons, List.map_nil]); first | done | rfl | (simp only [List.length_drop, List.length_take]; rfl)) ?_; (with_reducible refine (laws_zzFits3.calls ((rd_T37 l0 x10_1).f0) ((rd_T37 l0 x10_1).f1) false _ A6.out).mono ?_); rintro e w13 ⟨rfl, hb⟩; refine ⟨_, rfl, ?_⟩; have n0_ := Aside0.mk (blk_below (g := gb135) (o := .cells #[.string ((rd_T37 l0 x10_1).f0), .string ((rd_T37 l0 x10_1).f1)] 37 (0, 0)) (by (with_reducible repeat (first | refine blk_drewN ?_ _ | refine blk_drew ?_ | refine blk_alloc ?_ _)); refine blk_put (cs := #[.string ((rd_T37 l0 x10_1).f0), .string (⟨#[]⟩ : ByteArray)]) ?_ 1 _ rfl; (with_reducible repeat (first | refine blk_drewN ?_ _ | refine blk_drew ?_ | refine blk_alloc ?_ _)); refine blk_put (cs := #[.string (⟨#[]⟩ : ByteArray), .string (⟨#[]⟩ : ByteArray)]) ?_ 0 _ rfl; (with_reducible repeat (first | refine blk_drewN ?_ _ | refine blk_drew ?_ | refine blk_alloc ?_ _)); exact BK135.out) hb); have n1_ := Aside0.mk (below_step (by repeat (first | (with_reducible first | exact HB.out | apply below_alloc | apply pw_below_drewN | apply below_drew1 | refine below_set ?_ GE135.out) | exact HB.out)) hb); clear BK135; clear HB; have BK135 := n0_; have HB := n1_; clear n0_ n1_; (try clear hb); (try clear hb2); (try clear hk); (try clear hi)))
                go_ret
                exact ⟨by first | rfl | (simp [errW_none, errW_some] <;> rfl) | (simp [*, errW_none, errW_some] <;> rfl) | (exfalso; contradiction), by repeat (first | (with_reducible first | exact HB.out | apply below_alloc | apply pw_below_drewN | apply below_drew1 | refine below_set ?_ GE135.out) | exact HB.out)⟩
            · rw [if_neg c5] at H
              exact absurd H (by simp)
          · rw [if_neg c4] at H
            exact absurd H (by simp)
        · rw [if_neg c3] at H
          have c3b0 : decide (x10_1 < (l0.length : Int)) = false := decide_eq_false c3
          clear c3
          obtain rfl := Option.some.inj H
          go_wp2
          go_ret
          exact ⟨by first | rfl | (simp [errW_none, errW_some] <;> rfl) | (simp [*, errW_none, errW_some] <;> rfl) | (exfalso; contradiction), by repeat (first | (with_reducible first | exact HB.out | apply below_alloc | apply pw_below_drewN | apply below_drew1) | exact HB.out)⟩

-- NOT PRINTED: function 71 (strconv_lower)

-- NOT PRINTED: function 72 (strconv_underscoreOK)

-- NOT PRINTED: function 62 (strconv_ParseUint)

-- NOT PRINTED: function 54 (strconv_ParseInt_54)

-- NOT PRINTED: function 73 (stringslite_Clone)

-- NOT PRINTED: function 63 (strconv_syntaxError)

-- NOT PRINTED: function 64 (strconv_rangeError)

/-! ### errors_New: function 48 -/
set_option maxHeartbeats 1000000 in
theorem errors_New.calls (s : ByteArray) (w : World) :
    Calls Tryd.prog 48 #[.string s] w fun e w' => (∃ x, e = .returned (.iface 85 x)) ∧ Below w.heap.size w w' := by
  have hu1 := Tryd.underlying87
  go_enter Tryd.func48, Tryd.ntmps48
  go_wp2_with fail
  go_ret
  exact ⟨⟨_, rfl⟩, by repeat (first | (with_reducible exact Below.refl _ _) | apply below_alloc | apply pw_below_drewN | apply below_drew1)⟩
-- NOT PRINTED: function 95 (strconv_small)

-- NOT PRINTED: function 85 (bits_Len64)

-- NOT PRINTED: function 99 (strconv_log10Pow2)

-- NOT PRINTED: function 100 (strconv_bool2_int)

-- NOT PRINTED: function 96 (strconv_numDigits)

-- NOT PRINTED: function 97 (strconv_formatBase10)

-- NOT PRINTED: function 101 (strconv_isPowerOfTwo)

-- NOT PRINTED: function 103 (bits_TrailingZeros32)

-- NOT PRINTED: function 104 (bits_TrailingZeros64)

-- NOT PRINTED: function 102 (bits_TrailingZeros)

-- NOT PRINTED: function 98 (strconv_formatBits)

-- NOT PRINTED: function 93 (strconv_FormatInt)

-- NOT PRINTED: function 86 (strconv_Itoa_86)

-- NOT PRINTED: function 74 (strconv_Itoa_74)

-- NOT PRINTED: function 65 (strconv_baseError)

-- NOT PRINTED: function 66 (strconv_bitSizeError)

-- NOT PRINTED: function 55 (strconv_toError)

-- NOT PRINTED: function 44 (strconv_ParseInt_44)

-- NOT PRINTED: function 40 (labels_NewRequirement)

/-! ### impl_texts: function 41 -/
def impl_texts.f (l0 : List ByteArray) : Option (List ByteArray) := (some (([] : List ByteArray) : List ByteArray)).bind fun y137 => (if y137.length + l0.length < 8796093022208 then (some (y137 ++ l0)) else (none))
set_option maxHeartbeats 8000000 in
set_option maxRecDepth 100000 in
theorem impl_texts.calls (A0 : Option Addr) (c0 : Nat) (l0 : List ByteArray) (r : List ByteArray) (w : World) (hr0 : Kd.C Kd.string w A0 l0.length l0) (hc0 : l0.length ≤ c0) (h : impl_texts.f l0 = some r) :
    Calls Tryd.prog 41 #[.slice A0 l0.length c0] w fun e w' => ∃ v0_ : Value, e = .returned (v0_) ∧ Kd.R Kd.string 9 w' w.heap.size (fun _ => True) v0_ r ∧ Below w.heap.size w w' := by
  have HR0 := Aside0.mk hr0
  have HC0 := Aside0.mk hc0
  clear hr0 hc0
  have HB := Aside0.mk (Below.refl w.heap.size w)
  have H : ((some (([] : List ByteArray) : List ByteArray)).bind fun y137 => (if y137.length + l0.length < 8796093022208 then (some (y137 ++ l0)) else (none))) = some r := h
  clear h
  obtain ⟨y137, hy137⟩ : ∃ y_ : List ByteArray, y_ = (([] : List ByteArray)) := ⟨_, rfl⟩
  replace H : (if y137.length + l0.length < 8796093022208 then (some (y137 ++ l0)) else (none)) = some r := by first | (rw [hy137]; with_reducible exact H) | (have H2_ := (Option.bind_some _ _).symm.trans H; rw [hy137]; with_reducible exact H2_) | (have H2_ := (Option.bind_some _ _).symm.trans H; with_reducible exact H2_) | with_reducible exact H | (rw [hy137]; exact H) | exact H
  have Ny137 := Aside0.mk hy137
  clear hy137
  by_cases c2 : y137.length + l0.length < 8796093022208
  · rw [if_pos c2] at H
    have LMc2 := Aside0.mk c2
    clear c2
    obtain ⟨y140, hy140⟩ : ∃ y_ : List ByteArray, y_ = (y137 ++ l0) := ⟨_, rfl⟩
    replace H : (some y140) = some r := by first | (rw [hy140]; with_reducible exact H) | (have H2_ := (Option.bind_some _ _).symm.trans H; rw [hy140]; with_reducible exact H2_) | (have H2_ := (Option.bind_some _ _).symm.trans H; with_reducible exact H2_) | with_reducible exact H | (rw [hy140]; exact H) | exact H
    have Ny140 := Aside0.mk hy140
    clear hy140
    obtain rfl := Option.some.inj H
    go_enter Tryd.func41, Tryd.ntmps41
    go_wp2_with (first | ((with_reducible refine gate_dst (N := 3) rfl ?_); refine Kd.R_lit Kd.string _ 9 ?hg (N := 3) ?hd (xs := ([] : List ByteArray)) (inner := []) (ok := fun _ => True) (okp := fun _ => True) ?hr ?hp (fun _ hk => hk) trivial (Below.refl _ _) (Nat.le_refl _) (by simp) ?_; (case hd => rfl); (case hg => rfl); (case hr => first | (go_simp; done) | (go_simp; rfl)); (case hp => exact (Reps.none _ _)); intro v138 w3 ho4 hb hg_ hnew_; clear hg_ hnew_; (first | rw [← Ny137.out] at ho4 | (simp only [Int.reduceToNat] at ho4; rw [← Ny137.out] at ho4)); have n0_ := Aside0.mk (Kd.R_lower ho4 (below_size (by repeat (first | (with_reducible first | exact HB.out | apply below_alloc | apply pw_below_drewN | apply below_drew1) | exact HB.out)))); have n1_ := Aside0.mk (below_step (by repeat (first | (with_reducible first | exact HB.out | apply below_alloc | apply pw_below_drewN | apply below_drew1) | exact HB.out)) hb); clear HB; have HO139 := n0_; have HB := n1_; clear n0_ n1_; clear hb ho4) | ((with_reducible refine gate_builtin (b := .append) (xs := #[.tmp 3, .tmp 4]) rfl ?_); at_builtin; refine Kd.R_append_rows Kd.string (w0 := w) w.heap.size rfl (.tmp 3) (.tmp 4) 22 9 (.string ⟨#[]⟩) 16 rfl Tryd.underlying22 info9 rfl (by decide) (by omega) v138 y137 l0 _ _ _ (fun _ => True) (fun _ => False) rfl rfl ?aO ?aR (fun _ _ h => h) (fun _ h => h.elim) ?aF ?aB ?aS ?aL ?_; (case aR => repeat (first | exact (Kd.C_below HR0.out HB.out) | (with_reducible refine Kd.C_alloc ?_ _) | (with_reducible refine Kd.C_drewN ?_ _) | (with_reducible refine Kd.C_drew ?_))); (case aB => exact (by repeat (first | (with_reducible first | exact HB.out | apply below_alloc | apply pw_below_drewN | apply below_drew1) | exact HB.out))); (case aF => exact (fun _ _ => trivial)); (case aO => exact (by (with_reducible repeat (first | apply Kd.R_alloc | apply Kd.R_drewN | apply Kd.R_drew)); exact HO139.out)); (case aS => exact (below_size (by repeat (first | (with_reducible first | exact HB.out | apply below_alloc | apply pw_below_drewN | apply below_drew1) | exact HB.out)))); (case aL => have := LMc2.out; omega); intro v141 w5 ho hb hg hat; rw [← Ny140.out] at ho; have n0_ := Aside0.mk (hb); have n1_ := Aside0.mk (ho); clear HB; clear HO139; have HB := n0_; have HO142 := n1_; clear n0_ n1_; clear ho hb hg hat))
    go_ret
    exact ⟨_, by first | rfl | (simp [errW_none, errW_some] <;> rfl) | (simp [*, errW_none, errW_some] <;> rfl), by (with_reducible repeat (first | apply Kd.R_alloc | apply Kd.R_drewN | apply Kd.R_drew)); exact HO142.out, by repeat (first | (with_reducible first | exact HB.out | apply below_alloc | apply pw_below_drewN | apply below_drew1) | exact HB.out)⟩
  · rw [if_neg c2] at H
    exact absurd H (by simp)

/-! ### impl_made: function 25 -/
/-- How many values an operator asks for. -/
def NeedOk (op : ByteArray) (vals : List ByteArray) : Prop :=
  ((op.data.toList = [105, 110] ∨ op.data.toList = [110, 111, 116, 105, 110]) ∧ vals ≠ []) ∨ ((op.data.toList = [61] ∨ op.data.toList = [61, 61] ∨ op.data.toList = [33, 61]) ∧ vals.length = 1) ∨
  ((op.data.toList = [101, 120, 105, 115, 116, 115] ∨ op.data.toList = [33]) ∧ vals = []) ∨ ((op.data.toList = [103, 116] ∨ op.data.toList = [108, 116]) ∧ ∃ v n, vals = [v] ∧ Lib.parseIntB 64 v.data.toList = .ok n ∧ v.size ≤ 4294967296)
theorem toL_data (a0 : ByteArray) : a0.toList = a0.data.toList := by
  have hh : ∀ (n i : Nat) (r : List UInt8), i + n = a0.size → ByteArray.toList.loop a0 i r = r.reverse ++ a0.data.toList.drop i := by
    intro n
    have hz := sz_len a0
    induction n with
    | zero => intro i r h; rw [ByteArray.toList.loop, if_neg (by omega), List.drop_eq_nil_of_le (by omega), List.append_nil]
    | succ n ih =>
      intro i r h
      have hi : i < a0.data.toList.length := by omega
      have hg : a0.get! i = a0.data.toList[i] := by
        show a0.data[i]! = _
        rw [getElem!_pos a0.data i (by show i < a0.size; omega)]; rfl
      rw [ByteArray.toList.loop, if_pos (by omega), ih (i + 1) _ (by omega), List.drop_eq_getElem_cons hi, hg]
      simp
  have := hh a0.size 0 [] (by omega)
  unfold ByteArray.toList
  rw [this]; simp
set_option maxRecDepth 100000 in
set_option maxHeartbeats 2000000 in
theorem new_0 (key op : ByteArray) (A : Option Addr) (c : Nat) (vals : List ByteArray) (w : World) (hC : Kd.C Kd.string w A vals.length vals) (hn : vals.length ≤ 4294967296) (hop : op.data.toList = [105, 110]) (h : vals ≠ []) :
    Calls Tryd.prog 40 #[.string key, .string op, .slice A vals.length c, .slice none 0 0] w fun e w' => ∃ N, e = .returned (.tuple #[.pointer (some ⟨N, 0, none⟩), .nilIface]) ∧ w.heap.size ≤ N ∧ w'.heap[N]? = some (.cells #[.string key, .string op, .slice A vals.length c] 54 (0, 0)) ∧ Below w.heap.size w w' := by
  have mixed : Tryd.prog.follows .mixedOrders = true := by kernel_rfl
  have hu1 := Tryd.underlying54
  have hl : op.toList = [105, 110] := by rw [toL_data, hop]
  have t0 : (op.toList == [105, 110]) = true := by rw [hl]; rfl
  have t1 : (op.toList == [110, 111, 116, 105, 110]) = false := by rw [hl]; rfl
  have t2 : (op.toList == [61]) = false := by rw [hl]; rfl
  have t3 : (op.toList == [61, 61]) = false := by rw [hl]; rfl
  have t4 : (op.toList == [33, 61]) = false := by rw [hl]; rfl
  have t5 : (op.toList == [101, 120, 105, 115, 116, 115]) = false := by rw [hl]; rfl
  have t6 : (op.toList == [33]) = false := by rw [hl]; rfl
  have t7 : (op.toList == [103, 116]) = false := by rw [hl]; rfl
  have t8 : (op.toList == [108, 116]) = false := by rw [hl]; rfl
  have hpos : 0 < vals.length := List.length_pos_iff.2 h
  have f0 : ((vals.length : Int) == 0) = false := beq_eq_false_iff_ne.2 (by omega)
  have f1 : (vals.length = 0) = False := eq_false (by omega)
  have f2 : (vals = []) = False := eq_false h
  clear hl hop h hC
  clear hpos
  go_enter Tryd.func40, Tryd.ntmps40
  go_wp2
  go_ret2
  exact ⟨_, rfl, Nat.le_refl _, blk_new w _, below_alloc (Below.refl _ _) _⟩
set_option maxRecDepth 100000 in
set_option maxHeartbeats 2000000 in
theorem new_1 (key op : ByteArray) (A : Option Addr) (c : Nat) (vals : List ByteArray) (w : World) (hC : Kd.C Kd.string w A vals.length vals) (hn : vals.length ≤ 4294967296) (hop : op.data.toList = [110, 111, 116, 105, 110]) (h : vals ≠ []) :
    Calls Tryd.prog 40 #[.string key, .string op, .slice A vals.length c, .slice none 0 0] w fun e w' => ∃ N, e = .returned (.tuple #[.pointer (some ⟨N, 0, none⟩), .nilIface]) ∧ w.heap.size ≤ N ∧ w'.heap[N]? = some (.cells #[.string key, .string op, .slice A vals.length c] 54 (0, 0)) ∧ Below w.heap.size w w' := by
  have mixed : Tryd.prog.follows .mixedOrders = true := by kernel_rfl
  have hu1 := Tryd.underlying54
  have hl : op.toList = [110, 111, 116, 105, 110] := by rw [toL_data, hop]
  have t0 : (op.toList == [105, 110]) = false := by rw [hl]; rfl
  have t1 : (op.toList == [110, 111, 116, 105, 110]) = true := by rw [hl]; rfl
  have t2 : (op.toList == [61]) = false := by rw [hl]; rfl
  have t3 : (op.toList == [61, 61]) = false := by rw [hl]; rfl
  have t4 : (op.toList == [33, 61]) = false := by rw [hl]; rfl
  have t5 : (op.toList == [101, 120, 105, 115, 116, 115]) = false := by rw [hl]; rfl
  have t6 : (op.toList == [33]) = false := by rw [hl]; rfl
  have t7 : (op.toList == [103, 116]) = false := by rw [hl]; rfl
  have t8 : (op.toList == [108, 116]) = false := by rw [hl]; rfl
  have hpos : 0 < vals.length := List.length_pos_iff.2 h
  have f0 : ((vals.length : Int) == 0) = false := beq_eq_false_iff_ne.2 (by omega)
  have f1 : (vals.length = 0) = False := eq_false (by omega)
  have f2 : (vals = []) = False := eq_false h
  clear hl hop h hC
  clear hpos
  go_enter Tryd.func40, Tryd.ntmps40
  go_wp2
  go_ret2
  exact ⟨_, rfl, Nat.le_refl _, blk_new w _, below_alloc (Below.refl _ _) _⟩
set_option maxRecDepth 100000 in
set_option maxHeartbeats 2000000 in
theorem new_2 (key op : ByteArray) (A : Option Addr) (c : Nat) (vals : List ByteArray) (w : World) (hC : Kd.C Kd.string w A vals.length vals) (hn : vals.length ≤ 4294967296) (hop : op.data.toList = [61]) (h : vals.length = 1) :
    Calls Tryd.prog 40 #[.string key, .string op, .slice A vals.length c, .slice none 0 0] w fun e w' => ∃ N, e = .returned (.tuple #[.pointer (some ⟨N, 0, none⟩), .nilIface]) ∧ w.heap.size ≤ N ∧ w'.heap[N]? = some (.cells #[.string key, .string op, .slice A vals.length c] 54 (0, 0)) ∧ Below w.heap.size w w' := by
  have mixed : Tryd.prog.follows .mixedOrders = true := by kernel_rfl
  have hu1 := Tryd.underlying54
  have hl : op.toList = [61] := by rw [toL_data, hop]
  have t0 : (op.toList == [105, 110]) = false := by rw [hl]; rfl
  have t1 : (op.toList == [110, 111, 116, 105, 110]) = false := by rw [hl]; rfl
  have t2 : (op.toList == [61]) = true := by rw [hl]; rfl
  have t3 : (op.toList == [61, 61]) = false := by rw [hl]; rfl
  have t4 : (op.toList == [33, 61]) = false := by rw [hl]; rfl
  have t5 : (op.toList == [101, 120, 105, 115, 116, 115]) = false := by rw [hl]; rfl
  have t6 : (op.toList == [33]) = false := by rw [hl]; rfl
  have t7 : (op.toList == [103, 116]) = false := by rw [hl]; rfl
  have t8 : (op.toList == [108, 116]) = false := by rw [hl]; rfl
  have f0 : ((vals.length : Int) != 1) = false := by rw [h]; rfl
  have f1 : (vals.length = 1) = True := eq_true h
  clear hl hop h hC
  go_enter Tryd.func40, Tryd.ntmps40
  go_wp2
  go_ret2
  exact ⟨_, rfl, Nat.le_refl _, blk_new w _, below_alloc (Below.refl _ _) _⟩
set_option maxRecDepth 100000 in
set_option maxHeartbeats 2000000 in
theorem new_3 (key op : ByteArray) (A : Option Addr) (c : Nat) (vals : List ByteArray) (w : World) (hC : Kd.C Kd.string w A vals.length vals) (hn : vals.length ≤ 4294967296) (hop : op.data.toList = [61, 61]) (h : vals.length = 1) :
    Calls Tryd.prog 40 #[.string key, .string op, .slice A vals.length c, .slice none 0 0] w fun e w' => ∃ N, e = .returned (.tuple #[.pointer (some ⟨N, 0, none⟩), .nilIface]) ∧ w.heap.size ≤ N ∧ w'.heap[N]? = some (.cells #[.string key, .string op, .slice A vals.length c] 54 (0, 0)) ∧ Below w.heap.size w w' := by
  have mixed : Tryd.prog.follows .mixedOrders = true := by kernel_rfl
  have hu1 := Tryd.underlying54
  have hl : op.toList = [61, 61] := by rw [toL_data, hop]
  have t0 : (op.toList == [105, 110]) = false := by rw [hl]; rfl
  have t1 : (op.toList == [110, 111, 116, 105, 110]) = false := by rw [hl]; rfl
  have t2 : (op.toList == [61]) = false := by rw [hl]; rfl
  have t3 : (op.toList == [61, 61]) = true := by rw [hl]; rfl
  have t4 : (op.toList == [33, 61]) = false := by rw [hl]; rfl
  have t5 : (op.toList == [101, 120, 105, 115, 116, 115]) = false := by rw [hl]; rfl
  have t6 : (op.toList == [33]) = false := by rw [hl]; rfl
  have t7 : (op.toList == [103, 116]) = false := by rw [hl]; rfl
  have t8 : (op.toList == [108, 116]) = false := by rw [hl]; rfl
  have f0 : ((vals.length : Int) != 1) = false := by rw [h]; rfl
  have f1 : (vals.length = 1) = True := eq_true h
  clear hl hop h hC
  go_enter Tryd.func40, Tryd.ntmps40
  go_wp2
  go_ret2
  exact ⟨_, rfl, Nat.le_refl _, blk_new w _, below_alloc (Below.refl _ _) _⟩
set_option maxRecDepth 100000 in
set_option maxHeartbeats 2000000 in
theorem new_4 (key op : ByteArray) (A : Option Addr) (c : Nat) (vals : List ByteArray) (w : World) (hC : Kd.C Kd.string w A vals.length vals) (hn : vals.length ≤ 4294967296) (hop : op.data.toList = [33, 61]) (h : vals.length = 1) :
    Calls Tryd.prog 40 #[.string key, .string op, .slice A vals.length c, .slice none 0 0] w fun e w' => ∃ N, e = .returned (.tuple #[.pointer (some ⟨N, 0, none⟩), .nilIface]) ∧ w.heap.size ≤ N ∧ w'.heap[N]? = some (.cells #[.string key, .string op, .slice A vals.length c] 54 (0, 0)) ∧ Below w.heap.size w w' := by
  have mixed : Tryd.prog.follows .mixedOrders = true := by kernel_rfl
  have hu1 := Tryd.underlying54
  have hl : op.toList = [33, 61] := by rw [toL_data, hop]
  have t0 : (op.toList == [105, 110]) = false := by rw [hl]; rfl
  have t1 : (op.toList == [110, 111, 116, 105, 110]) = false := by rw [hl]; rfl
  have t2 : (op.toList == [61]) = false := by rw [hl]; rfl
  have t3 : (op.toList == [61, 61]) = false := by rw [hl]; rfl
  have t4 : (op.toList == [33, 61]) = true := by rw [hl]; rfl
  have t5 : (op.toList == [101, 120, 105, 115, 116, 115]) = false := by rw [hl]; rfl
  have t6 : (op.toList == [33]) = false := by rw [hl]; rfl
  have t7 : (op.toList == [103, 116]) = false := by rw [hl]; rfl
  have t8 : (op.toList == [108, 116]) = false := by rw [hl]; rfl
  have f0 : ((vals.length : Int) != 1) = false := by rw [h]; rfl
  have f1 : (vals.length = 1) = True := eq_true h
  clear hl hop h hC
  go_enter Tryd.func40, Tryd.ntmps40
  go_wp2
  go_ret2
  exact ⟨_, rfl, Nat.le_refl _, blk_new w _, below_alloc (Below.refl _ _) _⟩
set_option maxRecDepth 100000 in
set_option maxHeartbeats 2000000 in
theorem new_5 (key op : ByteArray) (A : Option Addr) (c : Nat) (vals : List ByteArray) (w : World) (hC : Kd.C Kd.string w A vals.length vals) (hn : vals.length ≤ 4294967296) (hop : op.data.toList = [101, 120, 105, 115, 116, 115]) (h : vals = []) :
    Calls Tryd.prog 40 #[.string key, .string op, .slice A vals.length c, .slice none 0 0] w fun e w' => ∃ N, e = .returned (.tuple #[.pointer (some ⟨N, 0, none⟩), .nilIface]) ∧ w.heap.size ≤ N ∧ w'.heap[N]? = some (.cells #[.string key, .string op, .slice A vals.length c] 54 (0, 0)) ∧ Below w.heap.size w w' := by
  have mixed : Tryd.prog.follows .mixedOrders = true := by kernel_rfl
  have hu1 := Tryd.underlying54
  have hl : op.toList = [101, 120, 105, 115, 116, 115] := by rw [toL_data, hop]
  have t0 : (op.toList == [105, 110]) = false := by rw [hl]; rfl
  have t1 : (op.toList == [110, 111, 116, 105, 110]) = false := by rw [hl]; rfl
  have t2 : (op.toList == [61]) = false := by rw [hl]; rfl
  have t3 : (op.toList == [61, 61]) = false := by rw [hl]; rfl
  have t4 : (op.toList == [33, 61]) = false := by rw [hl]; rfl
  have t5 : (op.toList == [101, 120, 105, 115, 116, 115]) = true := by rw [hl]; rfl
  have t6 : (op.toList == [33]) = false := by rw [hl]; rfl
  have t7 : (op.toList == [103, 116]) = false := by rw [hl]; rfl
  have t8 : (op.toList == [108, 116]) = false := by rw [hl]; rfl
  have f0 : ((vals.length : Int) != 0) = false := by rw [h]; rfl
  have f1 : (vals.length = 0) = True := eq_true (by rw [h]; rfl)
  have f2 : (vals = []) = True := eq_true h
  clear hl hop h hC
  go_enter Tryd.func40, Tryd.ntmps40
  go_wp2
  go_ret2
  exact ⟨_, rfl, Nat.le_refl _, blk_new w _, below_alloc (Below.refl _ _) _⟩
set_option maxRecDepth 100000 in
set_option maxHeartbeats 2000000 in
theorem new_6 (key op : ByteArray) (A : Option Addr) (c : Nat) (vals : List ByteArray) (w : World) (hC : Kd.C Kd.string w A vals.length vals) (hn : vals.length ≤ 4294967296) (hop : op.data.toList = [33]) (h : vals = []) :
    Calls Tryd.prog 40 #[.string key, .string op, .slice A vals.length c, .slice none 0 0] w fun e w' => ∃ N, e = .returned (.tuple #[.pointer (some ⟨N, 0, none⟩), .nilIface]) ∧ w.heap.size ≤ N ∧ w'.heap[N]? = some (.cells #[.string key, .string op, .slice A vals.length c] 54 (0, 0)) ∧ Below w.heap.size w w' := by
  have mixed : Tryd.prog.follows .mixedOrders = true := by kernel_rfl
  have hu1 := Tryd.underlying54
  have hl : op.toList = [33] := by rw [toL_data, hop]
  have t0 : (op.toList == [105, 110]) = false := by rw [hl]; rfl
  have t1 : (op.toList == [110, 111, 116, 105, 110]) = false := by rw [hl]; rfl
  have t2 : (op.toList == [61]) = false := by rw [hl]; rfl
  have t3 : (op.toList == [61, 61]) = false := by rw [hl]; rfl
  have t4 : (op.toList == [33, 61]) = false := by rw [hl]; rfl
  have t5 : (op.toList == [101, 120, 105, 115, 116, 115]) = false := by rw [hl]; rfl
  have t6 : (op.toList == [33]) = true := by rw [hl]; rfl
  have t7 : (op.toList == [103, 116]) = false := by rw [hl]; rfl
  have t8 : (op.toList == [108, 116]) = false := by rw [hl]; rfl
  have f0 : ((vals.length : Int) != 0) = false := by rw [h]; rfl
  have f1 : (vals.length = 0) = True := eq_true (by rw [h]; rfl)
  have f2 : (vals = []) = True := eq_true h
  clear hl hop h hC
  go_enter Tryd.func40, Tryd.ntmps40
  go_wp2
  go_ret2
  exact ⟨_, rfl, Nat.le_refl _, blk_new w _, below_alloc (Below.refl _ _) _⟩
set_option maxRecDepth 100000 in
set_option maxHeartbeats 2000000 in
theorem new_7 (key op : ByteArray) (A : Option Addr) (c : Nat) (vals : List ByteArray) (w : World) (hC : Kd.C Kd.string w A vals.length vals) (hn : vals.length ≤ 4294967296) (hop : op.data.toList = [103, 116]) (v : ByteArray) (n : Int) (h : vals = [v]) (hp : Lib.parseIntB 64 v.data.toList = .ok n) (hv : v.size ≤ 4294967296) :
    Calls Tryd.prog 40 #[.string key, .string op, .slice A vals.length c, .slice none 0 0] w fun e w' => ∃ N, e = .returned (.tuple #[.pointer (some ⟨N, 0, none⟩), .nilIface]) ∧ w.heap.size ≤ N ∧ w'.heap[N]? = some (.cells #[.string key, .string op, .slice A vals.length c] 54 (0, 0)) ∧ Below w.heap.size w w' := by
  have mixed : Tryd.prog.follows .mixedOrders = true := by kernel_rfl
  have hu1 := Tryd.underlying54
  have hl : op.toList = [103, 116] := by rw [toL_data, hop]
  have t0 : (op.toList == [105, 110]) = false := by rw [hl]; rfl
  have t1 : (op.toList == [110, 111, 116, 105, 110]) = false := by rw [hl]; rfl
  have t2 : (op.toList == [61]) = false := by rw [hl]; rfl
  have t3 : (op.toList == [61, 61]) = false := by rw [hl]; rfl
  have t4 : (op.toList == [33, 61]) = false := by rw [hl]; rfl
  have t5 : (op.toList == [101, 120, 105, 115, 116, 115]) = false := by rw [hl]; rfl
  have t6 : (op.toList == [33]) = false := by rw [hl]; rfl
  have t7 : (op.toList == [103, 116]) = true := by rw [hl]; rfl
  have t8 : (op.toList == [108, 116]) = false := by rw [hl]; rfl
  subst h
  have f1 : ([v].length = 1) = True := eq_true rfl
  obtain ⟨ad, rfl, hx⟩ := Kd.at_string hC (0 : Int) (by omega) (by simp)
  have hx0 : w.cell? ad = some (.string v) := by rw [show ((0 : Int)).toNat = 0 from rfl, Addr.add_zero'] at hx; simpa [rdOf] using hx
  have HX := Aside0.mk (World.block_lt_of_cell? w _ hx0)
  have HP := Aside0.mk (fun w => Tryd.strconv_ParseInt_10_at64_ok v (by omega) n hp w)
  clear hp hx hC hv
  clear hl hop
  go_enter Tryd.func40, Tryd.ntmps40
  go_wp2
  refine wp_loop_rounds 2 ?_
  rw [rounds_succ]
  go_wp2_with (first | (go_at_call 44; (with_reducible refine (HP.out _).mono ?_); rintro e w1 ⟨rfl, hw⟩; have HB : Aside0 (Below w.heap.size w w1) := ⟨(by rcases hw with rfl | ⟨t, rfl⟩; exact Below.refl _ _; exact Lib.bytesWorld_below _ _ _)⟩; clear hw HP))
  rw [rounds_succ]
  go_wp2
  go_ret2
  exact ⟨_, rfl, HB.out.size, blk_new w1 _, below_alloc HB.out _⟩
set_option maxRecDepth 100000 in
set_option maxHeartbeats 2000000 in
theorem new_8 (key op : ByteArray) (A : Option Addr) (c : Nat) (vals : List ByteArray) (w : World) (hC : Kd.C Kd.string w A vals.length vals) (hn : vals.length ≤ 4294967296) (hop : op.data.toList = [108, 116]) (v : ByteArray) (n : Int) (h : vals = [v]) (hp : Lib.parseIntB 64 v.data.toList = .ok n) (hv : v.size ≤ 4294967296) :
    Calls Tryd.prog 40 #[.string key, .string op, .slice A vals.length c, .slice none 0 0] w fun e w' => ∃ N, e = .returned (.tuple #[.pointer (some ⟨N, 0, none⟩), .nilIface]) ∧ w.heap.size ≤ N ∧ w'.heap[N]? = some (.cells #[.string key, .string op, .slice A vals.length c] 54 (0, 0)) ∧ Below w.heap.size w w' := by
  have mixed : Tryd.prog.follows .mixedOrders = true := by kernel_rfl
  have hu1 := Tryd.underlying54
  have hl : op.toList = [108, 116] := by rw [toL_data, hop]
  have t0 : (op.toList == [105, 110]) = false := by rw [hl]; rfl
  have t1 : (op.toList == [110, 111, 116, 105, 110]) = false := by rw [hl]; rfl
  have t2 : (op.toList == [61]) = false := by rw [hl]; rfl
  have t3 : (op.toList == [61, 61]) = false := by rw [hl]; rfl
  have t4 : (op.toList == [33, 61]) = false := by rw [hl]; rfl
  have t5 : (op.toList == [101, 120, 105, 115, 116, 115]) = false := by rw [hl]; rfl
  have t6 : (op.toList == [33]) = false := by rw [hl]; rfl
  have t7 : (op.toList == [103, 116]) = false := by rw [hl]; rfl
  have t8 : (op.toList == [108, 116]) = true := by rw [hl]; rfl
  subst h
  have f1 : ([v].length = 1) = True := eq_true rfl
  obtain ⟨ad, rfl, hx⟩ := Kd.at_string hC (0 : Int) (by omega) (by simp)
  have hx0 : w.cell? ad = some (.string v) := by rw [show ((0 : Int)).toNat = 0 from rfl, Addr.add_zero'] at hx; simpa [rdOf] using hx
  have HX := Aside0.mk (World.block_lt_of_cell? w _ hx0)
  have HP := Aside0.mk (fun w => Tryd.strconv_ParseInt_10_at64_ok v (by omega) n hp w)
  clear hp hx hC hv
  clear hl hop
  go_enter Tryd.func40, Tryd.ntmps40
  go_wp2
  refine wp_loop_rounds 2 ?_
  rw [rounds_succ]
  go_wp2_with (first | (go_at_call 44; (with_reducible refine (HP.out _).mono ?_); rintro e w1 ⟨rfl, hw⟩; have HB : Aside0 (Below w.heap.size w w1) := ⟨(by rcases hw with rfl | ⟨t, rfl⟩; exact Below.refl _ _; exact Lib.bytesWorld_below _ _ _)⟩; clear hw HP))
  rw [rounds_succ]
  go_wp2
  go_ret2
  exact ⟨_, rfl, HB.out.size, blk_new w1 _, below_alloc HB.out _⟩
theorem new_ok (key op : ByteArray) (A : Option Addr) (c : Nat) (vals : List ByteArray) (w : World) (hC : Kd.C Kd.string w A vals.length vals) (hn : vals.length ≤ 4294967296) (h : NeedOk op vals) :
    Calls Tryd.prog 40 #[.string key, .string op, .slice A vals.length c, .slice none 0 0] w fun e w' => ∃ N, e = .returned (.tuple #[.pointer (some ⟨N, 0, none⟩), .nilIface]) ∧ w.heap.size ≤ N ∧ w'.heap[N]? = some (.cells #[.string key, .string op, .slice A vals.length c] 54 (0, 0)) ∧ Below w.heap.size w w' := by
  rcases h with ⟨h | h, hv⟩ | ⟨h | h | h, hv⟩ | ⟨h | h, hv⟩ | ⟨h | h, v, n, hv, hp, hz⟩
  · exact new_0 key op A c vals w hC hn h hv
  · exact new_1 key op A c vals w hC hn h hv
  · exact new_2 key op A c vals w hC hn h hv
  · exact new_3 key op A c vals w hC hn h hv
  · exact new_4 key op A c vals w hC hn h hv
  · exact new_5 key op A c vals w hC hn h hv
  · exact new_6 key op A c vals w hC hn h hv
  · exact new_7 key op A c vals w hC hn h v n hv hp hz
  · exact new_8 key op A c vals w hC hn h v n hv hp hz
theorem texts_all (vals : List ByteArray) (hn : vals.length ≤ 4294967296) : impl_texts.f vals = some vals := by
  unfold impl_texts.f
  simp only [Option.bind_some, List.length_nil, List.nil_append]
  rw [if_pos (by omega)]
set_option maxRecDepth 100000 in
set_option maxHeartbeats 2000000 in
theorem made_ok (key op : ByteArray) (A : Option Addr) (c : Nat) (vals : List ByteArray) (w : World) (hC : Kd.C Kd.string w A vals.length vals) (hc : vals.length ≤ c) (hn : vals.length ≤ 4294967296) (h : NeedOk op vals) :
    Calls Tryd.prog 25 #[.agg #[.string key, .string op, .slice A vals.length c]] w fun e w' => ∃ N A' c', e = .returned (.tuple #[.pointer (some ⟨N, 0, none⟩), .nilIface]) ∧ w.heap.size ≤ N ∧ w'.heap[N]? = some (.cells #[.string key, .string op, .slice A' vals.length c'] 54 (0, 0)) ∧ vals.length ≤ c' ∧ Kd.C Kd.string w' A' vals.length vals ∧ Below w.heap.size w w' := by
  have mixed : Tryd.prog.follows .mixedOrders = true := by kernel_rfl
  have hu1 := Tryd.underlying24
  have HT := Aside0.mk (fun (w1 : World) (h1 : Kd.C Kd.string w1 A vals.length vals) => impl_texts.calls A c vals vals w1 h1 hc (texts_all vals hn))
  have HC := Aside0.mk hC
  have HN := Aside0.mk h
  clear h hC
  go_enter Tryd.func25, Tryd.ntmps25
  go_wp2
  obtain ⟨W, hW⟩ : ∃ W, W = w.alloc (.cells #[.string key, .string op, .slice A vals.length c] 24) := ⟨_, rfl⟩
  have HWb : Aside0 (Below w.heap.size w W) := ⟨by rw [hW]; exact below_alloc (Below.refl _ _) _⟩
  have HK : Aside0 (W.heap[w.heap.size]? = some (.cells #[.string key, .string op, .slice A vals.length c] 24 (0, 0))) := ⟨by rw [hW]; exact blk_new w _⟩
  rw [← hW]
  have c0 : W.drew.cell? ⟨w.heap.size, 0, none⟩ = some (.string key) := blk_cell (blk_drew HK.out) 0
  have c1 : W.drew.cell? ⟨w.heap.size, 1, none⟩ = some (.string op) := blk_cell (blk_drew HK.out) 1
  have c2 : W.drew.cell? ⟨w.heap.size, 2, none⟩ = some (.slice A vals.length c) := blk_cell (blk_drew HK.out) 2
  clear hW
  go_region_held3 (fun w' => w'.cell? ⟨w.heap.size, 0, none⟩ = some (.string key) ∧ w'.cell? ⟨w.heap.size, 1, none⟩ = some (.string op) ∧ w'.cell? ⟨w.heap.size, 2, none⟩ = some (.slice A vals.length c)) (first | exact ⟨c0, c1, c2⟩ | exact ⟨d0, d1, d2⟩ | exact ⟨e0, e1, e2⟩)
    (first
      | (go_at_call 41; refine (HT.out _ (Kd.C_drew (Kd.C_below HC.out HWb.out))).mono ?_; rintro e w1 ⟨v0, rfl, hr, hb⟩; obtain ⟨A1, c1', rfl⟩ := Kd.R_slice hr; have HR := Aside0.mk (Kd.R_reads' hr).2; have HB1 := Aside0.mk (below_step (below_drew1 HWb.out) hb); have hk := blk_below (blk_drew HK.out) hb; have d0 := blk_cell hk 0; have d1 := blk_cell hk 1; have d2 := blk_cell hk 2; have HK1 := Aside0.mk hk; clear hk hr hb)
      | (go_at_call 40; refine (new_ok key op A1 c1' vals _ HR.out.2 hn HN.out).mono ?_; rintro e w2 ⟨N, rfl, hN, hb, hw⟩; have HNN := Aside0.mk hN; have HNB := Aside0.mk hb; have HB2 := Aside0.mk (below_step HB1.out hw); have HC2 := Aside0.mk (Kd.C_below HR.out.2 hw); have hk := blk_below HK1.out hw; have e0 := blk_cell hk 0; have e1 := blk_cell hk 1; have e2 := blk_cell hk 2; clear hk hN hb hw))
  all_goals go_wp2
  all_goals go_ret2
  exact ⟨N, A1, c1', rfl, Nat.le_trans HB1.out.size HNN.out, HNB.out, HR.out.1, HC2.out, HB2.out⟩
/-- As NeedOk, to be reckoned. -/
def needOkB (op : ByteArray) (vals : List ByteArray) : Bool :=
  if op.data.toList = [105, 110] ∨ op.data.toList = [110, 111, 116, 105, 110] then decide (0 < vals.length)
  else if op.data.toList = [61] ∨ op.data.toList = [61, 61] ∨ op.data.toList = [33, 61] then decide (vals.length = 1)
  else if op.data.toList = [101, 120, 105, 115, 116, 115] ∨ op.data.toList = [33] then decide (vals.length = 0)
  else if op.data.toList = [103, 116] ∨ op.data.toList = [108, 116] then (match vals with | [v] => (NeedN.num v.data.toList).isSome && decide (v.size ≤ 4294967296) | _ => false)
  else false
theorem needOk_of {op : ByteArray} {vals : List ByteArray} (h : needOkB op vals = true) : NeedOk op vals := by
  unfold needOkB at h
  unfold NeedOk
  by_cases h1 : op.data.toList = [105, 110] ∨ op.data.toList = [110, 111, 116, 105, 110]
  · rw [if_pos h1, decide_eq_true_eq] at h
    exact Or.inl ⟨h1, List.length_pos_iff.1 h⟩
  rw [if_neg h1] at h
  by_cases h2 : op.data.toList = [61] ∨ op.data.toList = [61, 61] ∨ op.data.toList = [33, 61]
  · rw [if_pos h2, decide_eq_true_eq] at h
    exact Or.inr (Or.inl ⟨h2, h⟩)
  rw [if_neg h2] at h
  by_cases h3 : op.data.toList = [101, 120, 105, 115, 116, 115] ∨ op.data.toList = [33]
  · rw [if_pos h3, decide_eq_true_eq] at h
    exact Or.inr (Or.inr (Or.inl ⟨h3, List.eq_nil_of_length_eq_zero h⟩))
  rw [if_neg h3] at h
  by_cases h4 : op.data.toList = [103, 116] ∨ op.data.toList = [108, 116]
  · rw [if_pos h4] at h
    match vals, h with
    | [v], h =>
      simp only [Bool.and_eq_true, decide_eq_true_eq] at h
      obtain ⟨n, hn⟩ := Option.isSome_iff_exists.1 h.1
      exact Or.inr (Or.inr (Or.inr ⟨h4, v, n, rfl, NeedN.okOf_ok ((NeedN.num_parse _).trans hn), h.2⟩))
    | [], h => cases h
    | _ :: _ :: _, h => cases h
  rw [if_neg h4] at h
  cases h
end Go.Proofs.YtlhbmifffmegeaaDoor.PFnNeedMatch
