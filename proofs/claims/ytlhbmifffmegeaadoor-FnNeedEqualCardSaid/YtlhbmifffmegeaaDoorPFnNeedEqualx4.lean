/- Functions of the program as plain Lean functions, and that the machine's calls do what these say: written for this claim by wip/myprint.py over the kit's print.py. -/
import Derived.Test.YtlhbmifffmegeaaDoorPFnNeedEqualx0
import Derived.Test.YtlhbmifffmegeaaDoorPFnNeedEqualx1
import Derived.Test.YtlhbmifffmegeaaDoorPFnNeedEqualx2
import Derived.Test.YtlhbmifffmegeaaDoorPFnNeedEqualx3
namespace Go.Proofs.YtlhbmifffmegeaaDoor.PFnNeedEqual
open Go.RowKit Go.Proofs.YtlhbmifffmegeaaDoorW.PrintWords Go.Proofs.YtlhbmifffmegeaaDoorW.PrintLast Go.Proofs.YtlhbmifffmegeaaDoorW.PrintMore
attribute [local go_sem] max2_int min2_int max_two min_two max_three min_three max_four min_four   -- for this text's walks alone
set_option linter.unusedVariables false
set_option linter.unusedSimpArgs false

/-! ### spec_NeedMay: function 7 -/
mutual
def spec_NeedMay.j0 : Nat → Bool → ByteArray → ByteArray → List ByteArray → Option (Bool)
  | 0, _, _, _, _ => none
  | k + 1, x13, x128000, x128001, x128002 => if x13 = true then (some false) else (spec_NeedMay.l0 k 0 x128000 x128001 x128002)
def spec_NeedMay.l0 : Nat → Int → ByteArray → ByteArray → List ByteArray → Option (Bool)
  | 0, _, _, _, _ => none
  | k + 1, x3, x128000, x128001, x128002 => if x3 < (x128002.length : Int) then (if 0 ≤ x3 then ((spec_NameValue.f (rdOf ByteArray.empty x128002 x3)).bind fun t131 => (if t131 = true then (spec_NeedMay.l0 k (wrap64 (x3 + 1)) x128000 x128001 x128002) else (some false))) else (none)) else ((spec_NeedCount.f k x128000 x128001 x128002).bind fun t132 => (some t132))
end
def spec_NeedMay.f (k : Nat) (a0_0 : ByteArray) (a0_1 : ByteArray) (l0_2 : List ByteArray) : Option (Bool) := (spec_NeedOp.f k a0_1).bind fun t128 => (if t128 = true then ((spec_NameKey.f k a0_0).bind fun t129 => (spec_NeedMay.j0 k (!t129) a0_0 a0_1 l0_2)) else (spec_NeedMay.j0 k true a0_0 a0_1 l0_2))
theorem spec_NeedMay.mono_l : ∀ k, (∀ y0 y1 y2 y3, LeO (spec_NeedMay.j0 k y0 y1 y2 y3) (spec_NeedMay.j0 (k + 1) y0 y1 y2 y3)) ∧ (∀ y0 y1 y2 y3, LeO (spec_NeedMay.l0 k y0 y1 y2 y3) (spec_NeedMay.l0 (k + 1) y0 y1 y2 y3))
  | 0 => ⟨fun _ _ _ _ r h => by simp [spec_NeedMay.j0] at h, fun _ _ _ _ r h => by simp [spec_NeedMay.l0] at h⟩
  | k + 1 => by
    obtain ⟨ih0, ih1⟩ := spec_NeedMay.mono_l k
    refine ⟨?_, ?_⟩
    · intro y0 y1 y2 y3
      unfold spec_NeedMay.j0
      repeat' first
      | (with_reducible exact ih0 _ _ _ _)
      | (with_reducible exact ih1 _ _ _ _)
      | (with_reducible exact spec_NameKey.mono _ _)
      | (with_reducible exact spec_NeedCount.mono _ _ _ _)
      | (with_reducible exact spec_NeedOp.mono _ _)
      | (with_reducible exact LeO.refl _)
      | (with_reducible exact LeO.none _)
      | (with_reducible refine LeO.ite ?_ ?_)
      | (with_reducible refine LeO.bind ?_ (fun _ => ?_))
      | exact ih0 _ _ _ _
      | exact ih1 _ _ _ _
      | exact spec_NameKey.mono _ _
      | exact spec_NeedCount.mono _ _ _ _
      | exact spec_NeedOp.mono _ _
      | exact LeO.none _
      | refine LeO.ite ?_ ?_
      | refine LeO.bind ?_ (fun _ => ?_)
    · intro y0 y1 y2 y3
      unfold spec_NeedMay.l0
      repeat' first
      | (with_reducible exact ih0 _ _ _ _)
      | (with_reducible exact ih1 _ _ _ _)
      | (with_reducible exact spec_NameKey.mono _ _)
      | (with_reducible exact spec_NeedCount.mono _ _ _ _)
      | (with_reducible exact spec_NeedOp.mono _ _)
      | (with_reducible exact LeO.refl _)
      | (with_reducible exact LeO.none _)
      | (with_reducible refine LeO.ite ?_ ?_)
      | (with_reducible refine LeO.bind ?_ (fun _ => ?_))
      | exact ih0 _ _ _ _
      | exact ih1 _ _ _ _
      | exact spec_NameKey.mono _ _
      | exact spec_NeedCount.mono _ _ _ _
      | exact spec_NeedOp.mono _ _
      | exact LeO.none _
      | refine LeO.ite ?_ ?_
      | refine LeO.bind ?_ (fun _ => ?_)
theorem spec_NeedMay.mono : ∀ a0 a1 a2 k, LeO (spec_NeedMay.f k a0 a1 a2) (spec_NeedMay.f (k + 1) a0 a1 a2) := by
  intro a0 a1 a2 k
  obtain ⟨ih0, ih1⟩ := spec_NeedMay.mono_l k
  unfold spec_NeedMay.f
  repeat' first
      | (with_reducible exact ih0 _ _ _ _)
      | (with_reducible exact ih1 _ _ _ _)
      | (with_reducible exact spec_NameKey.mono _ _)
      | (with_reducible exact spec_NeedCount.mono _ _ _ _)
      | (with_reducible exact spec_NeedOp.mono _ _)
      | (with_reducible exact LeO.refl _)
      | (with_reducible exact LeO.none _)
      | (with_reducible refine LeO.ite ?_ ?_)
      | (with_reducible refine LeO.bind ?_ (fun _ => ?_))
      | exact ih0 _ _ _ _
      | exact ih1 _ _ _ _
      | exact spec_NameKey.mono _ _
      | exact spec_NeedCount.mono _ _ _ _
      | exact spec_NeedOp.mono _ _
      | exact LeO.none _
      | refine LeO.ite ?_ ?_
      | refine LeO.bind ?_ (fun _ => ?_)
set_option maxHeartbeats 8000000 in
set_option maxRecDepth 100000 in
theorem spec_NeedMay.calls (k : Nat) (a0_0 : ByteArray) (a0_1 : ByteArray) (A0_2 : Option Addr) (c0_2 : Nat) (l0_2 : List ByteArray) (r : Bool) (w : World) (hr0_2 : Kd.C Kd.string w A0_2 l0_2.length l0_2) (hc0_2 : l0_2.length ≤ c0_2) (h : spec_NeedMay.f k a0_0 a0_1 l0_2 = some r) :
    Calls Tryd.prog 7 #[.agg #[.string a0_0, .string a0_1, .slice A0_2 l0_2.length c0_2]] w fun e w' => e = .returned (.bool r) ∧ Below w.heap.size w w' := by
  have hu24 := Tryd.underlying24
  have HR0_2 := Aside0.mk hr0_2
  have HC0_2 := Aside0.mk hc0_2
  clear hr0_2 hc0_2
  have HB := Aside0.mk (Below.refl w.heap.size w)
  have H : ((spec_NeedOp.f k a0_1).bind fun t128 => (if t128 = true then ((spec_NameKey.f k a0_0).bind fun t129 => (spec_NeedMay.j0 k (!t129) a0_0 a0_1 l0_2)) else (spec_NeedMay.j0 k true a0_0 a0_1 l0_2))) = some r := h
  clear h
  have HC2 := Aside0.mk H
  clear H
  go_enter Tryd.func7, Tryd.ntmps7
  go_upto_region 1 with (first | ((with_reducible refine gate_dst (N := 1) rfl ?_); refine box_event ?hg (N := 1) ?hd (cs := #[.string a0_0, .string a0_1, .slice A0_2 l0_2.length c0_2]) (t := 24) ?hr ?_; (case hd => rfl); (case hg => rfl); (case hr => first | (go_simp; done) | (go_simp; rfl)); intro gb127 hg w3 hbox hb; have n0_ := Aside0.mk (below_step (by repeat (first | (with_reducible first | exact HB.out | apply below_alloc | apply pw_below_drewN | apply below_drew1) | exact HB.out)) hb); have n1_ := Aside0.mk (hbox); have n2_ := Aside0.mk ((by rw [hg]; exact (below_size (by repeat (first | (with_reducible first | exact HB.out | apply below_alloc | apply pw_below_drewN | apply below_drew1) | exact HB.out))) : w.heap.size ≤ gb127)); have n3_ := Aside0.mk ((by rw [hg]; exact (below_size (by repeat (first | (with_reducible first | exact HB.out | apply below_alloc | apply pw_below_drewN | apply below_drew1) | exact HB.out))) : w.heap.size ≤ gb127)); clear HB; have HB := n0_; have BK127 := n1_; have GW127 := n2_; have GE127 := n3_; clear n0_ n1_ n2_ n3_; clear hb hbox hg))
  (try simp only [Act.put, List.setIfInBounds_toArray, List.set_cons_zero, List.set_cons_succ])
  go_cut [13] (fun v13 wc => ∃ (kq : Nat) (x13_1 : Bool), v13 = .bool x13_1 ∧ Aside0 (spec_NeedMay.j0 kq x13_1 a0_0 a0_1 l0_2 = some r) ∧ Aside0 (kq ≤ k) ∧ Aside0 (wc.heap[gb127]? = some (.cells #[.string a0_0, .string a0_1, (.slice A0_2 l0_2.length c0_2)] 24 (0, 0))) ∧ Aside0 (Below w.heap.size w wc))
  case first =>
    have H := HC2.out
    clear HC2
    replace H := Option.bind_eq_some_iff.mp H
    obtain ⟨t128, A40, H⟩ := H
    replace H : (if t128 = true then ((spec_NameKey.f k a0_0).bind fun t129 => (spec_NeedMay.j0 k (!t129) a0_0 a0_1 l0_2)) else (spec_NeedMay.j0 k true a0_0 a0_1 l0_2)) = some r := H
    have A4 := Aside0.mk A40
    clear A40
    by_cases c5 : t128 = true
    · subst c5
      have H1 : ((spec_NameKey.f k a0_0).bind fun t129 => (spec_NeedMay.j0 k (!t129) a0_0 a0_1 l0_2)) = some r := by rw [if_pos rfl] at H; exact H
      clear H
      have H := H1
      clear H1
      replace H := Option.bind_eq_some_iff.mp H
      obtain ⟨t129, A60, H⟩ := H
      replace H : (spec_NeedMay.j0 k (!t129) a0_0 a0_1 l0_2) = some r := H
      have A6 := Aside0.mk A60
      clear A60
      have H' := Aside0.mk H
      clear H
      have hcz7_0 : w3.cell? ⟨gb127, 0, none⟩ = some (.string a0_0) := (blk_cell BK127.out 0).trans rfl
      have hcz7_1 : w3.cell? ⟨gb127, 1, none⟩ = some (.string a0_1) := (blk_cell BK127.out 1).trans rfl
      have hcz7_2 : w3.cell? ⟨gb127, 2, none⟩ = some (.slice A0_2 l0_2.length c0_2) := (blk_cell BK127.out 2).trans rfl
      have hfz7_0 := blk_frozen BK127.out 0
      have hfz7_1 := blk_frozen BK127.out 1
      have hfz7_2 := blk_frozen BK127.out 2
      go_wp2_with (first | ((with_reducible refine gate_callee (f := 20) rfl ?_); refine goesL_ (some 6) rfl rfl Tryd.func20 (by kernel_rfl) rfl #[.string a0_1] rfl (by (try simp only [List.map_toArray, List.map_cons, List.map_nil]); first | done | rfl | (simp only [List.length_drop, List.length_take]; rfl)) ?_; (with_reducible refine (spec_NeedOp.calls k a0_1 true _ A4.out).mono ?_); rintro e w8 ⟨rfl, hb⟩; refine ⟨_, rfl, ?_⟩; have n0_ := Aside0.mk (blk_below (g := gb127) (o := .cells #[.string a0_0, .string a0_1, .slice A0_2 l0_2.length c0_2] 24 (0, 0)) (by (with_reducible repeat (first | refine blk_drewN ?_ _ | refine blk_drew ?_ | refine blk_alloc ?_ _)); exact BK127.out) hb); have n1_ := Aside0.mk (below_step (by repeat (first | (with_reducible first | exact HB.out | apply below_alloc | apply pw_below_drewN | apply below_drew1 | refine below_set ?_ GE127.out) | exact HB.out)) hb); clear BK127; clear HB; have BK127 := n0_; have HB := n1_; clear n0_ n1_; (try clear hb); (try clear hb2); (try clear hk); (try clear hi); have hcz9_0 : w8.cell? ⟨gb127, 0, none⟩ = some (.string a0_0) := (blk_cell BK127.out 0).trans rfl; have hcz9_1 : w8.cell? ⟨gb127, 1, none⟩ = some (.string a0_1) := (blk_cell BK127.out 1).trans rfl; have hcz9_2 : w8.cell? ⟨gb127, 2, none⟩ = some (.slice A0_2 l0_2.length c0_2) := (blk_cell BK127.out 2).trans rfl; have hfz9_0 := blk_frozen BK127.out 0; have hfz9_1 := blk_frozen BK127.out 1; have hfz9_2 := blk_frozen BK127.out 2) | (go_at_call 21; (with_reducible refine (spec_NameKey.calls k a0_0 t129 _ A6.out).mono ?_); rintro e w10 ⟨rfl, hb⟩; have n0_ := Aside0.mk (blk_below (g := gb127) (o := .cells #[.string a0_0, .string a0_1, .slice A0_2 l0_2.length c0_2] 24 (0, 0)) (by (with_reducible repeat (first | refine blk_drewN ?_ _ | refine blk_drew ?_ | refine blk_alloc ?_ _)); exact BK127.out) hb); have n1_ := Aside0.mk (below_step (by repeat (first | (with_reducible first | exact HB.out | apply below_alloc | apply pw_below_drewN | apply below_drew1 | refine below_set ?_ GE127.out) | exact HB.out)) hb); clear BK127; clear HB; have BK127 := n0_; have HB := n1_; clear n0_ n1_; (try clear hb); (try clear hb2); (try clear hk); (try clear hi)))
      go_meet
      case rel => exact ⟨_, (!t129), (by first | rfl | (simp; done) | (simp [*]; done)), H', ⟨by first | omega | exact Nat.le_refl _⟩, ⟨by (with_reducible repeat (first | refine blk_drewN ?_ _ | refine blk_drew ?_ | refine blk_alloc ?_ _)); exact BK127.out⟩, ⟨by repeat (first | (with_reducible first | exact HB.out | apply below_alloc | apply pw_below_drewN | apply below_drew1 | refine below_set ?_ GE127.out) | exact HB.out)⟩⟩
    · replace c5 := Bool.eq_false_iff.mpr c5
      subst c5
      have H1 : (spec_NeedMay.j0 k true a0_0 a0_1 l0_2) = some r := by rw [if_neg (show ¬ (false = true) by decide)] at H; exact H
      clear H
      have H := H1
      clear H1
      have H' := Aside0.mk H
      clear H
      have hcz11_0 : w3.cell? ⟨gb127, 0, none⟩ = some (.string a0_0) := (blk_cell BK127.out 0).trans rfl
      have hcz11_1 : w3.cell? ⟨gb127, 1, none⟩ = some (.string a0_1) := (blk_cell BK127.out 1).trans rfl
      have hcz11_2 : w3.cell? ⟨gb127, 2, none⟩ = some (.slice A0_2 l0_2.length c0_2) := (blk_cell BK127.out 2).trans rfl
      have hfz11_0 := blk_frozen BK127.out 0
      have hfz11_1 := blk_frozen BK127.out 1
      have hfz11_2 := blk_frozen BK127.out 2
      go_wp2_with (first | ((with_reducible refine gate_callee (f := 20) rfl ?_); refine goesL_ (some 6) rfl rfl Tryd.func20 (by kernel_rfl) rfl #[.string a0_1] rfl (by (try simp only [List.map_toArray, List.map_cons, List.map_nil]); first | done | rfl | (simp only [List.length_drop, List.length_take]; rfl)) ?_; (with_reducible refine (spec_NeedOp.calls k a0_1 false _ A4.out).mono ?_); rintro e w12 ⟨rfl, hb⟩; refine ⟨_, rfl, ?_⟩; have n0_ := Aside0.mk (blk_below (g := gb127) (o := .cells #[.string a0_0, .string a0_1, .slice A0_2 l0_2.length c0_2] 24 (0, 0)) (by (with_reducible repeat (first | refine blk_drewN ?_ _ | refine blk_drew ?_ | refine blk_alloc ?_ _)); exact BK127.out) hb); have n1_ := Aside0.mk (below_step (by repeat (first | (with_reducible first | exact HB.out | apply below_alloc | apply pw_below_drewN | apply below_drew1 | refine below_set ?_ GE127.out) | exact HB.out)) hb); clear BK127; clear HB; have BK127 := n0_; have HB := n1_; clear n0_ n1_; (try clear hb); (try clear hb2); (try clear hk); (try clear hi)))
      go_meet
      case rel => exact ⟨_, (true), (by first | rfl | (simp; done) | (simp [*]; done)), H', ⟨by first | omega | exact Nat.le_refl _⟩, ⟨by (with_reducible repeat (first | refine blk_drewN ?_ _ | refine blk_drew ?_ | refine blk_alloc ?_ _)); exact BK127.out⟩, ⟨by repeat (first | (with_reducible first | exact HB.out | apply below_alloc | apply pw_below_drewN | apply below_drew1 | refine below_set ?_ GE127.out) | exact HB.out)⟩⟩
  case rest =>
    clear HC2
    try clear c2
    try clear p2
    try clear c5
    try clear c7
    try clear hcz11_0
    try clear hcz11_1
    try clear hcz11_2
    try clear hcz7_0
    try clear hcz7_1
    try clear hcz7_2
    try clear hcz9_0
    try clear hcz9_1
    try clear hcz9_2
    try clear hfz11_0
    try clear hfz11_1
    try clear hfz11_2
    try clear hfz7_0
    try clear hfz7_1
    try clear hfz7_2
    try clear hfz9_0
    try clear hfz9_1
    try clear hfz9_2
    obtain ⟨kq, x13_1, rfl, HA, HJ1, BK127, HB⟩ := hcut
    cases kq with
    | zero => exact absurd HA.out (by simp [spec_NeedMay.j0])
    | succ kj1 =>
      have H := HA.out
      clear HA
      simp only [spec_NeedMay.j0] at H
      by_cases c13 : x13_1 = true
      · subst c13
        have H1 : (some false) = some r := by rw [if_pos rfl] at H; exact H
        clear H
        have H := H1
        clear H1
        obtain rfl := Option.some.inj H
        go_wp2
        go_ret
        exact ⟨by first | rfl | (simp [errW_none, errW_some] <;> rfl) | (simp [*, errW_none, errW_some] <;> rfl) | (exfalso; contradiction), by repeat (first | (with_reducible first | exact HB.out | apply below_alloc | apply pw_below_drewN | apply below_drew1 | refine below_set ?_ GE127.out) | exact HB.out)⟩
      · replace c13 := Bool.eq_false_iff.mpr c13
        subst c13
        have H1 : (spec_NeedMay.l0 kj1 0 a0_0 a0_1 l0_2) = some r := by rw [if_neg (show ¬ (false = true) by decide)] at H; exact H
        clear H
        have H := H1
        clear H1
        have H' := Aside0.mk H
        clear H
        go_wp2
        go_loopg [3] kj1 (fun kq v3 w' => ∃ (x3_2 : Int), v3 = .int .i64 x3_2 ∧ Aside0 (spec_NeedMay.l0 kq x3_2 a0_0 a0_1 l0_2 = some r) ∧ Aside0 (kq ≤ kj1) ∧ Aside0 (w'.heap[gb127]? = some (.cells #[.string a0_0, .string a0_1, (.slice A0_2 l0_2.length c0_2)] 24 (0, 0))) ∧ Aside0 (Below w.heap.size w w'))
        case atStart => exact ⟨(0), (by first | rfl | (simp; done) | (simp [*]; done)), H', ⟨Nat.le_refl _⟩, ⟨by (with_reducible repeat (first | refine blk_drewN ?_ _ | refine blk_drew ?_ | refine blk_alloc ?_ _)); exact BK127.out⟩, ⟨by repeat (first | (with_reducible first | exact HB.out | apply below_alloc | apply pw_below_drewN | apply below_drew1 | refine below_set ?_ GE127.out) | exact HB.out)⟩⟩
        case round =>
          clear H'
          try clear c1
          try clear c2
          try clear p2
          try clear c5
          try clear c7
          try clear c13
          try clear hcz11_0
          try clear hcz11_1
          try clear hcz11_2
          try clear hcz7_0
          try clear hcz7_1
          try clear hcz7_2
          try clear hcz9_0
          try clear hcz9_1
          try clear hcz9_2
          try clear hfz11_0
          try clear hfz11_1
          try clear hfz11_2
          try clear hfz7_0
          try clear hfz7_1
          try clear hfz7_2
          try clear hfz9_0
          try clear hfz9_1
          try clear hfz9_2
          try clear p2
          obtain ⟨x3_2, rfl, HA, HK2, BK127, HB⟩ := hrel
          cases gk with
          | zero => exact absurd HA.out (by simp [spec_NeedMay.l0])
          | succ k2 =>
            have H := HA.out
            clear HA
            simp only [spec_NeedMay.l0] at H
            by_cases c14 : x3_2 < (l0_2.length : Int)
            · rw [if_pos c14] at H
              have c14b0 : decide (x3_2 < (l0_2.length : Int)) = true := decide_eq_true c14
              clear c14
              by_cases c15 : 0 ≤ x3_2
              · rw [if_pos c15] at H
                have c15b0 : decide (0 ≤ x3_2) = true := decide_eq_true c15
                clear c15
                replace H := Option.bind_eq_some_iff.mp H
                obtain ⟨t131, A160, H⟩ := H
                replace H : (if t131 = true then (spec_NeedMay.l0 k2 (wrap64 (x3_2 + 1)) a0_0 a0_1 l0_2) else (some false)) = some r := H
                have A16 := Aside0.mk A160
                clear A160
                by_cases c17 : t131 = true
                · subst c17
                  have H1 : (spec_NeedMay.l0 k2 (wrap64 (x3_2 + 1)) a0_0 a0_1 l0_2) = some r := by rw [if_pos rfl] at H; exact H
                  clear H
                  have H := H1
                  clear H1
                  have H' := Aside0.mk H
                  clear H
                  have hcz18_0 : wr.cell? ⟨gb127, 0, none⟩ = some (.string a0_0) := (blk_cell BK127.out 0).trans rfl
                  have hcz18_1 : wr.cell? ⟨gb127, 1, none⟩ = some (.string a0_1) := (blk_cell BK127.out 1).trans rfl
                  have hcz18_2 : wr.cell? ⟨gb127, 2, none⟩ = some (.slice A0_2 l0_2.length c0_2) := (blk_cell BK127.out 2).trans rfl
                  have hfz18_0 := blk_frozen BK127.out 0
                  have hfz18_1 := blk_frozen BK127.out 1
                  have hfz18_2 := blk_frozen BK127.out 2
                  have p130 : 0 ≤ (x3_2 : Int) := of_decide_eq_true (by first | (with_reducible assumption) | assumption)
                  have q130 : x3_2 < (l0_2.length : Int) := of_decide_eq_true (by first | (with_reducible assumption) | assumption)
                  obtain ⟨ad130, e130, hx130_0⟩ := Kd.at_string HR0_2.out x3_2 p130 q130
                  cases e130
                  replace hx130_0 := (HB.out.cell (World.block_lt_of_cell? w _ hx130_0)).trans hx130_0
                  replace p130 := eq_true p130
                  replace q130 := eq_true q130
                  go_wp2_with (first | ((with_reducible refine gate_callee (f := 22) rfl ?_); refine goesL_ (some 26) rfl rfl Tryd.func22 (by kernel_rfl) rfl #[.string (rdOf ByteArray.empty l0_2 x3_2)] rfl (by (try simp only [List.map_toArray, List.map_cons, List.map_nil]); first | done | rfl | (simp only [List.length_drop, List.length_take]; rfl)) ?_; (with_reducible refine (spec_NameValue.calls (rdOf ByteArray.empty l0_2 x3_2) true _ A16.out).mono ?_); rintro e w19 ⟨rfl, hb⟩; refine ⟨_, rfl, ?_⟩; have n0_ := Aside0.mk (blk_below (g := gb127) (o := .cells #[.string a0_0, .string a0_1, .slice (some ad130) l0_2.length c0_2] 24 (0, 0)) (by (with_reducible repeat (first | refine blk_drewN ?_ _ | refine blk_drew ?_ | refine blk_alloc ?_ _)); exact BK127.out) hb); have n1_ := Aside0.mk (below_step (by repeat (first | (with_reducible first | exact HB.out | apply below_alloc | apply pw_below_drewN | apply below_drew1 | refine below_set ?_ GE127.out) | exact HB.out)) hb); clear BK127; clear HB; have BK127 := n0_; have HB := n1_; clear n0_ n1_; (try clear hb); (try clear hb2); (try clear hk); (try clear hi)))
                  go_roundg k2
                  case measure => have := HJ1.out; have := HK2.out; omega
                  case rel => exact ⟨(wrap64 (x3_2 + 1)), (by first | rfl | (simp; done) | (simp [*]; done)), H', ⟨by have := HJ1.out; have := HK2.out; omega⟩, ⟨by (with_reducible repeat (first | refine blk_drewN ?_ _ | refine blk_drew ?_ | refine blk_alloc ?_ _)); exact BK127.out⟩, ⟨by repeat (first | (with_reducible first | exact HB.out | apply below_alloc | apply pw_below_drewN | apply below_drew1 | refine below_set ?_ GE127.out) | exact HB.out)⟩⟩
                · replace c17 := Bool.eq_false_iff.mpr c17
                  subst c17
                  have H1 : (some false) = some r := by rw [if_neg (show ¬ (false = true) by decide)] at H; exact H
                  clear H
                  have H := H1
                  clear H1
                  obtain rfl := Option.some.inj H
                  have hcz20_0 : wr.cell? ⟨gb127, 0, none⟩ = some (.string a0_0) := (blk_cell BK127.out 0).trans rfl
                  have hcz20_1 : wr.cell? ⟨gb127, 1, none⟩ = some (.string a0_1) := (blk_cell BK127.out 1).trans rfl
                  have hcz20_2 : wr.cell? ⟨gb127, 2, none⟩ = some (.slice A0_2 l0_2.length c0_2) := (blk_cell BK127.out 2).trans rfl
                  have hfz20_0 := blk_frozen BK127.out 0
                  have hfz20_1 := blk_frozen BK127.out 1
                  have hfz20_2 := blk_frozen BK127.out 2
                  have p130 : 0 ≤ (x3_2 : Int) := of_decide_eq_true (by first | (with_reducible assumption) | assumption)
                  have q130 : x3_2 < (l0_2.length : Int) := of_decide_eq_true (by first | (with_reducible assumption) | assumption)
                  obtain ⟨ad130, e130, hx130_0⟩ := Kd.at_string HR0_2.out x3_2 p130 q130
                  cases e130
                  replace hx130_0 := (HB.out.cell (World.block_lt_of_cell? w _ hx130_0)).trans hx130_0
                  replace p130 := eq_true p130
                  replace q130 := eq_true q130
                  go_wp2_with (first | ((with_reducible refine gate_callee (f := 22) rfl ?_); refine goesL_ (some 26) rfl rfl Tryd.func22 (by kernel_rfl) rfl #[.string (rdOf ByteArray.empty l0_2 x3_2)] rfl (by (try simp only [List.map_toArray, List.map_cons, List.map_nil]); first | done | rfl | (simp only [List.length_drop, List.length_take]; rfl)) ?_; (with_reducible refine (spec_NameValue.calls (rdOf ByteArray.empty l0_2 x3_2) false _ A16.out).mono ?_); rintro e w21 ⟨rfl, hb⟩; refine ⟨_, rfl, ?_⟩; have n0_ := Aside0.mk (blk_below (g := gb127) (o := .cells #[.string a0_0, .string a0_1, .slice (some ad130) l0_2.length c0_2] 24 (0, 0)) (by (with_reducible repeat (first | refine blk_drewN ?_ _ | refine blk_drew ?_ | refine blk_alloc ?_ _)); exact BK127.out) hb); have n1_ := Aside0.mk (below_step (by repeat (first | (with_reducible first | exact HB.out | apply below_alloc | apply pw_below_drewN | apply below_drew1 | refine below_set ?_ GE127.out) | exact HB.out)) hb); clear BK127; clear HB; have BK127 := n0_; have HB := n1_; clear n0_ n1_; (try clear hb); (try clear hb2); (try clear hk); (try clear hi)))
                  go_ret
                  exact ⟨by first | rfl | (simp [errW_none, errW_some] <;> rfl) | (simp [*, errW_none, errW_some] <;> rfl) | (exfalso; contradiction), by repeat (first | (with_reducible first | exact HB.out | apply below_alloc | apply pw_below_drewN | apply below_drew1 | refine below_set ?_ GE127.out) | exact HB.out)⟩
              · rw [if_neg c15] at H
                exact absurd H (by simp)
            · rw [if_neg c14] at H
              have c14b0 : decide (x3_2 < (l0_2.length : Int)) = false := decide_eq_false c14
              clear c14
              replace H := Option.bind_eq_some_iff.mp H
              obtain ⟨t132, A220, H⟩ := H
              replace H : (some t132) = some r := H
              have A22 := Aside0.mk A220
              clear A220
              obtain rfl := Option.some.inj H
              have hcz23_0 : wr.cell? ⟨gb127, 0, none⟩ = some (.string a0_0) := (blk_cell BK127.out 0).trans rfl
              have hcz23_1 : wr.cell? ⟨gb127, 1, none⟩ = some (.string a0_1) := (blk_cell BK127.out 1).trans rfl
              have hcz23_2 : wr.cell? ⟨gb127, 2, none⟩ = some (.slice A0_2 l0_2.length c0_2) := (blk_cell BK127.out 2).trans rfl
              have hfz23_0 := blk_frozen BK127.out 0
              have hfz23_1 := blk_frozen BK127.out 1
              have hfz23_2 := blk_frozen BK127.out 2
              go_wp2_with (first | ((with_reducible refine gate_callee (f := 23) rfl ?_); refine goesL_ (some 29) rfl rfl Tryd.func23 (by kernel_rfl) rfl #[.agg #[.string a0_0, .string a0_1, .slice A0_2 l0_2.length c0_2]] rfl (by (try simp only [List.map_toArray, List.map_cons, List.map_nil]); first | done | rfl | (simp only [List.length_drop, List.length_take]; rfl)) ?_; (with_reducible refine (spec_NeedCount.calls k2 a0_0 a0_1 _ _ l0_2 t132 _ ?side1 ?side2 A22.out).mono ?_); (case side1 => repeat (first | exact (Kd.C_below HR0_2.out HB.out) | (with_reducible refine Kd.C_alloc ?_ _) | (with_reducible refine Kd.C_drewN ?_ _) | (with_reducible refine Kd.C_drew ?_))); (case side2 => exact HC0_2.out); rintro e w24 ⟨rfl, hb⟩; refine ⟨_, rfl, ?_⟩; have n0_ := Aside0.mk (blk_below (g := gb127) (o := .cells #[.string a0_0, .string a0_1, .slice A0_2 l0_2.length c0_2] 24 (0, 0)) (by (with_reducible repeat (first | refine blk_drewN ?_ _ | refine blk_drew ?_ | refine blk_alloc ?_ _)); exact BK127.out) hb); have n1_ := Aside0.mk (below_step (by repeat (first | (with_reducible first | exact HB.out | apply below_alloc | apply pw_below_drewN | apply below_drew1 | refine below_set ?_ GE127.out) | exact HB.out)) hb); clear BK127; clear HB; have BK127 := n0_; have HB := n1_; clear n0_ n1_; (try clear hb); (try clear hb2); (try clear hk); (try clear hi)))
              go_ret
              exact ⟨by first | rfl | (simp [errW_none, errW_some] <;> rfl) | (simp [*, errW_none, errW_some] <;> rfl) | (exfalso; contradiction), by repeat (first | (with_reducible first | exact HB.out | apply below_alloc | apply pw_below_drewN | apply below_drew1 | refine below_set ?_ GE127.out) | exact HB.out)⟩

/-! ### spec_Keys_string: function 8 -/
mutual
def spec_Keys_string.l0 : Nat → List ByteArray → List ByteArray → Int → Option (List ByteArray)
  | 0, _, _, _ => none
  | k + 1, x0, x3, x4 => if x4 < (x0.length : Int) then (if 0 ≤ x4 then ((spec_keyIn_string.f k x3 (rdOf ByteArray.empty x0 x4)).bind fun t134 => (if t134 = true then (spec_Keys_string.l0 k x0 x3 (wrap64 (x4 + 1))) else (spec_Keys_string.l1 k x0 x3 x4 0))) else (none)) else (some x3)
def spec_Keys_string.l1 : Nat → List ByteArray → List ByteArray → Int → Int → Option (List ByteArray)
  | 0, _, _, _, _ => none
  | k + 1, x0, x3, x4, x5 => if x5 < (x3.length : Int) then (if 0 ≤ x5 then (if 0 ≤ x4 then (if x4 < (x0.length : Int) then (if (Op.bytesLess ((rdOf ByteArray.empty x3 x5).toList) ((rdOf ByteArray.empty x0 x4).toList)) = true then (spec_Keys_string.l1 k x0 x3 x4 (wrap64 (x5 + 1))) else ((some (([] : List ByteArray) : List ByteArray)).bind fun y137 => (if x5 ≤ (x3.length : Int) then ((some (x3.take (x5 : Int).toNat : List ByteArray)).bind fun y140 => (if y137.length + y140.length < 8796093022208 then ((some (y137 ++ y140 : List ByteArray)).bind fun y144 => (if y144.length < 8796093022208 then ((some (y144 ++ [rdOf ByteArray.empty x0 x4] : List ByteArray)).bind fun y148 => ((some (x3.drop (x5 : Int).toNat : List ByteArray)).bind fun y151 => (if y148.length + y151.length < 8796093022208 then (spec_Keys_string.l0 k x0 (y148 ++ y151) (wrap64 (x4 + 1))) else (none)))) else (none))) else (none))) else (none)))) else (none)) else (none)) else (none)) else ((some (([] : List ByteArray) : List ByteArray)).bind fun y158 => (if 0 ≤ x5 then (if x5 ≤ (x3.length : Int) then ((some (x3.take (x5 : Int).toNat : List ByteArray)).bind fun y161 => (if y158.length + y161.length < 8796093022208 then ((some (y158 ++ y161 : List ByteArray)).bind fun y165 => (if 0 ≤ x4 then (if x4 < (x0.length : Int) then (if y165.length < 8796093022208 then ((some (y165 ++ [rdOf ByteArray.empty x0 x4] : List ByteArray)).bind fun y169 => ((some (x3.drop (x5 : Int).toNat : List ByteArray)).bind fun y172 => (if y169.length + y172.length < 8796093022208 then (spec_Keys_string.l0 k x0 (y169 ++ y172) (wrap64 (x4 + 1))) else (none)))) else (none)) else (none)) else (none))) else (none))) else (none)) else (none)))
end
def spec_Keys_string.f (k : Nat) (l0 : List ByteArray) : Option (List ByteArray) := spec_Keys_string.l0 k l0 ([] : List ByteArray) 0
theorem spec_Keys_string.mono_l : ∀ k, (∀ y0 y1 y2, LeO (spec_Keys_string.l0 k y0 y1 y2) (spec_Keys_string.l0 (k + 1) y0 y1 y2)) ∧ (∀ y0 y1 y2 y3, LeO (spec_Keys_string.l1 k y0 y1 y2 y3) (spec_Keys_string.l1 (k + 1) y0 y1 y2 y3))
  | 0 => ⟨fun _ _ _ r h => by simp [spec_Keys_string.l0] at h, fun _ _ _ _ r h => by simp [spec_Keys_string.l1] at h⟩
  | k + 1 => by
    obtain ⟨ih0, ih1⟩ := spec_Keys_string.mono_l k
    refine ⟨?_, ?_⟩
    · intro y0 y1 y2
      unfold spec_Keys_string.l0
      repeat' first
      | (with_reducible exact ih0 _ _ _)
      | (with_reducible exact ih1 _ _ _ _)
      | (with_reducible exact spec_keyIn_string.mono _ _ _)
      | (with_reducible exact LeO.refl _)
      | (with_reducible exact LeO.none _)
      | (with_reducible refine LeO.ite ?_ ?_)
      | (with_reducible refine LeO.bind ?_ (fun _ => ?_))
      | exact ih0 _ _ _
      | exact ih1 _ _ _ _
      | exact spec_keyIn_string.mono _ _ _
      | exact LeO.none _
      | refine LeO.ite ?_ ?_
      | refine LeO.bind ?_ (fun _ => ?_)
    · intro y0 y1 y2 y3
      unfold spec_Keys_string.l1
      repeat' first
      | (with_reducible exact ih0 _ _ _)
      | (with_reducible exact ih1 _ _ _ _)
      | (with_reducible exact spec_keyIn_string.mono _ _ _)
      | (with_reducible exact LeO.refl _)
      | (with_reducible exact LeO.none _)
      | (with_reducible refine LeO.ite ?_ ?_)
      | (with_reducible refine LeO.bind ?_ (fun _ => ?_))
      | exact ih0 _ _ _
      | exact ih1 _ _ _ _
      | exact spec_keyIn_string.mono _ _ _
      | exact LeO.none _
      | refine LeO.ite ?_ ?_
      | refine LeO.bind ?_ (fun _ => ?_)
theorem spec_Keys_string.mono : ∀ a0 k, LeO (spec_Keys_string.f k a0) (spec_Keys_string.f (k + 1) a0) := by
  intro a0 k
  obtain ⟨ih0, ih1⟩ := spec_Keys_string.mono_l k
  unfold spec_Keys_string.f
  repeat' first
      | (with_reducible exact ih0 _ _ _)
      | (with_reducible exact ih1 _ _ _ _)
      | (with_reducible exact spec_keyIn_string.mono _ _ _)
      | (with_reducible exact LeO.refl _)
      | (with_reducible exact LeO.none _)
      | (with_reducible refine LeO.ite ?_ ?_)
      | (with_reducible refine LeO.bind ?_ (fun _ => ?_))
      | exact ih0 _ _ _
      | exact ih1 _ _ _ _
      | exact spec_keyIn_string.mono _ _ _
      | exact LeO.none _
      | refine LeO.ite ?_ ?_
      | refine LeO.bind ?_ (fun _ => ?_)
set_option maxHeartbeats 8000000 in
set_option maxRecDepth 100000 in
theorem spec_Keys_string.calls (k : Nat) (A0 : Option Addr) (c0 : Nat) (l0 : List ByteArray) (r : List ByteArray) (w : World) (hr0 : Kd.C Kd.string w A0 l0.length l0) (hc0 : l0.length ≤ c0) (h : spec_Keys_string.f k l0 = some r) :
    Calls Tryd.prog 8 #[.slice A0 l0.length c0] w fun e w' => ∃ v0_ : Value, e = .returned (v0_) ∧ Kd.R Kd.string 9 w' w.heap.size (fun _ => True) v0_ r ∧ Below w.heap.size w w' := by
  have HR0 := Aside0.mk hr0
  have HC0 := Aside0.mk hc0
  clear hr0 hc0
  have HB := Aside0.mk (Below.refl w.heap.size w)
  have H : (spec_Keys_string.l0 k l0 ([] : List ByteArray) 0) = some r := h
  clear h
  have H' := Aside0.mk H
  clear H
  go_enter Tryd.func8, Tryd.ntmps8
  go_wp2
  repeat (go_quiet (fail); try go_wp2)
  go_loopg [3, 4] k (fun kq v3 v4 w' => ∃ (x3_1 : List ByteArray) (x4_1 : Int), v4 = .int .i64 x4_1 ∧ Aside0 (spec_Keys_string.l0 kq l0 x3_1 x4_1 = some r) ∧ Aside0 (kq ≤ k) ∧ Aside0 (Kd.R Kd.string 9 w' w.heap.size (fun _ => True) v3 x3_1) ∧ Aside0 (Below w.heap.size w w'))
  case atStart => exact ⟨(([] : List ByteArray)), (0), (by first | rfl | (simp; done) | (simp [*]; done)), H', ⟨Nat.le_refl _⟩, ⟨by first | exact Kd.R_nil _ _ _ _ _ | exact Kd.N_nil _ _ _ _ _ | exact Kd.V_nil _ _ _ _ _ | exact Kd.Q_nil _ _ _ _ _ | exact Kd.S_nil _ _ _ _ _⟩, ⟨by repeat (first | (with_reducible first | exact HB.out | apply below_alloc | apply pw_below_drewN | apply below_drew1) | exact HB.out)⟩⟩
  case round =>
    clear H'
    obtain ⟨x3_1, x4_1, rfl, HA, HK1, HO_3, HB⟩ := hrel
    cases gk with
    | zero => exact absurd HA.out (by simp [spec_Keys_string.l0])
    | succ k1 =>
      have H := HA.out
      clear HA
      simp only [spec_Keys_string.l0] at H
      by_cases c2 : x4_1 < (l0.length : Int)
      · rw [if_pos c2] at H
        have c2b0 : decide (x4_1 < (l0.length : Int)) = true := decide_eq_true c2
        clear c2
        by_cases c3 : 0 ≤ x4_1
        · rw [if_pos c3] at H
          have c3b0 : decide (0 ≤ x4_1) = true := decide_eq_true c3
          clear c3
          replace H := Option.bind_eq_some_iff.mp H
          obtain ⟨t134, A40, H⟩ := H
          replace H : (if t134 = true then (spec_Keys_string.l0 k1 l0 x3_1 (wrap64 (x4_1 + 1))) else (spec_Keys_string.l1 k1 l0 x3_1 x4_1 0)) = some r := H
          have A4 := Aside0.mk A40
          clear A40
          by_cases c5 : t134 = true
          · subst c5
            have H1 : (spec_Keys_string.l0 k1 l0 x3_1 (wrap64 (x4_1 + 1))) = some r := by rw [if_pos rfl] at H; exact H
            clear H
            have H := H1
            clear H1
            have H' := Aside0.mk H
            clear H
            have p133 : 0 ≤ (x4_1 : Int) := of_decide_eq_true (by first | (with_reducible assumption) | assumption)
            have q133 : x4_1 < (l0.length : Int) := of_decide_eq_true (by first | (with_reducible assumption) | assumption)
            obtain ⟨ad133, e133, hx133_0⟩ := Kd.at_string HR0.out x4_1 p133 q133
            cases e133
            replace hx133_0 := (HB.out.cell (World.block_lt_of_cell? w _ hx133_0)).trans hx133_0
            replace p133 := eq_true p133
            replace q133 := eq_true q133
            obtain ⟨Ao6, co6, eo6⟩ := Kd.R_slice HO_3.out
            subst eo6
            go_wp2_with (first | (go_at_call 24; (with_reducible refine (spec_keyIn_string.calls k1 _ _ x3_1 (rdOf ByteArray.empty l0 x4_1) true _ ?side1 ?side2 A4.out).mono ?_); (case side1 => repeat (first | exact (Kd.R_reads' HO_3.out).2.2 | (with_reducible refine Kd.C_alloc ?_ _) | (with_reducible refine Kd.C_drewN ?_ _) | (with_reducible refine Kd.C_drew ?_))); (case side2 => exact (Kd.R_reads' HO_3.out).2.1); rintro e w' ⟨rfl, ⟨nd, rfl⟩⟩; (try first | exact ⟨rfl, _, World.drewN_drewN _ _ _⟩ | exact ⟨rfl, _, Eq.trans (World.drewN_drewN _ _ _) (congrArg (World.drewN _) (Nat.add_assoc _ _ _))⟩)))
            repeat (go_quiet (first | (go_at_call 24; (with_reducible refine (spec_keyIn_string.calls k1 _ _ x3_1 (rdOf ByteArray.empty l0 x4_1) true _ ?side1 ?side2 A4.out).mono ?_); (case side1 => repeat (first | exact (Kd.R_reads' HO_3.out).2.2 | (with_reducible refine Kd.C_alloc ?_ _) | (with_reducible refine Kd.C_drewN ?_ _) | (with_reducible refine Kd.C_drew ?_))); (case side2 => exact (Kd.R_reads' HO_3.out).2.1); rintro e w' ⟨rfl, ⟨nd, rfl⟩⟩; (try first | exact ⟨rfl, _, World.drewN_drewN _ _ _⟩ | exact ⟨rfl, _, Eq.trans (World.drewN_drewN _ _ _) (congrArg (World.drewN _) (Nat.add_assoc _ _ _))⟩))); try go_wp2_with (first | (go_at_call 24; (with_reducible refine (spec_keyIn_string.calls k1 _ _ x3_1 (rdOf ByteArray.empty l0 x4_1) true _ ?side1 ?side2 A4.out).mono ?_); (case side1 => repeat (first | exact (Kd.R_reads' HO_3.out).2.2 | (with_reducible refine Kd.C_alloc ?_ _) | (with_reducible refine Kd.C_drewN ?_ _) | (with_reducible refine Kd.C_drew ?_))); (case side2 => exact (Kd.R_reads' HO_3.out).2.1); rintro e w' ⟨rfl, ⟨nd, rfl⟩⟩; (try first | exact ⟨rfl, _, World.drewN_drewN _ _ _⟩ | exact ⟨rfl, _, Eq.trans (World.drewN_drewN _ _ _) (congrArg (World.drewN _) (Nat.add_assoc _ _ _))⟩))))
            go_roundg k1
            case measure => have := HK1.out; omega
            case rel => exact ⟨(x3_1), (wrap64 (x4_1 + 1)), (by first | rfl | (simp; done) | (simp [*]; done)), H', ⟨by have := HK1.out; omega⟩, ⟨by (with_reducible repeat (first | apply Kd.R_alloc | apply Kd.R_drewN | apply Kd.R_drew)); exact HO_3.out⟩, ⟨by repeat (first | (with_reducible first | exact HB.out | apply below_alloc | apply pw_below_drewN | apply below_drew1) | exact HB.out)⟩⟩
          · replace c5 := Bool.eq_false_iff.mpr c5
            subst c5
            have H1 : (spec_Keys_string.l1 k1 l0 x3_1 x4_1 0) = some r := by rw [if_neg (show ¬ (false = true) by decide)] at H; exact H
            clear H
            have H := H1
            clear H1
            have H' := Aside0.mk H
            clear H
            have p133 : 0 ≤ (x4_1 : Int) := of_decide_eq_true (by first | (with_reducible assumption) | assumption)
            have q133 : x4_1 < (l0.length : Int) := of_decide_eq_true (by first | (with_reducible assumption) | assumption)
            obtain ⟨ad133, e133, hx133_0⟩ := Kd.at_string HR0.out x4_1 p133 q133
            cases e133
            replace hx133_0 := (HB.out.cell (World.block_lt_of_cell? w _ hx133_0)).trans hx133_0
            replace p133 := eq_true p133
            replace q133 := eq_true q133
            obtain ⟨Ao7, co7, eo7⟩ := Kd.R_slice HO_3.out
            subst eo7
            go_wp2_with (first | (go_at_call 24; (with_reducible refine (spec_keyIn_string.calls k1 _ _ x3_1 (rdOf ByteArray.empty l0 x4_1) false _ ?side1 ?side2 A4.out).mono ?_); (case side1 => repeat (first | exact (Kd.R_reads' HO_3.out).2.2 | (with_reducible refine Kd.C_alloc ?_ _) | (with_reducible refine Kd.C_drewN ?_ _) | (with_reducible refine Kd.C_drew ?_))); (case side2 => exact (Kd.R_reads' HO_3.out).2.1); rintro e w' ⟨rfl, ⟨nd, rfl⟩⟩; (try first | exact ⟨rfl, _, World.drewN_drewN _ _ _⟩ | exact ⟨rfl, _, Eq.trans (World.drewN_drewN _ _ _) (congrArg (World.drewN _) (Nat.add_assoc _ _ _))⟩)))
            repeat (go_quiet (first | (go_at_call 24; (with_reducible refine (spec_keyIn_string.calls k1 _ _ x3_1 (rdOf ByteArray.empty l0 x4_1) false _ ?side1 ?side2 A4.out).mono ?_); (case side1 => repeat (first | exact (Kd.R_reads' HO_3.out).2.2 | (with_reducible refine Kd.C_alloc ?_ _) | (with_reducible refine Kd.C_drewN ?_ _) | (with_reducible refine Kd.C_drew ?_))); (case side2 => exact (Kd.R_reads' HO_3.out).2.1); rintro e w' ⟨rfl, ⟨nd, rfl⟩⟩; (try first | exact ⟨rfl, _, World.drewN_drewN _ _ _⟩ | exact ⟨rfl, _, Eq.trans (World.drewN_drewN _ _ _) (congrArg (World.drewN _) (Nat.add_assoc _ _ _))⟩))); try go_wp2_with (first | (go_at_call 24; (with_reducible refine (spec_keyIn_string.calls k1 _ _ x3_1 (rdOf ByteArray.empty l0 x4_1) false _ ?side1 ?side2 A4.out).mono ?_); (case side1 => repeat (first | exact (Kd.R_reads' HO_3.out).2.2 | (with_reducible refine Kd.C_alloc ?_ _) | (with_reducible refine Kd.C_drewN ?_ _) | (with_reducible refine Kd.C_drew ?_))); (case side2 => exact (Kd.R_reads' HO_3.out).2.1); rintro e w' ⟨rfl, ⟨nd, rfl⟩⟩; (try first | exact ⟨rfl, _, World.drewN_drewN _ _ _⟩ | exact ⟨rfl, _, Eq.trans (World.drewN_drewN _ _ _) (congrArg (World.drewN _) (Nat.add_assoc _ _ _))⟩))))
            go_loopg [5] k1 (fun kq v5 w' => ∃ (x5_2 : Int), v5 = .int .i64 x5_2 ∧ Aside0 (spec_Keys_string.l1 kq l0 x3_1 x4_1 x5_2 = some r) ∧ Aside0 (kq ≤ k1) ∧ Aside0 (Kd.R Kd.string 9 w' w.heap.size (fun _ => True) (.slice Ao7 x3_1.length co7) x3_1) ∧ Aside0 (Below w.heap.size w w'))
            case atStart => exact ⟨(0), (by first | rfl | (simp; done) | (simp [*]; done)), H', ⟨Nat.le_refl _⟩, ⟨by (with_reducible repeat (first | apply Kd.R_alloc | apply Kd.R_drewN | apply Kd.R_drew)); exact HO_3.out⟩, ⟨by repeat (first | (with_reducible first | exact HB.out | apply below_alloc | apply pw_below_drewN | apply below_drew1) | exact HB.out)⟩⟩
            case round =>
              clear H'
              try clear p1
              try clear q1
              try clear hx1
              try clear c2
              try clear c2b0
              try clear p2
              try clear c3
              try clear c3b0
              try clear c5
              try clear p6
              try clear hx133_0
              try clear p133
              try clear q133
              obtain ⟨x5_2, rfl, HA, HK2, HO_3, HB⟩ := hrel
              cases gk with
              | zero => exact absurd HA.out (by simp [spec_Keys_string.l1])
              | succ k2 =>
                have H := HA.out
                clear HA
                simp only [spec_Keys_string.l1] at H
                by_cases c8 : x5_2 < (x3_1.length : Int)
                · rw [if_pos c8] at H
                  have c8b0 : decide (x5_2 < (x3_1.length : Int)) = true := decide_eq_true c8
                  clear c8
                  by_cases c9 : 0 ≤ x5_2
                  · rw [if_pos c9] at H
                    have c9b0 : decide (0 ≤ x5_2) = true := decide_eq_true c9
                    clear c9
                    by_cases c10 : 0 ≤ x4_1
                    · rw [if_pos c10] at H
                      have c10b0 : decide (0 ≤ x4_1) = true := decide_eq_true c10
                      clear c10
                      by_cases c11 : x4_1 < (l0.length : Int)
                      · rw [if_pos c11] at H
                        have c11b0 : decide (x4_1 < (l0.length : Int)) = true := decide_eq_true c11
                        clear c11
                        by_cases c12 : (Op.bytesLess ((rdOf ByteArray.empty x3_1 x5_2).toList) ((rdOf ByteArray.empty l0 x4_1).toList)) = true
                        · rw [if_pos c12] at H
                          have c12b0 : (Op.bytesLess ((rdOf ByteArray.empty x3_1 x5_2).toList) ((rdOf ByteArray.empty l0 x4_1).toList)) = true := c12
                          clear c12
                          have H' := Aside0.mk H
                          clear H
                          have p135 : 0 ≤ (x5_2 : Int) := of_decide_eq_true (by first | (with_reducible assumption) | assumption)
                          have q135 : x5_2 < (x3_1.length : Int) := of_decide_eq_true (by first | (with_reducible assumption) | assumption)
                          obtain ⟨ad135, e135, hx135_0⟩ := Kd.at_string (Kd.R_reads' HO_3.out).2.2 x5_2 p135 q135
                          cases e135
                          replace p135 := eq_true p135
                          replace q135 := eq_true q135
                          have p136 : 0 ≤ (x4_1 : Int) := of_decide_eq_true (by first | (with_reducible assumption) | assumption)
                          have q136 : x4_1 < (l0.length : Int) := of_decide_eq_true (by first | (with_reducible assumption) | assumption)
                          obtain ⟨ad136, e136, hx136_0⟩ := Kd.at_string HR0.out x4_1 p136 q136
                          obtain rfl : ad133 = ad136 := (by injection e136)
                          replace hx136_0 := (HB.out.cell (World.block_lt_of_cell? w _ hx136_0)).trans hx136_0
                          replace p136 := eq_true p136
                          replace q136 := eq_true q136
                          go_wp2
                          repeat (go_quiet (fail); try go_wp2)
                          go_roundg k2
                          case measure => have := HK1.out; have := HK2.out; omega
                          case rel => exact ⟨(wrap64 (x5_2 + 1)), (by first | rfl | (simp; done) | (simp [*]; done)), H', ⟨by have := HK1.out; have := HK2.out; omega⟩, ⟨by (with_reducible repeat (first | apply Kd.R_alloc | apply Kd.R_drewN | apply Kd.R_drew)); exact HO_3.out⟩, ⟨by repeat (first | (with_reducible first | exact HB.out | apply below_alloc | apply pw_below_drewN | apply below_drew1) | exact HB.out)⟩⟩
                        · rw [if_neg c12] at H
                          have c12b0 : (Op.bytesLess ((rdOf ByteArray.empty x3_1 x5_2).toList) ((rdOf ByteArray.empty l0 x4_1).toList)) = false := by simpa using c12
                          clear c12
                          obtain ⟨y137, hy137⟩ : ∃ y_ : List ByteArray, y_ = (([] : List ByteArray)) := ⟨_, rfl⟩
                          replace H : (if x5_2 ≤ (x3_1.length : Int) then ((some (x3_1.take (x5_2 : Int).toNat : List ByteArray)).bind fun y140 => (if y137.length + y140.length < 8796093022208 then ((some (y137 ++ y140 : List ByteArray)).bind fun y144 => (if y144.length < 8796093022208 then ((some (y144 ++ [rdOf ByteArray.empty l0 x4_1] : List ByteArray)).bind fun y148 => ((some (x3_1.drop (x5_2 : Int).toNat : List ByteArray)).bind fun y151 => (if y148.length + y151.length < 8796093022208 then (spec_Keys_string.l0 k2 l0 (y148 ++ y151) (wrap64 (x4_1 + 1))) else (none)))) else (none))) else (none))) else (none)) = some r := by first | (rw [hy137]; with_reducible exact H) | (have H2_ := (Option.bind_some _ _).symm.trans H; rw [hy137]; with_reducible exact H2_) | (have H2_ := (Option.bind_some _ _).symm.trans H; with_reducible exact H2_) | with_reducible exact H | (rw [hy137]; exact H) | exact H
                          have Ny137 := Aside0.mk hy137
                          clear hy137
                          have c13b0 := eq_true (of_decide_eq_true (by first | (with_reducible assumption) | assumption) : 0 ≤ x5_2)
                          by_cases c14 : x5_2 ≤ (x3_1.length : Int)
                          · rw [if_pos c14] at H
                            have c14b0 := eq_true c14
                            have c14b1 : decide (x5_2 ≤ (x3_1.length : Int)) = true := decide_eq_true c14
                            clear c14
                            obtain ⟨y140, hy140⟩ : ∃ y_ : List ByteArray, y_ = (x3_1.take (x5_2 : Int).toNat) := ⟨_, rfl⟩
                            replace H : (if y137.length + y140.length < 8796093022208 then ((some (y137 ++ y140 : List ByteArray)).bind fun y144 => (if y144.length < 8796093022208 then ((some (y144 ++ [rdOf ByteArray.empty l0 x4_1] : List ByteArray)).bind fun y148 => ((some (x3_1.drop (x5_2 : Int).toNat : List ByteArray)).bind fun y151 => (if y148.length + y151.length < 8796093022208 then (spec_Keys_string.l0 k2 l0 (y148 ++ y151) (wrap64 (x4_1 + 1))) else (none)))) else (none))) else (none)) = some r := by first | (rw [hy140]; with_reducible exact H) | (have H2_ := (Option.bind_some _ _).symm.trans H; rw [hy140]; with_reducible exact H2_) | (have H2_ := (Option.bind_some _ _).symm.trans H; with_reducible exact H2_) | with_reducible exact H | (rw [hy140]; exact H) | exact H
                            have Ny140 := Aside0.mk hy140
                            clear hy140
                            by_cases c15 : y137.length + y140.length < 8796093022208
                            · rw [if_pos c15] at H
                              have LMc15 := Aside0.mk c15
                              clear c15
                              obtain ⟨y144, hy144⟩ : ∃ y_ : List ByteArray, y_ = (y137 ++ y140) := ⟨_, rfl⟩
                              replace H : (if y144.length < 8796093022208 then ((some (y144 ++ [rdOf ByteArray.empty l0 x4_1] : List ByteArray)).bind fun y148 => ((some (x3_1.drop (x5_2 : Int).toNat : List ByteArray)).bind fun y151 => (if y148.length + y151.length < 8796093022208 then (spec_Keys_string.l0 k2 l0 (y148 ++ y151) (wrap64 (x4_1 + 1))) else (none)))) else (none)) = some r := by first | (rw [hy144]; with_reducible exact H) | (have H2_ := (Option.bind_some _ _).symm.trans H; rw [hy144]; with_reducible exact H2_) | (have H2_ := (Option.bind_some _ _).symm.trans H; with_reducible exact H2_) | with_reducible exact H | (rw [hy144]; exact H) | exact H
                              have Ny144 := Aside0.mk hy144
                              clear hy144
                              by_cases c16 : y144.length < 8796093022208
                              · rw [if_pos c16] at H
                                have LMc16 := Aside0.mk c16
                                clear c16
                                obtain ⟨y148, hy148⟩ : ∃ y_ : List ByteArray, y_ = (y144 ++ [rdOf ByteArray.empty l0 x4_1]) := ⟨_, rfl⟩
                                replace H : ((some (x3_1.drop (x5_2 : Int).toNat : List ByteArray)).bind fun y151 => (if y148.length + y151.length < 8796093022208 then (spec_Keys_string.l0 k2 l0 (y148 ++ y151) (wrap64 (x4_1 + 1))) else (none))) = some r := by first | (rw [hy148]; with_reducible exact H) | (have H2_ := (Option.bind_some _ _).symm.trans H; rw [hy148]; with_reducible exact H2_) | (have H2_ := (Option.bind_some _ _).symm.trans H; with_reducible exact H2_) | with_reducible exact H | (rw [hy148]; exact H) | exact H
                                have Ny148 := Aside0.mk hy148
                                clear hy148
                                have c17b0 := eq_true (of_decide_eq_true (by first | (with_reducible assumption) | assumption) : 0 ≤ x5_2)
                                have c18b0 := eq_true (of_decide_eq_true (by first | (with_reducible assumption) | assumption) : x5_2 ≤ (x3_1.length : Int))
                                obtain ⟨y151, hy151⟩ : ∃ y_ : List ByteArray, y_ = (x3_1.drop (x5_2 : Int).toNat) := ⟨_, rfl⟩
                                replace H : (if y148.length + y151.length < 8796093022208 then (spec_Keys_string.l0 k2 l0 (y148 ++ y151) (wrap64 (x4_1 + 1))) else (none)) = some r := by first | (rw [hy151]; with_reducible exact H) | (have H2_ := (Option.bind_some _ _).symm.trans H; rw [hy151]; with_reducible exact H2_) | (have H2_ := (Option.bind_some _ _).symm.trans H; with_reducible exact H2_) | with_reducible exact H | (rw [hy151]; exact H) | exact H
                                have Ny151 := Aside0.mk hy151
                                clear hy151
                                by_cases c19 : y148.length + y151.length < 8796093022208
                                · rw [if_pos c19] at H
                                  have LMc19 := Aside0.mk c19
                                  clear c19
                                  obtain ⟨y155, hy155⟩ : ∃ y_ : List ByteArray, y_ = (y148 ++ y151) := ⟨_, rfl⟩
                                  replace H : (spec_Keys_string.l0 k2 l0 y155 (wrap64 (x4_1 + 1))) = some r := by first | (rw [hy155]; with_reducible exact H) | (have H2_ := (Option.bind_some _ _).symm.trans H; rw [hy155]; with_reducible exact H2_) | (have H2_ := (Option.bind_some _ _).symm.trans H; with_reducible exact H2_) | with_reducible exact H | (rw [hy155]; exact H) | exact H
                                  have Ny155 := Aside0.mk hy155
                                  clear hy155
                                  have H' := Aside0.mk H
                                  clear H
                                  have p135 : 0 ≤ (x5_2 : Int) := of_decide_eq_true (by first | (with_reducible assumption) | assumption)
                                  have q135 : x5_2 < (x3_1.length : Int) := of_decide_eq_true (by first | (with_reducible assumption) | assumption)
                                  obtain ⟨ad135, e135, hx135_0⟩ := Kd.at_string (Kd.R_reads' HO_3.out).2.2 x5_2 p135 q135
                                  cases e135
                                  replace p135 := eq_true p135
                                  replace q135 := eq_true q135
                                  have p136 : 0 ≤ (x4_1 : Int) := of_decide_eq_true (by first | (with_reducible assumption) | assumption)
                                  have q136 : x4_1 < (l0.length : Int) := of_decide_eq_true (by first | (with_reducible assumption) | assumption)
                                  obtain ⟨ad136, e136, hx136_0⟩ := Kd.at_string HR0.out x4_1 p136 q136
                                  obtain rfl : ad133 = ad136 := (by injection e136)
                                  replace hx136_0 := (HB.out.cell (World.block_lt_of_cell? w _ hx136_0)).trans hx136_0
                                  replace p136 := eq_true p136
                                  replace q136 := eq_true q136
                                  go_wp2_with (first | ((with_reducible refine gate_dst (N := 36) rfl ?_); refine Kd.R_lit Kd.string _ 9 ?hg (N := 36) ?hd (xs := ([] : List ByteArray)) (inner := []) (ok := fun _ => True) (okp := fun _ => True) ?hr ?hp (fun _ hk => hk) trivial (Below.refl _ _) (Nat.le_refl _) (by simp) ?_; (case hd => rfl); (case hg => rfl); (case hr => first | (go_simp; done) | (go_simp; rfl)); (case hp => exact (Reps.none _ _)); intro v138 w20 ho21 hb hg_ hnew_; clear hg_ hnew_; (first | rw [← Ny137.out] at ho21 | (simp only [Int.reduceToNat] at ho21; rw [← Ny137.out] at ho21)); have n0_ := Aside0.mk (Kd.R_elder' (by (with_reducible repeat (first | apply Kd.R_alloc | apply Kd.R_drewN | apply Kd.R_drew)); exact HO_3.out) (Kd.R_base ho21) hb); have n1_ := Aside0.mk (Kd.R_lower (Kd.R_new' ho21 (Kd.R_lt (by (with_reducible repeat (first | apply Kd.R_alloc | apply Kd.R_drewN | apply Kd.R_drew)); exact HO_3.out))) (below_size (by repeat (first | (with_reducible first | exact HB.out | apply below_alloc | apply pw_below_drewN | apply below_drew1) | exact HB.out)))); have n2_ := Aside0.mk (below_step (by repeat (first | (with_reducible first | exact HB.out | apply below_alloc | apply pw_below_drewN | apply below_drew1) | exact HB.out)) hb); clear HO_3; clear HB; have HO_3 := n0_; have HO139 := n1_; have HB := n2_; clear n0_ n1_ n2_; clear hb ho21; have q22 : (x5_2 : Int) ≤ ((x3_1.length : Int) : Int) := of_decide_eq_true (by first | (with_reducible assumption) | assumption); obtain ⟨i022, hi022, _, hsz22, _⟩ := info_parts info9; have hroom22 : x3_1.length ≤ co7 := (Kd.R_reads' HO_3.out).2.1; have hC22 : Kd.C Kd.string _ (some ad135) x3_1.length x3_1 := (Kd.R_reads' HO_3.out).2.2; have hcut22 := cut_to (P := Tryd.prog) 22 9 .i64 Tryd.underlying22 hi022 (some ad135) x3_1.length co7 x5_2 (of_decide_eq_true (by first | (with_reducible assumption) | assumption)) q22 hroom22; have hr22 := Kd.C_take (m := (x5_2 : Int).toNat) hC22 (by omega); have hy22 : y140.length = (x5_2 : Int).toNat := (by rw [Ny140.out, List.length_take]; omega); rw [← Ny140.out] at hr22; rw [← hy22] at hcut22; have HR143 := Aside0.mk hr22; have HC143 := Aside0.mk (show y140.length ≤ co7 from by omega); clear hr22 hC22 hroom22 hi022 hsz22; have KY22 := Aside0.mk hy22; clear hy22; have KL22 := Aside0.mk (show (x5_2 : Int).toNat ≤ x3_1.length from by omega); replace q22 := eq_true q22) | ((with_reducible refine gate_builtin (b := .append) (xs := #[.tmp 36, .tmp 39]) rfl ?_); at_builtin; refine Kd.R_append_rows Kd.string (w0 := w) w.heap.size rfl (.tmp 36) (.tmp 39) 22 9 (.string ⟨#[]⟩) 16 rfl Tryd.underlying22 info9 rfl (by decide) (by omega) v138 y137 y140 _ _ _ (fun k_ => some k_ ≠ (.slice (some ad135) x3_1.length co7 : Value).ownBlock) (fun _ => False) rfl rfl ?aO ?aR (fun _ _ h => h) (fun _ h => h.elim) ?aF ?aB ?aS ?aL ?_; (case aR => repeat (first | exact (by repeat (first | (with_reducible exact HR143.out) | (with_reducible refine Kd.C_alloc ?_ _) | (with_reducible refine Kd.C_drewN ?_ _) | (with_reducible refine Kd.C_drew ?_) | exact HR143.out)) | (with_reducible refine Kd.C_alloc ?_ _) | (with_reducible refine Kd.C_drewN ?_ _) | (with_reducible refine Kd.C_drew ?_))); (case aB => exact (by repeat (first | (with_reducible first | exact HB.out | apply below_alloc | apply pw_below_drewN | apply below_drew1) | exact HB.out))); (case aF => exact (fun k_ hk => Kd.fresh' (Kd.R_lt (by (with_reducible repeat (first | apply Kd.R_alloc | apply Kd.R_drewN | apply Kd.R_drew)); exact HO_3.out)) k_ hk)); (case aO => exact (by (with_reducible repeat (first | apply Kd.R_alloc | apply Kd.R_drewN | apply Kd.R_drew)); exact Kd.R_mono HO139.out (fun _ hk => hk.2))); (case aS => exact (below_size (by repeat (first | (with_reducible first | exact HB.out | apply below_alloc | apply pw_below_drewN | apply below_drew1) | exact HB.out)))); (case aL => have := LMc15.out; omega); intro v145 w23 ho hb hg hat; rw [← Ny144.out] at ho; have n0_ := Aside0.mk (Kd.R_after (ok := (fun _ => True)) (by (with_reducible repeat (first | apply Kd.R_alloc | apply Kd.R_drewN | apply Kd.R_drew)); exact HO_3.out) hg hat); have n1_ := Aside0.mk (hb); have n2_ := Aside0.mk ((show Kd.C Kd.string w23 (some ad135) y140.length y140 from by rw [Ny140.out]; exact Kd.C_take (m := (x5_2 : Int).toNat) ((Kd.R_reads' (Kd.R_after (ok := (fun _ => True)) (by (with_reducible repeat (first | apply Kd.R_alloc | apply Kd.R_drewN | apply Kd.R_drew)); exact HO_3.out) hg hat)).2.2) KL22.out)); have n3_ := Aside0.mk (ho); clear HO_3; clear HB; clear HR143; clear HO139; have HO_3 := n0_; have HB := n1_; have HR143 := n2_; have HO146 := n3_; clear n0_ n1_ n2_ n3_; clear ho hb hg hat; have p147 : 0 ≤ (x4_1 : Int) := of_decide_eq_true (by first | (with_reducible assumption) | assumption); have q147 : x4_1 < (l0.length : Int) := of_decide_eq_true (by first | (with_reducible assumption) | assumption); obtain ⟨ad147, e147, hx147_0⟩ := Kd.at_string HR0.out x4_1 p147 q147; obtain rfl : ad133 = ad147 := (by injection e147); replace hx147_0 := (HB.out.cell (World.block_lt_of_cell? w _ hx147_0)).trans hx147_0; replace p147 := eq_true p147; replace q147 := eq_true q147) | ((with_reducible refine gate_builtin (b := .append) (xs := #[.tmp 41, .tmp 46]) rfl ?_); at_builtin; refine Kd.R_append Kd.string (w0 := w) w.heap.size rfl (.tmp 41) (.tmp 46) 22 9 (.string ⟨#[]⟩) 16 rfl Tryd.underlying22 info9 rfl (by decide) (by omega) v145 y144 (rdOf ByteArray.empty l0 x4_1) [.string (rdOf ByteArray.empty l0 x4_1)] (fun k_ => some k_ ≠ (.slice (some ad135) x3_1.length co7 : Value).ownBlock) (fun _ => False) rfl rfl ?aP (fun _ hk => hk.elim) ?aF ?aO ?aB ?aS ?aL ?_; (case aP => exact rfl); (case aB => exact (by repeat (first | (with_reducible first | exact HB.out | apply below_alloc | apply pw_below_drewN | apply below_drew1) | exact HB.out))); (case aF => exact (fun k_ hk => Kd.fresh' (Kd.R_lt (by (with_reducible repeat (first | apply Kd.R_alloc | apply Kd.R_drewN | apply Kd.R_drew)); exact HO_3.out)) k_ hk)); (case aO => exact (by (with_reducible repeat (first | apply Kd.R_alloc | apply Kd.R_drewN | apply Kd.R_drew)); exact HO146.out)); (case aS => exact (below_size (by repeat (first | (with_reducible first | exact HB.out | apply below_alloc | apply pw_below_drewN | apply below_drew1) | exact HB.out)))); (case aL => have := LMc16.out; omega); intro v149 w24 ho hb hg hat; rw [← Ny148.out] at ho; have n0_ := Aside0.mk (Kd.R_after (ok := (fun _ => True)) (by (with_reducible repeat (first | apply Kd.R_alloc | apply Kd.R_drewN | apply Kd.R_drew)); exact HO_3.out) hg hat); have n1_ := Aside0.mk (hb); have n2_ := Aside0.mk ((show Kd.C Kd.string w24 (some ad135) y140.length y140 from by rw [Ny140.out]; exact Kd.C_take (m := (x5_2 : Int).toNat) ((Kd.R_reads' (Kd.R_after (ok := (fun _ => True)) (by (with_reducible repeat (first | apply Kd.R_alloc | apply Kd.R_drewN | apply Kd.R_drew)); exact HO_3.out) hg hat)).2.2) KL22.out)); have n3_ := Aside0.mk (ho); clear HO_3; clear HB; clear HR143; clear HO146; have HO_3 := n0_; have HB := n1_; have HR143 := n2_; have HO150 := n3_; clear n0_ n1_ n2_ n3_; clear ho hb hg hat; have q25 : (x5_2 : Int) ≤ ((x3_1.length : Int) : Int) := of_decide_eq_true (by first | (with_reducible assumption) | assumption); obtain ⟨i025, hi025, _, hsz25, _⟩ := info_parts info9; have hroom25 : x3_1.length ≤ co7 := (Kd.R_reads' HO_3.out).2.1; have hC25 : Kd.C Kd.string _ (some ad135) x3_1.length x3_1 := (Kd.R_reads' HO_3.out).2.2; have q025 : (0 : Int) ≤ (x5_2 : Int) := of_decide_eq_true (by first | (with_reducible assumption) | assumption); have hcut25 := cut_from (P := Tryd.prog) 22 9 .i64 Tryd.underlying22 hi025 1 hsz25 (some ad135) x3_1.length co7 x5_2 q025 q25; have hr25 := Kd.C_drop (m := (x5_2 : Int).toNat) (c := co7) hC25 (by omega) hroom25; obtain ⟨A25, hA25⟩ : ∃ A1, A1 = (if co7 = (x5_2 : Int).toNat then (some ad135) else ((some ad135) : Option Addr).map (·.add ((x5_2 : Int).toNat * 1))) := ⟨_, rfl⟩; obtain ⟨c25, hc25⟩ : ∃ c1, c1 = co7 - (x5_2 : Int).toNat := ⟨_, rfl⟩; have hy25 : y151.length = x3_1.length - (x5_2 : Int).toNat := (by rw [Ny151.out, List.length_drop] <;> omega); rw [show (x3_1).drop (x5_2 : Int).toNat = y151 from Ny151.out.symm] at hr25; replace hr25 : Kd.C Kd.string _ A25 y151.length y151 := (by rw [hA25]; exact hr25); rw [← hy25, ← hA25, ← hc25] at hcut25; have HR154 := Aside0.mk hr25; have HC154 := Aside0.mk (show y151.length ≤ c25 from by rw [hy25, hc25]; exact Nat.sub_le_sub_right hroom25 _); clear hr25 hC25 hroom25 hi025 hsz25 hc25; have KY25 := Aside0.mk hy25; have KA25 := Aside0.mk hA25; clear hy25 hA25; have KL25 := Aside0.mk (show (x5_2 : Int).toNat ≤ x3_1.length from by omega); replace q25 := eq_true q25) | ((with_reducible refine gate_builtin (b := .append) (xs := #[.tmp 48, .tmp 51]) rfl ?_); at_builtin; refine Kd.R_append_rows Kd.string (w0 := w) w.heap.size rfl (.tmp 48) (.tmp 51) 22 9 (.string ⟨#[]⟩) 16 rfl Tryd.underlying22 info9 rfl (by decide) (by omega) v149 y148 y151 _ _ _ (fun k_ => some k_ ≠ (.slice (some ad135) x3_1.length co7 : Value).ownBlock) (fun _ => False) rfl rfl ?aO ?aR (fun _ _ h => h) (fun _ h => h.elim) ?aF ?aB ?aS ?aL ?_; (case aR => repeat (first | exact (by repeat (first | (with_reducible exact HR154.out) | (with_reducible refine Kd.C_alloc ?_ _) | (with_reducible refine Kd.C_drewN ?_ _) | (with_reducible refine Kd.C_drew ?_) | exact HR154.out)) | (with_reducible refine Kd.C_alloc ?_ _) | (with_reducible refine Kd.C_drewN ?_ _) | (with_reducible refine Kd.C_drew ?_))); (case aB => exact (by repeat (first | (with_reducible first | exact HB.out | apply below_alloc | apply pw_below_drewN | apply below_drew1) | exact HB.out))); (case aF => exact (fun k_ hk => Kd.fresh' (Kd.R_lt (by (with_reducible repeat (first | apply Kd.R_alloc | apply Kd.R_drewN | apply Kd.R_drew)); exact HO_3.out)) k_ hk)); (case aO => exact (by (with_reducible repeat (first | apply Kd.R_alloc | apply Kd.R_drewN | apply Kd.R_drew)); exact HO150.out)); (case aS => exact (below_size (by repeat (first | (with_reducible first | exact HB.out | apply below_alloc | apply pw_below_drewN | apply below_drew1) | exact HB.out)))); (case aL => have := LMc19.out; omega); intro v156 w26 ho hb hg hat; rw [← Ny155.out] at ho; have n0_ := Aside0.mk (Kd.R_after (ok := (fun _ => True)) (by (with_reducible repeat (first | apply Kd.R_alloc | apply Kd.R_drewN | apply Kd.R_drew)); exact HO_3.out) hg hat); have n1_ := Aside0.mk (hb); have n2_ := Aside0.mk ((show Kd.C Kd.string w26 (some ad135) y140.length y140 from by rw [Ny140.out]; exact Kd.C_take (m := (x5_2 : Int).toNat) ((Kd.R_reads' (Kd.R_after (ok := (fun _ => True)) (by (with_reducible repeat (first | apply Kd.R_alloc | apply Kd.R_drewN | apply Kd.R_drew)); exact HO_3.out) hg hat)).2.2) KL22.out)); have n3_ := Aside0.mk ((show Kd.C Kd.string w26 A25 y151.length y151 from by rw [Ny151.out, KA25.out]; exact Kd.C_drop (m := (x5_2 : Int).toNat) (c := co7) ((Kd.R_reads' (Kd.R_after (ok := (fun _ => True)) (by (with_reducible repeat (first | apply Kd.R_alloc | apply Kd.R_drewN | apply Kd.R_drew)); exact HO_3.out) hg hat)).2.2) KL25.out ((Kd.R_reads' (Kd.R_after (ok := (fun _ => True)) (by (with_reducible repeat (first | apply Kd.R_alloc | apply Kd.R_drewN | apply Kd.R_drew)); exact HO_3.out) hg hat)).2.1))); have n4_ := Aside0.mk (ho); clear HO_3; clear HB; clear HR143; clear HR154; clear HO150; have HO_3 := n0_; have HB := n1_; have HR143 := n2_; have HR154 := n3_; have HO157 := n4_; clear n0_ n1_ n2_ n3_ n4_; clear ho hb hg hat))
                                  repeat (go_quiet (first | ((with_reducible refine gate_dst (N := 36) rfl ?_); refine Kd.R_lit Kd.string _ 9 ?hg (N := 36) ?hd (xs := ([] : List ByteArray)) (inner := []) (ok := fun _ => True) (okp := fun _ => True) ?hr ?hp (fun _ hk => hk) trivial (Below.refl _ _) (Nat.le_refl _) (by simp) ?_; (case hd => rfl); (case hg => rfl); (case hr => first | (go_simp; done) | (go_simp; rfl)); (case hp => exact (Reps.none _ _)); intro v138 w20 ho21 hb hg_ hnew_; clear hg_ hnew_; (first | rw [← Ny137.out] at ho21 | (simp only [Int.reduceToNat] at ho21; rw [← Ny137.out] at ho21)); have n0_ := Aside0.mk (Kd.R_elder' (by (with_reducible repeat (first | apply Kd.R_alloc | apply Kd.R_drewN | apply Kd.R_drew)); exact HO_3.out) (Kd.R_base ho21) hb); have n1_ := Aside0.mk (Kd.R_lower (Kd.R_new' ho21 (Kd.R_lt (by (with_reducible repeat (first | apply Kd.R_alloc | apply Kd.R_drewN | apply Kd.R_drew)); exact HO_3.out))) (below_size (by repeat (first | (with_reducible first | exact HB.out | apply below_alloc | apply pw_below_drewN | apply below_drew1) | exact HB.out)))); have n2_ := Aside0.mk (below_step (by repeat (first | (with_reducible first | exact HB.out | apply below_alloc | apply pw_below_drewN | apply below_drew1) | exact HB.out)) hb); clear HO_3; clear HB; have HO_3 := n0_; have HO139 := n1_; have HB := n2_; clear n0_ n1_ n2_; clear hb ho21; have q22 : (x5_2 : Int) ≤ ((x3_1.length : Int) : Int) := of_decide_eq_true (by first | (with_reducible assumption) | assumption); obtain ⟨i022, hi022, _, hsz22, _⟩ := info_parts info9; have hroom22 : x3_1.length ≤ co7 := (Kd.R_reads' HO_3.out).2.1; have hC22 : Kd.C Kd.string _ (some ad135) x3_1.length x3_1 := (Kd.R_reads' HO_3.out).2.2; have hcut22 := cut_to (P := Tryd.prog) 22 9 .i64 Tryd.underlying22 hi022 (some ad135) x3_1.length co7 x5_2 (of_decide_eq_true (by first | (with_reducible assumption) | assumption)) q22 hroom22; have hr22 := Kd.C_take (m := (x5_2 : Int).toNat) hC22 (by omega); have hy22 : y140.length = (x5_2 : Int).toNat := (by rw [Ny140.out, List.length_take]; omega); rw [← Ny140.out] at hr22; rw [← hy22] at hcut22; have HR143 := Aside0.mk hr22; have HC143 := Aside0.mk (show y140.length ≤ co7 from by omega); clear hr22 hC22 hroom22 hi022 hsz22; have KY22 := Aside0.mk hy22; clear hy22; have KL22 := Aside0.mk (show (x5_2 : Int).toNat ≤ x3_1.length from by omega); replace q22 := eq_true q22) | ((with_reducible refine gate_builtin (b := .append) (xs := #[.tmp 36, .tmp 39]) rfl ?_); at_builtin; refine Kd.R_append_rows Kd.string (w0 := w) w.heap.size rfl (.tmp 36) (.tmp 39) 22 9 (.string ⟨#[]⟩) 16 rfl Tryd.underlying22 info9 rfl (by decide) (by omega) v138 y137 y140 _ _ _ (fun k_ => some k_ ≠ (.slice (some ad135) x3_1.length co7 : Value).ownBlock) (fun _ => False) rfl rfl ?aO ?aR (fun _ _ h => h) (fun _ h => h.elim) ?aF ?aB ?aS ?aL ?_; (case aR => repeat (first | exact (by repeat (first | (with_reducible exact HR143.out) | (with_reducible refine Kd.C_alloc ?_ _) | (with_reducible refine Kd.C_drewN ?_ _) | (with_reducible refine Kd.C_drew ?_) | exact HR143.out)) | (with_reducible refine Kd.C_alloc ?_ _) | (with_reducible refine Kd.C_drewN ?_ _) | (with_reducible refine Kd.C_drew ?_))); (case aB => exact (by repeat (first | (with_reducible first | exact HB.out | apply below_alloc | apply pw_below_drewN | apply below_drew1) | exact HB.out))); (case aF => exact (fun k_ hk => Kd.fresh' (Kd.R_lt (by (with_reducible repeat (first | apply Kd.R_alloc | apply Kd.R_drewN | apply Kd.R_drew)); exact HO_3.out)) k_ hk)); (case aO => exact (by (with_reducible repeat (first | apply Kd.R_alloc | apply Kd.R_drewN | apply Kd.R_drew)); exact Kd.R_mono HO139.out (fun _ hk => hk.2))); (case aS => exact (below_size (by repeat (first | (with_reducible first | exact HB.out | apply below_alloc | apply pw_below_drewN | apply below_drew1) | exact HB.out)))); (case aL => have := LMc15.out; omega); intro v145 w23 ho hb hg hat; rw [← Ny144.out] at ho; have n0_ := Aside0.mk (Kd.R_after (ok := (fun _ => True)) (by (with_reducible repeat (first | apply Kd.R_alloc | apply Kd.R_drewN | apply Kd.R_drew)); exact HO_3.out) hg hat); have n1_ := Aside0.mk (hb); have n2_ := Aside0.mk ((show Kd.C Kd.string w23 (some ad135) y140.length y140 from by rw [Ny140.out]; exact Kd.C_take (m := (x5_2 : Int).toNat) ((Kd.R_reads' (Kd.R_after (ok := (fun _ => True)) (by (with_reducible repeat (first | apply Kd.R_alloc | apply Kd.R_drewN | apply Kd.R_drew)); exact HO_3.out) hg hat)).2.2) KL22.out)); have n3_ := Aside0.mk (ho); clear HO_3; clear HB; clear HR143; clear HO139; have HO_3 := n0_; have HB := n1_; have HR143 := n2_; have HO146 := n3_; clear n0_ n1_ n2_ n3_; clear ho hb hg hat; have p147 : 0 ≤ (x4_1 : Int) := of_decide_eq_true (by first | (with_reducible assumption) | assumption); have q147 : x4_1 < (l0.length : Int) := of_decide_eq_true (by first | (with_reducible assumption) | assumption); obtain ⟨ad147, e147, hx147_0⟩ := Kd.at_string HR0.out x4_1 p147 q147; obtain rfl : ad133 = ad147 := (by injection e147); replace hx147_0 := (HB.out.cell (World.block_lt_of_cell? w _ hx147_0)).trans hx147_0; replace p147 := eq_true p147; replace q147 := eq_true q147) | ((with_reducible refine gate_builtin (b := .append) (xs := #[.tmp 41, .tmp 46]) rfl ?_); at_builtin; refine Kd.R_append Kd.string (w0 := w) w.heap.size rfl (.tmp 41) (.tmp 46) 22 9 (.string ⟨#[]⟩) 16 rfl Tryd.underlying22 info9 rfl (by decide) (by omega) v145 y144 (rdOf ByteArray.empty l0 x4_1) [.string (rdOf ByteArray.empty l0 x4_1)] (fun k_ => some k_ ≠ (.slice (some ad135) x3_1.length co7 : Value).ownBlock) (fun _ => False) rfl rfl ?aP (fun _ hk => hk.elim) ?aF ?aO ?aB ?aS ?aL ?_; (case aP => exact rfl); (case aB => exact (by repeat (first | (with_reducible first | exact HB.out | apply below_alloc | apply pw_below_drewN | apply below_drew1) | exact HB.out))); (case aF => exact (fun k_ hk => Kd.fresh' (Kd.R_lt (by (with_reducible repeat (first | apply Kd.R_alloc | apply Kd.R_drewN | apply Kd.R_drew)); exact HO_3.out)) k_ hk)); (case aO => exact (by (with_reducible repeat (first | apply Kd.R_alloc | apply Kd.R_drewN | apply Kd.R_drew)); exact HO146.out)); (case aS => exact (below_size (by repeat (first | (with_reducible first | exact HB.out | apply below_alloc | apply pw_below_drewN | apply below_drew1) | exact HB.out)))); (case aL => have := LMc16.out; omega); intro v149 w24 ho hb hg hat; rw [← Ny148.out] at ho; have n0_ := Aside0.mk (Kd.R_after (ok := (fun _ => True)) (by (with_reducible repeat (first | apply Kd.R_alloc | apply Kd.R_drewN | apply Kd.R_drew)); exact HO_3.out) hg hat); have n1_ := Aside0.mk (hb); have n2_ := Aside0.mk ((show Kd.C Kd.string w24 (some ad135) y140.length y140 from by rw [Ny140.out]; exact Kd.C_take (m := (x5_2 : Int).toNat) ((Kd.R_reads' (Kd.R_after (ok := (fun _ => True)) (by (with_reducible repeat (first | apply Kd.R_alloc | apply Kd.R_drewN | apply Kd.R_drew)); exact HO_3.out) hg hat)).2.2) KL22.out)); have n3_ := Aside0.mk (ho); clear HO_3; clear HB; clear HR143; clear HO146; have HO_3 := n0_; have HB := n1_; have HR143 := n2_; have HO150 := n3_; clear n0_ n1_ n2_ n3_; clear ho hb hg hat; have q25 : (x5_2 : Int) ≤ ((x3_1.length : Int) : Int) := of_decide_eq_true (by first | (with_reducible assumption) | assumption); obtain ⟨i025, hi025, _, hsz25, _⟩ := info_parts info9; have hroom25 : x3_1.length ≤ co7 := (Kd.R_reads' HO_3.out).2.1; have hC25 : Kd.C Kd.string _ (some ad135) x3_1.length x3_1 := (Kd.R_reads' HO_3.out).2.2; have q025 : (0 : Int) ≤ (x5_2 : Int) := of_decide_eq_true (by first | (with_reducible assumption) | assumption); have hcut25 := cut_from (P := Tryd.prog) 22 9 .i64 Tryd.underlying22 hi025 1 hsz25 (some ad135) x3_1.length co7 x5_2 q025 q25; have hr25 := Kd.C_drop (m := (x5_2 : Int).toNat) (c := co7) hC25 (by omega) hroom25; obtain ⟨A25, hA25⟩ : ∃ A1, A1 = (if co7 = (x5_2 : Int).toNat then (some ad135) else ((some ad135) : Option Addr).map (·.add ((x5_2 : Int).toNat * 1))) := ⟨_, rfl⟩; obtain ⟨c25, hc25⟩ : ∃ c1, c1 = co7 - (x5_2 : Int).toNat := ⟨_, rfl⟩; have hy25 : y151.length = x3_1.length - (x5_2 : Int).toNat := (by rw [Ny151.out, List.length_drop] <;> omega); rw [show (x3_1).drop (x5_2 : Int).toNat = y151 from Ny151.out.symm] at hr25; replace hr25 : Kd.C Kd.string _ A25 y151.length y151 := (by rw [hA25]; exact hr25); rw [← hy25, ← hA25, ← hc25] at hcut25; have HR154 := Aside0.mk hr25; have HC154 := Aside0.mk (show y151.length ≤ c25 from by rw [hy25, hc25]; exact Nat.sub_le_sub_right hroom25 _); clear hr25 hC25 hroom25 hi025 hsz25 hc25; have KY25 := Aside0.mk hy25; have KA25 := Aside0.mk hA25; clear hy25 hA25; have KL25 := Aside0.mk (show (x5_2 : Int).toNat ≤ x3_1.length from by omega); replace q25 := eq_true q25) | ((with_reducible refine gate_builtin (b := .append) (xs := #[.tmp 48, .tmp 51]) rfl ?_); at_builtin; refine Kd.R_append_rows Kd.string (w0 := w) w.heap.size rfl (.tmp 48) (.tmp 51) 22 9 (.string ⟨#[]⟩) 16 rfl Tryd.underlying22 info9 rfl (by decide) (by omega) v149 y148 y151 _ _ _ (fun k_ => some k_ ≠ (.slice (some ad135) x3_1.length co7 : Value).ownBlock) (fun _ => False) rfl rfl ?aO ?aR (fun _ _ h => h) (fun _ h => h.elim) ?aF ?aB ?aS ?aL ?_; (case aR => repeat (first | exact (by repeat (first | (with_reducible exact HR154.out) | (with_reducible refine Kd.C_alloc ?_ _) | (with_reducible refine Kd.C_drewN ?_ _) | (with_reducible refine Kd.C_drew ?_) | exact HR154.out)) | (with_reducible refine Kd.C_alloc ?_ _) | (with_reducible refine Kd.C_drewN ?_ _) | (with_reducible refine Kd.C_drew ?_))); (case aB => exact (by repeat (first | (with_reducible first | exact HB.out | apply below_alloc | apply pw_below_drewN | apply below_drew1) | exact HB.out))); (case aF => exact (fun k_ hk => Kd.fresh' (Kd.R_lt (by (with_reducible repeat (first | apply Kd.R_alloc | apply Kd.R_drewN | apply Kd.R_drew)); exact HO_3.out)) k_ hk)); (case aO => exact (by (with_reducible repeat (first | apply Kd.R_alloc | apply Kd.R_drewN | apply Kd.R_drew)); exact HO150.out)); (case aS => exact (below_size (by repeat (first | (with_reducible first | exact HB.out | apply below_alloc | apply pw_below_drewN | apply below_drew1) | exact HB.out)))); (case aL => have := LMc19.out; omega); intro v156 w26 ho hb hg hat; rw [← Ny155.out] at ho; have n0_ := Aside0.mk (Kd.R_after (ok := (fun _ => True)) (by (with_reducible repeat (first | apply Kd.R_alloc | apply Kd.R_drewN | apply Kd.R_drew)); exact HO_3.out) hg hat); have n1_ := Aside0.mk (hb); have n2_ := Aside0.mk ((show Kd.C Kd.string w26 (some ad135) y140.length y140 from by rw [Ny140.out]; exact Kd.C_take (m := (x5_2 : Int).toNat) ((Kd.R_reads' (Kd.R_after (ok := (fun _ => True)) (by (with_reducible repeat (first | apply Kd.R_alloc | apply Kd.R_drewN | apply Kd.R_drew)); exact HO_3.out) hg hat)).2.2) KL22.out)); have n3_ := Aside0.mk ((show Kd.C Kd.string w26 A25 y151.length y151 from by rw [Ny151.out, KA25.out]; exact Kd.C_drop (m := (x5_2 : Int).toNat) (c := co7) ((Kd.R_reads' (Kd.R_after (ok := (fun _ => True)) (by (with_reducible repeat (first | apply Kd.R_alloc | apply Kd.R_drewN | apply Kd.R_drew)); exact HO_3.out) hg hat)).2.2) KL25.out ((Kd.R_reads' (Kd.R_after (ok := (fun _ => True)) (by (with_reducible repeat (first | apply Kd.R_alloc | apply Kd.R_drewN | apply Kd.R_drew)); exact HO_3.out) hg hat)).2.1))); have n4_ := Aside0.mk (ho); clear HO_3; clear HB; clear HR143; clear HR154; clear HO150; have HO_3 := n0_; have HB := n1_; have HR143 := n2_; have HR154 := n3_; have HO157 := n4_; clear n0_ n1_ n2_ n3_ n4_; clear ho hb hg hat)); try go_wp2_with (first | ((with_reducible refine gate_dst (N := 36) rfl ?_); refine Kd.R_lit Kd.string _ 9 ?hg (N := 36) ?hd (xs := ([] : List ByteArray)) (inner := []) (ok := fun _ => True) (okp := fun _ => True) ?hr ?hp (fun _ hk => hk) trivial (Below.refl _ _) (Nat.le_refl _) (by simp) ?_; (case hd => rfl); (case hg => rfl); (case hr => first | (go_simp; done) | (go_simp; rfl)); (case hp => exact (Reps.none _ _)); intro v138 w20 ho21 hb hg_ hnew_; clear hg_ hnew_; (first | rw [← Ny137.out] at ho21 | (simp only [Int.reduceToNat] at ho21; rw [← Ny137.out] at ho21)); have n0_ := Aside0.mk (Kd.R_elder' (by (with_reducible repeat (first | apply Kd.R_alloc | apply Kd.R_drewN | apply Kd.R_drew)); exact HO_3.out) (Kd.R_base ho21) hb); have n1_ := Aside0.mk (Kd.R_lower (Kd.R_new' ho21 (Kd.R_lt (by (with_reducible repeat (first | apply Kd.R_alloc | apply Kd.R_drewN | apply Kd.R_drew)); exact HO_3.out))) (below_size (by repeat (first | (with_reducible first | exact HB.out | apply below_alloc | apply pw_below_drewN | apply below_drew1) | exact HB.out)))); have n2_ := Aside0.mk (below_step (by repeat (first | (with_reducible first | exact HB.out | apply below_alloc | apply pw_below_drewN | apply below_drew1) | exact HB.out)) hb); clear HO_3; clear HB; have HO_3 := n0_; have HO139 := n1_; have HB := n2_; clear n0_ n1_ n2_; clear hb ho21; have q22 : (x5_2 : Int) ≤ ((x3_1.length : Int) : Int) := of_decide_eq_true (by first | (with_reducible assumption) | assumption); obtain ⟨i022, hi022, _, hsz22, _⟩ := info_parts info9; have hroom22 : x3_1.length ≤ co7 := (Kd.R_reads' HO_3.out).2.1; have hC22 : Kd.C Kd.string _ (some ad135) x3_1.length x3_1 := (Kd.R_reads' HO_3.out).2.2; have hcut22 := cut_to (P := Tryd.prog) 22 9 .i64 Tryd.underlying22 hi022 (some ad135) x3_1.length co7 x5_2 (of_decide_eq_true (by first | (with_reducible assumption) | assumption)) q22 hroom22; have hr22 := Kd.C_take (m := (x5_2 : Int).toNat) hC22 (by omega); have hy22 : y140.length = (x5_2 : Int).toNat := (by rw [Ny140.out, List.length_take]; omega); rw [← Ny140.out] at hr22; rw [← hy22] at hcut22; have HR143 := Aside0.mk hr22; have HC143 := Aside0.mk (show y140.length ≤ co7 from by omega); clear hr22 hC22 hroom22 hi022 hsz22; have KY22 := Aside0.mk hy22; clear hy22; have KL22 := Aside0.mk (show (x5_2 : Int).toNat ≤ x3_1.length from by omega); replace q22 := eq_true q22) | ((with_reducible refine gate_builtin (b := .append) (xs := #[.tmp 36, .tmp 39]) rfl ?_); at_builtin; refine Kd.R_append_rows Kd.string (w0 := w) w.heap.size rfl (.tmp 36) (.tmp 39) 22 9 (.string ⟨#[]⟩) 16 rfl Tryd.underlying22 info9 rfl (by decide) (by omega) v138 y137 y140 _ _ _ (fun k_ => some k_ ≠ (.slice (some ad135) x3_1.length co7 : Value).ownBlock) (fun _ => False) rfl rfl ?aO ?aR (fun _ _ h => h) (fun _ h => h.elim) ?aF ?aB ?aS ?aL ?_; (case aR => repeat (first | exact (by repeat (first | (with_reducible exact HR143.out) | (with_reducible refine Kd.C_alloc ?_ _) | (with_reducible refine Kd.C_drewN ?_ _) | (with_reducible refine Kd.C_drew ?_) | exact HR143.out)) | (with_reducible refine Kd.C_alloc ?_ _) | (with_reducible refine Kd.C_drewN ?_ _) | (with_reducible refine Kd.C_drew ?_))); (case aB => exact (by repeat (first | (with_reducible first | exact HB.out | apply below_alloc | apply pw_below_drewN | apply below_drew1) | exact HB.out))); (case aF => exact (fun k_ hk => Kd.fresh' (Kd.R_lt (by (with_reducible repeat (first | apply Kd.R_alloc | apply Kd.R_drewN | apply Kd.R_drew)); exact HO_3.out)) k_ hk)); (case aO => exact (by (with_reducible repeat (first | apply Kd.R_alloc | apply Kd.R_drewN | apply Kd.R_drew)); exact Kd.R_mono HO139.out (fun _ hk => hk.2))); (case aS => exact (below_size (by repeat (first | (with_reducible first | exact HB.out | apply below_alloc | apply pw_below_drewN | apply below_drew1) | exact HB.out)))); (case aL => have := LMc15.out; omega); intro v145 w23 ho hb hg hat; rw [← Ny144.out] at ho; have n0_ := Aside0.mk (Kd.R_after (ok := (fun _ => True)) (by (with_reducible repeat (first | apply Kd.R_alloc | apply Kd.R_drewN | apply Kd.R_drew)); exact HO_3.out) hg hat); have n1_ := Aside0.mk (hb); have n2_ := Aside0.mk ((show Kd.C Kd.string w23 (some ad135) y140.length y140 from by rw [Ny140.out]; exact Kd.C_take (m := (x5_2 : Int).toNat) ((Kd.R_reads' (Kd.R_after (ok := (fun _ => True)) (by (with_reducible repeat (first | apply Kd.R_alloc | apply Kd.R_drewN | apply Kd.R_drew)); exact HO_3.out) hg hat)).2.2) KL22.out)); have n3_ := Aside0.mk (ho); clear HO_3; clear HB; clear HR143; clear HO139; have HO_3 := n0_; have HB := n1_; have HR143 := n2_; have HO146 := n3_; clear n0_ n1_ n2_ n3_; clear ho hb hg hat; have p147 : 0 ≤ (x4_1 : Int) := of_decide_eq_true (by first | (with_reducible assumption) | assumption); have q147 : x4_1 < (l0.length : Int) := of_decide_eq_true (by first | (with_reducible assumption) | assumption); obtain ⟨ad147, e147, hx147_0⟩ := Kd.at_string HR0.out x4_1 p147 q147; obtain rfl : ad133 = ad147 := (by injection e147); replace hx147_0 := (HB.out.cell (World.block_lt_of_cell? w _ hx147_0)).trans hx147_0; replace p147 := eq_true p147; replace q147 := eq_true q147) | ((with_reducible refine gate_builtin (b := .append) (xs := #[.tmp 41, .tmp 46]) rfl ?_); at_builtin; refine Kd.R_append Kd.string (w0 := w) w.heap.size rfl (.tmp 41) (.tmp 46) 22 9 (.string ⟨#[]⟩) 16 rfl Tryd.underlying22 info9 rfl (by decide) (by omega) v145 y144 (rdOf ByteArray.empty l0 x4_1) [.string (rdOf ByteArray.empty l0 x4_1)] (fun k_ => some k_ ≠ (.slice (some ad135) x3_1.length co7 : Value).ownBlock) (fun _ => False) rfl rfl ?aP (fun _ hk => hk.elim) ?aF ?aO ?aB ?aS ?aL ?_; (case aP => exact rfl); (case aB => exact (by repeat (first | (with_reducible first | exact HB.out | apply below_alloc | apply pw_below_drewN | apply below_drew1) | exact HB.out))); (case aF => exact (fun k_ hk => Kd.fresh' (Kd.R_lt (by (with_reducible repeat (first | apply Kd.R_alloc | apply Kd.R_drewN | apply Kd.R_drew)); exact HO_3.out)) k_ hk)); (case aO => exact (by (with_reducible repeat (first | apply Kd.R_alloc | apply Kd.R_drewN | apply Kd.R_drew)); exact HO146.out)); (case aS => exact (below_size (by repeat (first | (with_reducible first | exact HB.out | apply below_alloc | apply pw_below_drewN | apply below_drew1) | exact HB.out)))); (case aL => have := LMc16.out; omega); intro v149 w24 ho hb hg hat; rw [← Ny148.out] at ho; have n0_ := Aside0.mk (Kd.R_after (ok := (fun _ => True)) (by (with_reducible repeat (first | apply Kd.R_alloc | apply Kd.R_drewN | apply Kd.R_drew)); exact HO_3.out) hg hat); have n1_ := Aside0.mk (hb); have n2_ := Aside0.mk ((show Kd.C Kd.string w24 (some ad135) y140.length y140 from by rw [Ny140.out]; exact Kd.C_take (m := (x5_2 : Int).toNat) ((Kd.R_reads' (Kd.R_after (ok := (fun _ => True)) (by (with_reducible repeat (first | apply Kd.R_alloc | apply Kd.R_drewN | apply Kd.R_drew)); exact HO_3.out) hg hat)).2.2) KL22.out)); have n3_ := Aside0.mk (ho); clear HO_3; clear HB; clear HR143; clear HO146; have HO_3 := n0_; have HB := n1_; have HR143 := n2_; have HO150 := n3_; clear n0_ n1_ n2_ n3_; clear ho hb hg hat; have q25 : (x5_2 : Int) ≤ ((x3_1.length : Int) : Int) := of_decide_eq_true (by first | (with_reducible assumption) | assumption); obtain ⟨i025, hi025, _, hsz25, _⟩ := info_parts info9; have hroom25 : x3_1.length ≤ co7 := (Kd.R_reads' HO_3.out).2.1; have hC25 : Kd.C Kd.string _ (some ad135) x3_1.length x3_1 := (Kd.R_reads' HO_3.out).2.2; have q025 : (0 : Int) ≤ (x5_2 : Int) := of_decide_eq_true (by first | (with_reducible assumption) | assumption); have hcut25 := cut_from (P := Tryd.prog) 22 9 .i64 Tryd.underlying22 hi025 1 hsz25 (some ad135) x3_1.length co7 x5_2 q025 q25; have hr25 := Kd.C_drop (m := (x5_2 : Int).toNat) (c := co7) hC25 (by omega) hroom25; obtain ⟨A25, hA25⟩ : ∃ A1, A1 = (if co7 = (x5_2 : Int).toNat then (some ad135) else ((some ad135) : Option Addr).map (·.add ((x5_2 : Int).toNat * 1))) := ⟨_, rfl⟩; obtain ⟨c25, hc25⟩ : ∃ c1, c1 = co7 - (x5_2 : Int).toNat := ⟨_, rfl⟩; have hy25 : y151.length = x3_1.length - (x5_2 : Int).toNat := (by rw [Ny151.out, List.length_drop] <;> omega); rw [show (x3_1).drop (x5_2 : Int).toNat = y151 from Ny151.out.symm] at hr25; replace hr25 : Kd.C Kd.string _ A25 y151.length y151 := (by rw [hA25]; exact hr25); rw [← hy25, ← hA25, ← hc25] at hcut25; have HR154 := Aside0.mk hr25; have HC154 := Aside0.mk (show y151.length ≤ c25 from by rw [hy25, hc25]; exact Nat.sub_le_sub_right hroom25 _); clear hr25 hC25 hroom25 hi025 hsz25 hc25; have KY25 := Aside0.mk hy25; have KA25 := Aside0.mk hA25; clear hy25 hA25; have KL25 := Aside0.mk (show (x5_2 : Int).toNat ≤ x3_1.length from by omega); replace q25 := eq_true q25) | ((with_reducible refine gate_builtin (b := .append) (xs := #[.tmp 48, .tmp 51]) rfl ?_); at_builtin; refine Kd.R_append_rows Kd.string (w0 := w) w.heap.size rfl (.tmp 48) (.tmp 51) 22 9 (.string ⟨#[]⟩) 16 rfl Tryd.underlying22 info9 rfl (by decide) (by omega) v149 y148 y151 _ _ _ (fun k_ => some k_ ≠ (.slice (some ad135) x3_1.length co7 : Value).ownBlock) (fun _ => False) rfl rfl ?aO ?aR (fun _ _ h => h) (fun _ h => h.elim) ?aF ?aB ?aS ?aL ?_; (case aR => repeat (first | exact (by repeat (first | (with_reducible exact HR154.out) | (with_reducible refine Kd.C_alloc ?_ _) | (with_reducible refine Kd.C_drewN ?_ _) | (with_reducible refine Kd.C_drew ?_) | exact HR154.out)) | (with_reducible refine Kd.C_alloc ?_ _) | (with_reducible refine Kd.C_drewN ?_ _) | (with_reducible refine Kd.C_drew ?_))); (case aB => exact (by repeat (first | (with_reducible first | exact HB.out | apply below_alloc | apply pw_below_drewN | apply below_drew1) | exact HB.out))); (case aF => exact (fun k_ hk => Kd.fresh' (Kd.R_lt (by (with_reducible repeat (first | apply Kd.R_alloc | apply Kd.R_drewN | apply Kd.R_drew)); exact HO_3.out)) k_ hk)); (case aO => exact (by (with_reducible repeat (first | apply Kd.R_alloc | apply Kd.R_drewN | apply Kd.R_drew)); exact HO150.out)); (case aS => exact (below_size (by repeat (first | (with_reducible first | exact HB.out | apply below_alloc | apply pw_below_drewN | apply below_drew1) | exact HB.out)))); (case aL => have := LMc19.out; omega); intro v156 w26 ho hb hg hat; rw [← Ny155.out] at ho; have n0_ := Aside0.mk (Kd.R_after (ok := (fun _ => True)) (by (with_reducible repeat (first | apply Kd.R_alloc | apply Kd.R_drewN | apply Kd.R_drew)); exact HO_3.out) hg hat); have n1_ := Aside0.mk (hb); have n2_ := Aside0.mk ((show Kd.C Kd.string w26 (some ad135) y140.length y140 from by rw [Ny140.out]; exact Kd.C_take (m := (x5_2 : Int).toNat) ((Kd.R_reads' (Kd.R_after (ok := (fun _ => True)) (by (with_reducible repeat (first | apply Kd.R_alloc | apply Kd.R_drewN | apply Kd.R_drew)); exact HO_3.out) hg hat)).2.2) KL22.out)); have n3_ := Aside0.mk ((show Kd.C Kd.string w26 A25 y151.length y151 from by rw [Ny151.out, KA25.out]; exact Kd.C_drop (m := (x5_2 : Int).toNat) (c := co7) ((Kd.R_reads' (Kd.R_after (ok := (fun _ => True)) (by (with_reducible repeat (first | apply Kd.R_alloc | apply Kd.R_drewN | apply Kd.R_drew)); exact HO_3.out) hg hat)).2.2) KL25.out ((Kd.R_reads' (Kd.R_after (ok := (fun _ => True)) (by (with_reducible repeat (first | apply Kd.R_alloc | apply Kd.R_drewN | apply Kd.R_drew)); exact HO_3.out) hg hat)).2.1))); have n4_ := Aside0.mk (ho); clear HO_3; clear HB; clear HR143; clear HR154; clear HO150; have HO_3 := n0_; have HB := n1_; have HR143 := n2_; have HR154 := n3_; have HO157 := n4_; clear n0_ n1_ n2_ n3_ n4_; clear ho hb hg hat)))
                                  go_roundg k2
                                  case measure => have := HK1.out; have := HK2.out; omega
                                  case rel => exact ⟨(y155), (wrap64 (x4_1 + 1)), (by first | rfl | (simp; done) | (simp [*]; done)), H', ⟨by have := HK1.out; have := HK2.out; omega⟩, ⟨by (with_reducible repeat (first | apply Kd.R_alloc | apply Kd.R_drewN | apply Kd.R_drew)); exact Kd.R_mono HO157.out (fun _ hk => trivial)⟩, ⟨by repeat (first | (with_reducible first | exact HB.out | apply below_alloc | apply pw_below_drewN | apply below_drew1) | exact HB.out)⟩⟩
                                · rw [if_neg c19] at H
                                  exact absurd H (by simp)
                              · rw [if_neg c16] at H
                                exact absurd H (by simp)
                            · rw [if_neg c15] at H
                              exact absurd H (by simp)
                          · rw [if_neg c14] at H
                            exact absurd H (by simp)
                      · rw [if_neg c11] at H
                        exact absurd H (by simp)
                    · rw [if_neg c10] at H
                      exact absurd H (by simp)
                  · rw [if_neg c9] at H
                    exact absurd H (by simp)
                · rw [if_neg c8] at H
                  have c8b0 : decide (x5_2 < (x3_1.length : Int)) = false := decide_eq_false c8
                  clear c8
                  obtain ⟨y158, hy158⟩ : ∃ y_ : List ByteArray, y_ = (([] : List ByteArray)) := ⟨_, rfl⟩
                  replace H : (if 0 ≤ x5_2 then (if x5_2 ≤ (x3_1.length : Int) then ((some (x3_1.take (x5_2 : Int).toNat : List ByteArray)).bind fun y161 => (if y158.length + y161.length < 8796093022208 then ((some (y158 ++ y161 : List ByteArray)).bind fun y165 => (if 0 ≤ x4_1 then (if x4_1 < (l0.length : Int) then (if y165.length < 8796093022208 then ((some (y165 ++ [rdOf ByteArray.empty l0 x4_1] : List ByteArray)).bind fun y169 => ((some (x3_1.drop (x5_2 : Int).toNat : List ByteArray)).bind fun y172 => (if y169.length + y172.length < 8796093022208 then (spec_Keys_string.l0 k2 l0 (y169 ++ y172) (wrap64 (x4_1 + 1))) else (none)))) else (none)) else (none)) else (none))) else (none))) else (none)) else (none)) = some r := by first | (rw [hy158]; with_reducible exact H) | (have H2_ := (Option.bind_some _ _).symm.trans H; rw [hy158]; with_reducible exact H2_) | (have H2_ := (Option.bind_some _ _).symm.trans H; with_reducible exact H2_) | with_reducible exact H | (rw [hy158]; exact H) | exact H
                  have Ny158 := Aside0.mk hy158
                  clear hy158
                  by_cases c27 : 0 ≤ x5_2
                  · rw [if_pos c27] at H
                    have c27b0 := eq_true c27
                    have c27b1 : decide (0 ≤ x5_2) = true := decide_eq_true c27
                    clear c27
                    by_cases c28 : x5_2 ≤ (x3_1.length : Int)
                    · rw [if_pos c28] at H
                      have c28b0 := eq_true c28
                      have c28b1 : decide (x5_2 ≤ (x3_1.length : Int)) = true := decide_eq_true c28
                      clear c28
                      obtain ⟨y161, hy161⟩ : ∃ y_ : List ByteArray, y_ = (x3_1.take (x5_2 : Int).toNat) := ⟨_, rfl⟩
                      replace H : (if y158.length + y161.length < 8796093022208 then ((some (y158 ++ y161 : List ByteArray)).bind fun y165 => (if 0 ≤ x4_1 then (if x4_1 < (l0.length : Int) then (if y165.length < 8796093022208 then ((some (y165 ++ [rdOf ByteArray.empty l0 x4_1] : List ByteArray)).bind fun y169 => ((some (x3_1.drop (x5_2 : Int).toNat : List ByteArray)).bind fun y172 => (if y169.length + y172.length < 8796093022208 then (spec_Keys_string.l0 k2 l0 (y169 ++ y172) (wrap64 (x4_1 + 1))) else (none)))) else (none)) else (none)) else (none))) else (none)) = some r := by first | (rw [hy161]; with_reducible exact H) | (have H2_ := (Option.bind_some _ _).symm.trans H; rw [hy161]; with_reducible exact H2_) | (have H2_ := (Option.bind_some _ _).symm.trans H; with_reducible exact H2_) | with_reducible exact H | (rw [hy161]; exact H) | exact H
                      have Ny161 := Aside0.mk hy161
                      clear hy161
                      by_cases c29 : y158.length + y161.length < 8796093022208
                      · rw [if_pos c29] at H
                        have LMc29 := Aside0.mk c29
                        clear c29
                        obtain ⟨y165, hy165⟩ : ∃ y_ : List ByteArray, y_ = (y158 ++ y161) := ⟨_, rfl⟩
                        replace H : (if 0 ≤ x4_1 then (if x4_1 < (l0.length : Int) then (if y165.length < 8796093022208 then ((some (y165 ++ [rdOf ByteArray.empty l0 x4_1] : List ByteArray)).bind fun y169 => ((some (x3_1.drop (x5_2 : Int).toNat : List ByteArray)).bind fun y172 => (if y169.length + y172.length < 8796093022208 then (spec_Keys_string.l0 k2 l0 (y169 ++ y172) (wrap64 (x4_1 + 1))) else (none)))) else (none)) else (none)) else (none)) = some r := by first | (rw [hy165]; with_reducible exact H) | (have H2_ := (Option.bind_some _ _).symm.trans H; rw [hy165]; with_reducible exact H2_) | (have H2_ := (Option.bind_some _ _).symm.trans H; with_reducible exact H2_) | with_reducible exact H | (rw [hy165]; exact H) | exact H
                        have Ny165 := Aside0.mk hy165
                        clear hy165
                        by_cases c30 : 0 ≤ x4_1
                        · rw [if_pos c30] at H
                          have c30b0 : decide (0 ≤ x4_1) = true := decide_eq_true c30
                          clear c30
                          by_cases c31 : x4_1 < (l0.length : Int)
                          · rw [if_pos c31] at H
                            have c31b0 : decide (x4_1 < (l0.length : Int)) = true := decide_eq_true c31
                            clear c31
                            by_cases c32 : y165.length < 8796093022208
                            · rw [if_pos c32] at H
                              have LMc32 := Aside0.mk c32
                              clear c32
                              obtain ⟨y169, hy169⟩ : ∃ y_ : List ByteArray, y_ = (y165 ++ [rdOf ByteArray.empty l0 x4_1]) := ⟨_, rfl⟩
                              replace H : ((some (x3_1.drop (x5_2 : Int).toNat : List ByteArray)).bind fun y172 => (if y169.length + y172.length < 8796093022208 then (spec_Keys_string.l0 k2 l0 (y169 ++ y172) (wrap64 (x4_1 + 1))) else (none))) = some r := by first | (rw [hy169]; with_reducible exact H) | (have H2_ := (Option.bind_some _ _).symm.trans H; rw [hy169]; with_reducible exact H2_) | (have H2_ := (Option.bind_some _ _).symm.trans H; with_reducible exact H2_) | with_reducible exact H | (rw [hy169]; exact H) | exact H
                              have Ny169 := Aside0.mk hy169
                              clear hy169
                              have c33b0 := eq_true (of_decide_eq_true (by first | (with_reducible assumption) | assumption) : 0 ≤ x5_2)
                              have c34b0 := eq_true (of_decide_eq_true (by first | (with_reducible assumption) | assumption) : x5_2 ≤ (x3_1.length : Int))
                              obtain ⟨y172, hy172⟩ : ∃ y_ : List ByteArray, y_ = (x3_1.drop (x5_2 : Int).toNat) := ⟨_, rfl⟩
                              replace H : (if y169.length + y172.length < 8796093022208 then (spec_Keys_string.l0 k2 l0 (y169 ++ y172) (wrap64 (x4_1 + 1))) else (none)) = some r := by first | (rw [hy172]; with_reducible exact H) | (have H2_ := (Option.bind_some _ _).symm.trans H; rw [hy172]; with_reducible exact H2_) | (have H2_ := (Option.bind_some _ _).symm.trans H; with_reducible exact H2_) | with_reducible exact H | (rw [hy172]; exact H) | exact H
                              have Ny172 := Aside0.mk hy172
                              clear hy172
                              by_cases c35 : y169.length + y172.length < 8796093022208
                              · rw [if_pos c35] at H
                                have LMc35 := Aside0.mk c35
                                clear c35
                                obtain ⟨y176, hy176⟩ : ∃ y_ : List ByteArray, y_ = (y169 ++ y172) := ⟨_, rfl⟩
                                replace H : (spec_Keys_string.l0 k2 l0 y176 (wrap64 (x4_1 + 1))) = some r := by first | (rw [hy176]; with_reducible exact H) | (have H2_ := (Option.bind_some _ _).symm.trans H; rw [hy176]; with_reducible exact H2_) | (have H2_ := (Option.bind_some _ _).symm.trans H; with_reducible exact H2_) | with_reducible exact H | (rw [hy176]; exact H) | exact H
                                have Ny176 := Aside0.mk hy176
                                clear hy176
                                have H' := Aside0.mk H
                                clear H
                                go_wp2_with (first | ((with_reducible refine gate_dst (N := 36) rfl ?_); refine Kd.R_lit Kd.string _ 9 ?hg (N := 36) ?hd (xs := ([] : List ByteArray)) (inner := []) (ok := fun _ => True) (okp := fun _ => True) ?hr ?hp (fun _ hk => hk) trivial (Below.refl _ _) (Nat.le_refl _) (by simp) ?_; (case hd => rfl); (case hg => rfl); (case hr => first | (go_simp; done) | (go_simp; rfl)); (case hp => exact (Reps.none _ _)); intro v159 w36 ho37 hb hg_ hnew_; clear hg_ hnew_; (first | rw [← Ny158.out] at ho37 | (simp only [Int.reduceToNat] at ho37; rw [← Ny158.out] at ho37)); have n0_ := Aside0.mk (Kd.R_elder' (by (with_reducible repeat (first | apply Kd.R_alloc | apply Kd.R_drewN | apply Kd.R_drew)); exact HO_3.out) (Kd.R_base ho37) hb); have n1_ := Aside0.mk (Kd.R_lower (Kd.R_new' ho37 (Kd.R_lt (by (with_reducible repeat (first | apply Kd.R_alloc | apply Kd.R_drewN | apply Kd.R_drew)); exact HO_3.out))) (below_size (by repeat (first | (with_reducible first | exact HB.out | apply below_alloc | apply pw_below_drewN | apply below_drew1) | exact HB.out)))); have n2_ := Aside0.mk (below_step (by repeat (first | (with_reducible first | exact HB.out | apply below_alloc | apply pw_below_drewN | apply below_drew1) | exact HB.out)) hb); clear HO_3; clear HB; have HO_3 := n0_; have HO160 := n1_; have HB := n2_; clear n0_ n1_ n2_; clear hb ho37; have q38 : (x5_2 : Int) ≤ ((x3_1.length : Int) : Int) := of_decide_eq_true (by first | (with_reducible assumption) | assumption); obtain ⟨i038, hi038, _, hsz38, _⟩ := info_parts info9; have hroom38 : x3_1.length ≤ co7 := (Kd.R_reads' HO_3.out).2.1; have hC38 : Kd.C Kd.string _ Ao7 x3_1.length x3_1 := (Kd.R_reads' HO_3.out).2.2; have hcut38 := cut_to (P := Tryd.prog) 22 9 .i64 Tryd.underlying22 hi038 Ao7 x3_1.length co7 x5_2 (of_decide_eq_true (by first | (with_reducible assumption) | assumption)) q38 hroom38; have hr38 := Kd.C_take (m := (x5_2 : Int).toNat) hC38 (by omega); have hy38 : y161.length = (x5_2 : Int).toNat := (by rw [Ny161.out, List.length_take]; omega); rw [← Ny161.out] at hr38; rw [← hy38] at hcut38; have HR164 := Aside0.mk hr38; have HC164 := Aside0.mk (show y161.length ≤ co7 from by omega); clear hr38 hC38 hroom38 hi038 hsz38; have KY38 := Aside0.mk hy38; clear hy38; have KL38 := Aside0.mk (show (x5_2 : Int).toNat ≤ x3_1.length from by omega); replace q38 := eq_true q38) | ((with_reducible refine gate_builtin (b := .append) (xs := #[.tmp 36, .tmp 39]) rfl ?_); at_builtin; refine Kd.R_append_rows Kd.string (w0 := w) w.heap.size rfl (.tmp 36) (.tmp 39) 22 9 (.string ⟨#[]⟩) 16 rfl Tryd.underlying22 info9 rfl (by decide) (by omega) v159 y158 y161 _ _ _ (fun k_ => some k_ ≠ (.slice Ao7 x3_1.length co7 : Value).ownBlock) (fun _ => False) rfl rfl ?aO ?aR (fun _ _ h => h) (fun _ h => h.elim) ?aF ?aB ?aS ?aL ?_; (case aR => repeat (first | exact (by repeat (first | (with_reducible exact HR164.out) | (with_reducible refine Kd.C_alloc ?_ _) | (with_reducible refine Kd.C_drewN ?_ _) | (with_reducible refine Kd.C_drew ?_) | exact HR164.out)) | (with_reducible refine Kd.C_alloc ?_ _) | (with_reducible refine Kd.C_drewN ?_ _) | (with_reducible refine Kd.C_drew ?_))); (case aB => exact (by repeat (first | (with_reducible first | exact HB.out | apply below_alloc | apply pw_below_drewN | apply below_drew1) | exact HB.out))); (case aF => exact (fun k_ hk => Kd.fresh' (Kd.R_lt (by (with_reducible repeat (first | apply Kd.R_alloc | apply Kd.R_drewN | apply Kd.R_drew)); exact HO_3.out)) k_ hk)); (case aO => exact (by (with_reducible repeat (first | apply Kd.R_alloc | apply Kd.R_drewN | apply Kd.R_drew)); exact Kd.R_mono HO160.out (fun _ hk => hk.2))); (case aS => exact (below_size (by repeat (first | (with_reducible first | exact HB.out | apply below_alloc | apply pw_below_drewN | apply below_drew1) | exact HB.out)))); (case aL => have := LMc29.out; omega); intro v166 w39 ho hb hg hat; rw [← Ny165.out] at ho; have n0_ := Aside0.mk (Kd.R_after (ok := (fun _ => True)) (by (with_reducible repeat (first | apply Kd.R_alloc | apply Kd.R_drewN | apply Kd.R_drew)); exact HO_3.out) hg hat); have n1_ := Aside0.mk (hb); have n2_ := Aside0.mk ((show Kd.C Kd.string w39 Ao7 y161.length y161 from by rw [Ny161.out]; exact Kd.C_take (m := (x5_2 : Int).toNat) ((Kd.R_reads' (Kd.R_after (ok := (fun _ => True)) (by (with_reducible repeat (first | apply Kd.R_alloc | apply Kd.R_drewN | apply Kd.R_drew)); exact HO_3.out) hg hat)).2.2) KL38.out)); have n3_ := Aside0.mk (ho); clear HO_3; clear HB; clear HR164; clear HO160; have HO_3 := n0_; have HB := n1_; have HR164 := n2_; have HO167 := n3_; clear n0_ n1_ n2_ n3_; clear ho hb hg hat; have p168 : 0 ≤ (x4_1 : Int) := of_decide_eq_true (by first | (with_reducible assumption) | assumption); have q168 : x4_1 < (l0.length : Int) := of_decide_eq_true (by first | (with_reducible assumption) | assumption); obtain ⟨ad168, e168, hx168_0⟩ := Kd.at_string HR0.out x4_1 p168 q168; obtain rfl : ad133 = ad168 := (by injection e168); replace hx168_0 := (HB.out.cell (World.block_lt_of_cell? w _ hx168_0)).trans hx168_0; replace p168 := eq_true p168; replace q168 := eq_true q168) | ((with_reducible refine gate_builtin (b := .append) (xs := #[.tmp 41, .tmp 46]) rfl ?_); at_builtin; refine Kd.R_append Kd.string (w0 := w) w.heap.size rfl (.tmp 41) (.tmp 46) 22 9 (.string ⟨#[]⟩) 16 rfl Tryd.underlying22 info9 rfl (by decide) (by omega) v166 y165 (rdOf ByteArray.empty l0 x4_1) [.string (rdOf ByteArray.empty l0 x4_1)] (fun k_ => some k_ ≠ (.slice Ao7 x3_1.length co7 : Value).ownBlock) (fun _ => False) rfl rfl ?aP (fun _ hk => hk.elim) ?aF ?aO ?aB ?aS ?aL ?_; (case aP => exact rfl); (case aB => exact (by repeat (first | (with_reducible first | exact HB.out | apply below_alloc | apply pw_below_drewN | apply below_drew1) | exact HB.out))); (case aF => exact (fun k_ hk => Kd.fresh' (Kd.R_lt (by (with_reducible repeat (first | apply Kd.R_alloc | apply Kd.R_drewN | apply Kd.R_drew)); exact HO_3.out)) k_ hk)); (case aO => exact (by (with_reducible repeat (first | apply Kd.R_alloc | apply Kd.R_drewN | apply Kd.R_drew)); exact HO167.out)); (case aS => exact (below_size (by repeat (first | (with_reducible first | exact HB.out | apply below_alloc | apply pw_below_drewN | apply below_drew1) | exact HB.out)))); (case aL => have := LMc32.out; omega); intro v170 w40 ho hb hg hat; rw [← Ny169.out] at ho; have n0_ := Aside0.mk (Kd.R_after (ok := (fun _ => True)) (by (with_reducible repeat (first | apply Kd.R_alloc | apply Kd.R_drewN | apply Kd.R_drew)); exact HO_3.out) hg hat); have n1_ := Aside0.mk (hb); have n2_ := Aside0.mk ((show Kd.C Kd.string w40 Ao7 y161.length y161 from by rw [Ny161.out]; exact Kd.C_take (m := (x5_2 : Int).toNat) ((Kd.R_reads' (Kd.R_after (ok := (fun _ => True)) (by (with_reducible repeat (first | apply Kd.R_alloc | apply Kd.R_drewN | apply Kd.R_drew)); exact HO_3.out) hg hat)).2.2) KL38.out)); have n3_ := Aside0.mk (ho); clear HO_3; clear HB; clear HR164; clear HO167; have HO_3 := n0_; have HB := n1_; have HR164 := n2_; have HO171 := n3_; clear n0_ n1_ n2_ n3_; clear ho hb hg hat; have q41 : (x5_2 : Int) ≤ ((x3_1.length : Int) : Int) := of_decide_eq_true (by first | (with_reducible assumption) | assumption); obtain ⟨i041, hi041, _, hsz41, _⟩ := info_parts info9; have hroom41 : x3_1.length ≤ co7 := (Kd.R_reads' HO_3.out).2.1; have hC41 : Kd.C Kd.string _ Ao7 x3_1.length x3_1 := (Kd.R_reads' HO_3.out).2.2; have q041 : (0 : Int) ≤ (x5_2 : Int) := of_decide_eq_true (by first | (with_reducible assumption) | assumption); have hcut41 := cut_from (P := Tryd.prog) 22 9 .i64 Tryd.underlying22 hi041 1 hsz41 Ao7 x3_1.length co7 x5_2 q041 q41; have hr41 := Kd.C_drop (m := (x5_2 : Int).toNat) (c := co7) hC41 (by omega) hroom41; obtain ⟨A41, hA41⟩ : ∃ A1, A1 = (if co7 = (x5_2 : Int).toNat then Ao7 else (Ao7 : Option Addr).map (·.add ((x5_2 : Int).toNat * 1))) := ⟨_, rfl⟩; obtain ⟨c41, hc41⟩ : ∃ c1, c1 = co7 - (x5_2 : Int).toNat := ⟨_, rfl⟩; have hy41 : y172.length = x3_1.length - (x5_2 : Int).toNat := (by rw [Ny172.out, List.length_drop] <;> omega); rw [show (x3_1).drop (x5_2 : Int).toNat = y172 from Ny172.out.symm] at hr41; replace hr41 : Kd.C Kd.string _ A41 y172.length y172 := (by rw [hA41]; exact hr41); rw [← hy41, ← hA41, ← hc41] at hcut41; have HR175 := Aside0.mk hr41; have HC175 := Aside0.mk (show y172.length ≤ c41 from by rw [hy41, hc41]; exact Nat.sub_le_sub_right hroom41 _); clear hr41 hC41 hroom41 hi041 hsz41 hc41; have KY41 := Aside0.mk hy41; have KA41 := Aside0.mk hA41; clear hy41 hA41; have KL41 := Aside0.mk (show (x5_2 : Int).toNat ≤ x3_1.length from by omega); replace q41 := eq_true q41) | ((with_reducible refine gate_builtin (b := .append) (xs := #[.tmp 48, .tmp 51]) rfl ?_); at_builtin; refine Kd.R_append_rows Kd.string (w0 := w) w.heap.size rfl (.tmp 48) (.tmp 51) 22 9 (.string ⟨#[]⟩) 16 rfl Tryd.underlying22 info9 rfl (by decide) (by omega) v170 y169 y172 _ _ _ (fun k_ => some k_ ≠ (.slice Ao7 x3_1.length co7 : Value).ownBlock) (fun _ => False) rfl rfl ?aO ?aR (fun _ _ h => h) (fun _ h => h.elim) ?aF ?aB ?aS ?aL ?_; (case aR => repeat (first | exact (by repeat (first | (with_reducible exact HR175.out) | (with_reducible refine Kd.C_alloc ?_ _) | (with_reducible refine Kd.C_drewN ?_ _) | (with_reducible refine Kd.C_drew ?_) | exact HR175.out)) | (with_reducible refine Kd.C_alloc ?_ _) | (with_reducible refine Kd.C_drewN ?_ _) | (with_reducible refine Kd.C_drew ?_))); (case aB => exact (by repeat (first | (with_reducible first | exact HB.out | apply below_alloc | apply pw_below_drewN | apply below_drew1) | exact HB.out))); (case aF => exact (fun k_ hk => Kd.fresh' (Kd.R_lt (by (with_reducible repeat (first | apply Kd.R_alloc | apply Kd.R_drewN | apply Kd.R_drew)); exact HO_3.out)) k_ hk)); (case aO => exact (by (with_reducible repeat (first | apply Kd.R_alloc | apply Kd.R_drewN | apply Kd.R_drew)); exact HO171.out)); (case aS => exact (below_size (by repeat (first | (with_reducible first | exact HB.out | apply below_alloc | apply pw_below_drewN | apply below_drew1) | exact HB.out)))); (case aL => have := LMc35.out; omega); intro v177 w42 ho hb hg hat; rw [← Ny176.out] at ho; have n0_ := Aside0.mk (Kd.R_after (ok := (fun _ => True)) (by (with_reducible repeat (first | apply Kd.R_alloc | apply Kd.R_drewN | apply Kd.R_drew)); exact HO_3.out) hg hat); have n1_ := Aside0.mk (hb); have n2_ := Aside0.mk ((show Kd.C Kd.string w42 Ao7 y161.length y161 from by rw [Ny161.out]; exact Kd.C_take (m := (x5_2 : Int).toNat) ((Kd.R_reads' (Kd.R_after (ok := (fun _ => True)) (by (with_reducible repeat (first | apply Kd.R_alloc | apply Kd.R_drewN | apply Kd.R_drew)); exact HO_3.out) hg hat)).2.2) KL38.out)); have n3_ := Aside0.mk ((show Kd.C Kd.string w42 A41 y172.length y172 from by rw [Ny172.out, KA41.out]; exact Kd.C_drop (m := (x5_2 : Int).toNat) (c := co7) ((Kd.R_reads' (Kd.R_after (ok := (fun _ => True)) (by (with_reducible repeat (first | apply Kd.R_alloc | apply Kd.R_drewN | apply Kd.R_drew)); exact HO_3.out) hg hat)).2.2) KL41.out ((Kd.R_reads' (Kd.R_after (ok := (fun _ => True)) (by (with_reducible repeat (first | apply Kd.R_alloc | apply Kd.R_drewN | apply Kd.R_drew)); exact HO_3.out) hg hat)).2.1))); have n4_ := Aside0.mk (ho); clear HO_3; clear HB; clear HR164; clear HR175; clear HO171; have HO_3 := n0_; have HB := n1_; have HR164 := n2_; have HR175 := n3_; have HO178 := n4_; clear n0_ n1_ n2_ n3_ n4_; clear ho hb hg hat))
                                repeat (go_quiet (first | ((with_reducible refine gate_dst (N := 36) rfl ?_); refine Kd.R_lit Kd.string _ 9 ?hg (N := 36) ?hd (xs := ([] : List ByteArray)) (inner := []) (ok := fun _ => True) (okp := fun _ => True) ?hr ?hp (fun _ hk => hk) trivial (Below.refl _ _) (Nat.le_refl _) (by simp) ?_; (case hd => rfl); (case hg => rfl); (case hr => first | (go_simp; done) | (go_simp; rfl)); (case hp => exact (Reps.none _ _)); intro v159 w36 ho37 hb hg_ hnew_; clear hg_ hnew_; (first | rw [← Ny158.out] at ho37 | (simp only [Int.reduceToNat] at ho37; rw [← Ny158.out] at ho37)); have n0_ := Aside0.mk (Kd.R_elder' (by (with_reducible repeat (first | apply Kd.R_alloc | apply Kd.R_drewN | apply Kd.R_drew)); exact HO_3.out) (Kd.R_base ho37) hb); have n1_ := Aside0.mk (Kd.R_lower (Kd.R_new' ho37 (Kd.R_lt (by (with_reducible repeat (first | apply Kd.R_alloc | apply Kd.R_drewN | apply Kd.R_drew)); exact HO_3.out))) (below_size (by repeat (first | (with_reducible first | exact HB.out | apply below_alloc | apply pw_below_drewN | apply below_drew1) | exact HB.out)))); have n2_ := Aside0.mk (below_step (by repeat (first | (with_reducible first | exact HB.out | apply below_alloc | apply pw_below_drewN | apply below_drew1) | exact HB.out)) hb); clear HO_3; clear HB; have HO_3 := n0_; have HO160 := n1_; have HB := n2_; clear n0_ n1_ n2_; clear hb ho37; have q38 : (x5_2 : Int) ≤ ((x3_1.length : Int) : Int) := of_decide_eq_true (by first | (with_reducible assumption) | assumption); obtain ⟨i038, hi038, _, hsz38, _⟩ := info_parts info9; have hroom38 : x3_1.length ≤ co7 := (Kd.R_reads' HO_3.out).2.1; have hC38 : Kd.C Kd.string _ Ao7 x3_1.length x3_1 := (Kd.R_reads' HO_3.out).2.2; have hcut38 := cut_to (P := Tryd.prog) 22 9 .i64 Tryd.underlying22 hi038 Ao7 x3_1.length co7 x5_2 (of_decide_eq_true (by first | (with_reducible assumption) | assumption)) q38 hroom38; have hr38 := Kd.C_take (m := (x5_2 : Int).toNat) hC38 (by omega); have hy38 : y161.length = (x5_2 : Int).toNat := (by rw [Ny161.out, List.length_take]; omega); rw [← Ny161.out] at hr38; rw [← hy38] at hcut38; have HR164 := Aside0.mk hr38; have HC164 := Aside0.mk (show y161.length ≤ co7 from by omega); clear hr38 hC38 hroom38 hi038 hsz38; have KY38 := Aside0.mk hy38; clear hy38; have KL38 := Aside0.mk (show (x5_2 : Int).toNat ≤ x3_1.length from by omega); replace q38 := eq_true q38) | ((with_reducible refine gate_builtin (b := .append) (xs := #[.tmp 36, .tmp 39]) rfl ?_); at_builtin; refine Kd.R_append_rows Kd.string (w0 := w) w.heap.size rfl (.tmp 36) (.tmp 39) 22 9 (.string ⟨#[]⟩) 16 rfl Tryd.underlying22 info9 rfl (by decide) (by omega) v159 y158 y161 _ _ _ (fun k_ => some k_ ≠ (.slice Ao7 x3_1.length co7 : Value).ownBlock) (fun _ => False) rfl rfl ?aO ?aR (fun _ _ h => h) (fun _ h => h.elim) ?aF ?aB ?aS ?aL ?_; (case aR => repeat (first | exact (by repeat (first | (with_reducible exact HR164.out) | (with_reducible refine Kd.C_alloc ?_ _) | (with_reducible refine Kd.C_drewN ?_ _) | (with_reducible refine Kd.C_drew ?_) | exact HR164.out)) | (with_reducible refine Kd.C_alloc ?_ _) | (with_reducible refine Kd.C_drewN ?_ _) | (with_reducible refine Kd.C_drew ?_))); (case aB => exact (by repeat (first | (with_reducible first | exact HB.out | apply below_alloc | apply pw_below_drewN | apply below_drew1) | exact HB.out))); (case aF => exact (fun k_ hk => Kd.fresh' (Kd.R_lt (by (with_reducible repeat (first | apply Kd.R_alloc | apply Kd.R_drewN | apply Kd.R_drew)); exact HO_3.out)) k_ hk)); (case aO => exact (by (with_reducible repeat (first | apply Kd.R_alloc | apply Kd.R_drewN | apply Kd.R_drew)); exact Kd.R_mono HO160.out (fun _ hk => hk.2))); (case aS => exact (below_size (by repeat (first | (with_reducible first | exact HB.out | apply below_alloc | apply pw_below_drewN | apply below_drew1) | exact HB.out)))); (case aL => have := LMc29.out; omega); intro v166 w39 ho hb hg hat; rw [← Ny165.out] at ho; have n0_ := Aside0.mk (Kd.R_after (ok := (fun _ => True)) (by (with_reducible repeat (first | apply Kd.R_alloc | apply Kd.R_drewN | apply Kd.R_drew)); exact HO_3.out) hg hat); have n1_ := Aside0.mk (hb); have n2_ := Aside0.mk ((show Kd.C Kd.string w39 Ao7 y161.length y161 from by rw [Ny161.out]; exact Kd.C_take (m := (x5_2 : Int).toNat) ((Kd.R_reads' (Kd.R_after (ok := (fun _ => True)) (by (with_reducible repeat (first | apply Kd.R_alloc | apply Kd.R_drewN | apply Kd.R_drew)); exact HO_3.out) hg hat)).2.2) KL38.out)); have n3_ := Aside0.mk (ho); clear HO_3; clear HB; clear HR164; clear HO160; have HO_3 := n0_; have HB := n1_; have HR164 := n2_; have HO167 := n3_; clear n0_ n1_ n2_ n3_; clear ho hb hg hat; have p168 : 0 ≤ (x4_1 : Int) := of_decide_eq_true (by first | (with_reducible assumption) | assumption); have q168 : x4_1 < (l0.length : Int) := of_decide_eq_true (by first | (with_reducible assumption) | assumption); obtain ⟨ad168, e168, hx168_0⟩ := Kd.at_string HR0.out x4_1 p168 q168; obtain rfl : ad133 = ad168 := (by injection e168); replace hx168_0 := (HB.out.cell (World.block_lt_of_cell? w _ hx168_0)).trans hx168_0; replace p168 := eq_true p168; replace q168 := eq_true q168) | ((with_reducible refine gate_builtin (b := .append) (xs := #[.tmp 41, .tmp 46]) rfl ?_); at_builtin; refine Kd.R_append Kd.string (w0 := w) w.heap.size rfl (.tmp 41) (.tmp 46) 22 9 (.string ⟨#[]⟩) 16 rfl Tryd.underlying22 info9 rfl (by decide) (by omega) v166 y165 (rdOf ByteArray.empty l0 x4_1) [.string (rdOf ByteArray.empty l0 x4_1)] (fun k_ => some k_ ≠ (.slice Ao7 x3_1.length co7 : Value).ownBlock) (fun _ => False) rfl rfl ?aP (fun _ hk => hk.elim) ?aF ?aO ?aB ?aS ?aL ?_; (case aP => exact rfl); (case aB => exact (by repeat (first | (with_reducible first | exact HB.out | apply below_alloc | apply pw_below_drewN | apply below_drew1) | exact HB.out))); (case aF => exact (fun k_ hk => Kd.fresh' (Kd.R_lt (by (with_reducible repeat (first | apply Kd.R_alloc | apply Kd.R_drewN | apply Kd.R_drew)); exact HO_3.out)) k_ hk)); (case aO => exact (by (with_reducible repeat (first | apply Kd.R_alloc | apply Kd.R_drewN | apply Kd.R_drew)); exact HO167.out)); (case aS => exact (below_size (by repeat (first | (with_reducible first | exact HB.out | apply below_alloc | apply pw_below_drewN | apply below_drew1) | exact HB.out)))); (case aL => have := LMc32.out; omega); intro v170 w40 ho hb hg hat; rw [← Ny169.out] at ho; have n0_ := Aside0.mk (Kd.R_after (ok := (fun _ => True)) (by (with_reducible repeat (first | apply Kd.R_alloc | apply Kd.R_drewN | apply Kd.R_drew)); exact HO_3.out) hg hat); have n1_ := Aside0.mk (hb); have n2_ := Aside0.mk ((show Kd.C Kd.string w40 Ao7 y161.length y161 from by rw [Ny161.out]; exact Kd.C_take (m := (x5_2 : Int).toNat) ((Kd.R_reads' (Kd.R_after (ok := (fun _ => True)) (by (with_reducible repeat (first | apply Kd.R_alloc | apply Kd.R_drewN | apply Kd.R_drew)); exact HO_3.out) hg hat)).2.2) KL38.out)); have n3_ := Aside0.mk (ho); clear HO_3; clear HB; clear HR164; clear HO167; have HO_3 := n0_; have HB := n1_; have HR164 := n2_; have HO171 := n3_; clear n0_ n1_ n2_ n3_; clear ho hb hg hat; have q41 : (x5_2 : Int) ≤ ((x3_1.length : Int) : Int) := of_decide_eq_true (by first | (with_reducible assumption) | assumption); obtain ⟨i041, hi041, _, hsz41, _⟩ := info_parts info9; have hroom41 : x3_1.length ≤ co7 := (Kd.R_reads' HO_3.out).2.1; have hC41 : Kd.C Kd.string _ Ao7 x3_1.length x3_1 := (Kd.R_reads' HO_3.out).2.2; have q041 : (0 : Int) ≤ (x5_2 : Int) := of_decide_eq_true (by first | (with_reducible assumption) | assumption); have hcut41 := cut_from (P := Tryd.prog) 22 9 .i64 Tryd.underlying22 hi041 1 hsz41 Ao7 x3_1.length co7 x5_2 q041 q41; have hr41 := Kd.C_drop (m := (x5_2 : Int).toNat) (c := co7) hC41 (by omega) hroom41; obtain ⟨A41, hA41⟩ : ∃ A1, A1 = (if co7 = (x5_2 : Int).toNat then Ao7 else (Ao7 : Option Addr).map (·.add ((x5_2 : Int).toNat * 1))) := ⟨_, rfl⟩; obtain ⟨c41, hc41⟩ : ∃ c1, c1 = co7 - (x5_2 : Int).toNat := ⟨_, rfl⟩; have hy41 : y172.length = x3_1.length - (x5_2 : Int).toNat := (by rw [Ny172.out, List.length_drop] <;> omega); rw [show (x3_1).drop (x5_2 : Int).toNat = y172 from Ny172.out.symm] at hr41; replace hr41 : Kd.C Kd.string _ A41 y172.length y172 := (by rw [hA41]; exact hr41); rw [← hy41, ← hA41, ← hc41] at hcut41; have HR175 := Aside0.mk hr41; have HC175 := Aside0.mk (show y172.length ≤ c41 from by rw [hy41, hc41]; exact Nat.sub_le_sub_right hroom41 _); clear hr41 hC41 hroom41 hi041 hsz41 hc41; have KY41 := Aside0.mk hy41; have KA41 := Aside0.mk hA41; clear hy41 hA41; have KL41 := Aside0.mk (show (x5_2 : Int).toNat ≤ x3_1.length from by omega); replace q41 := eq_true q41) | ((with_reducible refine gate_builtin (b := .append) (xs := #[.tmp 48, .tmp 51]) rfl ?_); at_builtin; refine Kd.R_append_rows Kd.string (w0 := w) w.heap.size rfl (.tmp 48) (.tmp 51) 22 9 (.string ⟨#[]⟩) 16 rfl Tryd.underlying22 info9 rfl (by decide) (by omega) v170 y169 y172 _ _ _ (fun k_ => some k_ ≠ (.slice Ao7 x3_1.length co7 : Value).ownBlock) (fun _ => False) rfl rfl ?aO ?aR (fun _ _ h => h) (fun _ h => h.elim) ?aF ?aB ?aS ?aL ?_; (case aR => repeat (first | exact (by repeat (first | (with_reducible exact HR175.out) | (with_reducible refine Kd.C_alloc ?_ _) | (with_reducible refine Kd.C_drewN ?_ _) | (with_reducible refine Kd.C_drew ?_) | exact HR175.out)) | (with_reducible refine Kd.C_alloc ?_ _) | (with_reducible refine Kd.C_drewN ?_ _) | (with_reducible refine Kd.C_drew ?_))); (case aB => exact (by repeat (first | (with_reducible first | exact HB.out | apply below_alloc | apply pw_below_drewN | apply below_drew1) | exact HB.out))); (case aF => exact (fun k_ hk => Kd.fresh' (Kd.R_lt (by (with_reducible repeat (first | apply Kd.R_alloc | apply Kd.R_drewN | apply Kd.R_drew)); exact HO_3.out)) k_ hk)); (case aO => exact (by (with_reducible repeat (first | apply Kd.R_alloc | apply Kd.R_drewN | apply Kd.R_drew)); exact HO171.out)); (case aS => exact (below_size (by repeat (first | (with_reducible first | exact HB.out | apply below_alloc | apply pw_below_drewN | apply below_drew1) | exact HB.out)))); (case aL => have := LMc35.out; omega); intro v177 w42 ho hb hg hat; rw [← Ny176.out] at ho; have n0_ := Aside0.mk (Kd.R_after (ok := (fun _ => True)) (by (with_reducible repeat (first | apply Kd.R_alloc | apply Kd.R_drewN | apply Kd.R_drew)); exact HO_3.out) hg hat); have n1_ := Aside0.mk (hb); have n2_ := Aside0.mk ((show Kd.C Kd.string w42 Ao7 y161.length y161 from by rw [Ny161.out]; exact Kd.C_take (m := (x5_2 : Int).toNat) ((Kd.R_reads' (Kd.R_after (ok := (fun _ => True)) (by (with_reducible repeat (first | apply Kd.R_alloc | apply Kd.R_drewN | apply Kd.R_drew)); exact HO_3.out) hg hat)).2.2) KL38.out)); have n3_ := Aside0.mk ((show Kd.C Kd.string w42 A41 y172.length y172 from by rw [Ny172.out, KA41.out]; exact Kd.C_drop (m := (x5_2 : Int).toNat) (c := co7) ((Kd.R_reads' (Kd.R_after (ok := (fun _ => True)) (by (with_reducible repeat (first | apply Kd.R_alloc | apply Kd.R_drewN | apply Kd.R_drew)); exact HO_3.out) hg hat)).2.2) KL41.out ((Kd.R_reads' (Kd.R_after (ok := (fun _ => True)) (by (with_reducible repeat (first | apply Kd.R_alloc | apply Kd.R_drewN | apply Kd.R_drew)); exact HO_3.out) hg hat)).2.1))); have n4_ := Aside0.mk (ho); clear HO_3; clear HB; clear HR164; clear HR175; clear HO171; have HO_3 := n0_; have HB := n1_; have HR164 := n2_; have HR175 := n3_; have HO178 := n4_; clear n0_ n1_ n2_ n3_ n4_; clear ho hb hg hat)); try go_wp2_with (first | ((with_reducible refine gate_dst (N := 36) rfl ?_); refine Kd.R_lit Kd.string _ 9 ?hg (N := 36) ?hd (xs := ([] : List ByteArray)) (inner := []) (ok := fun _ => True) (okp := fun _ => True) ?hr ?hp (fun _ hk => hk) trivial (Below.refl _ _) (Nat.le_refl _) (by simp) ?_; (case hd => rfl); (case hg => rfl); (case hr => first | (go_simp; done) | (go_simp; rfl)); (case hp => exact (Reps.none _ _)); intro v159 w36 ho37 hb hg_ hnew_; clear hg_ hnew_; (first | rw [← Ny158.out] at ho37 | (simp only [Int.reduceToNat] at ho37; rw [← Ny158.out] at ho37)); have n0_ := Aside0.mk (Kd.R_elder' (by (with_reducible repeat (first | apply Kd.R_alloc | apply Kd.R_drewN | apply Kd.R_drew)); exact HO_3.out) (Kd.R_base ho37) hb); have n1_ := Aside0.mk (Kd.R_lower (Kd.R_new' ho37 (Kd.R_lt (by (with_reducible repeat (first | apply Kd.R_alloc | apply Kd.R_drewN | apply Kd.R_drew)); exact HO_3.out))) (below_size (by repeat (first | (with_reducible first | exact HB.out | apply below_alloc | apply pw_below_drewN | apply below_drew1) | exact HB.out)))); have n2_ := Aside0.mk (below_step (by repeat (first | (with_reducible first | exact HB.out | apply below_alloc | apply pw_below_drewN | apply below_drew1) | exact HB.out)) hb); clear HO_3; clear HB; have HO_3 := n0_; have HO160 := n1_; have HB := n2_; clear n0_ n1_ n2_; clear hb ho37; have q38 : (x5_2 : Int) ≤ ((x3_1.length : Int) : Int) := of_decide_eq_true (by first | (with_reducible assumption) | assumption); obtain ⟨i038, hi038, _, hsz38, _⟩ := info_parts info9; have hroom38 : x3_1.length ≤ co7 := (Kd.R_reads' HO_3.out).2.1; have hC38 : Kd.C Kd.string _ Ao7 x3_1.length x3_1 := (Kd.R_reads' HO_3.out).2.2; have hcut38 := cut_to (P := Tryd.prog) 22 9 .i64 Tryd.underlying22 hi038 Ao7 x3_1.length co7 x5_2 (of_decide_eq_true (by first | (with_reducible assumption) | assumption)) q38 hroom38; have hr38 := Kd.C_take (m := (x5_2 : Int).toNat) hC38 (by omega); have hy38 : y161.length = (x5_2 : Int).toNat := (by rw [Ny161.out, List.length_take]; omega); rw [← Ny161.out] at hr38; rw [← hy38] at hcut38; have HR164 := Aside0.mk hr38; have HC164 := Aside0.mk (show y161.length ≤ co7 from by omega); clear hr38 hC38 hroom38 hi038 hsz38; have KY38 := Aside0.mk hy38; clear hy38; have KL38 := Aside0.mk (show (x5_2 : Int).toNat ≤ x3_1.length from by omega); replace q38 := eq_true q38) | ((with_reducible refine gate_builtin (b := .append) (xs := #[.tmp 36, .tmp 39]) rfl ?_); at_builtin; refine Kd.R_append_rows Kd.string (w0 := w) w.heap.size rfl (.tmp 36) (.tmp 39) 22 9 (.string ⟨#[]⟩) 16 rfl Tryd.underlying22 info9 rfl (by decide) (by omega) v159 y158 y161 _ _ _ (fun k_ => some k_ ≠ (.slice Ao7 x3_1.length co7 : Value).ownBlock) (fun _ => False) rfl rfl ?aO ?aR (fun _ _ h => h) (fun _ h => h.elim) ?aF ?aB ?aS ?aL ?_; (case aR => repeat (first | exact (by repeat (first | (with_reducible exact HR164.out) | (with_reducible refine Kd.C_alloc ?_ _) | (with_reducible refine Kd.C_drewN ?_ _) | (with_reducible refine Kd.C_drew ?_) | exact HR164.out)) | (with_reducible refine Kd.C_alloc ?_ _) | (with_reducible refine Kd.C_drewN ?_ _) | (with_reducible refine Kd.C_drew ?_))); (case aB => exact (by repeat (first | (with_reducible first | exact HB.out | apply below_alloc | apply pw_below_drewN | apply below_drew1) | exact HB.out))); (case aF => exact (fun k_ hk => Kd.fresh' (Kd.R_lt (by (with_reducible repeat (first | apply Kd.R_alloc | apply Kd.R_drewN | apply Kd.R_drew)); exact HO_3.out)) k_ hk)); (case aO => exact (by (with_reducible repeat (first | apply Kd.R_alloc | apply Kd.R_drewN | apply Kd.R_drew)); exact Kd.R_mono HO160.out (fun _ hk => hk.2))); (case aS => exact (below_size (by repeat (first | (with_reducible first | exact HB.out | apply below_alloc | apply pw_below_drewN | apply below_drew1) | exact HB.out)))); (case aL => have := LMc29.out; omega); intro v166 w39 ho hb hg hat; rw [← Ny165.out] at ho; have n0_ := Aside0.mk (Kd.R_after (ok := (fun _ => True)) (by (with_reducible repeat (first | apply Kd.R_alloc | apply Kd.R_drewN | apply Kd.R_drew)); exact HO_3.out) hg hat); have n1_ := Aside0.mk (hb); have n2_ := Aside0.mk ((show Kd.C Kd.string w39 Ao7 y161.length y161 from by rw [Ny161.out]; exact Kd.C_take (m := (x5_2 : Int).toNat) ((Kd.R_reads' (Kd.R_after (ok := (fun _ => True)) (by (with_reducible repeat (first | apply Kd.R_alloc | apply Kd.R_drewN | apply Kd.R_drew)); exact HO_3.out) hg hat)).2.2) KL38.out)); have n3_ := Aside0.mk (ho); clear HO_3; clear HB; clear HR164; clear HO160; have HO_3 := n0_; have HB := n1_; have HR164 := n2_; have HO167 := n3_; clear n0_ n1_ n2_ n3_; clear ho hb hg hat; have p168 : 0 ≤ (x4_1 : Int) := of_decide_eq_true (by first | (with_reducible assumption) | assumption); have q168 : x4_1 < (l0.length : Int) := of_decide_eq_true (by first | (with_reducible assumption) | assumption); obtain ⟨ad168, e168, hx168_0⟩ := Kd.at_string HR0.out x4_1 p168 q168; obtain rfl : ad133 = ad168 := (by injection e168); replace hx168_0 := (HB.out.cell (World.block_lt_of_cell? w _ hx168_0)).trans hx168_0; replace p168 := eq_true p168; replace q168 := eq_true q168) | ((with_reducible refine gate_builtin (b := .append) (xs := #[.tmp 41, .tmp 46]) rfl ?_); at_builtin; refine Kd.R_append Kd.string (w0 := w) w.heap.size rfl (.tmp 41) (.tmp 46) 22 9 (.string ⟨#[]⟩) 16 rfl Tryd.underlying22 info9 rfl (by decide) (by omega) v166 y165 (rdOf ByteArray.empty l0 x4_1) [.string (rdOf ByteArray.empty l0 x4_1)] (fun k_ => some k_ ≠ (.slice Ao7 x3_1.length co7 : Value).ownBlock) (fun _ => False) rfl rfl ?aP (fun _ hk => hk.elim) ?aF ?aO ?aB ?aS ?aL ?_; (case aP => exact rfl); (case aB => exact (by repeat (first | (with_reducible first | exact HB.out | apply below_alloc | apply pw_below_drewN | apply below_drew1) | exact HB.out))); (case aF => exact (fun k_ hk => Kd.fresh' (Kd.R_lt (by (with_reducible repeat (first | apply Kd.R_alloc | apply Kd.R_drewN | apply Kd.R_drew)); exact HO_3.out)) k_ hk)); (case aO => exact (by (with_reducible repeat (first | apply Kd.R_alloc | apply Kd.R_drewN | apply Kd.R_drew)); exact HO167.out)); (case aS => exact (below_size (by repeat (first | (with_reducible first | exact HB.out | apply below_alloc | apply pw_below_drewN | apply below_drew1) | exact HB.out)))); (case aL => have := LMc32.out; omega); intro v170 w40 ho hb hg hat; rw [← Ny169.out] at ho; have n0_ := Aside0.mk (Kd.R_after (ok := (fun _ => True)) (by (with_reducible repeat (first | apply Kd.R_alloc | apply Kd.R_drewN | apply Kd.R_drew)); exact HO_3.out) hg hat); have n1_ := Aside0.mk (hb); have n2_ := Aside0.mk ((show Kd.C Kd.string w40 Ao7 y161.length y161 from by rw [Ny161.out]; exact Kd.C_take (m := (x5_2 : Int).toNat) ((Kd.R_reads' (Kd.R_after (ok := (fun _ => True)) (by (with_reducible repeat (first | apply Kd.R_alloc | apply Kd.R_drewN | apply Kd.R_drew)); exact HO_3.out) hg hat)).2.2) KL38.out)); have n3_ := Aside0.mk (ho); clear HO_3; clear HB; clear HR164; clear HO167; have HO_3 := n0_; have HB := n1_; have HR164 := n2_; have HO171 := n3_; clear n0_ n1_ n2_ n3_; clear ho hb hg hat; have q41 : (x5_2 : Int) ≤ ((x3_1.length : Int) : Int) := of_decide_eq_true (by first | (with_reducible assumption) | assumption); obtain ⟨i041, hi041, _, hsz41, _⟩ := info_parts info9; have hroom41 : x3_1.length ≤ co7 := (Kd.R_reads' HO_3.out).2.1; have hC41 : Kd.C Kd.string _ Ao7 x3_1.length x3_1 := (Kd.R_reads' HO_3.out).2.2; have q041 : (0 : Int) ≤ (x5_2 : Int) := of_decide_eq_true (by first | (with_reducible assumption) | assumption); have hcut41 := cut_from (P := Tryd.prog) 22 9 .i64 Tryd.underlying22 hi041 1 hsz41 Ao7 x3_1.length co7 x5_2 q041 q41; have hr41 := Kd.C_drop (m := (x5_2 : Int).toNat) (c := co7) hC41 (by omega) hroom41; obtain ⟨A41, hA41⟩ : ∃ A1, A1 = (if co7 = (x5_2 : Int).toNat then Ao7 else (Ao7 : Option Addr).map (·.add ((x5_2 : Int).toNat * 1))) := ⟨_, rfl⟩; obtain ⟨c41, hc41⟩ : ∃ c1, c1 = co7 - (x5_2 : Int).toNat := ⟨_, rfl⟩; have hy41 : y172.length = x3_1.length - (x5_2 : Int).toNat := (by rw [Ny172.out, List.length_drop] <;> omega); rw [show (x3_1).drop (x5_2 : Int).toNat = y172 from Ny172.out.symm] at hr41; replace hr41 : Kd.C Kd.string _ A41 y172.length y172 := (by rw [hA41]; exact hr41); rw [← hy41, ← hA41, ← hc41] at hcut41; have HR175 := Aside0.mk hr41; have HC175 := Aside0.mk (show y172.length ≤ c41 from by rw [hy41, hc41]; exact Nat.sub_le_sub_right hroom41 _); clear hr41 hC41 hroom41 hi041 hsz41 hc41; have KY41 := Aside0.mk hy41; have KA41 := Aside0.mk hA41; clear hy41 hA41; have KL41 := Aside0.mk (show (x5_2 : Int).toNat ≤ x3_1.length from by omega); replace q41 := eq_true q41) | ((with_reducible refine gate_builtin (b := .append) (xs := #[.tmp 48, .tmp 51]) rfl ?_); at_builtin; refine Kd.R_append_rows Kd.string (w0 := w) w.heap.size rfl (.tmp 48) (.tmp 51) 22 9 (.string ⟨#[]⟩) 16 rfl Tryd.underlying22 info9 rfl (by decide) (by omega) v170 y169 y172 _ _ _ (fun k_ => some k_ ≠ (.slice Ao7 x3_1.length co7 : Value).ownBlock) (fun _ => False) rfl rfl ?aO ?aR (fun _ _ h => h) (fun _ h => h.elim) ?aF ?aB ?aS ?aL ?_; (case aR => repeat (first | exact (by repeat (first | (with_reducible exact HR175.out) | (with_reducible refine Kd.C_alloc ?_ _) | (with_reducible refine Kd.C_drewN ?_ _) | (with_reducible refine Kd.C_drew ?_) | exact HR175.out)) | (with_reducible refine Kd.C_alloc ?_ _) | (with_reducible refine Kd.C_drewN ?_ _) | (with_reducible refine Kd.C_drew ?_))); (case aB => exact (by repeat (first | (with_reducible first | exact HB.out | apply below_alloc | apply pw_below_drewN | apply below_drew1) | exact HB.out))); (case aF => exact (fun k_ hk => Kd.fresh' (Kd.R_lt (by (with_reducible repeat (first | apply Kd.R_alloc | apply Kd.R_drewN | apply Kd.R_drew)); exact HO_3.out)) k_ hk)); (case aO => exact (by (with_reducible repeat (first | apply Kd.R_alloc | apply Kd.R_drewN | apply Kd.R_drew)); exact HO171.out)); (case aS => exact (below_size (by repeat (first | (with_reducible first | exact HB.out | apply below_alloc | apply pw_below_drewN | apply below_drew1) | exact HB.out)))); (case aL => have := LMc35.out; omega); intro v177 w42 ho hb hg hat; rw [← Ny176.out] at ho; have n0_ := Aside0.mk (Kd.R_after (ok := (fun _ => True)) (by (with_reducible repeat (first | apply Kd.R_alloc | apply Kd.R_drewN | apply Kd.R_drew)); exact HO_3.out) hg hat); have n1_ := Aside0.mk (hb); have n2_ := Aside0.mk ((show Kd.C Kd.string w42 Ao7 y161.length y161 from by rw [Ny161.out]; exact Kd.C_take (m := (x5_2 : Int).toNat) ((Kd.R_reads' (Kd.R_after (ok := (fun _ => True)) (by (with_reducible repeat (first | apply Kd.R_alloc | apply Kd.R_drewN | apply Kd.R_drew)); exact HO_3.out) hg hat)).2.2) KL38.out)); have n3_ := Aside0.mk ((show Kd.C Kd.string w42 A41 y172.length y172 from by rw [Ny172.out, KA41.out]; exact Kd.C_drop (m := (x5_2 : Int).toNat) (c := co7) ((Kd.R_reads' (Kd.R_after (ok := (fun _ => True)) (by (with_reducible repeat (first | apply Kd.R_alloc | apply Kd.R_drewN | apply Kd.R_drew)); exact HO_3.out) hg hat)).2.2) KL41.out ((Kd.R_reads' (Kd.R_after (ok := (fun _ => True)) (by (with_reducible repeat (first | apply Kd.R_alloc | apply Kd.R_drewN | apply Kd.R_drew)); exact HO_3.out) hg hat)).2.1))); have n4_ := Aside0.mk (ho); clear HO_3; clear HB; clear HR164; clear HR175; clear HO171; have HO_3 := n0_; have HB := n1_; have HR164 := n2_; have HR175 := n3_; have HO178 := n4_; clear n0_ n1_ n2_ n3_ n4_; clear ho hb hg hat)))
                                go_roundg k2
                                case measure => have := HK1.out; have := HK2.out; omega
                                case rel => exact ⟨(y176), (wrap64 (x4_1 + 1)), (by first | rfl | (simp; done) | (simp [*]; done)), H', ⟨by have := HK1.out; have := HK2.out; omega⟩, ⟨by (with_reducible repeat (first | apply Kd.R_alloc | apply Kd.R_drewN | apply Kd.R_drew)); exact Kd.R_mono HO178.out (fun _ hk => trivial)⟩, ⟨by repeat (first | (with_reducible first | exact HB.out | apply below_alloc | apply pw_below_drewN | apply below_drew1) | exact HB.out)⟩⟩
                              · rw [if_neg c35] at H
                                exact absurd H (by simp)
                            · rw [if_neg c32] at H
                              exact absurd H (by simp)
                          · rw [if_neg c31] at H
                            exact absurd H (by simp)
                        · rw [if_neg c30] at H
                          exact absurd H (by simp)
                      · rw [if_neg c29] at H
                        exact absurd H (by simp)
                    · rw [if_neg c28] at H
                      exact absurd H (by simp)
                  · rw [if_neg c27] at H
                    exact absurd H (by simp)
        · rw [if_neg c3] at H
          exact absurd H (by simp)
      · rw [if_neg c2] at H
        have c2b0 : decide (x4_1 < (l0.length : Int)) = false := decide_eq_false c2
        clear c2
        obtain rfl := Option.some.inj H
        go_wp2
        repeat (go_quiet (fail); try go_wp2)
        go_ret
        exact ⟨_, by first | rfl | (simp [errW_none, errW_some] <;> rfl) | (simp [*, errW_none, errW_some] <;> rfl), by (with_reducible repeat (first | apply Kd.R_alloc | apply Kd.R_drewN | apply Kd.R_drew)); exact HO_3.out, by repeat (first | (with_reducible first | exact HB.out | apply below_alloc | apply pw_below_drewN | apply below_drew1) | exact HB.out)⟩

-- NOT PRINTED: function 71 (strconv_lower)

-- NOT PRINTED: function 72 (strconv_underscoreOK)

-- NOT PRINTED: function 62 (strconv_ParseUint)

-- NOT PRINTED: function 54 (strconv_ParseInt_54)

-- NOT PRINTED: function 73 (stringslite_Clone)

-- NOT PRINTED: function 63 (strconv_syntaxError)

-- NOT PRINTED: function 64 (strconv_rangeError)

/-! ### errors_New: function 48 -/
set_option maxHeartbeats 1000000 in
theorem errors_New.calls (s : ByteArray) (w : World) :
    Calls Tryd.prog 48 #[.string s] w fun e w' => (∃ x, e = .returned (.iface 85 x)) ∧ Below w.heap.size w w' := by
  have hu1 := Tryd.underlying87
  go_enter Tryd.func48, Tryd.ntmps48
  go_wp2_with fail
  go_ret
  exact ⟨⟨_, rfl⟩, by repeat (first | (with_reducible exact Below.refl _ _) | apply below_alloc | apply pw_below_drewN | apply below_drew1)⟩
-- NOT PRINTED: function 95 (strconv_small)

-- NOT PRINTED: function 85 (bits_Len64)

-- NOT PRINTED: function 99 (strconv_log10Pow2)

-- NOT PRINTED: function 100 (strconv_bool2_int)

-- NOT PRINTED: function 96 (strconv_numDigits)

-- NOT PRINTED: function 97 (strconv_formatBase10)

-- NOT PRINTED: function 101 (strconv_isPowerOfTwo)

-- NOT PRINTED: function 103 (bits_TrailingZeros32)

-- NOT PRINTED: function 104 (bits_TrailingZeros64)

-- NOT PRINTED: function 102 (bits_TrailingZeros)

-- NOT PRINTED: function 98 (strconv_formatBits)

-- NOT PRINTED: function 93 (strconv_FormatInt)

-- NOT PRINTED: function 86 (strconv_Itoa_86)

-- NOT PRINTED: function 74 (strconv_Itoa_74)

-- NOT PRINTED: function 65 (strconv_baseError)

-- NOT PRINTED: function 66 (strconv_bitSizeError)

-- NOT PRINTED: function 55 (strconv_toError)

-- NOT PRINTED: function 44 (strconv_ParseInt_44)

-- NOT PRINTED: function 40 (labels_NewRequirement)

/-! ### impl_texts: function 41 -/
def impl_texts.f (l0 : List ByteArray) : Option (List ByteArray) := (some (([] : List ByteArray) : List ByteArray)).bind fun y179 => (if y179.length + l0.length < 8796093022208 then (some (y179 ++ l0)) else (none))
set_option maxHeartbeats 8000000 in
set_option maxRecDepth 100000 in
theorem impl_texts.calls (A0 : Option Addr) (c0 : Nat) (l0 : List ByteArray) (r : List ByteArray) (w : World) (hr0 : Kd.C Kd.string w A0 l0.length l0) (hc0 : l0.length ≤ c0) (h : impl_texts.f l0 = some r) :
    Calls Tryd.prog 41 #[.slice A0 l0.length c0] w fun e w' => ∃ v0_ : Value, e = .returned (v0_) ∧ Kd.R Kd.string 9 w' w.heap.size (fun _ => True) v0_ r ∧ Below w.heap.size w w' := by
  have HR0 := Aside0.mk hr0
  have HC0 := Aside0.mk hc0
  clear hr0 hc0
  have HB := Aside0.mk (Below.refl w.heap.size w)
  have H : ((some (([] : List ByteArray) : List ByteArray)).bind fun y179 => (if y179.length + l0.length < 8796093022208 then (some (y179 ++ l0)) else (none))) = some r := h
  clear h
  obtain ⟨y179, hy179⟩ : ∃ y_ : List ByteArray, y_ = (([] : List ByteArray)) := ⟨_, rfl⟩
  replace H : (if y179.length + l0.length < 8796093022208 then (some (y179 ++ l0)) else (none)) = some r := by first | (rw [hy179]; with_reducible exact H) | (have H2_ := (Option.bind_some _ _).symm.trans H; rw [hy179]; with_reducible exact H2_) | (have H2_ := (Option.bind_some _ _).symm.trans H; with_reducible exact H2_) | with_reducible exact H | (rw [hy179]; exact H) | exact H
  have Ny179 := Aside0.mk hy179
  clear hy179
  by_cases c2 : y179.length + l0.length < 8796093022208
  · rw [if_pos c2] at H
    have LMc2 := Aside0.mk c2
    clear c2
    obtain ⟨y182, hy182⟩ : ∃ y_ : List ByteArray, y_ = (y179 ++ l0) := ⟨_, rfl⟩
    replace H : (some y182) = some r := by first | (rw [hy182]; with_reducible exact H) | (have H2_ := (Option.bind_some _ _).symm.trans H; rw [hy182]; with_reducible exact H2_) | (have H2_ := (Option.bind_some _ _).symm.trans H; with_reducible exact H2_) | with_reducible exact H | (rw [hy182]; exact H) | exact H
    have Ny182 := Aside0.mk hy182
    clear hy182
    obtain rfl := Option.some.inj H
    go_enter Tryd.func41, Tryd.ntmps41
    go_wp2_with (first | ((with_reducible refine gate_dst (N := 3) rfl ?_); refine Kd.R_lit Kd.string _ 9 ?hg (N := 3) ?hd (xs := ([] : List ByteArray)) (inner := []) (ok := fun _ => True) (okp := fun _ => True) ?hr ?hp (fun _ hk => hk) trivial (Below.refl _ _) (Nat.le_refl _) (by simp) ?_; (case hd => rfl); (case hg => rfl); (case hr => first | (go_simp; done) | (go_simp; rfl)); (case hp => exact (Reps.none _ _)); intro v180 w3 ho4 hb hg_ hnew_; clear hg_ hnew_; (first | rw [← Ny179.out] at ho4 | (simp only [Int.reduceToNat] at ho4; rw [← Ny179.out] at ho4)); have n0_ := Aside0.mk (Kd.R_lower ho4 (below_size (by repeat (first | (with_reducible first | exact HB.out | apply below_alloc | apply pw_below_drewN | apply below_drew1) | exact HB.out)))); have n1_ := Aside0.mk (below_step (by repeat (first | (with_reducible first | exact HB.out | apply below_alloc | apply pw_below_drewN | apply below_drew1) | exact HB.out)) hb); clear HB; have HO181 := n0_; have HB := n1_; clear n0_ n1_; clear hb ho4) | ((with_reducible refine gate_builtin (b := .append) (xs := #[.tmp 3, .tmp 4]) rfl ?_); at_builtin; refine Kd.R_append_rows Kd.string (w0 := w) w.heap.size rfl (.tmp 3) (.tmp 4) 22 9 (.string ⟨#[]⟩) 16 rfl Tryd.underlying22 info9 rfl (by decide) (by omega) v180 y179 l0 _ _ _ (fun _ => True) (fun _ => False) rfl rfl ?aO ?aR (fun _ _ h => h) (fun _ h => h.elim) ?aF ?aB ?aS ?aL ?_; (case aR => repeat (first | exact (Kd.C_below HR0.out HB.out) | (with_reducible refine Kd.C_alloc ?_ _) | (with_reducible refine Kd.C_drewN ?_ _) | (with_reducible refine Kd.C_drew ?_))); (case aB => exact (by repeat (first | (with_reducible first | exact HB.out | apply below_alloc | apply pw_below_drewN | apply below_drew1) | exact HB.out))); (case aF => exact (fun _ _ => trivial)); (case aO => exact (by (with_reducible repeat (first | apply Kd.R_alloc | apply Kd.R_drewN | apply Kd.R_drew)); exact HO181.out)); (case aS => exact (below_size (by repeat (first | (with_reducible first | exact HB.out | apply below_alloc | apply pw_below_drewN | apply below_drew1) | exact HB.out)))); (case aL => have := LMc2.out; omega); intro v183 w5 ho hb hg hat; rw [← Ny182.out] at ho; have n0_ := Aside0.mk (hb); have n1_ := Aside0.mk (ho); clear HB; clear HO181; have HB := n0_; have HO184 := n1_; clear n0_ n1_; clear ho hb hg hat))
    go_ret
    exact ⟨_, by first | rfl | (simp [errW_none, errW_some] <;> rfl) | (simp [*, errW_none, errW_some] <;> rfl), by (with_reducible repeat (first | apply Kd.R_alloc | apply Kd.R_drewN | apply Kd.R_drew)); exact HO184.out, by repeat (first | (with_reducible first | exact HB.out | apply below_alloc | apply pw_below_drewN | apply below_drew1) | exact HB.out)⟩
  · rw [if_neg c2] at H
    exact absurd H (by simp)

end Go.Proofs.YtlhbmifffmegeaaDoor.PFnNeedEqual
