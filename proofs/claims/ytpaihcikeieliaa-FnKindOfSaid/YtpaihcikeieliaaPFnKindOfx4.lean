/- Functions of the program as plain Lean functions, and that the machine's calls do what these say: written for this claim by wip/myprint.py over the kit's print.py. -/
import Derived.Test.YtpaihcikeieliaaPFnKindOfx0
import Derived.Test.YtpaihcikeieliaaPFnKindOfx1
import Derived.Test.YtpaihcikeieliaaPFnKindOfx2
import Derived.Test.YtpaihcikeieliaaPFnKindOfx3
namespace Go.Proofs.Ytpaihcikeieliaa.PFnKindOf
open Go.RowKit Go.Proofs.YtpaihcikeieliaaW.PrintWords Go.Proofs.YtpaihcikeieliaaW.PrintLast Go.Proofs.YtpaihcikeieliaaW.PrintMore
attribute [local go_sem] max2_int min2_int max_two min_two max_three min_three max_four min_four   -- for this text's walks alone
set_option linter.unusedVariables false
set_option linter.unusedSimpArgs false

attribute [local go_sem high] eqA25
/-! ### laws_FnKindOf: function 7 -/
def laws_FnKindOf.j0 : Nat → ByteArray → ByteArray → Bool → Option (Bool)
  | 0, _, _, _ => none
  | k + 1, x0, x1, x17 => if x17 = true then (some true) else ((impl_KindOf.f k x0 x1).bind fun bt126 => ((spec_KindOf.f k x0 x1).bind fun bt130 => (if (!(bt126.1.toList == bt130.1.toList) || (!(bt126.2.1.toList == bt130.2.1.toList) || (!(bt126.2.2.toList == bt130.2.2.toList)))) = true then (some false) else ((spec_GroupVersion.f k x0).bind fun bt133 => (if bt133.2.2.2 = true then (if x0.toList = ([] : List UInt8) then ((impl_KindTo.f bt126.1 bt126.2.1 bt126.2.2).bind fun bt138 => (if bt138.1.toList = x0.toList then (some (bt138.2.toList == x1.toList)) else (some false))) else (if 0 < (x0.size : Int) then (if (bt x0 0) = 47 then (some true) else ((impl_KindTo.f bt126.1 bt126.2.1 bt126.2.2).bind fun bt140 => (if bt140.1.toList = x0.toList then (some (bt140.2.toList == x1.toList)) else (some false)))) else (none))) else (some true))))))
def laws_FnKindOf.f (k : Nat) (a0 : ByteArray) (a1 : ByteArray) : Option (Bool) := if (a0.size : Int) > 2147483647 then (laws_FnKindOf.j0 k a0 a1 true) else (laws_FnKindOf.j0 k a0 a1 (decide ((a1.size : Int) > 2147483647)))
theorem laws_FnKindOf.mono_l : ∀ k, (∀ y0 y1 y2, LeO (laws_FnKindOf.j0 k y0 y1 y2) (laws_FnKindOf.j0 (k + 1) y0 y1 y2))
  | 0 => fun _ _ _ r h => by simp [laws_FnKindOf.j0] at h
  | k + 1 => by
    have ih0 := laws_FnKindOf.mono_l k
    · intro y0 y1 y2
      unfold laws_FnKindOf.j0
      repeat' first
      | (with_reducible exact ih0 _ _ _)
      | (with_reducible exact impl_KindOf.mono _ _ _)
      | (with_reducible exact spec_GroupVersion.mono _ _)
      | (with_reducible exact spec_KindOf.mono _ _ _)
      | (with_reducible exact LeO.refl _)
      | (with_reducible exact LeO.none _)
      | (with_reducible refine LeO.ite ?_ ?_)
      | (with_reducible refine LeO.bind ?_ (fun _ => ?_))
      | exact ih0 _ _ _
      | exact impl_KindOf.mono _ _ _
      | exact spec_GroupVersion.mono _ _
      | exact spec_KindOf.mono _ _ _
      | exact LeO.none _
      | refine LeO.ite ?_ ?_
      | refine LeO.bind ?_ (fun _ => ?_)
theorem laws_FnKindOf.mono : ∀ a0 a1 k, LeO (laws_FnKindOf.f k a0 a1) (laws_FnKindOf.f (k + 1) a0 a1) := by
  intro a0 a1 k
  have ih0 := laws_FnKindOf.mono_l k
  unfold laws_FnKindOf.f
  repeat' first
      | (with_reducible exact ih0 _ _ _)
      | (with_reducible exact impl_KindOf.mono _ _ _)
      | (with_reducible exact spec_GroupVersion.mono _ _)
      | (with_reducible exact spec_KindOf.mono _ _ _)
      | (with_reducible exact LeO.refl _)
      | (with_reducible exact LeO.none _)
      | (with_reducible refine LeO.ite ?_ ?_)
      | (with_reducible refine LeO.bind ?_ (fun _ => ?_))
      | exact ih0 _ _ _
      | exact impl_KindOf.mono _ _ _
      | exact spec_GroupVersion.mono _ _
      | exact spec_KindOf.mono _ _ _
      | exact LeO.none _
      | refine LeO.ite ?_ ?_
      | refine LeO.bind ?_ (fun _ => ?_)
set_option maxHeartbeats 8000000 in
set_option maxRecDepth 100000 in
theorem laws_FnKindOf.calls (k : Nat) (a0 : ByteArray) (a1 : ByteArray) (r : Bool) (w : World) (h : laws_FnKindOf.f k a0 a1 = some r) :
    Calls Try.prog 7 #[.string a0, .string a1] w fun e w' => e = .returned (.bool r) ∧ Below w.heap.size w w' := by
  have hu25 := Try.underlying25
  have HB := Aside0.mk (Below.refl w.heap.size w)
  have H : (if (a0.size : Int) > 2147483647 then (laws_FnKindOf.j0 k a0 a1 true) else (laws_FnKindOf.j0 k a0 a1 (decide ((a1.size : Int) > 2147483647)))) = some r := h
  clear h
  have HC3 := Aside0.mk H
  clear H
  go_enter Try.func7, Try.ntmps7
  go_upto_region 1 with (fail)
  go_cut [17] (fun v17 wc => ∃ (kq : Nat) (x17_2 : Bool), v17 = .bool x17_2 ∧ Aside0 (laws_FnKindOf.j0 kq a0 a1 x17_2 = some r) ∧ Aside0 (kq ≤ k) ∧ Aside0 (Below w.heap.size w wc))
  case first =>
    have H := HC3.out
    clear HC3
    by_cases c4 : (a0.size : Int) > 2147483647
    · rw [if_pos c4] at H
      have c4b0 : decide (2147483647 < (a0.size : Int)) = true := decide_eq_true c4
      have c4b1 : decide (2147483647 < a0.size) = true := decide_eq_true (by omega)
      clear c4
      (first | rw [c4b0] | (simp only [i64_w, i32_w]; rw [c4b0]) | skip)
      have H' := Aside0.mk H
      clear H
      go_wp2
      go_meet
      case rel => exact ⟨_, (true), (by first | rfl | (simp; done) | (simp [*]; done)), H', ⟨by first | omega | exact Nat.le_refl _⟩, ⟨by repeat (first | (with_reducible first | exact HB.out | apply below_alloc | apply pw_below_drewN | apply below_drew1) | exact HB.out)⟩⟩
    · rw [if_neg c4] at H
      have c4b0 : decide (2147483647 < (a0.size : Int)) = false := decide_eq_false c4
      have c4b1 : decide (2147483647 < a0.size) = false := decide_eq_false (by omega)
      clear c4
      (first | rw [c4b0] | (simp only [i64_w, i32_w]; rw [c4b0]) | skip)
      have H' := Aside0.mk H
      clear H
      go_wp2
      go_meet
      case rel => exact ⟨_, (decide ((a1.size : Int) > 2147483647)), (by first | rfl | (simp; done) | (simp [*]; done)), H', ⟨by first | omega | exact Nat.le_refl _⟩, ⟨by repeat (first | (with_reducible first | exact HB.out | apply below_alloc | apply pw_below_drewN | apply below_drew1) | exact HB.out)⟩⟩
  case rest =>
    clear HC3
    try clear p2
    try clear c4
    try clear c4b0
    try clear c4b1
    obtain ⟨kq, x17_2, rfl, HA, HJ2, HB⟩ := hcut
    cases kq with
    | zero => exact absurd HA.out (by simp [laws_FnKindOf.j0])
    | succ kj2 =>
      have H := HA.out
      clear HA
      simp only [laws_FnKindOf.j0] at H
      by_cases c5 : x17_2 = true
      · subst c5
        have H1 : (some true) = some r := by rw [if_pos rfl] at H; exact H
        clear H
        have H := H1
        clear H1
        obtain rfl := Option.some.inj H
        go_wp2
        go_ret
        exact ⟨by first | rfl | (simp [errW_none, errW_some] <;> rfl) | (simp [*, errW_none, errW_some] <;> rfl), by repeat (first | (with_reducible first | exact HB.out | apply below_alloc | apply pw_below_drewN | apply below_drew1) | exact HB.out)⟩
      · replace c5 := Bool.eq_false_iff.mpr c5
        subst c5
        have H1 : ((impl_KindOf.f kj2 a0 a1).bind fun bt126 => ((spec_KindOf.f kj2 a0 a1).bind fun bt130 => (if (!(bt126.1.toList == bt130.1.toList) || (!(bt126.2.1.toList == bt130.2.1.toList) || (!(bt126.2.2.toList == bt130.2.2.toList)))) = true then (some false) else ((spec_GroupVersion.f kj2 a0).bind fun bt133 => (if bt133.2.2.2 = true then (if a0.toList = ([] : List UInt8) then ((impl_KindTo.f bt126.1 bt126.2.1 bt126.2.2).bind fun bt138 => (if bt138.1.toList = a0.toList then (some (bt138.2.toList == a1.toList)) else (some false))) else (if 0 < (a0.size : Int) then (if (bt a0 0) = 47 then (some true) else ((impl_KindTo.f bt126.1 bt126.2.1 bt126.2.2).bind fun bt140 => (if bt140.1.toList = a0.toList then (some (bt140.2.toList == a1.toList)) else (some false)))) else (none))) else (some true)))))) = some r := by rw [if_neg (show ¬ (false = true) by decide)] at H; exact H
        clear H
        have H := H1
        clear H1
        replace H := Option.bind_eq_some_iff.mp H
        obtain ⟨⟨t126, t127, t128⟩, A60, H⟩ := H
        replace H : ((spec_KindOf.f kj2 a0 a1).bind fun bt130 => (if (!(t126.toList == bt130.1.toList) || (!(t127.toList == bt130.2.1.toList) || (!(t128.toList == bt130.2.2.toList)))) = true then (some false) else ((spec_GroupVersion.f kj2 a0).bind fun bt133 => (if bt133.2.2.2 = true then (if a0.toList = ([] : List UInt8) then ((impl_KindTo.f t126 t127 t128).bind fun bt138 => (if bt138.1.toList = a0.toList then (some (bt138.2.toList == a1.toList)) else (some false))) else (if 0 < (a0.size : Int) then (if (bt a0 0) = 47 then (some true) else ((impl_KindTo.f t126 t127 t128).bind fun bt140 => (if bt140.1.toList = a0.toList then (some (bt140.2.toList == a1.toList)) else (some false)))) else (none))) else (some true))))) = some r := H
        have A6 := Aside0.mk A60
        clear A60
        replace H := Option.bind_eq_some_iff.mp H
        obtain ⟨⟨t130, t131, t132⟩, A70, H⟩ := H
        replace H : (if (!(t126.toList == t130.toList) || (!(t127.toList == t131.toList) || (!(t128.toList == t132.toList)))) = true then (some false) else ((spec_GroupVersion.f kj2 a0).bind fun bt133 => (if bt133.2.2.2 = true then (if a0.toList = ([] : List UInt8) then ((impl_KindTo.f t126 t127 t128).bind fun bt138 => (if bt138.1.toList = a0.toList then (some (bt138.2.toList == a1.toList)) else (some false))) else (if 0 < (a0.size : Int) then (if (bt a0 0) = 47 then (some true) else ((impl_KindTo.f t126 t127 t128).bind fun bt140 => (if bt140.1.toList = a0.toList then (some (bt140.2.toList == a1.toList)) else (some false)))) else (none))) else (some true)))) = some r := H
        have A7 := Aside0.mk A70
        clear A70
        by_cases c8 : (!(t126.toList == t130.toList) || (!(t127.toList == t131.toList) || (!(t128.toList == t132.toList)))) = true
        · rw [if_pos c8] at H
          have c8b0 : (!(t126.toList == t130.toList) || (!(t127.toList == t131.toList) || (!(t128.toList == t132.toList)))) = true := c8
          clear c8
          obtain rfl := Option.some.inj H
          try go_wp2_with (first | ((with_reducible refine gate_callee (f := 27) rfl ?_); refine goesL_ (some 20) rfl rfl Try.func27 (by kernel_rfl) rfl #[.string a0, .string a1] rfl (by (try simp only [List.map_toArray, List.map_cons, List.map_nil]); first | done | rfl | (simp only [List.length_drop, List.length_take]; rfl)) ?_; (with_reducible refine (impl_KindOf.calls kj2 a0 a1 t126 t127 t128 _ A6.out).mono ?_); rintro e w9 ⟨rfl, hb⟩; refine ⟨_, rfl, ?_⟩; have n0_ := Aside0.mk (below_step (by repeat (first | (with_reducible first | exact HB.out | apply below_alloc | apply pw_below_drewN | apply below_drew1) | exact HB.out)) hb); clear HB; have HB := n0_; clear n0_; (try clear hb); (try clear hb2); (try clear hk); (try clear hi)) | ((with_reducible refine gate_dst (N := 5) rfl ?_); (try (refine gate_guard (by rfl) ?_; dsimp only)); refine box_event ?hg (N := 5) ?hd (cs := #[.string (⟨#[]⟩ : ByteArray), .string (⟨#[]⟩ : ByteArray), .string (⟨#[]⟩ : ByteArray)]) (t := 25) ?hr ?_; (case hd => rfl); (case hg => rfl); (case hr => first | (go_simp; done) | (go_simp; rfl)); intro gb129 hg w10 hbox hb; have n0_ := Aside0.mk (below_step (by repeat (first | (with_reducible first | exact HB.out | apply below_alloc | apply pw_below_drewN | apply below_drew1) | exact HB.out)) hb); have n1_ := Aside0.mk (hbox); have n2_ := Aside0.mk ((by rw [hg]; exact (below_size (by repeat (first | (with_reducible first | exact HB.out | apply below_alloc | apply pw_below_drewN | apply below_drew1) | exact HB.out))) : w.heap.size ≤ gb129)); have n3_ := Aside0.mk ((by rw [hg]; exact (below_size (by repeat (first | (with_reducible first | exact HB.out | apply below_alloc | apply pw_below_drewN | apply below_drew1) | exact HB.out))) : w.heap.size ≤ gb129)); clear HB; have HB := n0_; have BK129 := n1_; have GW129 := n2_; have GE129 := n3_; clear n0_ n1_ n2_ n3_; clear hb hbox hg; have hcz11_0 : w10.cell? ⟨gb129, 0, none⟩ = some (.string (⟨#[]⟩ : ByteArray)) := (blk_cell BK129.out 0).trans rfl; have hcz11_1 : w10.cell? ⟨gb129, 1, none⟩ = some (.string (⟨#[]⟩ : ByteArray)) := (blk_cell BK129.out 1).trans rfl; have hcz11_2 : w10.cell? ⟨gb129, 2, none⟩ = some (.string (⟨#[]⟩ : ByteArray)) := (blk_cell BK129.out 2).trans rfl; have hfz11_0 := blk_frozen BK129.out 0; have hfz11_1 := blk_frozen BK129.out 1; have hfz11_2 := blk_frozen BK129.out 2))
          have n0_ : Aside0 ((((w10.setCell ⟨gb129, 0, none⟩ (.string t126)).setCell ⟨gb129, 1, none⟩ (.string t127)).setCell ⟨gb129, 2, none⟩ (.string t128)).heap[gb129]? = some (.cells #[.string t126, .string t127, .string t128] 25 (0, 0))) := ⟨by (with_reducible repeat (first | refine blk_drewN ?_ _ | refine blk_drew ?_ | refine blk_alloc ?_ _)); refine blk_put (cs := #[.string t126, .string t127, .string (⟨#[]⟩ : ByteArray)]) ?_ 2 _ rfl; (with_reducible repeat (first | refine blk_drewN ?_ _ | refine blk_drew ?_ | refine blk_alloc ?_ _)); refine blk_put (cs := #[.string t126, .string (⟨#[]⟩ : ByteArray), .string (⟨#[]⟩ : ByteArray)]) ?_ 1 _ rfl; (with_reducible repeat (first | refine blk_drewN ?_ _ | refine blk_drew ?_ | refine blk_alloc ?_ _)); refine blk_put (cs := #[.string (⟨#[]⟩ : ByteArray), .string (⟨#[]⟩ : ByteArray), .string (⟨#[]⟩ : ByteArray)]) ?_ 0 _ rfl; (with_reducible repeat (first | refine blk_drewN ?_ _ | refine blk_drew ?_ | refine blk_alloc ?_ _)); exact BK129.out⟩
          have n1_ : Aside0 (Below w.heap.size w (((w10.setCell ⟨gb129, 0, none⟩ (.string t126)).setCell ⟨gb129, 1, none⟩ (.string t127)).setCell ⟨gb129, 2, none⟩ (.string t128))) := ⟨by repeat (first | (with_reducible first | exact HB.out | apply below_alloc | apply pw_below_drewN | apply below_drew1 | refine below_set ?_ GE129.out) | exact HB.out)⟩
          (try clear BK129)
          (try clear HB)
          generalize (((w10.setCell ⟨gb129, 0, none⟩ (.string t126)).setCell ⟨gb129, 1, none⟩ (.string t127)).setCell ⟨gb129, 2, none⟩ (.string t128)) = w12 at n0_ n1_ ⊢
          have BK129 := n0_
          have HB := n1_
          clear n0_ n1_
          have n0_ := Aside0.mk (blk_drew BK129.out)
          have n1_ := Aside0.mk (below_drew1 HB.out)
          clear BK129
          clear HB
          have BK129 := n0_
          have HB := n1_
          clear n0_ n1_
          refine start_ (n := 5) (S := fun w' => w'.cell? ⟨gb129, 0, none⟩ = some (.string t126) ∧ w'.cell? ⟨gb129, 1, none⟩ = some (.string t127) ∧ w'.cell? ⟨gb129, 2, none⟩ = some (.string t128)) (ds := []) #[false, false, false, false, false] (by kernel_rfl) rfl rfl ⟨(blk_cell BK129.out 0).trans rfl, (blk_cell BK129.out 1).trans rfl, (blk_cell BK129.out 2).trans rfl⟩ (fun hHeld => ?_)
          generalize w12.drew = w13 at BK129 HB hHeld ⊢
          refine pure_ (i := 1) (N := some 22) (v := ?_) (a' := ?_) #[false, true, false, false, false] rfl rfl (by kernel_rfl) (fun _ _ _ h => h) (Or.inl ⟨by rfl, ?_⟩) ?_ ?_
          rotate_left
          · intro w'
            go_simp
            with_reducible rfl
          rotate_left
          · simp only [Act.put, List.setIfInBounds_toArray, List.set_cons_zero, List.set_cons_succ, i64_w, i32_w]
            rfl
          refine pure_ (i := 2) (N := some 23) (v := ?_) (a' := ?_) #[false, true, true, false, false] rfl rfl (by kernel_rfl) (fun _ _ _ h => h) (Or.inl ⟨by rfl, ?_⟩) ?_ ?_
          rotate_left
          · intro w'
            go_simp
            with_reducible rfl
          rotate_left
          · simp only [Act.put, List.setIfInBounds_toArray, List.set_cons_zero, List.set_cons_succ, i64_w, i32_w]
            rfl
          refine take_ (i := 0) (N := some 21) (v := ?_) (a' := ?_) #[true, true, true, false, false] rfl rfl (by kernel_rfl) (fun _ _ _ h => h) (Or.inl ⟨by rfl, ?_⟩) hHeld ?_ ?_
          rotate_left
          · rintro w' ⟨s0, s1, s2⟩
            go_simp
            with_reducible rfl
          rotate_left
          · simp only [Act.put, List.setIfInBounds_toArray, List.set_cons_zero, List.set_cons_succ, i64_w, i32_w]
            rfl
          refine one_ (i := 3) (N := some 24) #[true, true, true, true, false] rfl rfl (by kernel_rfl) (by decide) (fun K hK => ?_)
          refine goes_ Try.func28 (by kernel_rfl) rfl #[.string a0, .string a1] (by rfl) rfl rfl (by (try simp only [List.map_toArray, List.map_cons, List.map_nil]); first | done | rfl | (simp only [List.length_drop, List.length_take]; rfl)) ?_
          with_reducible refine (spec_KindOf.calls kj2 a0 a1 t130 t131 t132 _ A7.out).mono ?_
          rintro e w14 ⟨rfl, hb⟩
          refine ⟨_, rfl, ?_⟩
          have n0_ := Aside0.mk (blk_below (g := gb129) (o := .cells #[.string t126, .string t127, .string t128] 25 (0, 0)) (by (with_reducible repeat (first | refine blk_drewN ?_ _ | refine blk_drew ?_ | refine blk_alloc ?_ _)); exact BK129.out) hb)
          have n1_ := Aside0.mk (below_step (by repeat (first | (with_reducible first | exact HB.out | apply below_alloc | apply pw_below_drewN | apply below_drew1 | refine below_set ?_ GE129.out) | exact HB.out)) hb)
          clear BK129
          clear HB
          have BK129 := n0_
          have HB := n1_
          clear n0_ n1_
          (try clear hb)
          (try clear hb2)
          (try clear hk)
          (try clear hi)
          refine hK.out _ _ ⟨(blk_cell BK129.out 0).trans rfl, (blk_cell BK129.out 1).trans rfl, (blk_cell BK129.out 2).trans rfl⟩ (fun hHeld => ?_)
          clear hK K
          refine norm_ (a' := ?_) ?_ ?_
          rotate_left
          · show Act.put _ (some 24) _ = _
            simp only [Act.put, List.setIfInBounds_toArray, List.set_cons_zero, List.set_cons_succ, i64_w, i32_w]
            rfl
          refine pure_ (i := 4) (N := some 25) (v := ?_) (a' := ?_) #[true, true, true, true, true] rfl rfl (by kernel_rfl) (fun _ _ _ h => h) (Or.inl ⟨by rfl, ?_⟩) ?_ ?_
          rotate_left
          · intro w'
            go_simp
            with_reducible rfl
          rotate_left
          · simp only [Act.put, List.setIfInBounds_toArray, List.set_cons_zero, List.set_cons_succ, i64_w, i32_w]
            rfl
          refine done_ (by kernel_rfl) ?_
          try go_wp2
          go_ret
          exact ⟨by first | rfl | (simp [errW_none, errW_some] <;> rfl) | (simp [*, errW_none, errW_some] <;> rfl), by repeat (first | (with_reducible first | exact HB.out | apply below_alloc | apply pw_below_drewN | apply below_drew1 | refine below_set ?_ GE129.out) | exact HB.out)⟩
        · rw [if_neg c8] at H
          have c8b0 : (!(t126.toList == t130.toList) || (!(t127.toList == t131.toList) || (!(t128.toList == t132.toList)))) = false := by simpa using c8
          clear c8
          replace H := Option.bind_eq_some_iff.mp H
          obtain ⟨⟨t133, t134, t135, t136⟩, A150, H⟩ := H
          replace H : (if t136 = true then (if a0.toList = ([] : List UInt8) then ((impl_KindTo.f t126 t127 t128).bind fun bt138 => (if bt138.1.toList = a0.toList then (some (bt138.2.toList == a1.toList)) else (some false))) else (if 0 < (a0.size : Int) then (if (bt a0 0) = 47 then (some true) else ((impl_KindTo.f t126 t127 t128).bind fun bt140 => (if bt140.1.toList = a0.toList then (some (bt140.2.toList == a1.toList)) else (some false)))) else (none))) else (some true)) = some r := H
          have A15 := Aside0.mk A150
          clear A150
          by_cases c16 : t136 = true
          · subst c16
            have H1 : (if a0.toList = ([] : List UInt8) then ((impl_KindTo.f t126 t127 t128).bind fun bt138 => (if bt138.1.toList = a0.toList then (some (bt138.2.toList == a1.toList)) else (some false))) else (if 0 < (a0.size : Int) then (if (bt a0 0) = 47 then (some true) else ((impl_KindTo.f t126 t127 t128).bind fun bt140 => (if bt140.1.toList = a0.toList then (some (bt140.2.toList == a1.toList)) else (some false)))) else (none))) = some r := by rw [if_pos rfl] at H; exact H
            clear H
            have H := H1
            clear H1
            by_cases c17 : a0.toList = ([] : List UInt8)
            · rw [if_pos c17] at H
              have c17b0 : (a0.toList == ([] : List UInt8)) = true := beq_iff_eq.mpr c17
              have c17b1 : (a0.toList != ([] : List UInt8)) = false := bne_eq_false_iff_eq.mpr c17
              clear c17
              replace H := Option.bind_eq_some_iff.mp H
              obtain ⟨⟨t138, t139⟩, A180, H⟩ := H
              replace H : (if t138.toList = a0.toList then (some (t139.toList == a1.toList)) else (some false)) = some r := H
              have A18 := Aside0.mk A180
              clear A180
              by_cases c19 : t138.toList = a0.toList
              · rw [if_pos c19] at H
                have c19b0 : (t138.toList == a0.toList) = true := beq_iff_eq.mpr c19
                have c19b1 : (t138.toList != a0.toList) = false := bne_eq_false_iff_eq.mpr c19
                clear c19
                obtain rfl := Option.some.inj H
                try go_wp2_with (first | ((with_reducible refine gate_callee (f := 27) rfl ?_); refine goesL_ (some 20) rfl rfl Try.func27 (by kernel_rfl) rfl #[.string a0, .string a1] rfl (by (try simp only [List.map_toArray, List.map_cons, List.map_nil]); first | done | rfl | (simp only [List.length_drop, List.length_take]; rfl)) ?_; (with_reducible refine (impl_KindOf.calls kj2 a0 a1 t126 t127 t128 _ A6.out).mono ?_); rintro e w20 ⟨rfl, hb⟩; refine ⟨_, rfl, ?_⟩; have n0_ := Aside0.mk (below_step (by repeat (first | (with_reducible first | exact HB.out | apply below_alloc | apply pw_below_drewN | apply below_drew1) | exact HB.out)) hb); clear HB; have HB := n0_; clear n0_; (try clear hb); (try clear hb2); (try clear hk); (try clear hi)) | ((with_reducible refine gate_dst (N := 5) rfl ?_); (try (refine gate_guard (by rfl) ?_; dsimp only)); refine box_event ?hg (N := 5) ?hd (cs := #[.string (⟨#[]⟩ : ByteArray), .string (⟨#[]⟩ : ByteArray), .string (⟨#[]⟩ : ByteArray)]) (t := 25) ?hr ?_; (case hd => rfl); (case hg => rfl); (case hr => first | (go_simp; done) | (go_simp; rfl)); intro gb129 hg w21 hbox hb; have n0_ := Aside0.mk (below_step (by repeat (first | (with_reducible first | exact HB.out | apply below_alloc | apply pw_below_drewN | apply below_drew1) | exact HB.out)) hb); have n1_ := Aside0.mk (hbox); have n2_ := Aside0.mk ((by rw [hg]; exact (below_size (by repeat (first | (with_reducible first | exact HB.out | apply below_alloc | apply pw_below_drewN | apply below_drew1) | exact HB.out))) : w.heap.size ≤ gb129)); have n3_ := Aside0.mk ((by rw [hg]; exact (below_size (by repeat (first | (with_reducible first | exact HB.out | apply below_alloc | apply pw_below_drewN | apply below_drew1) | exact HB.out))) : w.heap.size ≤ gb129)); clear HB; have HB := n0_; have BK129 := n1_; have GW129 := n2_; have GE129 := n3_; clear n0_ n1_ n2_ n3_; clear hb hbox hg; have hcz22_0 : w21.cell? ⟨gb129, 0, none⟩ = some (.string (⟨#[]⟩ : ByteArray)) := (blk_cell BK129.out 0).trans rfl; have hcz22_1 : w21.cell? ⟨gb129, 1, none⟩ = some (.string (⟨#[]⟩ : ByteArray)) := (blk_cell BK129.out 1).trans rfl; have hcz22_2 : w21.cell? ⟨gb129, 2, none⟩ = some (.string (⟨#[]⟩ : ByteArray)) := (blk_cell BK129.out 2).trans rfl; have hfz22_0 := blk_frozen BK129.out 0; have hfz22_1 := blk_frozen BK129.out 1; have hfz22_2 := blk_frozen BK129.out 2))
                have n0_ : Aside0 ((((w21.setCell ⟨gb129, 0, none⟩ (.string t126)).setCell ⟨gb129, 1, none⟩ (.string t127)).setCell ⟨gb129, 2, none⟩ (.string t128)).heap[gb129]? = some (.cells #[.string t126, .string t127, .string t128] 25 (0, 0))) := ⟨by (with_reducible repeat (first | refine blk_drewN ?_ _ | refine blk_drew ?_ | refine blk_alloc ?_ _)); refine blk_put (cs := #[.string t126, .string t127, .string (⟨#[]⟩ : ByteArray)]) ?_ 2 _ rfl; (with_reducible repeat (first | refine blk_drewN ?_ _ | refine blk_drew ?_ | refine blk_alloc ?_ _)); refine blk_put (cs := #[.string t126, .string (⟨#[]⟩ : ByteArray), .string (⟨#[]⟩ : ByteArray)]) ?_ 1 _ rfl; (with_reducible repeat (first | refine blk_drewN ?_ _ | refine blk_drew ?_ | refine blk_alloc ?_ _)); refine blk_put (cs := #[.string (⟨#[]⟩ : ByteArray), .string (⟨#[]⟩ : ByteArray), .string (⟨#[]⟩ : ByteArray)]) ?_ 0 _ rfl; (with_reducible repeat (first | refine blk_drewN ?_ _ | refine blk_drew ?_ | refine blk_alloc ?_ _)); exact BK129.out⟩
                have n1_ : Aside0 (Below w.heap.size w (((w21.setCell ⟨gb129, 0, none⟩ (.string t126)).setCell ⟨gb129, 1, none⟩ (.string t127)).setCell ⟨gb129, 2, none⟩ (.string t128))) := ⟨by repeat (first | (with_reducible first | exact HB.out | apply below_alloc | apply pw_below_drewN | apply below_drew1 | refine below_set ?_ GE129.out) | exact HB.out)⟩
                (try clear BK129)
                (try clear HB)
                generalize (((w21.setCell ⟨gb129, 0, none⟩ (.string t126)).setCell ⟨gb129, 1, none⟩ (.string t127)).setCell ⟨gb129, 2, none⟩ (.string t128)) = w23 at n0_ n1_ ⊢
                have BK129 := n0_
                have HB := n1_
                clear n0_ n1_
                have n0_ := Aside0.mk (blk_drew BK129.out)
                have n1_ := Aside0.mk (below_drew1 HB.out)
                clear BK129
                clear HB
                have BK129 := n0_
                have HB := n1_
                clear n0_ n1_
                refine start_ (n := 5) (S := fun w' => w'.cell? ⟨gb129, 0, none⟩ = some (.string t126) ∧ w'.cell? ⟨gb129, 1, none⟩ = some (.string t127) ∧ w'.cell? ⟨gb129, 2, none⟩ = some (.string t128)) (ds := []) #[false, false, false, false, false] (by kernel_rfl) rfl rfl ⟨(blk_cell BK129.out 0).trans rfl, (blk_cell BK129.out 1).trans rfl, (blk_cell BK129.out 2).trans rfl⟩ (fun hHeld => ?_)
                generalize w23.drew = w24 at BK129 HB hHeld ⊢
                refine pure_ (i := 1) (N := some 22) (v := ?_) (a' := ?_) #[false, true, false, false, false] rfl rfl (by kernel_rfl) (fun _ _ _ h => h) (Or.inl ⟨by rfl, ?_⟩) ?_ ?_
                rotate_left
                · intro w'
                  go_simp
                  with_reducible rfl
                rotate_left
                · simp only [Act.put, List.setIfInBounds_toArray, List.set_cons_zero, List.set_cons_succ, i64_w, i32_w]
                  rfl
                refine pure_ (i := 2) (N := some 23) (v := ?_) (a' := ?_) #[false, true, true, false, false] rfl rfl (by kernel_rfl) (fun _ _ _ h => h) (Or.inl ⟨by rfl, ?_⟩) ?_ ?_
                rotate_left
                · intro w'
                  go_simp
                  with_reducible rfl
                rotate_left
                · simp only [Act.put, List.setIfInBounds_toArray, List.set_cons_zero, List.set_cons_succ, i64_w, i32_w]
                  rfl
                refine take_ (i := 0) (N := some 21) (v := ?_) (a' := ?_) #[true, true, true, false, false] rfl rfl (by kernel_rfl) (fun _ _ _ h => h) (Or.inl ⟨by rfl, ?_⟩) hHeld ?_ ?_
                rotate_left
                · rintro w' ⟨s0, s1, s2⟩
                  go_simp
                  with_reducible rfl
                rotate_left
                · simp only [Act.put, List.setIfInBounds_toArray, List.set_cons_zero, List.set_cons_succ, i64_w, i32_w]
                  rfl
                refine one_ (i := 3) (N := some 24) #[true, true, true, true, false] rfl rfl (by kernel_rfl) (by decide) (fun K hK => ?_)
                refine goes_ Try.func28 (by kernel_rfl) rfl #[.string a0, .string a1] (by rfl) rfl rfl (by (try simp only [List.map_toArray, List.map_cons, List.map_nil]); first | done | rfl | (simp only [List.length_drop, List.length_take]; rfl)) ?_
                with_reducible refine (spec_KindOf.calls kj2 a0 a1 t130 t131 t132 _ A7.out).mono ?_
                rintro e w25 ⟨rfl, hb⟩
                refine ⟨_, rfl, ?_⟩
                have n0_ := Aside0.mk (blk_below (g := gb129) (o := .cells #[.string t126, .string t127, .string t128] 25 (0, 0)) (by (with_reducible repeat (first | refine blk_drewN ?_ _ | refine blk_drew ?_ | refine blk_alloc ?_ _)); exact BK129.out) hb)
                have n1_ := Aside0.mk (below_step (by repeat (first | (with_reducible first | exact HB.out | apply below_alloc | apply pw_below_drewN | apply below_drew1 | refine below_set ?_ GE129.out) | exact HB.out)) hb)
                clear BK129
                clear HB
                have BK129 := n0_
                have HB := n1_
                clear n0_ n1_
                (try clear hb)
                (try clear hb2)
                (try clear hk)
                (try clear hi)
                refine hK.out _ _ ⟨(blk_cell BK129.out 0).trans rfl, (blk_cell BK129.out 1).trans rfl, (blk_cell BK129.out 2).trans rfl⟩ (fun hHeld => ?_)
                clear hK K
                refine norm_ (a' := ?_) ?_ ?_
                rotate_left
                · show Act.put _ (some 24) _ = _
                  simp only [Act.put, List.setIfInBounds_toArray, List.set_cons_zero, List.set_cons_succ, i64_w, i32_w]
                  rfl
                refine pure_ (i := 4) (N := some 25) (v := ?_) (a' := ?_) #[true, true, true, true, true] rfl rfl (by kernel_rfl) (fun _ _ _ h => h) (Or.inl ⟨by rfl, ?_⟩) ?_ ?_
                rotate_left
                · intro w'
                  go_simp
                  with_reducible rfl
                rotate_left
                · simp only [Act.put, List.setIfInBounds_toArray, List.set_cons_zero, List.set_cons_succ, i64_w, i32_w]
                  rfl
                refine done_ (by kernel_rfl) ?_
                try go_wp2_with (first | ((with_reducible refine gate_callee (f := 24) rfl ?_); refine goesL_ (some 28) rfl rfl Try.func24 (by kernel_rfl) rfl #[.string a0] rfl (by (try simp only [List.map_toArray, List.map_cons, List.map_nil]); first | done | rfl | (simp only [List.length_drop, List.length_take]; rfl)) ?_; (with_reducible refine (spec_GroupVersion.calls kj2 a0 t133 t134 t135 true _ A15.out).mono ?_); rintro e w26 ⟨rfl, hb⟩; refine ⟨_, rfl, ?_⟩; have n0_ := Aside0.mk (blk_below (g := gb129) (o := .cells #[.string t126, .string t127, .string t128] 25 (0, 0)) (by (with_reducible repeat (first | refine blk_drewN ?_ _ | refine blk_drew ?_ | refine blk_alloc ?_ _)); exact BK129.out) hb); have n1_ := Aside0.mk (below_step (by repeat (first | (with_reducible first | exact HB.out | apply below_alloc | apply pw_below_drewN | apply below_drew1 | refine below_set ?_ GE129.out) | exact HB.out)) hb); clear BK129; clear HB; have BK129 := n0_; have HB := n1_; clear n0_ n1_; (try clear hb); (try clear hb2); (try clear hk); (try clear hi)) | ((with_reducible refine gate_dst (N := 6) rfl ?_); (try (refine gate_guard (by rfl) ?_; dsimp only)); refine box_event ?hg (N := 6) ?hd (cs := #[.string (⟨#[]⟩ : ByteArray), .string (⟨#[]⟩ : ByteArray), .string (⟨#[]⟩ : ByteArray)]) (t := 25) ?hr ?_; (case hd => rfl); (case hg => rfl); (case hr => first | (go_simp; done) | (go_simp; rfl)); intro gb137 hg w27 hbox hb; have n0_ := Aside0.mk (blk_below (g := gb129) (o := .cells #[.string t126, .string t127, .string t128] 25 (0, 0)) (by (with_reducible repeat (first | refine blk_drewN ?_ _ | refine blk_drew ?_ | refine blk_alloc ?_ _)); exact BK129.out) hb); have n1_ := Aside0.mk (below_step (by repeat (first | (with_reducible first | exact HB.out | apply below_alloc | apply pw_below_drewN | apply below_drew1 | refine below_set ?_ GE129.out) | exact HB.out)) hb); have n2_ := Aside0.mk (hbox); have n3_ := Aside0.mk ((by rw [hg]; exact (below_size (by repeat (first | (with_reducible first | exact HB.out | apply below_alloc | apply pw_below_drewN | apply below_drew1 | refine below_set ?_ GE129.out) | exact HB.out))) : w.heap.size ≤ gb137)); have n4_ := Aside0.mk ((by rw [hg]; exact (below_size (by repeat (first | (with_reducible first | exact HB.out | apply below_alloc | apply pw_below_drewN | apply below_drew1 | refine below_set ?_ GE129.out) | exact HB.out))) : w.heap.size ≤ gb137)); have n5_ := Aside0.mk ((by rw [hg]; exact Nat.ne_of_lt (blk_lt (g := gb129) (o := .cells #[.string t126, .string t127, .string t128] 25 (0, 0)) (by (with_reducible repeat (first | refine blk_drewN ?_ _ | refine blk_drew ?_ | refine blk_alloc ?_ _)); exact BK129.out)) : gb129 ≠ gb137)); have n6_ := Aside0.mk ((by rw [hg]; exact Nat.ne_of_gt (blk_lt (g := gb129) (o := .cells #[.string t126, .string t127, .string t128] 25 (0, 0)) (by (with_reducible repeat (first | refine blk_drewN ?_ _ | refine blk_drew ?_ | refine blk_alloc ?_ _)); exact BK129.out)) : gb137 ≠ gb129)); clear BK129; clear HB; have BK129 := n0_; have HB := n1_; have BK137 := n2_; have GW137 := n3_; have GE137 := n4_; have NB129_137 := n5_; have NB137_129 := n6_; clear n0_ n1_ n2_ n3_ n4_ n5_ n6_; clear hb hbox hg; have hnb28 := NB137_129.out; have hnc28 := NB129_137.out; have hcz29_0 : w27.cell? ⟨gb137, 0, none⟩ = some (.string (⟨#[]⟩ : ByteArray)) := (blk_cell BK137.out 0).trans rfl; have hcz29_1 : w27.cell? ⟨gb137, 1, none⟩ = some (.string (⟨#[]⟩ : ByteArray)) := (blk_cell BK137.out 1).trans rfl; have hcz29_2 : w27.cell? ⟨gb137, 2, none⟩ = some (.string (⟨#[]⟩ : ByteArray)) := (blk_cell BK137.out 2).trans rfl; have hfz29_0 := blk_frozen BK137.out 0; have hfz29_1 := blk_frozen BK137.out 1; have hfz29_2 := blk_frozen BK137.out 2; have hcz30_0 : w27.cell? ⟨gb129, 0, none⟩ = some (.string t126) := (blk_cell BK129.out 0).trans rfl; have hcz30_1 : w27.cell? ⟨gb129, 1, none⟩ = some (.string t127) := (blk_cell BK129.out 1).trans rfl; have hcz30_2 : w27.cell? ⟨gb129, 2, none⟩ = some (.string t128) := (blk_cell BK129.out 2).trans rfl; have hfz30_0 := blk_frozen BK129.out 0; have hfz30_1 := blk_frozen BK129.out 1; have hfz30_2 := blk_frozen BK129.out 2) | ((with_reducible refine gate_callee (f := 29) rfl ?_); refine goesL_ (some 44) rfl rfl Try.func29 (by kernel_rfl) rfl #[.agg #[.string t126, .string t127, .string t128]] rfl (by (try simp only [List.map_toArray, List.map_cons, List.map_nil]); first | done | rfl | (simp only [List.length_drop, List.length_take]; rfl)) ?_; (with_reducible refine (impl_KindTo.calls t126 t127 t128 t138 t139 _ A18.out).mono ?_); rintro e w31 ⟨rfl, hb⟩; refine ⟨_, rfl, ?_⟩; have n0_ := Aside0.mk (blk_below (g := gb129) (o := .cells #[.string t126, .string t127, .string t128] 25 (0, 0)) (by (with_reducible repeat (first | refine blk_drewN ?_ _ | refine blk_drew ?_ | refine blk_alloc ?_ _)); refine blk_far ?_ NB129_137.out _; (with_reducible repeat (first | refine blk_drewN ?_ _ | refine blk_drew ?_ | refine blk_alloc ?_ _)); refine blk_far ?_ NB129_137.out _; (with_reducible repeat (first | refine blk_drewN ?_ _ | refine blk_drew ?_ | refine blk_alloc ?_ _)); refine blk_far ?_ NB129_137.out _; (with_reducible repeat (first | refine blk_drewN ?_ _ | refine blk_drew ?_ | refine blk_alloc ?_ _)); exact BK129.out) hb); have n1_ := Aside0.mk (blk_below (g := gb137) (o := .cells #[.string t133, .string t134, .string t135] 25 (0, 0)) (by (with_reducible repeat (first | refine blk_drewN ?_ _ | refine blk_drew ?_ | refine blk_alloc ?_ _)); refine blk_put (cs := #[.string t133, .string t134, .string (⟨#[]⟩ : ByteArray)]) ?_ 2 _ rfl; (with_reducible repeat (first | refine blk_drewN ?_ _ | refine blk_drew ?_ | refine blk_alloc ?_ _)); refine blk_put (cs := #[.string t133, .string (⟨#[]⟩ : ByteArray), .string (⟨#[]⟩ : ByteArray)]) ?_ 1 _ rfl; (with_reducible repeat (first | refine blk_drewN ?_ _ | refine blk_drew ?_ | refine blk_alloc ?_ _)); refine blk_put (cs := #[.string (⟨#[]⟩ : ByteArray), .string (⟨#[]⟩ : ByteArray), .string (⟨#[]⟩ : ByteArray)]) ?_ 0 _ rfl; (with_reducible repeat (first | refine blk_drewN ?_ _ | refine blk_drew ?_ | refine blk_alloc ?_ _)); exact BK137.out) hb); have n2_ := Aside0.mk (below_step (by repeat (first | (with_reducible first | exact HB.out | apply below_alloc | apply pw_below_drewN | apply below_drew1 | refine below_set ?_ GE129.out | refine below_set ?_ GE137.out) | exact HB.out)) hb); clear BK129; clear BK137; clear HB; have BK129 := n0_; have BK137 := n1_; have HB := n2_; clear n0_ n1_ n2_; (try clear hb); (try clear hb2); (try clear hk); (try clear hi)))
                go_ret
                exact ⟨by first | rfl | (simp [errW_none, errW_some] <;> rfl) | (simp [*, errW_none, errW_some] <;> rfl), by repeat (first | (with_reducible first | exact HB.out | apply below_alloc | apply pw_below_drewN | apply below_drew1 | refine below_set ?_ GE129.out | refine below_set ?_ GE137.out) | exact HB.out)⟩
              · rw [if_neg c19] at H
                have c19b0 : (t138.toList == a0.toList) = false := beq_eq_false_iff_ne.mpr c19
                have c19b1 : (t138.toList != a0.toList) = true := bne_iff_ne.mpr c19
                obtain rfl := Option.some.inj H
                try go_wp2_with (first | ((with_reducible refine gate_callee (f := 27) rfl ?_); refine goesL_ (some 20) rfl rfl Try.func27 (by kernel_rfl) rfl #[.string a0, .string a1] rfl (by (try simp only [List.map_toArray, List.map_cons, List.map_nil]); first | done | rfl | (simp only [List.length_drop, List.length_take]; rfl)) ?_; (with_reducible refine (impl_KindOf.calls kj2 a0 a1 t126 t127 t128 _ A6.out).mono ?_); rintro e w32 ⟨rfl, hb⟩; refine ⟨_, rfl, ?_⟩; have n0_ := Aside0.mk (below_step (by repeat (first | (with_reducible first | exact HB.out | apply below_alloc | apply pw_below_drewN | apply below_drew1) | exact HB.out)) hb); clear HB; have HB := n0_; clear n0_; (try clear hb); (try clear hb2); (try clear hk); (try clear hi)) | ((with_reducible refine gate_dst (N := 5) rfl ?_); (try (refine gate_guard (by rfl) ?_; dsimp only)); refine box_event ?hg (N := 5) ?hd (cs := #[.string (⟨#[]⟩ : ByteArray), .string (⟨#[]⟩ : ByteArray), .string (⟨#[]⟩ : ByteArray)]) (t := 25) ?hr ?_; (case hd => rfl); (case hg => rfl); (case hr => first | (go_simp; done) | (go_simp; rfl)); intro gb129 hg w33 hbox hb; have n0_ := Aside0.mk (below_step (by repeat (first | (with_reducible first | exact HB.out | apply below_alloc | apply pw_below_drewN | apply below_drew1) | exact HB.out)) hb); have n1_ := Aside0.mk (hbox); have n2_ := Aside0.mk ((by rw [hg]; exact (below_size (by repeat (first | (with_reducible first | exact HB.out | apply below_alloc | apply pw_below_drewN | apply below_drew1) | exact HB.out))) : w.heap.size ≤ gb129)); have n3_ := Aside0.mk ((by rw [hg]; exact (below_size (by repeat (first | (with_reducible first | exact HB.out | apply below_alloc | apply pw_below_drewN | apply below_drew1) | exact HB.out))) : w.heap.size ≤ gb129)); clear HB; have HB := n0_; have BK129 := n1_; have GW129 := n2_; have GE129 := n3_; clear n0_ n1_ n2_ n3_; clear hb hbox hg; have hcz34_0 : w33.cell? ⟨gb129, 0, none⟩ = some (.string (⟨#[]⟩ : ByteArray)) := (blk_cell BK129.out 0).trans rfl; have hcz34_1 : w33.cell? ⟨gb129, 1, none⟩ = some (.string (⟨#[]⟩ : ByteArray)) := (blk_cell BK129.out 1).trans rfl; have hcz34_2 : w33.cell? ⟨gb129, 2, none⟩ = some (.string (⟨#[]⟩ : ByteArray)) := (blk_cell BK129.out 2).trans rfl; have hfz34_0 := blk_frozen BK129.out 0; have hfz34_1 := blk_frozen BK129.out 1; have hfz34_2 := blk_frozen BK129.out 2))
                have n0_ : Aside0 ((((w33.setCell ⟨gb129, 0, none⟩ (.string t126)).setCell ⟨gb129, 1, none⟩ (.string t127)).setCell ⟨gb129, 2, none⟩ (.string t128)).heap[gb129]? = some (.cells #[.string t126, .string t127, .string t128] 25 (0, 0))) := ⟨by (with_reducible repeat (first | refine blk_drewN ?_ _ | refine blk_drew ?_ | refine blk_alloc ?_ _)); refine blk_put (cs := #[.string t126, .string t127, .string (⟨#[]⟩ : ByteArray)]) ?_ 2 _ rfl; (with_reducible repeat (first | refine blk_drewN ?_ _ | refine blk_drew ?_ | refine blk_alloc ?_ _)); refine blk_put (cs := #[.string t126, .string (⟨#[]⟩ : ByteArray), .string (⟨#[]⟩ : ByteArray)]) ?_ 1 _ rfl; (with_reducible repeat (first | refine blk_drewN ?_ _ | refine blk_drew ?_ | refine blk_alloc ?_ _)); refine blk_put (cs := #[.string (⟨#[]⟩ : ByteArray), .string (⟨#[]⟩ : ByteArray), .string (⟨#[]⟩ : ByteArray)]) ?_ 0 _ rfl; (with_reducible repeat (first | refine blk_drewN ?_ _ | refine blk_drew ?_ | refine blk_alloc ?_ _)); exact BK129.out⟩
                have n1_ : Aside0 (Below w.heap.size w (((w33.setCell ⟨gb129, 0, none⟩ (.string t126)).setCell ⟨gb129, 1, none⟩ (.string t127)).setCell ⟨gb129, 2, none⟩ (.string t128))) := ⟨by repeat (first | (with_reducible first | exact HB.out | apply below_alloc | apply pw_below_drewN | apply below_drew1 | refine below_set ?_ GE129.out) | exact HB.out)⟩
                (try clear BK129)
                (try clear HB)
                generalize (((w33.setCell ⟨gb129, 0, none⟩ (.string t126)).setCell ⟨gb129, 1, none⟩ (.string t127)).setCell ⟨gb129, 2, none⟩ (.string t128)) = w35 at n0_ n1_ ⊢
                have BK129 := n0_
                have HB := n1_
                clear n0_ n1_
                have n0_ := Aside0.mk (blk_drew BK129.out)
                have n1_ := Aside0.mk (below_drew1 HB.out)
                clear BK129
                clear HB
                have BK129 := n0_
                have HB := n1_
                clear n0_ n1_
                refine start_ (n := 5) (S := fun w' => w'.cell? ⟨gb129, 0, none⟩ = some (.string t126) ∧ w'.cell? ⟨gb129, 1, none⟩ = some (.string t127) ∧ w'.cell? ⟨gb129, 2, none⟩ = some (.string t128)) (ds := []) #[false, false, false, false, false] (by kernel_rfl) rfl rfl ⟨(blk_cell BK129.out 0).trans rfl, (blk_cell BK129.out 1).trans rfl, (blk_cell BK129.out 2).trans rfl⟩ (fun hHeld => ?_)
                generalize w35.drew = w36 at BK129 HB hHeld ⊢
                refine pure_ (i := 1) (N := some 22) (v := ?_) (a' := ?_) #[false, true, false, false, false] rfl rfl (by kernel_rfl) (fun _ _ _ h => h) (Or.inl ⟨by rfl, ?_⟩) ?_ ?_
                rotate_left
                · intro w'
                  go_simp
                  with_reducible rfl
                rotate_left
                · simp only [Act.put, List.setIfInBounds_toArray, List.set_cons_zero, List.set_cons_succ, i64_w, i32_w]
                  rfl
                refine pure_ (i := 2) (N := some 23) (v := ?_) (a' := ?_) #[false, true, true, false, false] rfl rfl (by kernel_rfl) (fun _ _ _ h => h) (Or.inl ⟨by rfl, ?_⟩) ?_ ?_
                rotate_left
                · intro w'
                  go_simp
                  with_reducible rfl
                rotate_left
                · simp only [Act.put, List.setIfInBounds_toArray, List.set_cons_zero, List.set_cons_succ, i64_w, i32_w]
                  rfl
                refine take_ (i := 0) (N := some 21) (v := ?_) (a' := ?_) #[true, true, true, false, false] rfl rfl (by kernel_rfl) (fun _ _ _ h => h) (Or.inl ⟨by rfl, ?_⟩) hHeld ?_ ?_
                rotate_left
                · rintro w' ⟨s0, s1, s2⟩
                  go_simp
                  with_reducible rfl
                rotate_left
                · simp only [Act.put, List.setIfInBounds_toArray, List.set_cons_zero, List.set_cons_succ, i64_w, i32_w]
                  rfl
                refine one_ (i := 3) (N := some 24) #[true, true, true, true, false] rfl rfl (by kernel_rfl) (by decide) (fun K hK => ?_)
                refine goes_ Try.func28 (by kernel_rfl) rfl #[.string a0, .string a1] (by rfl) rfl rfl (by (try simp only [List.map_toArray, List.map_cons, List.map_nil]); first | done | rfl | (simp only [List.length_drop, List.length_take]; rfl)) ?_
                with_reducible refine (spec_KindOf.calls kj2 a0 a1 t130 t131 t132 _ A7.out).mono ?_
                rintro e w37 ⟨rfl, hb⟩
                refine ⟨_, rfl, ?_⟩
                have n0_ := Aside0.mk (blk_below (g := gb129) (o := .cells #[.string t126, .string t127, .string t128] 25 (0, 0)) (by (with_reducible repeat (first | refine blk_drewN ?_ _ | refine blk_drew ?_ | refine blk_alloc ?_ _)); exact BK129.out) hb)
                have n1_ := Aside0.mk (below_step (by repeat (first | (with_reducible first | exact HB.out | apply below_alloc | apply pw_below_drewN | apply below_drew1 | refine below_set ?_ GE129.out) | exact HB.out)) hb)
                clear BK129
                clear HB
                have BK129 := n0_
                have HB := n1_
                clear n0_ n1_
                (try clear hb)
                (try clear hb2)
                (try clear hk)
                (try clear hi)
                refine hK.out _ _ ⟨(blk_cell BK129.out 0).trans rfl, (blk_cell BK129.out 1).trans rfl, (blk_cell BK129.out 2).trans rfl⟩ (fun hHeld => ?_)
                clear hK K
                refine norm_ (a' := ?_) ?_ ?_
                rotate_left
                · show Act.put _ (some 24) _ = _
                  simp only [Act.put, List.setIfInBounds_toArray, List.set_cons_zero, List.set_cons_succ, i64_w, i32_w]
                  rfl
                refine pure_ (i := 4) (N := some 25) (v := ?_) (a' := ?_) #[true, true, true, true, true] rfl rfl (by kernel_rfl) (fun _ _ _ h => h) (Or.inl ⟨by rfl, ?_⟩) ?_ ?_
                rotate_left
                · intro w'
                  go_simp
                  with_reducible rfl
                rotate_left
                · simp only [Act.put, List.setIfInBounds_toArray, List.set_cons_zero, List.set_cons_succ, i64_w, i32_w]
                  rfl
                refine done_ (by kernel_rfl) ?_
                try go_wp2_with (first | ((with_reducible refine gate_callee (f := 24) rfl ?_); refine goesL_ (some 28) rfl rfl Try.func24 (by kernel_rfl) rfl #[.string a0] rfl (by (try simp only [List.map_toArray, List.map_cons, List.map_nil]); first | done | rfl | (simp only [List.length_drop, List.length_take]; rfl)) ?_; (with_reducible refine (spec_GroupVersion.calls kj2 a0 t133 t134 t135 true _ A15.out).mono ?_); rintro e w38 ⟨rfl, hb⟩; refine ⟨_, rfl, ?_⟩; have n0_ := Aside0.mk (blk_below (g := gb129) (o := .cells #[.string t126, .string t127, .string t128] 25 (0, 0)) (by (with_reducible repeat (first | refine blk_drewN ?_ _ | refine blk_drew ?_ | refine blk_alloc ?_ _)); exact BK129.out) hb); have n1_ := Aside0.mk (below_step (by repeat (first | (with_reducible first | exact HB.out | apply below_alloc | apply pw_below_drewN | apply below_drew1 | refine below_set ?_ GE129.out) | exact HB.out)) hb); clear BK129; clear HB; have BK129 := n0_; have HB := n1_; clear n0_ n1_; (try clear hb); (try clear hb2); (try clear hk); (try clear hi)) | ((with_reducible refine gate_dst (N := 6) rfl ?_); (try (refine gate_guard (by rfl) ?_; dsimp only)); refine box_event ?hg (N := 6) ?hd (cs := #[.string (⟨#[]⟩ : ByteArray), .string (⟨#[]⟩ : ByteArray), .string (⟨#[]⟩ : ByteArray)]) (t := 25) ?hr ?_; (case hd => rfl); (case hg => rfl); (case hr => first | (go_simp; done) | (go_simp; rfl)); intro gb137 hg w39 hbox hb; have n0_ := Aside0.mk (blk_below (g := gb129) (o := .cells #[.string t126, .string t127, .string t128] 25 (0, 0)) (by (with_reducible repeat (first | refine blk_drewN ?_ _ | refine blk_drew ?_ | refine blk_alloc ?_ _)); exact BK129.out) hb); have n1_ := Aside0.mk (below_step (by repeat (first | (with_reducible first | exact HB.out | apply below_alloc | apply pw_below_drewN | apply below_drew1 | refine below_set ?_ GE129.out) | exact HB.out)) hb); have n2_ := Aside0.mk (hbox); have n3_ := Aside0.mk ((by rw [hg]; exact (below_size (by repeat (first | (with_reducible first | exact HB.out | apply below_alloc | apply pw_below_drewN | apply below_drew1 | refine below_set ?_ GE129.out) | exact HB.out))) : w.heap.size ≤ gb137)); have n4_ := Aside0.mk ((by rw [hg]; exact (below_size (by repeat (first | (with_reducible first | exact HB.out | apply below_alloc | apply pw_below_drewN | apply below_drew1 | refine below_set ?_ GE129.out) | exact HB.out))) : w.heap.size ≤ gb137)); have n5_ := Aside0.mk ((by rw [hg]; exact Nat.ne_of_lt (blk_lt (g := gb129) (o := .cells #[.string t126, .string t127, .string t128] 25 (0, 0)) (by (with_reducible repeat (first | refine blk_drewN ?_ _ | refine blk_drew ?_ | refine blk_alloc ?_ _)); exact BK129.out)) : gb129 ≠ gb137)); have n6_ := Aside0.mk ((by rw [hg]; exact Nat.ne_of_gt (blk_lt (g := gb129) (o := .cells #[.string t126, .string t127, .string t128] 25 (0, 0)) (by (with_reducible repeat (first | refine blk_drewN ?_ _ | refine blk_drew ?_ | refine blk_alloc ?_ _)); exact BK129.out)) : gb137 ≠ gb129)); clear BK129; clear HB; have BK129 := n0_; have HB := n1_; have BK137 := n2_; have GW137 := n3_; have GE137 := n4_; have NB129_137 := n5_; have NB137_129 := n6_; clear n0_ n1_ n2_ n3_ n4_ n5_ n6_; clear hb hbox hg; have hnb40 := NB137_129.out; have hnc40 := NB129_137.out; have hcz41_0 : w39.cell? ⟨gb137, 0, none⟩ = some (.string (⟨#[]⟩ : ByteArray)) := (blk_cell BK137.out 0).trans rfl; have hcz41_1 : w39.cell? ⟨gb137, 1, none⟩ = some (.string (⟨#[]⟩ : ByteArray)) := (blk_cell BK137.out 1).trans rfl; have hcz41_2 : w39.cell? ⟨gb137, 2, none⟩ = some (.string (⟨#[]⟩ : ByteArray)) := (blk_cell BK137.out 2).trans rfl; have hfz41_0 := blk_frozen BK137.out 0; have hfz41_1 := blk_frozen BK137.out 1; have hfz41_2 := blk_frozen BK137.out 2; have hcz42_0 : w39.cell? ⟨gb129, 0, none⟩ = some (.string t126) := (blk_cell BK129.out 0).trans rfl; have hcz42_1 : w39.cell? ⟨gb129, 1, none⟩ = some (.string t127) := (blk_cell BK129.out 1).trans rfl; have hcz42_2 : w39.cell? ⟨gb129, 2, none⟩ = some (.string t128) := (blk_cell BK129.out 2).trans rfl; have hfz42_0 := blk_frozen BK129.out 0; have hfz42_1 := blk_frozen BK129.out 1; have hfz42_2 := blk_frozen BK129.out 2) | ((with_reducible refine gate_callee (f := 29) rfl ?_); refine goesL_ (some 44) rfl rfl Try.func29 (by kernel_rfl) rfl #[.agg #[.string t126, .string t127, .string t128]] rfl (by (try simp only [List.map_toArray, List.map_cons, List.map_nil]); first | done | rfl | (simp only [List.length_drop, List.length_take]; rfl)) ?_; (with_reducible refine (impl_KindTo.calls t126 t127 t128 t138 t139 _ A18.out).mono ?_); rintro e w43 ⟨rfl, hb⟩; refine ⟨_, rfl, ?_⟩; have n0_ := Aside0.mk (blk_below (g := gb129) (o := .cells #[.string t126, .string t127, .string t128] 25 (0, 0)) (by (with_reducible repeat (first | refine blk_drewN ?_ _ | refine blk_drew ?_ | refine blk_alloc ?_ _)); refine blk_far ?_ NB129_137.out _; (with_reducible repeat (first | refine blk_drewN ?_ _ | refine blk_drew ?_ | refine blk_alloc ?_ _)); refine blk_far ?_ NB129_137.out _; (with_reducible repeat (first | refine blk_drewN ?_ _ | refine blk_drew ?_ | refine blk_alloc ?_ _)); refine blk_far ?_ NB129_137.out _; (with_reducible repeat (first | refine blk_drewN ?_ _ | refine blk_drew ?_ | refine blk_alloc ?_ _)); exact BK129.out) hb); have n1_ := Aside0.mk (blk_below (g := gb137) (o := .cells #[.string t133, .string t134, .string t135] 25 (0, 0)) (by (with_reducible repeat (first | refine blk_drewN ?_ _ | refine blk_drew ?_ | refine blk_alloc ?_ _)); refine blk_put (cs := #[.string t133, .string t134, .string (⟨#[]⟩ : ByteArray)]) ?_ 2 _ rfl; (with_reducible repeat (first | refine blk_drewN ?_ _ | refine blk_drew ?_ | refine blk_alloc ?_ _)); refine blk_put (cs := #[.string t133, .string (⟨#[]⟩ : ByteArray), .string (⟨#[]⟩ : ByteArray)]) ?_ 1 _ rfl; (with_reducible repeat (first | refine blk_drewN ?_ _ | refine blk_drew ?_ | refine blk_alloc ?_ _)); refine blk_put (cs := #[.string (⟨#[]⟩ : ByteArray), .string (⟨#[]⟩ : ByteArray), .string (⟨#[]⟩ : ByteArray)]) ?_ 0 _ rfl; (with_reducible repeat (first | refine blk_drewN ?_ _ | refine blk_drew ?_ | refine blk_alloc ?_ _)); exact BK137.out) hb); have n2_ := Aside0.mk (below_step (by repeat (first | (with_reducible first | exact HB.out | apply below_alloc | apply pw_below_drewN | apply below_drew1 | refine below_set ?_ GE129.out | refine below_set ?_ GE137.out) | exact HB.out)) hb); clear BK129; clear BK137; clear HB; have BK129 := n0_; have BK137 := n1_; have HB := n2_; clear n0_ n1_ n2_; (try clear hb); (try clear hb2); (try clear hk); (try clear hi)))
                go_ret
                exact ⟨by first | rfl | (simp [errW_none, errW_some] <;> rfl) | (simp [*, errW_none, errW_some] <;> rfl), by repeat (first | (with_reducible first | exact HB.out | apply below_alloc | apply pw_below_drewN | apply below_drew1 | refine below_set ?_ GE129.out | refine below_set ?_ GE137.out) | exact HB.out)⟩
            · rw [if_neg c17] at H
              have c17b0 : (a0.toList == ([] : List UInt8)) = false := beq_eq_false_iff_ne.mpr c17
              have c17b1 : (a0.toList != ([] : List UInt8)) = true := bne_iff_ne.mpr c17
              by_cases c44 : 0 < (a0.size : Int)
              · rw [if_pos c44] at H
                have c44b0 : decide (0 < (a0.size : Int)) = true := decide_eq_true c44
                have c44b1 : decide (0 < a0.size) = true := decide_eq_true (by omega)
                clear c44
                by_cases c46 : (bt a0 0) = 47
                · rw [if_pos c46] at H
                  have c46b0 : ((bt a0 0) == 47) = true := beq_iff_eq.mpr c46
                  have c46b1 : ((bt a0 0) != 47) = false := bne_eq_false_iff_eq.mpr c46
                  clear c46
                  obtain rfl := Option.some.inj H
                  try go_wp2_with (first | ((with_reducible refine gate_callee (f := 27) rfl ?_); refine goesL_ (some 20) rfl rfl Try.func27 (by kernel_rfl) rfl #[.string a0, .string a1] rfl (by (try simp only [List.map_toArray, List.map_cons, List.map_nil]); first | done | rfl | (simp only [List.length_drop, List.length_take]; rfl)) ?_; (with_reducible refine (impl_KindOf.calls kj2 a0 a1 t126 t127 t128 _ A6.out).mono ?_); rintro e w47 ⟨rfl, hb⟩; refine ⟨_, rfl, ?_⟩; have n0_ := Aside0.mk (below_step (by repeat (first | (with_reducible first | exact HB.out | apply below_alloc | apply pw_below_drewN | apply below_drew1) | exact HB.out)) hb); clear HB; have HB := n0_; clear n0_; (try clear hb); (try clear hb2); (try clear hk); (try clear hi)) | ((with_reducible refine gate_dst (N := 5) rfl ?_); (try (refine gate_guard (by rfl) ?_; dsimp only)); refine box_event ?hg (N := 5) ?hd (cs := #[.string (⟨#[]⟩ : ByteArray), .string (⟨#[]⟩ : ByteArray), .string (⟨#[]⟩ : ByteArray)]) (t := 25) ?hr ?_; (case hd => rfl); (case hg => rfl); (case hr => first | (go_simp; done) | (go_simp; rfl)); intro gb129 hg w48 hbox hb; have n0_ := Aside0.mk (below_step (by repeat (first | (with_reducible first | exact HB.out | apply below_alloc | apply pw_below_drewN | apply below_drew1) | exact HB.out)) hb); have n1_ := Aside0.mk (hbox); have n2_ := Aside0.mk ((by rw [hg]; exact (below_size (by repeat (first | (with_reducible first | exact HB.out | apply below_alloc | apply pw_below_drewN | apply below_drew1) | exact HB.out))) : w.heap.size ≤ gb129)); have n3_ := Aside0.mk ((by rw [hg]; exact (below_size (by repeat (first | (with_reducible first | exact HB.out | apply below_alloc | apply pw_below_drewN | apply below_drew1) | exact HB.out))) : w.heap.size ≤ gb129)); clear HB; have HB := n0_; have BK129 := n1_; have GW129 := n2_; have GE129 := n3_; clear n0_ n1_ n2_ n3_; clear hb hbox hg; have hcz49_0 : w48.cell? ⟨gb129, 0, none⟩ = some (.string (⟨#[]⟩ : ByteArray)) := (blk_cell BK129.out 0).trans rfl; have hcz49_1 : w48.cell? ⟨gb129, 1, none⟩ = some (.string (⟨#[]⟩ : ByteArray)) := (blk_cell BK129.out 1).trans rfl; have hcz49_2 : w48.cell? ⟨gb129, 2, none⟩ = some (.string (⟨#[]⟩ : ByteArray)) := (blk_cell BK129.out 2).trans rfl; have hfz49_0 := blk_frozen BK129.out 0; have hfz49_1 := blk_frozen BK129.out 1; have hfz49_2 := blk_frozen BK129.out 2))
                  have n0_ : Aside0 ((((w48.setCell ⟨gb129, 0, none⟩ (.string t126)).setCell ⟨gb129, 1, none⟩ (.string t127)).setCell ⟨gb129, 2, none⟩ (.string t128)).heap[gb129]? = some (.cells #[.string t126, .string t127, .string t128] 25 (0, 0))) := ⟨by (with_reducible repeat (first | refine blk_drewN ?_ _ | refine blk_drew ?_ | refine blk_alloc ?_ _)); refine blk_put (cs := #[.string t126, .string t127, .string (⟨#[]⟩ : ByteArray)]) ?_ 2 _ rfl; (with_reducible repeat (first | refine blk_drewN ?_ _ | refine blk_drew ?_ | refine blk_alloc ?_ _)); refine blk_put (cs := #[.string t126, .string (⟨#[]⟩ : ByteArray), .string (⟨#[]⟩ : ByteArray)]) ?_ 1 _ rfl; (with_reducible repeat (first | refine blk_drewN ?_ _ | refine blk_drew ?_ | refine blk_alloc ?_ _)); refine blk_put (cs := #[.string (⟨#[]⟩ : ByteArray), .string (⟨#[]⟩ : ByteArray), .string (⟨#[]⟩ : ByteArray)]) ?_ 0 _ rfl; (with_reducible repeat (first | refine blk_drewN ?_ _ | refine blk_drew ?_ | refine blk_alloc ?_ _)); exact BK129.out⟩
                  have n1_ : Aside0 (Below w.heap.size w (((w48.setCell ⟨gb129, 0, none⟩ (.string t126)).setCell ⟨gb129, 1, none⟩ (.string t127)).setCell ⟨gb129, 2, none⟩ (.string t128))) := ⟨by repeat (first | (with_reducible first | exact HB.out | apply below_alloc | apply pw_below_drewN | apply below_drew1 | refine below_set ?_ GE129.out) | exact HB.out)⟩
                  (try clear BK129)
                  (try clear HB)
                  generalize (((w48.setCell ⟨gb129, 0, none⟩ (.string t126)).setCell ⟨gb129, 1, none⟩ (.string t127)).setCell ⟨gb129, 2, none⟩ (.string t128)) = w50 at n0_ n1_ ⊢
                  have BK129 := n0_
                  have HB := n1_
                  clear n0_ n1_
                  have n0_ := Aside0.mk (blk_drew BK129.out)
                  have n1_ := Aside0.mk (below_drew1 HB.out)
                  clear BK129
                  clear HB
                  have BK129 := n0_
                  have HB := n1_
                  clear n0_ n1_
                  refine start_ (n := 5) (S := fun w' => w'.cell? ⟨gb129, 0, none⟩ = some (.string t126) ∧ w'.cell? ⟨gb129, 1, none⟩ = some (.string t127) ∧ w'.cell? ⟨gb129, 2, none⟩ = some (.string t128)) (ds := []) #[false, false, false, false, false] (by kernel_rfl) rfl rfl ⟨(blk_cell BK129.out 0).trans rfl, (blk_cell BK129.out 1).trans rfl, (blk_cell BK129.out 2).trans rfl⟩ (fun hHeld => ?_)
                  generalize w50.drew = w51 at BK129 HB hHeld ⊢
                  refine pure_ (i := 1) (N := some 22) (v := ?_) (a' := ?_) #[false, true, false, false, false] rfl rfl (by kernel_rfl) (fun _ _ _ h => h) (Or.inl ⟨by rfl, ?_⟩) ?_ ?_
                  rotate_left
                  · intro w'
                    go_simp
                    with_reducible rfl
                  rotate_left
                  · simp only [Act.put, List.setIfInBounds_toArray, List.set_cons_zero, List.set_cons_succ, i64_w, i32_w]
                    rfl
                  refine pure_ (i := 2) (N := some 23) (v := ?_) (a' := ?_) #[false, true, true, false, false] rfl rfl (by kernel_rfl) (fun _ _ _ h => h) (Or.inl ⟨by rfl, ?_⟩) ?_ ?_
                  rotate_left
                  · intro w'
                    go_simp
                    with_reducible rfl
                  rotate_left
                  · simp only [Act.put, List.setIfInBounds_toArray, List.set_cons_zero, List.set_cons_succ, i64_w, i32_w]
                    rfl
                  refine take_ (i := 0) (N := some 21) (v := ?_) (a' := ?_) #[true, true, true, false, false] rfl rfl (by kernel_rfl) (fun _ _ _ h => h) (Or.inl ⟨by rfl, ?_⟩) hHeld ?_ ?_
                  rotate_left
                  · rintro w' ⟨s0, s1, s2⟩
                    go_simp
                    with_reducible rfl
                  rotate_left
                  · simp only [Act.put, List.setIfInBounds_toArray, List.set_cons_zero, List.set_cons_succ, i64_w, i32_w]
                    rfl
                  refine one_ (i := 3) (N := some 24) #[true, true, true, true, false] rfl rfl (by kernel_rfl) (by decide) (fun K hK => ?_)
                  refine goes_ Try.func28 (by kernel_rfl) rfl #[.string a0, .string a1] (by rfl) rfl rfl (by (try simp only [List.map_toArray, List.map_cons, List.map_nil]); first | done | rfl | (simp only [List.length_drop, List.length_take]; rfl)) ?_
                  with_reducible refine (spec_KindOf.calls kj2 a0 a1 t130 t131 t132 _ A7.out).mono ?_
                  rintro e w52 ⟨rfl, hb⟩
                  refine ⟨_, rfl, ?_⟩
                  have n0_ := Aside0.mk (blk_below (g := gb129) (o := .cells #[.string t126, .string t127, .string t128] 25 (0, 0)) (by (with_reducible repeat (first | refine blk_drewN ?_ _ | refine blk_drew ?_ | refine blk_alloc ?_ _)); exact BK129.out) hb)
                  have n1_ := Aside0.mk (below_step (by repeat (first | (with_reducible first | exact HB.out | apply below_alloc | apply pw_below_drewN | apply below_drew1 | refine below_set ?_ GE129.out) | exact HB.out)) hb)
                  clear BK129
                  clear HB
                  have BK129 := n0_
                  have HB := n1_
                  clear n0_ n1_
                  (try clear hb)
                  (try clear hb2)
                  (try clear hk)
                  (try clear hi)
                  refine hK.out _ _ ⟨(blk_cell BK129.out 0).trans rfl, (blk_cell BK129.out 1).trans rfl, (blk_cell BK129.out 2).trans rfl⟩ (fun hHeld => ?_)
                  clear hK K
                  refine norm_ (a' := ?_) ?_ ?_
                  rotate_left
                  · show Act.put _ (some 24) _ = _
                    simp only [Act.put, List.setIfInBounds_toArray, List.set_cons_zero, List.set_cons_succ, i64_w, i32_w]
                    rfl
                  refine pure_ (i := 4) (N := some 25) (v := ?_) (a' := ?_) #[true, true, true, true, true] rfl rfl (by kernel_rfl) (fun _ _ _ h => h) (Or.inl ⟨by rfl, ?_⟩) ?_ ?_
                  rotate_left
                  · intro w'
                    go_simp
                    with_reducible rfl
                  rotate_left
                  · simp only [Act.put, List.setIfInBounds_toArray, List.set_cons_zero, List.set_cons_succ, i64_w, i32_w]
                    rfl
                  refine done_ (by kernel_rfl) ?_
                  try go_wp2_with (first | ((with_reducible refine gate_callee (f := 24) rfl ?_); refine goesL_ (some 28) rfl rfl Try.func24 (by kernel_rfl) rfl #[.string a0] rfl (by (try simp only [List.map_toArray, List.map_cons, List.map_nil]); first | done | rfl | (simp only [List.length_drop, List.length_take]; rfl)) ?_; (with_reducible refine (spec_GroupVersion.calls kj2 a0 t133 t134 t135 true _ A15.out).mono ?_); rintro e w53 ⟨rfl, hb⟩; refine ⟨_, rfl, ?_⟩; have n0_ := Aside0.mk (blk_below (g := gb129) (o := .cells #[.string t126, .string t127, .string t128] 25 (0, 0)) (by (with_reducible repeat (first | refine blk_drewN ?_ _ | refine blk_drew ?_ | refine blk_alloc ?_ _)); exact BK129.out) hb); have n1_ := Aside0.mk (below_step (by repeat (first | (with_reducible first | exact HB.out | apply below_alloc | apply pw_below_drewN | apply below_drew1 | refine below_set ?_ GE129.out) | exact HB.out)) hb); clear BK129; clear HB; have BK129 := n0_; have HB := n1_; clear n0_ n1_; (try clear hb); (try clear hb2); (try clear hk); (try clear hi)) | ((with_reducible refine gate_dst (N := 6) rfl ?_); (try (refine gate_guard (by rfl) ?_; dsimp only)); refine box_event ?hg (N := 6) ?hd (cs := #[.string (⟨#[]⟩ : ByteArray), .string (⟨#[]⟩ : ByteArray), .string (⟨#[]⟩ : ByteArray)]) (t := 25) ?hr ?_; (case hd => rfl); (case hg => rfl); (case hr => first | (go_simp; done) | (go_simp; rfl)); intro gb137 hg w54 hbox hb; have n0_ := Aside0.mk (blk_below (g := gb129) (o := .cells #[.string t126, .string t127, .string t128] 25 (0, 0)) (by (with_reducible repeat (first | refine blk_drewN ?_ _ | refine blk_drew ?_ | refine blk_alloc ?_ _)); exact BK129.out) hb); have n1_ := Aside0.mk (below_step (by repeat (first | (with_reducible first | exact HB.out | apply below_alloc | apply pw_below_drewN | apply below_drew1 | refine below_set ?_ GE129.out) | exact HB.out)) hb); have n2_ := Aside0.mk (hbox); have n3_ := Aside0.mk ((by rw [hg]; exact (below_size (by repeat (first | (with_reducible first | exact HB.out | apply below_alloc | apply pw_below_drewN | apply below_drew1 | refine below_set ?_ GE129.out) | exact HB.out))) : w.heap.size ≤ gb137)); have n4_ := Aside0.mk ((by rw [hg]; exact (below_size (by repeat (first | (with_reducible first | exact HB.out | apply below_alloc | apply pw_below_drewN | apply below_drew1 | refine below_set ?_ GE129.out) | exact HB.out))) : w.heap.size ≤ gb137)); have n5_ := Aside0.mk ((by rw [hg]; exact Nat.ne_of_lt (blk_lt (g := gb129) (o := .cells #[.string t126, .string t127, .string t128] 25 (0, 0)) (by (with_reducible repeat (first | refine blk_drewN ?_ _ | refine blk_drew ?_ | refine blk_alloc ?_ _)); exact BK129.out)) : gb129 ≠ gb137)); have n6_ := Aside0.mk ((by rw [hg]; exact Nat.ne_of_gt (blk_lt (g := gb129) (o := .cells #[.string t126, .string t127, .string t128] 25 (0, 0)) (by (with_reducible repeat (first | refine blk_drewN ?_ _ | refine blk_drew ?_ | refine blk_alloc ?_ _)); exact BK129.out)) : gb137 ≠ gb129)); clear BK129; clear HB; have BK129 := n0_; have HB := n1_; have BK137 := n2_; have GW137 := n3_; have GE137 := n4_; have NB129_137 := n5_; have NB137_129 := n6_; clear n0_ n1_ n2_ n3_ n4_ n5_ n6_; clear hb hbox hg; have hnb55 := NB137_129.out; have hnc55 := NB129_137.out; have hcz56_0 : w54.cell? ⟨gb137, 0, none⟩ = some (.string (⟨#[]⟩ : ByteArray)) := (blk_cell BK137.out 0).trans rfl; have hcz56_1 : w54.cell? ⟨gb137, 1, none⟩ = some (.string (⟨#[]⟩ : ByteArray)) := (blk_cell BK137.out 1).trans rfl; have hcz56_2 : w54.cell? ⟨gb137, 2, none⟩ = some (.string (⟨#[]⟩ : ByteArray)) := (blk_cell BK137.out 2).trans rfl; have hfz56_0 := blk_frozen BK137.out 0; have hfz56_1 := blk_frozen BK137.out 1; have hfz56_2 := blk_frozen BK137.out 2; have p45 : 0 ≤ (0 : Int) := (by omega); have q45 : 0 < a0.size := (by have : (0 : Int) < (a0.size : Int) := of_decide_eq_true (by first | (with_reducible assumption) | assumption); omega); have hx45 : ∀ h : 0 < a0.size, ((a0[0]'h).toNat : Int) = bt a0 0 := bt_at a0 0; clear p45; have qi45 : (0 < (a0.size : Int)) = True := eq_true (of_decide_eq_true (by first | (with_reducible assumption) | assumption)); replace q45 := eq_true q45))
                  go_ret
                  exact ⟨by first | rfl | (simp [errW_none, errW_some] <;> rfl) | (simp [*, errW_none, errW_some] <;> rfl), by repeat (first | (with_reducible first | exact HB.out | apply below_alloc | apply pw_below_drewN | apply below_drew1 | refine below_set ?_ GE129.out | refine below_set ?_ GE137.out) | exact HB.out)⟩
                · rw [if_neg c46] at H
                  have c46b0 : ((bt a0 0) == 47) = false := beq_eq_false_iff_ne.mpr c46
                  have c46b1 : ((bt a0 0) != 47) = true := bne_iff_ne.mpr c46
                  replace H := Option.bind_eq_some_iff.mp H
                  obtain ⟨⟨t140, t141⟩, A570, H⟩ := H
                  replace H : (if t140.toList = a0.toList then (some (t141.toList == a1.toList)) else (some false)) = some r := H
                  have A57 := Aside0.mk A570
                  clear A570
                  by_cases c58 : t140.toList = a0.toList
                  · rw [if_pos c58] at H
                    have c58b0 : (t140.toList == a0.toList) = true := beq_iff_eq.mpr c58
                    have c58b1 : (t140.toList != a0.toList) = false := bne_eq_false_iff_eq.mpr c58
                    clear c58
                    obtain rfl := Option.some.inj H
                    try go_wp2_with (first | ((with_reducible refine gate_callee (f := 27) rfl ?_); refine goesL_ (some 20) rfl rfl Try.func27 (by kernel_rfl) rfl #[.string a0, .string a1] rfl (by (try simp only [List.map_toArray, List.map_cons, List.map_nil]); first | done | rfl | (simp only [List.length_drop, List.length_take]; rfl)) ?_; (with_reducible refine (impl_KindOf.calls kj2 a0 a1 t126 t127 t128 _ A6.out).mono ?_); rintro e w59 ⟨rfl, hb⟩; refine ⟨_, rfl, ?_⟩; have n0_ := Aside0.mk (below_step (by repeat (first | (with_reducible first | exact HB.out | apply below_alloc | apply pw_below_drewN | apply below_drew1) | exact HB.out)) hb); clear HB; have HB := n0_; clear n0_; (try clear hb); (try clear hb2); (try clear hk); (try clear hi)) | ((with_reducible refine gate_dst (N := 5) rfl ?_); (try (refine gate_guard (by rfl) ?_; dsimp only)); refine box_event ?hg (N := 5) ?hd (cs := #[.string (⟨#[]⟩ : ByteArray), .string (⟨#[]⟩ : ByteArray), .string (⟨#[]⟩ : ByteArray)]) (t := 25) ?hr ?_; (case hd => rfl); (case hg => rfl); (case hr => first | (go_simp; done) | (go_simp; rfl)); intro gb129 hg w60 hbox hb; have n0_ := Aside0.mk (below_step (by repeat (first | (with_reducible first | exact HB.out | apply below_alloc | apply pw_below_drewN | apply below_drew1) | exact HB.out)) hb); have n1_ := Aside0.mk (hbox); have n2_ := Aside0.mk ((by rw [hg]; exact (below_size (by repeat (first | (with_reducible first | exact HB.out | apply below_alloc | apply pw_below_drewN | apply below_drew1) | exact HB.out))) : w.heap.size ≤ gb129)); have n3_ := Aside0.mk ((by rw [hg]; exact (below_size (by repeat (first | (with_reducible first | exact HB.out | apply below_alloc | apply pw_below_drewN | apply below_drew1) | exact HB.out))) : w.heap.size ≤ gb129)); clear HB; have HB := n0_; have BK129 := n1_; have GW129 := n2_; have GE129 := n3_; clear n0_ n1_ n2_ n3_; clear hb hbox hg; have hcz61_0 : w60.cell? ⟨gb129, 0, none⟩ = some (.string (⟨#[]⟩ : ByteArray)) := (blk_cell BK129.out 0).trans rfl; have hcz61_1 : w60.cell? ⟨gb129, 1, none⟩ = some (.string (⟨#[]⟩ : ByteArray)) := (blk_cell BK129.out 1).trans rfl; have hcz61_2 : w60.cell? ⟨gb129, 2, none⟩ = some (.string (⟨#[]⟩ : ByteArray)) := (blk_cell BK129.out 2).trans rfl; have hfz61_0 := blk_frozen BK129.out 0; have hfz61_1 := blk_frozen BK129.out 1; have hfz61_2 := blk_frozen BK129.out 2))
                    have n0_ : Aside0 ((((w60.setCell ⟨gb129, 0, none⟩ (.string t126)).setCell ⟨gb129, 1, none⟩ (.string t127)).setCell ⟨gb129, 2, none⟩ (.string t128)).heap[gb129]? = some (.cells #[.string t126, .string t127, .string t128] 25 (0, 0))) := ⟨by (with_reducible repeat (first | refine blk_drewN ?_ _ | refine blk_drew ?_ | refine blk_alloc ?_ _)); refine blk_put (cs := #[.string t126, .string t127, .string (⟨#[]⟩ : ByteArray)]) ?_ 2 _ rfl; (with_reducible repeat (first | refine blk_drewN ?_ _ | refine blk_drew ?_ | refine blk_alloc ?_ _)); refine blk_put (cs := #[.string t126, .string (⟨#[]⟩ : ByteArray), .string (⟨#[]⟩ : ByteArray)]) ?_ 1 _ rfl; (with_reducible repeat (first | refine blk_drewN ?_ _ | refine blk_drew ?_ | refine blk_alloc ?_ _)); refine blk_put (cs := #[.string (⟨#[]⟩ : ByteArray), .string (⟨#[]⟩ : ByteArray), .string (⟨#[]⟩ : ByteArray)]) ?_ 0 _ rfl; (with_reducible repeat (first | refine blk_drewN ?_ _ | refine blk_drew ?_ | refine blk_alloc ?_ _)); exact BK129.out⟩
                    have n1_ : Aside0 (Below w.heap.size w (((w60.setCell ⟨gb129, 0, none⟩ (.string t126)).setCell ⟨gb129, 1, none⟩ (.string t127)).setCell ⟨gb129, 2, none⟩ (.string t128))) := ⟨by repeat (first | (with_reducible first | exact HB.out | apply below_alloc | apply pw_below_drewN | apply below_drew1 | refine below_set ?_ GE129.out) | exact HB.out)⟩
                    (try clear BK129)
                    (try clear HB)
                    generalize (((w60.setCell ⟨gb129, 0, none⟩ (.string t126)).setCell ⟨gb129, 1, none⟩ (.string t127)).setCell ⟨gb129, 2, none⟩ (.string t128)) = w62 at n0_ n1_ ⊢
                    have BK129 := n0_
                    have HB := n1_
                    clear n0_ n1_
                    have n0_ := Aside0.mk (blk_drew BK129.out)
                    have n1_ := Aside0.mk (below_drew1 HB.out)
                    clear BK129
                    clear HB
                    have BK129 := n0_
                    have HB := n1_
                    clear n0_ n1_
                    refine start_ (n := 5) (S := fun w' => w'.cell? ⟨gb129, 0, none⟩ = some (.string t126) ∧ w'.cell? ⟨gb129, 1, none⟩ = some (.string t127) ∧ w'.cell? ⟨gb129, 2, none⟩ = some (.string t128)) (ds := []) #[false, false, false, false, false] (by kernel_rfl) rfl rfl ⟨(blk_cell BK129.out 0).trans rfl, (blk_cell BK129.out 1).trans rfl, (blk_cell BK129.out 2).trans rfl⟩ (fun hHeld => ?_)
                    generalize w62.drew = w63 at BK129 HB hHeld ⊢
                    refine pure_ (i := 1) (N := some 22) (v := ?_) (a' := ?_) #[false, true, false, false, false] rfl rfl (by kernel_rfl) (fun _ _ _ h => h) (Or.inl ⟨by rfl, ?_⟩) ?_ ?_
                    rotate_left
                    · intro w'
                      go_simp
                      with_reducible rfl
                    rotate_left
                    · simp only [Act.put, List.setIfInBounds_toArray, List.set_cons_zero, List.set_cons_succ, i64_w, i32_w]
                      rfl
                    refine pure_ (i := 2) (N := some 23) (v := ?_) (a' := ?_) #[false, true, true, false, false] rfl rfl (by kernel_rfl) (fun _ _ _ h => h) (Or.inl ⟨by rfl, ?_⟩) ?_ ?_
                    rotate_left
                    · intro w'
                      go_simp
                      with_reducible rfl
                    rotate_left
                    · simp only [Act.put, List.setIfInBounds_toArray, List.set_cons_zero, List.set_cons_succ, i64_w, i32_w]
                      rfl
                    refine take_ (i := 0) (N := some 21) (v := ?_) (a' := ?_) #[true, true, true, false, false] rfl rfl (by kernel_rfl) (fun _ _ _ h => h) (Or.inl ⟨by rfl, ?_⟩) hHeld ?_ ?_
                    rotate_left
                    · rintro w' ⟨s0, s1, s2⟩
                      go_simp
                      with_reducible rfl
                    rotate_left
                    · simp only [Act.put, List.setIfInBounds_toArray, List.set_cons_zero, List.set_cons_succ, i64_w, i32_w]
                      rfl
                    refine one_ (i := 3) (N := some 24) #[true, true, true, true, false] rfl rfl (by kernel_rfl) (by decide) (fun K hK => ?_)
                    refine goes_ Try.func28 (by kernel_rfl) rfl #[.string a0, .string a1] (by rfl) rfl rfl (by (try simp only [List.map_toArray, List.map_cons, List.map_nil]); first | done | rfl | (simp only [List.length_drop, List.length_take]; rfl)) ?_
                    with_reducible refine (spec_KindOf.calls kj2 a0 a1 t130 t131 t132 _ A7.out).mono ?_
                    rintro e w64 ⟨rfl, hb⟩
                    refine ⟨_, rfl, ?_⟩
                    have n0_ := Aside0.mk (blk_below (g := gb129) (o := .cells #[.string t126, .string t127, .string t128] 25 (0, 0)) (by (with_reducible repeat (first | refine blk_drewN ?_ _ | refine blk_drew ?_ | refine blk_alloc ?_ _)); exact BK129.out) hb)
                    have n1_ := Aside0.mk (below_step (by repeat (first | (with_reducible first | exact HB.out | apply below_alloc | apply pw_below_drewN | apply below_drew1 | refine below_set ?_ GE129.out) | exact HB.out)) hb)
                    clear BK129
                    clear HB
                    have BK129 := n0_
                    have HB := n1_
                    clear n0_ n1_
                    (try clear hb)
                    (try clear hb2)
                    (try clear hk)
                    (try clear hi)
                    refine hK.out _ _ ⟨(blk_cell BK129.out 0).trans rfl, (blk_cell BK129.out 1).trans rfl, (blk_cell BK129.out 2).trans rfl⟩ (fun hHeld => ?_)
                    clear hK K
                    refine norm_ (a' := ?_) ?_ ?_
                    rotate_left
                    · show Act.put _ (some 24) _ = _
                      simp only [Act.put, List.setIfInBounds_toArray, List.set_cons_zero, List.set_cons_succ, i64_w, i32_w]
                      rfl
                    refine pure_ (i := 4) (N := some 25) (v := ?_) (a' := ?_) #[true, true, true, true, true] rfl rfl (by kernel_rfl) (fun _ _ _ h => h) (Or.inl ⟨by rfl, ?_⟩) ?_ ?_
                    rotate_left
                    · intro w'
                      go_simp
                      with_reducible rfl
                    rotate_left
                    · simp only [Act.put, List.setIfInBounds_toArray, List.set_cons_zero, List.set_cons_succ, i64_w, i32_w]
                      rfl
                    refine done_ (by kernel_rfl) ?_
                    try go_wp2_with (first | ((with_reducible refine gate_callee (f := 24) rfl ?_); refine goesL_ (some 28) rfl rfl Try.func24 (by kernel_rfl) rfl #[.string a0] rfl (by (try simp only [List.map_toArray, List.map_cons, List.map_nil]); first | done | rfl | (simp only [List.length_drop, List.length_take]; rfl)) ?_; (with_reducible refine (spec_GroupVersion.calls kj2 a0 t133 t134 t135 true _ A15.out).mono ?_); rintro e w65 ⟨rfl, hb⟩; refine ⟨_, rfl, ?_⟩; have n0_ := Aside0.mk (blk_below (g := gb129) (o := .cells #[.string t126, .string t127, .string t128] 25 (0, 0)) (by (with_reducible repeat (first | refine blk_drewN ?_ _ | refine blk_drew ?_ | refine blk_alloc ?_ _)); exact BK129.out) hb); have n1_ := Aside0.mk (below_step (by repeat (first | (with_reducible first | exact HB.out | apply below_alloc | apply pw_below_drewN | apply below_drew1 | refine below_set ?_ GE129.out) | exact HB.out)) hb); clear BK129; clear HB; have BK129 := n0_; have HB := n1_; clear n0_ n1_; (try clear hb); (try clear hb2); (try clear hk); (try clear hi)) | ((with_reducible refine gate_dst (N := 6) rfl ?_); (try (refine gate_guard (by rfl) ?_; dsimp only)); refine box_event ?hg (N := 6) ?hd (cs := #[.string (⟨#[]⟩ : ByteArray), .string (⟨#[]⟩ : ByteArray), .string (⟨#[]⟩ : ByteArray)]) (t := 25) ?hr ?_; (case hd => rfl); (case hg => rfl); (case hr => first | (go_simp; done) | (go_simp; rfl)); intro gb137 hg w66 hbox hb; have n0_ := Aside0.mk (blk_below (g := gb129) (o := .cells #[.string t126, .string t127, .string t128] 25 (0, 0)) (by (with_reducible repeat (first | refine blk_drewN ?_ _ | refine blk_drew ?_ | refine blk_alloc ?_ _)); exact BK129.out) hb); have n1_ := Aside0.mk (below_step (by repeat (first | (with_reducible first | exact HB.out | apply below_alloc | apply pw_below_drewN | apply below_drew1 | refine below_set ?_ GE129.out) | exact HB.out)) hb); have n2_ := Aside0.mk (hbox); have n3_ := Aside0.mk ((by rw [hg]; exact (below_size (by repeat (first | (with_reducible first | exact HB.out | apply below_alloc | apply pw_below_drewN | apply below_drew1 | refine below_set ?_ GE129.out) | exact HB.out))) : w.heap.size ≤ gb137)); have n4_ := Aside0.mk ((by rw [hg]; exact (below_size (by repeat (first | (with_reducible first | exact HB.out | apply below_alloc | apply pw_below_drewN | apply below_drew1 | refine below_set ?_ GE129.out) | exact HB.out))) : w.heap.size ≤ gb137)); have n5_ := Aside0.mk ((by rw [hg]; exact Nat.ne_of_lt (blk_lt (g := gb129) (o := .cells #[.string t126, .string t127, .string t128] 25 (0, 0)) (by (with_reducible repeat (first | refine blk_drewN ?_ _ | refine blk_drew ?_ | refine blk_alloc ?_ _)); exact BK129.out)) : gb129 ≠ gb137)); have n6_ := Aside0.mk ((by rw [hg]; exact Nat.ne_of_gt (blk_lt (g := gb129) (o := .cells #[.string t126, .string t127, .string t128] 25 (0, 0)) (by (with_reducible repeat (first | refine blk_drewN ?_ _ | refine blk_drew ?_ | refine blk_alloc ?_ _)); exact BK129.out)) : gb137 ≠ gb129)); clear BK129; clear HB; have BK129 := n0_; have HB := n1_; have BK137 := n2_; have GW137 := n3_; have GE137 := n4_; have NB129_137 := n5_; have NB137_129 := n6_; clear n0_ n1_ n2_ n3_ n4_ n5_ n6_; clear hb hbox hg; have hnb67 := NB137_129.out; have hnc67 := NB129_137.out; have hcz68_0 : w66.cell? ⟨gb137, 0, none⟩ = some (.string (⟨#[]⟩ : ByteArray)) := (blk_cell BK137.out 0).trans rfl; have hcz68_1 : w66.cell? ⟨gb137, 1, none⟩ = some (.string (⟨#[]⟩ : ByteArray)) := (blk_cell BK137.out 1).trans rfl; have hcz68_2 : w66.cell? ⟨gb137, 2, none⟩ = some (.string (⟨#[]⟩ : ByteArray)) := (blk_cell BK137.out 2).trans rfl; have hfz68_0 := blk_frozen BK137.out 0; have hfz68_1 := blk_frozen BK137.out 1; have hfz68_2 := blk_frozen BK137.out 2; have p45 : 0 ≤ (0 : Int) := (by omega); have q45 : 0 < a0.size := (by have : (0 : Int) < (a0.size : Int) := of_decide_eq_true (by first | (with_reducible assumption) | assumption); omega); have hx45 : ∀ h : 0 < a0.size, ((a0[0]'h).toNat : Int) = bt a0 0 := bt_at a0 0; clear p45; have qi45 : (0 < (a0.size : Int)) = True := eq_true (of_decide_eq_true (by first | (with_reducible assumption) | assumption)); replace q45 := eq_true q45; have hcz69_0 : w66.cell? ⟨gb129, 0, none⟩ = some (.string t126) := (blk_cell BK129.out 0).trans rfl; have hcz69_1 : w66.cell? ⟨gb129, 1, none⟩ = some (.string t127) := (blk_cell BK129.out 1).trans rfl; have hcz69_2 : w66.cell? ⟨gb129, 2, none⟩ = some (.string t128) := (blk_cell BK129.out 2).trans rfl; have hfz69_0 := blk_frozen BK129.out 0; have hfz69_1 := blk_frozen BK129.out 1; have hfz69_2 := blk_frozen BK129.out 2) | ((with_reducible refine gate_callee (f := 29) rfl ?_); refine goesL_ (some 44) rfl rfl Try.func29 (by kernel_rfl) rfl #[.agg #[.string t126, .string t127, .string t128]] rfl (by (try simp only [List.map_toArray, List.map_cons, List.map_nil]); first | done | rfl | (simp only [List.length_drop, List.length_take]; rfl)) ?_; (with_reducible refine (impl_KindTo.calls t126 t127 t128 t140 t141 _ A57.out).mono ?_); rintro e w70 ⟨rfl, hb⟩; refine ⟨_, rfl, ?_⟩; have n0_ := Aside0.mk (blk_below (g := gb129) (o := .cells #[.string t126, .string t127, .string t128] 25 (0, 0)) (by (with_reducible repeat (first | refine blk_drewN ?_ _ | refine blk_drew ?_ | refine blk_alloc ?_ _)); refine blk_far ?_ NB129_137.out _; (with_reducible repeat (first | refine blk_drewN ?_ _ | refine blk_drew ?_ | refine blk_alloc ?_ _)); refine blk_far ?_ NB129_137.out _; (with_reducible repeat (first | refine blk_drewN ?_ _ | refine blk_drew ?_ | refine blk_alloc ?_ _)); refine blk_far ?_ NB129_137.out _; (with_reducible repeat (first | refine blk_drewN ?_ _ | refine blk_drew ?_ | refine blk_alloc ?_ _)); exact BK129.out) hb); have n1_ := Aside0.mk (blk_below (g := gb137) (o := .cells #[.string t133, .string t134, .string t135] 25 (0, 0)) (by (with_reducible repeat (first | refine blk_drewN ?_ _ | refine blk_drew ?_ | refine blk_alloc ?_ _)); refine blk_put (cs := #[.string t133, .string t134, .string (⟨#[]⟩ : ByteArray)]) ?_ 2 _ rfl; (with_reducible repeat (first | refine blk_drewN ?_ _ | refine blk_drew ?_ | refine blk_alloc ?_ _)); refine blk_put (cs := #[.string t133, .string (⟨#[]⟩ : ByteArray), .string (⟨#[]⟩ : ByteArray)]) ?_ 1 _ rfl; (with_reducible repeat (first | refine blk_drewN ?_ _ | refine blk_drew ?_ | refine blk_alloc ?_ _)); refine blk_put (cs := #[.string (⟨#[]⟩ : ByteArray), .string (⟨#[]⟩ : ByteArray), .string (⟨#[]⟩ : ByteArray)]) ?_ 0 _ rfl; (with_reducible repeat (first | refine blk_drewN ?_ _ | refine blk_drew ?_ | refine blk_alloc ?_ _)); exact BK137.out) hb); have n2_ := Aside0.mk (below_step (by repeat (first | (with_reducible first | exact HB.out | apply below_alloc | apply pw_below_drewN | apply below_drew1 | refine below_set ?_ GE129.out | refine below_set ?_ GE137.out) | exact HB.out)) hb); clear BK129; clear BK137; clear HB; have BK129 := n0_; have BK137 := n1_; have HB := n2_; clear n0_ n1_ n2_; (try clear hb); (try clear hb2); (try clear hk); (try clear hi)))
                    go_ret
                    exact ⟨by first | rfl | (simp [errW_none, errW_some] <;> rfl) | (simp [*, errW_none, errW_some] <;> rfl), by repeat (first | (with_reducible first | exact HB.out | apply below_alloc | apply pw_below_drewN | apply below_drew1 | refine below_set ?_ GE129.out | refine below_set ?_ GE137.out) | exact HB.out)⟩
                  · rw [if_neg c58] at H
                    have c58b0 : (t140.toList == a0.toList) = false := beq_eq_false_iff_ne.mpr c58
                    have c58b1 : (t140.toList != a0.toList) = true := bne_iff_ne.mpr c58
                    obtain rfl := Option.some.inj H
                    try go_wp2_with (first | ((with_reducible refine gate_callee (f := 27) rfl ?_); refine goesL_ (some 20) rfl rfl Try.func27 (by kernel_rfl) rfl #[.string a0, .string a1] rfl (by (try simp only [List.map_toArray, List.map_cons, List.map_nil]); first | done | rfl | (simp only [List.length_drop, List.length_take]; rfl)) ?_; (with_reducible refine (impl_KindOf.calls kj2 a0 a1 t126 t127 t128 _ A6.out).mono ?_); rintro e w71 ⟨rfl, hb⟩; refine ⟨_, rfl, ?_⟩; have n0_ := Aside0.mk (below_step (by repeat (first | (with_reducible first | exact HB.out | apply below_alloc | apply pw_below_drewN | apply below_drew1) | exact HB.out)) hb); clear HB; have HB := n0_; clear n0_; (try clear hb); (try clear hb2); (try clear hk); (try clear hi)) | ((with_reducible refine gate_dst (N := 5) rfl ?_); (try (refine gate_guard (by rfl) ?_; dsimp only)); refine box_event ?hg (N := 5) ?hd (cs := #[.string (⟨#[]⟩ : ByteArray), .string (⟨#[]⟩ : ByteArray), .string (⟨#[]⟩ : ByteArray)]) (t := 25) ?hr ?_; (case hd => rfl); (case hg => rfl); (case hr => first | (go_simp; done) | (go_simp; rfl)); intro gb129 hg w72 hbox hb; have n0_ := Aside0.mk (below_step (by repeat (first | (with_reducible first | exact HB.out | apply below_alloc | apply pw_below_drewN | apply below_drew1) | exact HB.out)) hb); have n1_ := Aside0.mk (hbox); have n2_ := Aside0.mk ((by rw [hg]; exact (below_size (by repeat (first | (with_reducible first | exact HB.out | apply below_alloc | apply pw_below_drewN | apply below_drew1) | exact HB.out))) : w.heap.size ≤ gb129)); have n3_ := Aside0.mk ((by rw [hg]; exact (below_size (by repeat (first | (with_reducible first | exact HB.out | apply below_alloc | apply pw_below_drewN | apply below_drew1) | exact HB.out))) : w.heap.size ≤ gb129)); clear HB; have HB := n0_; have BK129 := n1_; have GW129 := n2_; have GE129 := n3_; clear n0_ n1_ n2_ n3_; clear hb hbox hg; have hcz73_0 : w72.cell? ⟨gb129, 0, none⟩ = some (.string (⟨#[]⟩ : ByteArray)) := (blk_cell BK129.out 0).trans rfl; have hcz73_1 : w72.cell? ⟨gb129, 1, none⟩ = some (.string (⟨#[]⟩ : ByteArray)) := (blk_cell BK129.out 1).trans rfl; have hcz73_2 : w72.cell? ⟨gb129, 2, none⟩ = some (.string (⟨#[]⟩ : ByteArray)) := (blk_cell BK129.out 2).trans rfl; have hfz73_0 := blk_frozen BK129.out 0; have hfz73_1 := blk_frozen BK129.out 1; have hfz73_2 := blk_frozen BK129.out 2))
                    have n0_ : Aside0 ((((w72.setCell ⟨gb129, 0, none⟩ (.string t126)).setCell ⟨gb129, 1, none⟩ (.string t127)).setCell ⟨gb129, 2, none⟩ (.string t128)).heap[gb129]? = some (.cells #[.string t126, .string t127, .string t128] 25 (0, 0))) := ⟨by (with_reducible repeat (first | refine blk_drewN ?_ _ | refine blk_drew ?_ | refine blk_alloc ?_ _)); refine blk_put (cs := #[.string t126, .string t127, .string (⟨#[]⟩ : ByteArray)]) ?_ 2 _ rfl; (with_reducible repeat (first | refine blk_drewN ?_ _ | refine blk_drew ?_ | refine blk_alloc ?_ _)); refine blk_put (cs := #[.string t126, .string (⟨#[]⟩ : ByteArray), .string (⟨#[]⟩ : ByteArray)]) ?_ 1 _ rfl; (with_reducible repeat (first | refine blk_drewN ?_ _ | refine blk_drew ?_ | refine blk_alloc ?_ _)); refine blk_put (cs := #[.string (⟨#[]⟩ : ByteArray), .string (⟨#[]⟩ : ByteArray), .string (⟨#[]⟩ : ByteArray)]) ?_ 0 _ rfl; (with_reducible repeat (first | refine blk_drewN ?_ _ | refine blk_drew ?_ | refine blk_alloc ?_ _)); exact BK129.out⟩
                    have n1_ : Aside0 (Below w.heap.size w (((w72.setCell ⟨gb129, 0, none⟩ (.string t126)).setCell ⟨gb129, 1, none⟩ (.string t127)).setCell ⟨gb129, 2, none⟩ (.string t128))) := ⟨by repeat (first | (with_reducible first | exact HB.out | apply below_alloc | apply pw_below_drewN | apply below_drew1 | refine below_set ?_ GE129.out) | exact HB.out)⟩
                    (try clear BK129)
                    (try clear HB)
                    generalize (((w72.setCell ⟨gb129, 0, none⟩ (.string t126)).setCell ⟨gb129, 1, none⟩ (.string t127)).setCell ⟨gb129, 2, none⟩ (.string t128)) = w74 at n0_ n1_ ⊢
                    have BK129 := n0_
                    have HB := n1_
                    clear n0_ n1_
                    have n0_ := Aside0.mk (blk_drew BK129.out)
                    have n1_ := Aside0.mk (below_drew1 HB.out)
                    clear BK129
                    clear HB
                    have BK129 := n0_
                    have HB := n1_
                    clear n0_ n1_
                    refine start_ (n := 5) (S := fun w' => w'.cell? ⟨gb129, 0, none⟩ = some (.string t126) ∧ w'.cell? ⟨gb129, 1, none⟩ = some (.string t127) ∧ w'.cell? ⟨gb129, 2, none⟩ = some (.string t128)) (ds := []) #[false, false, false, false, false] (by kernel_rfl) rfl rfl ⟨(blk_cell BK129.out 0).trans rfl, (blk_cell BK129.out 1).trans rfl, (blk_cell BK129.out 2).trans rfl⟩ (fun hHeld => ?_)
                    generalize w74.drew = w75 at BK129 HB hHeld ⊢
                    refine pure_ (i := 1) (N := some 22) (v := ?_) (a' := ?_) #[false, true, false, false, false] rfl rfl (by kernel_rfl) (fun _ _ _ h => h) (Or.inl ⟨by rfl, ?_⟩) ?_ ?_
                    rotate_left
                    · intro w'
                      go_simp
                      with_reducible rfl
                    rotate_left
                    · simp only [Act.put, List.setIfInBounds_toArray, List.set_cons_zero, List.set_cons_succ, i64_w, i32_w]
                      rfl
                    refine pure_ (i := 2) (N := some 23) (v := ?_) (a' := ?_) #[false, true, true, false, false] rfl rfl (by kernel_rfl) (fun _ _ _ h => h) (Or.inl ⟨by rfl, ?_⟩) ?_ ?_
                    rotate_left
                    · intro w'
                      go_simp
                      with_reducible rfl
                    rotate_left
                    · simp only [Act.put, List.setIfInBounds_toArray, List.set_cons_zero, List.set_cons_succ, i64_w, i32_w]
                      rfl
                    refine take_ (i := 0) (N := some 21) (v := ?_) (a' := ?_) #[true, true, true, false, false] rfl rfl (by kernel_rfl) (fun _ _ _ h => h) (Or.inl ⟨by rfl, ?_⟩) hHeld ?_ ?_
                    rotate_left
                    · rintro w' ⟨s0, s1, s2⟩
                      go_simp
                      with_reducible rfl
                    rotate_left
                    · simp only [Act.put, List.setIfInBounds_toArray, List.set_cons_zero, List.set_cons_succ, i64_w, i32_w]
                      rfl
                    refine one_ (i := 3) (N := some 24) #[true, true, true, true, false] rfl rfl (by kernel_rfl) (by decide) (fun K hK => ?_)
                    refine goes_ Try.func28 (by kernel_rfl) rfl #[.string a0, .string a1] (by rfl) rfl rfl (by (try simp only [List.map_toArray, List.map_cons, List.map_nil]); first | done | rfl | (simp only [List.length_drop, List.length_take]; rfl)) ?_
                    with_reducible refine (spec_KindOf.calls kj2 a0 a1 t130 t131 t132 _ A7.out).mono ?_
                    rintro e w76 ⟨rfl, hb⟩
                    refine ⟨_, rfl, ?_⟩
                    have n0_ := Aside0.mk (blk_below (g := gb129) (o := .cells #[.string t126, .string t127, .string t128] 25 (0, 0)) (by (with_reducible repeat (first | refine blk_drewN ?_ _ | refine blk_drew ?_ | refine blk_alloc ?_ _)); exact BK129.out) hb)
                    have n1_ := Aside0.mk (below_step (by repeat (first | (with_reducible first | exact HB.out | apply below_alloc | apply pw_below_drewN | apply below_drew1 | refine below_set ?_ GE129.out) | exact HB.out)) hb)
                    clear BK129
                    clear HB
                    have BK129 := n0_
                    have HB := n1_
                    clear n0_ n1_
                    (try clear hb)
                    (try clear hb2)
                    (try clear hk)
                    (try clear hi)
                    refine hK.out _ _ ⟨(blk_cell BK129.out 0).trans rfl, (blk_cell BK129.out 1).trans rfl, (blk_cell BK129.out 2).trans rfl⟩ (fun hHeld => ?_)
                    clear hK K
                    refine norm_ (a' := ?_) ?_ ?_
                    rotate_left
                    · show Act.put _ (some 24) _ = _
                      simp only [Act.put, List.setIfInBounds_toArray, List.set_cons_zero, List.set_cons_succ, i64_w, i32_w]
                      rfl
                    refine pure_ (i := 4) (N := some 25) (v := ?_) (a' := ?_) #[true, true, true, true, true] rfl rfl (by kernel_rfl) (fun _ _ _ h => h) (Or.inl ⟨by rfl, ?_⟩) ?_ ?_
                    rotate_left
                    · intro w'
                      go_simp
                      with_reducible rfl
                    rotate_left
                    · simp only [Act.put, List.setIfInBounds_toArray, List.set_cons_zero, List.set_cons_succ, i64_w, i32_w]
                      rfl
                    refine done_ (by kernel_rfl) ?_
                    try go_wp2_with (first | ((with_reducible refine gate_callee (f := 24) rfl ?_); refine goesL_ (some 28) rfl rfl Try.func24 (by kernel_rfl) rfl #[.string a0] rfl (by (try simp only [List.map_toArray, List.map_cons, List.map_nil]); first | done | rfl | (simp only [List.length_drop, List.length_take]; rfl)) ?_; (with_reducible refine (spec_GroupVersion.calls kj2 a0 t133 t134 t135 true _ A15.out).mono ?_); rintro e w77 ⟨rfl, hb⟩; refine ⟨_, rfl, ?_⟩; have n0_ := Aside0.mk (blk_below (g := gb129) (o := .cells #[.string t126, .string t127, .string t128] 25 (0, 0)) (by (with_reducible repeat (first | refine blk_drewN ?_ _ | refine blk_drew ?_ | refine blk_alloc ?_ _)); exact BK129.out) hb); have n1_ := Aside0.mk (below_step (by repeat (first | (with_reducible first | exact HB.out | apply below_alloc | apply pw_below_drewN | apply below_drew1 | refine below_set ?_ GE129.out) | exact HB.out)) hb); clear BK129; clear HB; have BK129 := n0_; have HB := n1_; clear n0_ n1_; (try clear hb); (try clear hb2); (try clear hk); (try clear hi)) | ((with_reducible refine gate_dst (N := 6) rfl ?_); (try (refine gate_guard (by rfl) ?_; dsimp only)); refine box_event ?hg (N := 6) ?hd (cs := #[.string (⟨#[]⟩ : ByteArray), .string (⟨#[]⟩ : ByteArray), .string (⟨#[]⟩ : ByteArray)]) (t := 25) ?hr ?_; (case hd => rfl); (case hg => rfl); (case hr => first | (go_simp; done) | (go_simp; rfl)); intro gb137 hg w78 hbox hb; have n0_ := Aside0.mk (blk_below (g := gb129) (o := .cells #[.string t126, .string t127, .string t128] 25 (0, 0)) (by (with_reducible repeat (first | refine blk_drewN ?_ _ | refine blk_drew ?_ | refine blk_alloc ?_ _)); exact BK129.out) hb); have n1_ := Aside0.mk (below_step (by repeat (first | (with_reducible first | exact HB.out | apply below_alloc | apply pw_below_drewN | apply below_drew1 | refine below_set ?_ GE129.out) | exact HB.out)) hb); have n2_ := Aside0.mk (hbox); have n3_ := Aside0.mk ((by rw [hg]; exact (below_size (by repeat (first | (with_reducible first | exact HB.out | apply below_alloc | apply pw_below_drewN | apply below_drew1 | refine below_set ?_ GE129.out) | exact HB.out))) : w.heap.size ≤ gb137)); have n4_ := Aside0.mk ((by rw [hg]; exact (below_size (by repeat (first | (with_reducible first | exact HB.out | apply below_alloc | apply pw_below_drewN | apply below_drew1 | refine below_set ?_ GE129.out) | exact HB.out))) : w.heap.size ≤ gb137)); have n5_ := Aside0.mk ((by rw [hg]; exact Nat.ne_of_lt (blk_lt (g := gb129) (o := .cells #[.string t126, .string t127, .string t128] 25 (0, 0)) (by (with_reducible repeat (first | refine blk_drewN ?_ _ | refine blk_drew ?_ | refine blk_alloc ?_ _)); exact BK129.out)) : gb129 ≠ gb137)); have n6_ := Aside0.mk ((by rw [hg]; exact Nat.ne_of_gt (blk_lt (g := gb129) (o := .cells #[.string t126, .string t127, .string t128] 25 (0, 0)) (by (with_reducible repeat (first | refine blk_drewN ?_ _ | refine blk_drew ?_ | refine blk_alloc ?_ _)); exact BK129.out)) : gb137 ≠ gb129)); clear BK129; clear HB; have BK129 := n0_; have HB := n1_; have BK137 := n2_; have GW137 := n3_; have GE137 := n4_; have NB129_137 := n5_; have NB137_129 := n6_; clear n0_ n1_ n2_ n3_ n4_ n5_ n6_; clear hb hbox hg; have hnb79 := NB137_129.out; have hnc79 := NB129_137.out; have hcz80_0 : w78.cell? ⟨gb137, 0, none⟩ = some (.string (⟨#[]⟩ : ByteArray)) := (blk_cell BK137.out 0).trans rfl; have hcz80_1 : w78.cell? ⟨gb137, 1, none⟩ = some (.string (⟨#[]⟩ : ByteArray)) := (blk_cell BK137.out 1).trans rfl; have hcz80_2 : w78.cell? ⟨gb137, 2, none⟩ = some (.string (⟨#[]⟩ : ByteArray)) := (blk_cell BK137.out 2).trans rfl; have hfz80_0 := blk_frozen BK137.out 0; have hfz80_1 := blk_frozen BK137.out 1; have hfz80_2 := blk_frozen BK137.out 2; have p45 : 0 ≤ (0 : Int) := (by omega); have q45 : 0 < a0.size := (by have : (0 : Int) < (a0.size : Int) := of_decide_eq_true (by first | (with_reducible assumption) | assumption); omega); have hx45 : ∀ h : 0 < a0.size, ((a0[0]'h).toNat : Int) = bt a0 0 := bt_at a0 0; clear p45; have qi45 : (0 < (a0.size : Int)) = True := eq_true (of_decide_eq_true (by first | (with_reducible assumption) | assumption)); replace q45 := eq_true q45; have hcz81_0 : w78.cell? ⟨gb129, 0, none⟩ = some (.string t126) := (blk_cell BK129.out 0).trans rfl; have hcz81_1 : w78.cell? ⟨gb129, 1, none⟩ = some (.string t127) := (blk_cell BK129.out 1).trans rfl; have hcz81_2 : w78.cell? ⟨gb129, 2, none⟩ = some (.string t128) := (blk_cell BK129.out 2).trans rfl; have hfz81_0 := blk_frozen BK129.out 0; have hfz81_1 := blk_frozen BK129.out 1; have hfz81_2 := blk_frozen BK129.out 2) | ((with_reducible refine gate_callee (f := 29) rfl ?_); refine goesL_ (some 44) rfl rfl Try.func29 (by kernel_rfl) rfl #[.agg #[.string t126, .string t127, .string t128]] rfl (by (try simp only [List.map_toArray, List.map_cons, List.map_nil]); first | done | rfl | (simp only [List.length_drop, List.length_take]; rfl)) ?_; (with_reducible refine (impl_KindTo.calls t126 t127 t128 t140 t141 _ A57.out).mono ?_); rintro e w82 ⟨rfl, hb⟩; refine ⟨_, rfl, ?_⟩; have n0_ := Aside0.mk (blk_below (g := gb129) (o := .cells #[.string t126, .string t127, .string t128] 25 (0, 0)) (by (with_reducible repeat (first | refine blk_drewN ?_ _ | refine blk_drew ?_ | refine blk_alloc ?_ _)); refine blk_far ?_ NB129_137.out _; (with_reducible repeat (first | refine blk_drewN ?_ _ | refine blk_drew ?_ | refine blk_alloc ?_ _)); refine blk_far ?_ NB129_137.out _; (with_reducible repeat (first | refine blk_drewN ?_ _ | refine blk_drew ?_ | refine blk_alloc ?_ _)); refine blk_far ?_ NB129_137.out _; (with_reducible repeat (first | refine blk_drewN ?_ _ | refine blk_drew ?_ | refine blk_alloc ?_ _)); exact BK129.out) hb); have n1_ := Aside0.mk (blk_below (g := gb137) (o := .cells #[.string t133, .string t134, .string t135] 25 (0, 0)) (by (with_reducible repeat (first | refine blk_drewN ?_ _ | refine blk_drew ?_ | refine blk_alloc ?_ _)); refine blk_put (cs := #[.string t133, .string t134, .string (⟨#[]⟩ : ByteArray)]) ?_ 2 _ rfl; (with_reducible repeat (first | refine blk_drewN ?_ _ | refine blk_drew ?_ | refine blk_alloc ?_ _)); refine blk_put (cs := #[.string t133, .string (⟨#[]⟩ : ByteArray), .string (⟨#[]⟩ : ByteArray)]) ?_ 1 _ rfl; (with_reducible repeat (first | refine blk_drewN ?_ _ | refine blk_drew ?_ | refine blk_alloc ?_ _)); refine blk_put (cs := #[.string (⟨#[]⟩ : ByteArray), .string (⟨#[]⟩ : ByteArray), .string (⟨#[]⟩ : ByteArray)]) ?_ 0 _ rfl; (with_reducible repeat (first | refine blk_drewN ?_ _ | refine blk_drew ?_ | refine blk_alloc ?_ _)); exact BK137.out) hb); have n2_ := Aside0.mk (below_step (by repeat (first | (with_reducible first | exact HB.out | apply below_alloc | apply pw_below_drewN | apply below_drew1 | refine below_set ?_ GE129.out | refine below_set ?_ GE137.out) | exact HB.out)) hb); clear BK129; clear BK137; clear HB; have BK129 := n0_; have BK137 := n1_; have HB := n2_; clear n0_ n1_ n2_; (try clear hb); (try clear hb2); (try clear hk); (try clear hi)))
                    go_ret
                    exact ⟨by first | rfl | (simp [errW_none, errW_some] <;> rfl) | (simp [*, errW_none, errW_some] <;> rfl), by repeat (first | (with_reducible first | exact HB.out | apply below_alloc | apply pw_below_drewN | apply below_drew1 | refine below_set ?_ GE129.out | refine below_set ?_ GE137.out) | exact HB.out)⟩
              · rw [if_neg c44] at H
                exact absurd H (by simp)
          · replace c16 := Bool.eq_false_iff.mpr c16
            subst c16
            have H1 : (some true) = some r := by rw [if_neg (show ¬ (false = true) by decide)] at H; exact H
            clear H
            have H := H1
            clear H1
            obtain rfl := Option.some.inj H
            try go_wp2_with (first | ((with_reducible refine gate_callee (f := 27) rfl ?_); refine goesL_ (some 20) rfl rfl Try.func27 (by kernel_rfl) rfl #[.string a0, .string a1] rfl (by (try simp only [List.map_toArray, List.map_cons, List.map_nil]); first | done | rfl | (simp only [List.length_drop, List.length_take]; rfl)) ?_; (with_reducible refine (impl_KindOf.calls kj2 a0 a1 t126 t127 t128 _ A6.out).mono ?_); rintro e w83 ⟨rfl, hb⟩; refine ⟨_, rfl, ?_⟩; have n0_ := Aside0.mk (below_step (by repeat (first | (with_reducible first | exact HB.out | apply below_alloc | apply pw_below_drewN | apply below_drew1) | exact HB.out)) hb); clear HB; have HB := n0_; clear n0_; (try clear hb); (try clear hb2); (try clear hk); (try clear hi)) | ((with_reducible refine gate_dst (N := 5) rfl ?_); (try (refine gate_guard (by rfl) ?_; dsimp only)); refine box_event ?hg (N := 5) ?hd (cs := #[.string (⟨#[]⟩ : ByteArray), .string (⟨#[]⟩ : ByteArray), .string (⟨#[]⟩ : ByteArray)]) (t := 25) ?hr ?_; (case hd => rfl); (case hg => rfl); (case hr => first | (go_simp; done) | (go_simp; rfl)); intro gb129 hg w84 hbox hb; have n0_ := Aside0.mk (below_step (by repeat (first | (with_reducible first | exact HB.out | apply below_alloc | apply pw_below_drewN | apply below_drew1) | exact HB.out)) hb); have n1_ := Aside0.mk (hbox); have n2_ := Aside0.mk ((by rw [hg]; exact (below_size (by repeat (first | (with_reducible first | exact HB.out | apply below_alloc | apply pw_below_drewN | apply below_drew1) | exact HB.out))) : w.heap.size ≤ gb129)); have n3_ := Aside0.mk ((by rw [hg]; exact (below_size (by repeat (first | (with_reducible first | exact HB.out | apply below_alloc | apply pw_below_drewN | apply below_drew1) | exact HB.out))) : w.heap.size ≤ gb129)); clear HB; have HB := n0_; have BK129 := n1_; have GW129 := n2_; have GE129 := n3_; clear n0_ n1_ n2_ n3_; clear hb hbox hg; have hcz85_0 : w84.cell? ⟨gb129, 0, none⟩ = some (.string (⟨#[]⟩ : ByteArray)) := (blk_cell BK129.out 0).trans rfl; have hcz85_1 : w84.cell? ⟨gb129, 1, none⟩ = some (.string (⟨#[]⟩ : ByteArray)) := (blk_cell BK129.out 1).trans rfl; have hcz85_2 : w84.cell? ⟨gb129, 2, none⟩ = some (.string (⟨#[]⟩ : ByteArray)) := (blk_cell BK129.out 2).trans rfl; have hfz85_0 := blk_frozen BK129.out 0; have hfz85_1 := blk_frozen BK129.out 1; have hfz85_2 := blk_frozen BK129.out 2))
            have n0_ : Aside0 ((((w84.setCell ⟨gb129, 0, none⟩ (.string t126)).setCell ⟨gb129, 1, none⟩ (.string t127)).setCell ⟨gb129, 2, none⟩ (.string t128)).heap[gb129]? = some (.cells #[.string t126, .string t127, .string t128] 25 (0, 0))) := ⟨by (with_reducible repeat (first | refine blk_drewN ?_ _ | refine blk_drew ?_ | refine blk_alloc ?_ _)); refine blk_put (cs := #[.string t126, .string t127, .string (⟨#[]⟩ : ByteArray)]) ?_ 2 _ rfl; (with_reducible repeat (first | refine blk_drewN ?_ _ | refine blk_drew ?_ | refine blk_alloc ?_ _)); refine blk_put (cs := #[.string t126, .string (⟨#[]⟩ : ByteArray), .string (⟨#[]⟩ : ByteArray)]) ?_ 1 _ rfl; (with_reducible repeat (first | refine blk_drewN ?_ _ | refine blk_drew ?_ | refine blk_alloc ?_ _)); refine blk_put (cs := #[.string (⟨#[]⟩ : ByteArray), .string (⟨#[]⟩ : ByteArray), .string (⟨#[]⟩ : ByteArray)]) ?_ 0 _ rfl; (with_reducible repeat (first | refine blk_drewN ?_ _ | refine blk_drew ?_ | refine blk_alloc ?_ _)); exact BK129.out⟩
            have n1_ : Aside0 (Below w.heap.size w (((w84.setCell ⟨gb129, 0, none⟩ (.string t126)).setCell ⟨gb129, 1, none⟩ (.string t127)).setCell ⟨gb129, 2, none⟩ (.string t128))) := ⟨by repeat (first | (with_reducible first | exact HB.out | apply below_alloc | apply pw_below_drewN | apply below_drew1 | refine below_set ?_ GE129.out) | exact HB.out)⟩
            (try clear BK129)
            (try clear HB)
            generalize (((w84.setCell ⟨gb129, 0, none⟩ (.string t126)).setCell ⟨gb129, 1, none⟩ (.string t127)).setCell ⟨gb129, 2, none⟩ (.string t128)) = w86 at n0_ n1_ ⊢
            have BK129 := n0_
            have HB := n1_
            clear n0_ n1_
            have n0_ := Aside0.mk (blk_drew BK129.out)
            have n1_ := Aside0.mk (below_drew1 HB.out)
            clear BK129
            clear HB
            have BK129 := n0_
            have HB := n1_
            clear n0_ n1_
            refine start_ (n := 5) (S := fun w' => w'.cell? ⟨gb129, 0, none⟩ = some (.string t126) ∧ w'.cell? ⟨gb129, 1, none⟩ = some (.string t127) ∧ w'.cell? ⟨gb129, 2, none⟩ = some (.string t128)) (ds := []) #[false, false, false, false, false] (by kernel_rfl) rfl rfl ⟨(blk_cell BK129.out 0).trans rfl, (blk_cell BK129.out 1).trans rfl, (blk_cell BK129.out 2).trans rfl⟩ (fun hHeld => ?_)
            generalize w86.drew = w87 at BK129 HB hHeld ⊢
            refine pure_ (i := 1) (N := some 22) (v := ?_) (a' := ?_) #[false, true, false, false, false] rfl rfl (by kernel_rfl) (fun _ _ _ h => h) (Or.inl ⟨by rfl, ?_⟩) ?_ ?_
            rotate_left
            · intro w'
              go_simp
              with_reducible rfl
            rotate_left
            · simp only [Act.put, List.setIfInBounds_toArray, List.set_cons_zero, List.set_cons_succ, i64_w, i32_w]
              rfl
            refine pure_ (i := 2) (N := some 23) (v := ?_) (a' := ?_) #[false, true, true, false, false] rfl rfl (by kernel_rfl) (fun _ _ _ h => h) (Or.inl ⟨by rfl, ?_⟩) ?_ ?_
            rotate_left
            · intro w'
              go_simp
              with_reducible rfl
            rotate_left
            · simp only [Act.put, List.setIfInBounds_toArray, List.set_cons_zero, List.set_cons_succ, i64_w, i32_w]
              rfl
            refine take_ (i := 0) (N := some 21) (v := ?_) (a' := ?_) #[true, true, true, false, false] rfl rfl (by kernel_rfl) (fun _ _ _ h => h) (Or.inl ⟨by rfl, ?_⟩) hHeld ?_ ?_
            rotate_left
            · rintro w' ⟨s0, s1, s2⟩
              go_simp
              with_reducible rfl
            rotate_left
            · simp only [Act.put, List.setIfInBounds_toArray, List.set_cons_zero, List.set_cons_succ, i64_w, i32_w]
              rfl
            refine one_ (i := 3) (N := some 24) #[true, true, true, true, false] rfl rfl (by kernel_rfl) (by decide) (fun K hK => ?_)
            refine goes_ Try.func28 (by kernel_rfl) rfl #[.string a0, .string a1] (by rfl) rfl rfl (by (try simp only [List.map_toArray, List.map_cons, List.map_nil]); first | done | rfl | (simp only [List.length_drop, List.length_take]; rfl)) ?_
            with_reducible refine (spec_KindOf.calls kj2 a0 a1 t130 t131 t132 _ A7.out).mono ?_
            rintro e w88 ⟨rfl, hb⟩
            refine ⟨_, rfl, ?_⟩
            have n0_ := Aside0.mk (blk_below (g := gb129) (o := .cells #[.string t126, .string t127, .string t128] 25 (0, 0)) (by (with_reducible repeat (first | refine blk_drewN ?_ _ | refine blk_drew ?_ | refine blk_alloc ?_ _)); exact BK129.out) hb)
            have n1_ := Aside0.mk (below_step (by repeat (first | (with_reducible first | exact HB.out | apply below_alloc | apply pw_below_drewN | apply below_drew1 | refine below_set ?_ GE129.out) | exact HB.out)) hb)
            clear BK129
            clear HB
            have BK129 := n0_
            have HB := n1_
            clear n0_ n1_
            (try clear hb)
            (try clear hb2)
            (try clear hk)
            (try clear hi)
            refine hK.out _ _ ⟨(blk_cell BK129.out 0).trans rfl, (blk_cell BK129.out 1).trans rfl, (blk_cell BK129.out 2).trans rfl⟩ (fun hHeld => ?_)
            clear hK K
            refine norm_ (a' := ?_) ?_ ?_
            rotate_left
            · show Act.put _ (some 24) _ = _
              simp only [Act.put, List.setIfInBounds_toArray, List.set_cons_zero, List.set_cons_succ, i64_w, i32_w]
              rfl
            refine pure_ (i := 4) (N := some 25) (v := ?_) (a' := ?_) #[true, true, true, true, true] rfl rfl (by kernel_rfl) (fun _ _ _ h => h) (Or.inl ⟨by rfl, ?_⟩) ?_ ?_
            rotate_left
            · intro w'
              go_simp
              with_reducible rfl
            rotate_left
            · simp only [Act.put, List.setIfInBounds_toArray, List.set_cons_zero, List.set_cons_succ, i64_w, i32_w]
              rfl
            refine done_ (by kernel_rfl) ?_
            try go_wp2_with (first | ((with_reducible refine gate_callee (f := 24) rfl ?_); refine goesL_ (some 28) rfl rfl Try.func24 (by kernel_rfl) rfl #[.string a0] rfl (by (try simp only [List.map_toArray, List.map_cons, List.map_nil]); first | done | rfl | (simp only [List.length_drop, List.length_take]; rfl)) ?_; (with_reducible refine (spec_GroupVersion.calls kj2 a0 t133 t134 t135 false _ A15.out).mono ?_); rintro e w89 ⟨rfl, hb⟩; refine ⟨_, rfl, ?_⟩; have n0_ := Aside0.mk (blk_below (g := gb129) (o := .cells #[.string t126, .string t127, .string t128] 25 (0, 0)) (by (with_reducible repeat (first | refine blk_drewN ?_ _ | refine blk_drew ?_ | refine blk_alloc ?_ _)); exact BK129.out) hb); have n1_ := Aside0.mk (below_step (by repeat (first | (with_reducible first | exact HB.out | apply below_alloc | apply pw_below_drewN | apply below_drew1 | refine below_set ?_ GE129.out) | exact HB.out)) hb); clear BK129; clear HB; have BK129 := n0_; have HB := n1_; clear n0_ n1_; (try clear hb); (try clear hb2); (try clear hk); (try clear hi)) | ((with_reducible refine gate_dst (N := 6) rfl ?_); (try (refine gate_guard (by rfl) ?_; dsimp only)); refine box_event ?hg (N := 6) ?hd (cs := #[.string (⟨#[]⟩ : ByteArray), .string (⟨#[]⟩ : ByteArray), .string (⟨#[]⟩ : ByteArray)]) (t := 25) ?hr ?_; (case hd => rfl); (case hg => rfl); (case hr => first | (go_simp; done) | (go_simp; rfl)); intro gb137 hg w90 hbox hb; have n0_ := Aside0.mk (blk_below (g := gb129) (o := .cells #[.string t126, .string t127, .string t128] 25 (0, 0)) (by (with_reducible repeat (first | refine blk_drewN ?_ _ | refine blk_drew ?_ | refine blk_alloc ?_ _)); exact BK129.out) hb); have n1_ := Aside0.mk (below_step (by repeat (first | (with_reducible first | exact HB.out | apply below_alloc | apply pw_below_drewN | apply below_drew1 | refine below_set ?_ GE129.out) | exact HB.out)) hb); have n2_ := Aside0.mk (hbox); have n3_ := Aside0.mk ((by rw [hg]; exact (below_size (by repeat (first | (with_reducible first | exact HB.out | apply below_alloc | apply pw_below_drewN | apply below_drew1 | refine below_set ?_ GE129.out) | exact HB.out))) : w.heap.size ≤ gb137)); have n4_ := Aside0.mk ((by rw [hg]; exact (below_size (by repeat (first | (with_reducible first | exact HB.out | apply below_alloc | apply pw_below_drewN | apply below_drew1 | refine below_set ?_ GE129.out) | exact HB.out))) : w.heap.size ≤ gb137)); have n5_ := Aside0.mk ((by rw [hg]; exact Nat.ne_of_lt (blk_lt (g := gb129) (o := .cells #[.string t126, .string t127, .string t128] 25 (0, 0)) (by (with_reducible repeat (first | refine blk_drewN ?_ _ | refine blk_drew ?_ | refine blk_alloc ?_ _)); exact BK129.out)) : gb129 ≠ gb137)); have n6_ := Aside0.mk ((by rw [hg]; exact Nat.ne_of_gt (blk_lt (g := gb129) (o := .cells #[.string t126, .string t127, .string t128] 25 (0, 0)) (by (with_reducible repeat (first | refine blk_drewN ?_ _ | refine blk_drew ?_ | refine blk_alloc ?_ _)); exact BK129.out)) : gb137 ≠ gb129)); clear BK129; clear HB; have BK129 := n0_; have HB := n1_; have BK137 := n2_; have GW137 := n3_; have GE137 := n4_; have NB129_137 := n5_; have NB137_129 := n6_; clear n0_ n1_ n2_ n3_ n4_ n5_ n6_; clear hb hbox hg; have hnb91 := NB137_129.out; have hnc91 := NB129_137.out; have hcz92_0 : w90.cell? ⟨gb137, 0, none⟩ = some (.string (⟨#[]⟩ : ByteArray)) := (blk_cell BK137.out 0).trans rfl; have hcz92_1 : w90.cell? ⟨gb137, 1, none⟩ = some (.string (⟨#[]⟩ : ByteArray)) := (blk_cell BK137.out 1).trans rfl; have hcz92_2 : w90.cell? ⟨gb137, 2, none⟩ = some (.string (⟨#[]⟩ : ByteArray)) := (blk_cell BK137.out 2).trans rfl; have hfz92_0 := blk_frozen BK137.out 0; have hfz92_1 := blk_frozen BK137.out 1; have hfz92_2 := blk_frozen BK137.out 2))
            go_ret
            exact ⟨by first | rfl | (simp [errW_none, errW_some] <;> rfl) | (simp [*, errW_none, errW_some] <;> rfl), by repeat (first | (with_reducible first | exact HB.out | apply below_alloc | apply pw_below_drewN | apply below_drew1 | refine below_set ?_ GE129.out | refine below_set ?_ GE137.out) | exact HB.out)⟩

/-- THE ONE PURE STATEMENT of laws_FnKindOf: yours. -/
def laws_FnKindOf.Pure : Prop := ∀ (a0 : ByteArray) (a1 : ByteArray), a0.size ≤ 140737488351232 → a1.size ≤ 140737488351232 → ∃ k, laws_FnKindOf.f k a0 a1 = some true
theorem laws_FnKindOf.walk (P : laws_FnKindOf.Pure) (a0 : ByteArray) (a1 : ByteArray) (w : World) (w0 : a0.size ≤ 140737488351232) (w1 : a1.size ≤ 140737488351232) :
    Calls Try.prog 7 #[.string a0, .string a1] w fun e w' => e = .returned (.bool true) ∧ Below w.heap.size w w' := by
  obtain ⟨k, h⟩ := P a0 a1 w0 w1
  refine (laws_FnKindOf.calls k a0 a1 true w h).mono ?_
  rintro e w' ⟨rfl, hd⟩
  exact ⟨rfl, hd⟩

end Go.Proofs.Ytpaihcikeieliaa.PFnKindOf
