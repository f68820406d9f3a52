/- Functions of the program as plain Lean functions, and that the machine's calls do what these say: written for this claim by wip/myprint.py over the kit's print.py. -/
import Derived.Test.YtpaihcikeieliaaPFnArgx0
import Derived.Test.YtpaihcikeieliaaPFnArgx2
namespace Go.Proofs.Ytpaihcikeieliaa.PFnArg
open Go.RowKit Go.Proofs.YtpaihcikeieliaaW.PrintWords Go.Proofs.YtpaihcikeieliaaW.PrintLast Go.Proofs.YtpaihcikeieliaaW.PrintMore
attribute [local go_sem] max2_int min2_int max_two min_two max_three min_three max_four min_four   -- for this text's walks alone
set_option linter.unusedVariables false
set_option linter.unusedSimpArgs false

/-! ### schema_ParseGroupKind: function 39 -/
def schema_ParseGroupKind.f (k : Nat) (a0 : ByteArray) : Option (ByteArray × ByteArray) := (schema_zzIndex.f k a0 (⟨#[46]⟩ : ByteArray)).bind fun t115 => (if t115 = (-1) then (some ((⟨#[]⟩ : ByteArray), a0)) else (if 0 ≤ (wrap64 (t115 + 1)) then (if (wrap64 (t115 + 1)) ≤ (a0.size : Int) then (if 0 ≤ t115 then (if t115 ≤ (a0.size : Int) then (some (a0.extract ((wrap64 (t115 + 1)) : Int).toNat a0.size, a0.extract 0 (t115 : Int).toNat)) else (none)) else (none)) else (none)) else (none)))
theorem schema_ParseGroupKind.mono : ∀ a0 k, LeO (schema_ParseGroupKind.f k a0) (schema_ParseGroupKind.f (k + 1) a0) := by
  intro a0 k
  unfold schema_ParseGroupKind.f
  repeat' first
      | (with_reducible exact schema_zzIndex.mono _ _ _)
      | (with_reducible exact LeO.refl _)
      | (with_reducible exact LeO.none _)
      | (with_reducible refine LeO.ite ?_ ?_)
      | (with_reducible refine LeO.bind ?_ (fun _ => ?_))
      | exact schema_zzIndex.mono _ _ _
      | exact LeO.none _
      | refine LeO.ite ?_ ?_
      | refine LeO.bind ?_ (fun _ => ?_)
def schema_ParseGroupKind.T4 : Bool × List (List Nat × List Nat) := (true, [([], []), ([], []), ([1], [1]), ([0, 2], [0, 2]), ([], []), ([], []), ([4, 5], [4, 5]), ([3, 6], [3, 6]), ([7, 0, 1, 2, 3, 4, 5, 6, 7], [7])])
def schema_ParseGroupKind.B4 : List Nat := [0, 0, 2, 7, 0, 0, 48, 127, 255]
theorem schema_ParseGroupKind.tab4 : rtab .any (opsOf Try.f39 4) = schema_ParseGroupKind.T4 := by kernel_rfl
theorem schema_ParseGroupKind.bits4 : waitsOk schema_ParseGroupKind.T4.2 schema_ParseGroupKind.B4 = true := by kernel_rfl
set_option maxHeartbeats 8000000 in
set_option maxRecDepth 100000 in
theorem schema_ParseGroupKind.calls (k : Nat) (a0 : ByteArray) (r1 : ByteArray) (r2 : ByteArray) (w : World) (h : schema_ParseGroupKind.f k a0 = some (r1, r2)) :
    Calls Try.prog 39 #[.string a0] w fun e w' => e = .returned (.agg #[.string r1, .string r2]) ∧ Below w.heap.size w w' := by
  have hu58 := Try.underlying58
  have HB := Aside0.mk (Below.refl w.heap.size w)
  have H : ((schema_zzIndex.f k a0 (⟨#[46]⟩ : ByteArray)).bind fun t115 => (if t115 = (-1) then (some ((⟨#[]⟩ : ByteArray), a0)) else (if 0 ≤ (wrap64 (t115 + 1)) then (if (wrap64 (t115 + 1)) ≤ (a0.size : Int) then (if 0 ≤ t115 then (if t115 ≤ (a0.size : Int) then (some (a0.extract ((wrap64 (t115 + 1)) : Int).toNat a0.size, a0.extract 0 (t115 : Int).toNat)) else (none)) else (none)) else (none)) else (none)))) = some (r1, r2) := h
  clear h
  replace H := Option.bind_eq_some_iff.mp H
  obtain ⟨t115, A20, H⟩ := H
  replace H : (if t115 = (-1) then (some ((⟨#[]⟩ : ByteArray), a0)) else (if 0 ≤ (wrap64 (t115 + 1)) then (if (wrap64 (t115 + 1)) ≤ (a0.size : Int) then (if 0 ≤ t115 then (if t115 ≤ (a0.size : Int) then (some (a0.extract ((wrap64 (t115 + 1)) : Int).toNat a0.size, a0.extract 0 (t115 : Int).toNat)) else (none)) else (none)) else (none)) else (none))) = some (r1, r2) := H
  have A2 := Aside0.mk A20
  clear A20
  by_cases c3 : t115 = (-1)
  · rw [if_pos c3] at H
    have c3b0 : (t115 == (-1)) = true := beq_iff_eq.mpr c3
    have c3b1 : (t115 != (-1)) = false := bne_eq_false_iff_eq.mpr c3
    clear c3
    simp only [Option.some.injEq, Prod.mk.injEq] at H
    obtain ⟨rfl, rfl⟩ := H
    go_enter Try.func39, Try.ntmps39
    go_wp2_with (first | ((with_reducible refine gate_dst (N := 2) rfl ?_); refine box_event ?hg (N := 2) ?hd (cs := #[.string (⟨#[]⟩ : ByteArray), .string (⟨#[]⟩ : ByteArray)]) (t := 58) ?hr ?_; (case hd => rfl); (case hg => rfl); (case hr => first | (go_simp; done) | (go_simp; rfl)); intro gb114 hg w4 hbox hb; have n0_ := Aside0.mk (below_step (by repeat (first | (with_reducible first | exact HB.out | apply below_alloc | apply pw_below_drewN | apply below_drew1) | exact HB.out)) hb); have n1_ := Aside0.mk (hbox); have n2_ := Aside0.mk ((by rw [hg]; exact (below_size (by repeat (first | (with_reducible first | exact HB.out | apply below_alloc | apply pw_below_drewN | apply below_drew1) | exact HB.out))) : w.heap.size ≤ gb114)); have n3_ := Aside0.mk ((by rw [hg]; exact (below_size (by repeat (first | (with_reducible first | exact HB.out | apply below_alloc | apply pw_below_drewN | apply below_drew1) | exact HB.out))) : w.heap.size ≤ gb114)); clear HB; have HB := n0_; have BK114 := n1_; have GW114 := n2_; have GE114 := n3_; clear n0_ n1_ n2_ n3_; clear hb hbox hg) | ((with_reducible refine gate_callee (f := 55) rfl ?_); refine goesL_ (some 5) rfl rfl Try.func55 (by kernel_rfl) rfl #[.string a0, .string (⟨#[46]⟩ : ByteArray)] rfl (by (try simp only [List.map_toArray, List.map_cons, List.map_nil]); first | done | rfl | (simp only [List.length_drop, List.length_take]; rfl)) ?_; (with_reducible refine (schema_zzIndex.calls k a0 (⟨#[46]⟩ : ByteArray) t115 _ A2.out).mono ?_); rintro e w' ⟨rfl, ⟨nd, rfl⟩⟩; refine ⟨_, rfl, ?_⟩; (try (rw [drewN_self w4]; generalize hq_ : World.drewN w4 _ = w4; have n0_ : Aside0 (w4.heap[gb114]? = some (.cells #[.string (⟨#[]⟩ : ByteArray), .string (⟨#[]⟩ : ByteArray)] 58 (0, 0))) := ⟨by rw [← hq_]; exact (by (with_reducible repeat (first | refine blk_drewN ?_ _ | refine blk_drew ?_ | refine blk_alloc ?_ _)); exact BK114.out)⟩; have n1_ : Aside0 (Below w.heap.size w w4) := ⟨by rw [← hq_]; exact (by repeat (first | (with_reducible first | exact HB.out | apply below_alloc | apply pw_below_drewN | apply below_drew1 | refine below_set ?_ GE114.out) | exact HB.out))⟩; clear BK114 HB hq_; have BK114 := n0_; have HB := n1_; clear n0_ n1_)); have hcz5_0 : w4.cell? ⟨gb114, 0, none⟩ = some (.string (⟨#[]⟩ : ByteArray)) := (blk_cell BK114.out 0).trans rfl; have hcz5_1 : w4.cell? ⟨gb114, 1, none⟩ = some (.string (⟨#[]⟩ : ByteArray)) := (blk_cell BK114.out 1).trans rfl; have hfz5_0 := blk_frozen BK114.out 0; have hfz5_1 := blk_frozen BK114.out 1))
    refine bodyPost_ret (results_cell_row rfl _ _ gb114 58 #[.string (⟨#[]⟩ : ByteArray), .string a0] (0, 0) _ rfl (by (with_reducible repeat (first | refine blk_drewN ?_ _ | refine blk_drew ?_ | refine blk_alloc ?_ _)); refine blk_put (cs := #[.string (⟨#[]⟩ : ByteArray), .string (⟨#[]⟩ : ByteArray)]) ?_ 1 _ rfl; (with_reducible repeat (first | refine blk_drewN ?_ _ | refine blk_drew ?_ | refine blk_alloc ?_ _)); refine blk_put (cs := #[.string (⟨#[]⟩ : ByteArray), .string (⟨#[]⟩ : ByteArray)]) ?_ 0 _ rfl; (with_reducible repeat (first | refine blk_drewN ?_ _ | refine blk_drew ?_ | refine blk_alloc ?_ _)); exact BK114.out) Try.underlying58 rfl (by kernel_rfl)) rfl ?_
    exact ⟨by first | rfl | (simp [errW_none, errW_some] <;> rfl) | (simp [*, errW_none, errW_some] <;> rfl), by repeat (first | (with_reducible first | exact HB.out | apply below_alloc | apply pw_below_drewN | apply below_drew1 | refine below_set ?_ GE114.out) | exact HB.out)⟩
  · rw [if_neg c3] at H
    have c3b0 : (t115 == (-1)) = false := beq_eq_false_iff_ne.mpr c3
    have c3b1 : (t115 != (-1)) = true := bne_iff_ne.mpr c3
    obtain ⟨ji6, hji6⟩ : ∃ j_ : Int, (wrap64 (t115 + 1)) = j_ := ⟨_, rfl⟩
    replace H : (if 0 ≤ (ji6) then (if (ji6) ≤ (a0.size : Int) then (if 0 ≤ t115 then (if t115 ≤ (a0.size : Int) then (some (a0.extract ((ji6) : Int).toNat a0.size, a0.extract 0 (t115 : Int).toNat)) else (none)) else (none)) else (none)) else (none)) = some (r1, r2) := by first | (rw [hji6] at H; exact H) | (simp only [hji6] at H ⊢; exact H)
    (try rw [hji6] at A2)
    have hji6w : (IntKind.i64.wrap (t115 + 1)) = ji6 := (i64_w _).trans hji6
    by_cases c7 : 0 ≤ (ji6)
    · rw [if_pos c7] at H
      have c7b0 := eq_true c7
      have c7b1 : decide (0 ≤ (ji6)) = true := decide_eq_true c7
      clear c7
      by_cases c8 : (ji6) ≤ (a0.size : Int)
      · rw [if_pos c8] at H
        have c8b0 := eq_true c8
        have c8b1 : decide ((ji6) ≤ (a0.size : Int)) = true := decide_eq_true c8
        clear c8
        by_cases c9 : 0 ≤ t115
        · rw [if_pos c9] at H
          have c9b0 := eq_true c9
          have c9b1 : decide (0 ≤ t115) = true := decide_eq_true c9
          clear c9
          by_cases c10 : t115 ≤ (a0.size : Int)
          · rw [if_pos c10] at H
            have c10b0 := eq_true c10
            have c10b1 : decide (t115 ≤ (a0.size : Int)) = true := decide_eq_true c10
            clear c10
            simp only [Option.some.injEq, Prod.mk.injEq] at H
            obtain ⟨rfl, rfl⟩ := H
            go_enter Try.func39, Try.ntmps39
            try go_wp2_with (first | ((with_reducible refine gate_dst (N := 2) rfl ?_); refine box_event ?hg (N := 2) ?hd (cs := #[.string (⟨#[]⟩ : ByteArray), .string (⟨#[]⟩ : ByteArray)]) (t := 58) ?hr ?_; (case hd => rfl); (case hg => rfl); (case hr => first | (go_simp; done) | (go_simp; rfl)); intro gb114 hg w11 hbox hb; have n0_ := Aside0.mk (below_step (by repeat (first | (with_reducible first | exact HB.out | apply below_alloc | apply pw_below_drewN | apply below_drew1) | exact HB.out)) hb); have n1_ := Aside0.mk (hbox); have n2_ := Aside0.mk ((by rw [hg]; exact (below_size (by repeat (first | (with_reducible first | exact HB.out | apply below_alloc | apply pw_below_drewN | apply below_drew1) | exact HB.out))) : w.heap.size ≤ gb114)); have n3_ := Aside0.mk ((by rw [hg]; exact (below_size (by repeat (first | (with_reducible first | exact HB.out | apply below_alloc | apply pw_below_drewN | apply below_drew1) | exact HB.out))) : w.heap.size ≤ gb114)); clear HB; have HB := n0_; have BK114 := n1_; have GW114 := n2_; have GE114 := n3_; clear n0_ n1_ n2_ n3_; clear hb hbox hg) | ((with_reducible refine gate_callee (f := 55) rfl ?_); refine goesL_ (some 5) rfl rfl Try.func55 (by kernel_rfl) rfl #[.string a0, .string (⟨#[46]⟩ : ByteArray)] rfl (by (try simp only [List.map_toArray, List.map_cons, List.map_nil]); first | done | rfl | (simp only [List.length_drop, List.length_take]; rfl)) ?_; (with_reducible refine (schema_zzIndex.calls k a0 (⟨#[46]⟩ : ByteArray) t115 _ A2.out).mono ?_); rintro e w' ⟨rfl, ⟨nd, rfl⟩⟩; refine ⟨_, rfl, ?_⟩; (try (rw [drewN_self w11]; generalize hq_ : World.drewN w11 _ = w11; have n0_ : Aside0 (w11.heap[gb114]? = some (.cells #[.string (⟨#[]⟩ : ByteArray), .string (⟨#[]⟩ : ByteArray)] 58 (0, 0))) := ⟨by rw [← hq_]; exact (by (with_reducible repeat (first | refine blk_drewN ?_ _ | refine blk_drew ?_ | refine blk_alloc ?_ _)); exact BK114.out)⟩; have n1_ : Aside0 (Below w.heap.size w w11) := ⟨by rw [← hq_]; exact (by repeat (first | (with_reducible first | exact HB.out | apply below_alloc | apply pw_below_drewN | apply below_drew1 | refine below_set ?_ GE114.out) | exact HB.out))⟩; clear BK114 HB hq_; have BK114 := n0_; have HB := n1_; clear n0_ n1_))))
            have n0_ := Aside0.mk (blk_drew BK114.out)
            have n1_ := Aside0.mk (below_drew1 HB.out)
            clear BK114
            clear HB
            have BK114 := n0_
            have HB := n1_
            clear n0_ n1_
            refine start_ (n := 9) (S := fun w' => True) (ds := []) #[false, false, false, false, false, false, false, false, false] (by kernel_rfl) rfl rfl trivial (fun hHeld => ?_); refine with_tabW schema_ParseGroupKind.tab4 schema_ParseGroupKind.bits4 (fun HT_ HW_ => ?_)
            generalize w11.drew = w12 at BK114 HB hHeld ⊢
            refine pure_ (i := 0) (N := some 10) (v := ?_) (a' := ?_) #[true, false, false, false, false, false, false, false, false] rfl rfl (any_of HT_.out (by kernel_rfl)) (fun _ _ _ h => h) (Or.inl ⟨by rfl, ?_⟩) ?_ ?_
            rotate_left
            · intro w'
              go_simp
              with_reducible rfl
            rotate_left
            · simp only [Act.put, List.setIfInBounds_toArray, List.set_cons_zero, List.set_cons_succ, i64_w, i32_w]
              rfl
            refine pure_ (i := 1) (N := some 11) (v := ?_) (a' := ?_) #[true, true, false, false, false, false, false, false, false] rfl rfl (any_of HT_.out (by kernel_rfl)) (fun _ _ _ h => h) (Or.inl ⟨by rfl, ?_⟩) ?_ ?_
            rotate_left
            · intro w'
              go_simp
              with_reducible rfl
            rotate_left
            · simp only [Act.put, List.setIfInBounds_toArray, List.set_cons_zero, List.set_cons_succ, i64_w, i32_w]
              rfl
            refine pure_ (i := 2) (N := some 12) (v := ?_) (a' := ?_) #[true, true, true, false, false, false, false, false, false] rfl rfl (any_of HT_.out (by kernel_rfl)) (fun _ _ _ h => h) (Or.inl ⟨by rfl, ?_⟩) ?_ ?_
            rotate_left
            · intro w'
              go_simp
              with_reducible rfl
            rotate_left
            · simp only [Act.put, List.setIfInBounds_toArray, List.set_cons_zero, List.set_cons_succ, i64_w, i32_w]
              rfl
            refine pure_ (i := 3) (N := some 13) (v := ?_) (a' := ?_) #[true, true, true, true, false, false, false, false, false] rfl rfl (any_of HT_.out (by kernel_rfl)) (fun _ _ _ h => h) (Or.inl ⟨by rfl, ?_⟩) ?_ ?_
            rotate_left
            · intro w'
              go_simp
              with_reducible rfl
            rotate_left
            · simp only [Act.put, List.setIfInBounds_toArray, List.set_cons_zero, List.set_cons_succ, i64_w, i32_w]
              rfl
            refine pure_ (i := 4) (N := some 14) (v := ?_) (a' := ?_) #[true, true, true, true, true, false, false, false, false] rfl rfl (any_of HT_.out (by kernel_rfl)) (fun _ _ _ h => h) (Or.inl ⟨by rfl, ?_⟩) ?_ ?_
            rotate_left
            · intro w'
              go_simp
              with_reducible rfl
            rotate_left
            · simp only [Act.put, List.setIfInBounds_toArray, List.set_cons_zero, List.set_cons_succ, i64_w, i32_w]
              rfl
            refine pure_ (i := 5) (N := some 15) (v := ?_) (a' := ?_) #[true, true, true, true, true, true, false, false, false] rfl rfl (any_of HT_.out (by kernel_rfl)) (fun _ _ _ h => h) (Or.inl ⟨by rfl, ?_⟩) ?_ ?_
            rotate_left
            · intro w'
              go_simp
              with_reducible rfl
            rotate_left
            · simp only [Act.put, List.setIfInBounds_toArray, List.set_cons_zero, List.set_cons_succ, i64_w, i32_w]
              rfl
            refine pure_ (i := 6) (N := some 16) (v := ?_) (a' := ?_) #[true, true, true, true, true, true, true, false, false] rfl rfl (any_of HT_.out (by kernel_rfl)) (fun _ _ _ h => h) (Or.inl ⟨by rfl, ?_⟩) ?_ ?_
            rotate_left
            · intro w'
              go_simp
              with_reducible rfl
            rotate_left
            · simp only [Act.put, List.setIfInBounds_toArray, List.set_cons_zero, List.set_cons_succ, i64_w, i32_w]
              rfl
            refine pure_ (i := 7) (N := some 17) (v := ?_) (a' := ?_) #[true, true, true, true, true, true, true, true, false] rfl rfl (any_of HT_.out (by kernel_rfl)) (fun _ _ _ h => h) (Or.inl ⟨by rfl, ?_⟩) ?_ ?_
            rotate_left
            · intro w'
              go_simp
              with_reducible rfl
            rotate_left
            · simp only [Act.put, List.setIfInBounds_toArray, List.set_cons_zero, List.set_cons_succ, i64_w, i32_w]
              rfl
            refine one_ (i := 8) (N := none) #[true, true, true, true, true, true, true, true, true] rfl rfl (one_of HT_.out (by kernel_rfl)) (by decide) (fun K hK => ?_)
            have hs13 : w12.cell? ⟨gb114, 0, none⟩ = some (.string (⟨#[]⟩ : ByteArray)) := (blk_cell BK114.out 0).trans rfl
            have hfs13 := blk_frozen BK114.out 0
            have hs14 : w12.cell? ⟨gb114, 1, none⟩ = some (.string (⟨#[]⟩ : ByteArray)) := (blk_cell BK114.out 1).trans rfl
            have hfs14 := blk_frozen BK114.out 1
            refine skip_ (w1 := ?_) (by rfl) rfl ?_ ?_
            rotate_left
            · go_simp
              rfl
            refine hK.out _ _ trivial (fun hHeld => ?_)
            clear hK K
            refine done_ (done_of HT_.out (by kernel_rfl)) ?_
            try go_wp2
            refine bodyPost_ret (results_cell_row rfl _ _ gb114 58 #[.string (a0.extract ((ji6) : Int).toNat a0.size), .string (a0.extract 0 (t115 : Int).toNat)] (0, 0) _ rfl (by (with_reducible repeat (first | refine blk_drewN ?_ _ | refine blk_drew ?_ | refine blk_alloc ?_ _)); refine blk_put (cs := #[.string (a0.extract ((ji6) : Int).toNat a0.size), .string (⟨#[]⟩ : ByteArray)]) ?_ 1 _ rfl; (with_reducible repeat (first | refine blk_drewN ?_ _ | refine blk_drew ?_ | refine blk_alloc ?_ _)); refine blk_put (cs := #[.string (⟨#[]⟩ : ByteArray), .string (⟨#[]⟩ : ByteArray)]) ?_ 0 _ rfl; (with_reducible repeat (first | refine blk_drewN ?_ _ | refine blk_drew ?_ | refine blk_alloc ?_ _)); exact BK114.out) Try.underlying58 rfl (by kernel_rfl)) rfl ?_
            exact ⟨by first | rfl | (simp [errW_none, errW_some] <;> rfl) | (simp only [← hji6]; first | rfl | (simp [errW_none, errW_some] <;> rfl)) | (simp [*, errW_none, errW_some] <;> rfl), by repeat (first | (with_reducible first | exact HB.out | apply below_alloc | apply pw_below_drewN | apply below_drew1 | refine below_set ?_ GE114.out) | exact HB.out)⟩
          · rw [if_neg c10] at H
            exact absurd H (by simp)
        · rw [if_neg c9] at H
          exact absurd H (by simp)
      · rw [if_neg c8] at H
        exact absurd H (by simp)
    · rw [if_neg c7] at H
      exact absurd H (by simp)

/-! ### schema_zzCount: function 58 -/
def schema_zzCount.l1 : Nat → ByteArray → ByteArray → Int → Int → Option (Int)
  | 0, _, _, _, _ => none
  | k + 1, x0, x1, x5, x6 => if (wrap64 (x6 + (x1.size : Int))) ≤ (x0.size : Int) then (if 0 ≤ x6 then (if x6 ≤ (wrap64 (x6 + (x1.size : Int))) then (if (x0.extract (x6 : Int).toNat ((wrap64 (x6 + (x1.size : Int))) : Int).toNat).toList = x1.toList then (schema_zzCount.l1 k x0 x1 (wrap64 (x5 + 1)) (wrap64 (x6 + (x1.size : Int)))) else (schema_zzCount.l1 k x0 x1 x5 (wrap64 (x6 + 1)))) else (none)) else (none)) else (some x5)
def schema_zzCount.f (k : Nat) (a0 : ByteArray) (a1 : ByteArray) : Option (Int) := if (a1.size : Int) = 0 then (none) else (schema_zzCount.l1 k a0 a1 0 0)
theorem schema_zzCount.mono_l : ∀ k, (∀ y0 y1 y2 y3, LeO (schema_zzCount.l1 k y0 y1 y2 y3) (schema_zzCount.l1 (k + 1) y0 y1 y2 y3))
  | 0 => fun _ _ _ _ r h => by simp [schema_zzCount.l1] at h
  | k + 1 => by
    have ih0 := schema_zzCount.mono_l k
    · intro y0 y1 y2 y3
      unfold schema_zzCount.l1
      repeat' first
      | (with_reducible exact ih0 _ _ _ _)
      | (with_reducible exact LeO.refl _)
      | (with_reducible exact LeO.none _)
      | (with_reducible refine LeO.ite ?_ ?_)
      | (with_reducible refine LeO.bind ?_ (fun _ => ?_))
      | exact ih0 _ _ _ _
      | exact LeO.none _
      | refine LeO.ite ?_ ?_
      | refine LeO.bind ?_ (fun _ => ?_)
theorem schema_zzCount.mono : ∀ a0 a1 k, LeO (schema_zzCount.f k a0 a1) (schema_zzCount.f (k + 1) a0 a1) := by
  intro a0 a1 k
  have ih0 := schema_zzCount.mono_l k
  unfold schema_zzCount.f
  repeat' first
      | (with_reducible exact ih0 _ _ _ _)
      | (with_reducible exact LeO.refl _)
      | (with_reducible exact LeO.none _)
      | (with_reducible refine LeO.ite ?_ ?_)
      | (with_reducible refine LeO.bind ?_ (fun _ => ?_))
      | exact ih0 _ _ _ _
      | exact LeO.none _
      | refine LeO.ite ?_ ?_
      | refine LeO.bind ?_ (fun _ => ?_)
set_option maxHeartbeats 8000000 in
set_option maxRecDepth 100000 in
theorem schema_zzCount.calls (k : Nat) (a0 : ByteArray) (a1 : ByteArray) (r : Int) (w : World) (h : schema_zzCount.f k a0 a1 = some r) :
    Calls Try.prog 58 #[.string a0, .string a1] w fun e w' => e = .returned (.int .i64 r) ∧ Drawn0 w w' := by
  have H : (if (a1.size : Int) = 0 then (none) else (schema_zzCount.l1 k a0 a1 0 0)) = some r := h
  clear h
  by_cases c3 : (a1.size : Int) = 0
  · rw [if_pos c3] at H
    exact absurd H (by simp)
  · rw [if_neg c3] at H
    have c3b0 : ((a1.size : Int) == 0) = false := beq_eq_false_iff_ne.mpr c3
    have c3b1 : ((a1.size : Int) != 0) = true := bne_iff_ne.mpr c3
    have H' := Aside0.mk H
    clear H
    go_enter Try.func58, Try.ntmps58
    go_wp2
    go_loopg [5, 6] k (fun kq v5 v6 w' => ∃ (x5_1 : Int) (x6_1 : Int), v5 = .int .i64 x5_1 ∧ v6 = .int .i64 x6_1 ∧ Aside0 (schema_zzCount.l1 kq a0 a1 x5_1 x6_1 = some r) ∧ Aside0 (kq ≤ k) ∧ Drawn0 w w')
    case atStart => exact ⟨(0), (0), (by first | rfl | (simp; done) | (simp [*]; done)), (by first | rfl | (simp; done) | (simp [*]; done)), H', ⟨Nat.le_refl _⟩, by repeat (first | exact Drawn0.refl _ | apply Drawn0.step)⟩
    case round =>
      clear H'
      try clear p2
      try clear c3
      try clear c3b0
      try clear c3b1
      obtain ⟨x5_1, x6_1, rfl, rfl, HA, HK1, ⟨m1, rfl⟩⟩ := hrel
      cases gk with
      | zero => exact absurd HA.out (by simp [schema_zzCount.l1])
      | succ k1 =>
        have H := HA.out
        clear HA
        simp only [schema_zzCount.l1] at H
        by_cases c4 : (wrap64 (x6_1 + (a1.size : Int))) ≤ (a0.size : Int)
        · rw [if_pos c4] at H
          have c4b0 : decide ((wrap64 (x6_1 + (a1.size : Int))) ≤ (a0.size : Int)) = true := decide_eq_true c4
          clear c4
          by_cases c5 : 0 ≤ x6_1
          · rw [if_pos c5] at H
            have c5b0 := eq_true c5
            have c5b1 : decide (0 ≤ x6_1) = true := decide_eq_true c5
            clear c5
            by_cases c6 : x6_1 ≤ (wrap64 (x6_1 + (a1.size : Int)))
            · rw [if_pos c6] at H
              have c6b0 := eq_true c6
              have c6b1 : decide (x6_1 ≤ (wrap64 (x6_1 + (a1.size : Int)))) = true := decide_eq_true c6
              have c7b0 := eq_true (of_decide_eq_true (by first | (with_reducible assumption) | assumption) : (wrap64 (x6_1 + (a1.size : Int))) ≤ (a0.size : Int))
              by_cases c8 : (a0.extract (x6_1 : Int).toNat ((wrap64 (x6_1 + (a1.size : Int))) : Int).toNat).toList = a1.toList
              · rw [if_pos c8] at H
                have c8b0 : ((a0.extract (x6_1 : Int).toNat ((wrap64 (x6_1 + (a1.size : Int))) : Int).toNat).toList == a1.toList) = true := beq_iff_eq.mpr c8
                have c8b1 : ((a0.extract (x6_1 : Int).toNat ((wrap64 (x6_1 + (a1.size : Int))) : Int).toNat).toList != a1.toList) = false := bne_eq_false_iff_eq.mpr c8
                clear c8
                have H' := Aside0.mk H
                clear H
                go_wp2
                go_roundg k1
                case measure => have := HK1.out; omega
                case rel => exact ⟨(wrap64 (x5_1 + 1)), (wrap64 (x6_1 + (a1.size : Int))), (by first | rfl | (simp; done) | (simp [*]; done)), (by first | rfl | (simp; done) | (simp [*]; done)), H', ⟨by have := HK1.out; omega⟩, by repeat (first | exact Drawn0.refl _ | apply Drawn0.step)⟩
              · rw [if_neg c8] at H
                have c8b0 : ((a0.extract (x6_1 : Int).toNat ((wrap64 (x6_1 + (a1.size : Int))) : Int).toNat).toList == a1.toList) = false := beq_eq_false_iff_ne.mpr c8
                have c8b1 : ((a0.extract (x6_1 : Int).toNat ((wrap64 (x6_1 + (a1.size : Int))) : Int).toNat).toList != a1.toList) = true := bne_iff_ne.mpr c8
                have H' := Aside0.mk H
                clear H
                go_wp2
                go_roundg k1
                case measure => have := HK1.out; omega
                case rel => exact ⟨(x5_1), (wrap64 (x6_1 + 1)), (by first | rfl | (simp; done) | (simp [*]; done)), (by first | rfl | (simp; done) | (simp [*]; done)), H', ⟨by have := HK1.out; omega⟩, by repeat (first | exact Drawn0.refl _ | apply Drawn0.step)⟩
            · rw [if_neg c6] at H
              exact absurd H (by simp)
          · rw [if_neg c5] at H
            exact absurd H (by simp)
        · rw [if_neg c4] at H
          have c4b0 : decide ((wrap64 (x6_1 + (a1.size : Int))) ≤ (a0.size : Int)) = false := decide_eq_false c4
          clear c4
          obtain rfl := Option.some.inj H
          go_wp2
          go_ret
          exact ⟨by first | rfl | (simp; done) | (simp [*]; done), by repeat (first | exact Drawn0.refl _ | apply Drawn0.step)⟩

/-! ### schema_zzSplitThree: function 62 -/
def schema_zzSplitThree.l0 : Nat → ByteArray → List ByteArray → Option (List ByteArray)
  | 0, _, _ => none
  | k + 1, x0, x3 => if (x3.length : Int) < 2 then ((schema_zzIndex.f k x0 (⟨#[46]⟩ : ByteArray)).bind fun t116 => (if t116 < 0 then (if x3.length < 8796093022208 then (some (x3 ++ [x0])) else (none)) else (if 0 ≤ t116 then (if t116 ≤ (x0.size : Int) then (if x3.length < 8796093022208 then (if 0 ≤ (wrap64 (t116 + 1)) then (if (wrap64 (t116 + 1)) ≤ (x0.size : Int) then (schema_zzSplitThree.l0 k (x0.extract ((wrap64 (t116 + 1)) : Int).toNat x0.size) (x3 ++ [x0.extract 0 (t116 : Int).toNat])) else (none)) else (none)) else (none)) else (none)) else (none)))) else (if x3.length < 8796093022208 then (some (x3 ++ [x0])) else (none))
def schema_zzSplitThree.f (k : Nat) (a0 : ByteArray) : Option (List ByteArray) := schema_zzSplitThree.l0 k a0 ([] : List ByteArray)
theorem schema_zzSplitThree.mono_l : ∀ k, (∀ y0 y1, LeO (schema_zzSplitThree.l0 k y0 y1) (schema_zzSplitThree.l0 (k + 1) y0 y1))
  | 0 => fun _ _ r h => by simp [schema_zzSplitThree.l0] at h
  | k + 1 => by
    have ih0 := schema_zzSplitThree.mono_l k
    · intro y0 y1
      unfold schema_zzSplitThree.l0
      repeat' first
      | (with_reducible exact ih0 _ _)
      | (with_reducible exact schema_zzIndex.mono _ _ _)
      | (with_reducible exact LeO.refl _)
      | (with_reducible exact LeO.none _)
      | (with_reducible refine LeO.ite ?_ ?_)
      | (with_reducible refine LeO.bind ?_ (fun _ => ?_))
      | exact ih0 _ _
      | exact schema_zzIndex.mono _ _ _
      | exact LeO.none _
      | refine LeO.ite ?_ ?_
      | refine LeO.bind ?_ (fun _ => ?_)
theorem schema_zzSplitThree.mono : ∀ a0 k, LeO (schema_zzSplitThree.f k a0) (schema_zzSplitThree.f (k + 1) a0) := by
  intro a0 k
  have ih0 := schema_zzSplitThree.mono_l k
  unfold schema_zzSplitThree.f
  repeat' first
      | (with_reducible exact ih0 _ _)
      | (with_reducible exact schema_zzIndex.mono _ _ _)
      | (with_reducible exact LeO.refl _)
      | (with_reducible exact LeO.none _)
      | (with_reducible refine LeO.ite ?_ ?_)
      | (with_reducible refine LeO.bind ?_ (fun _ => ?_))
      | exact ih0 _ _
      | exact schema_zzIndex.mono _ _ _
      | exact LeO.none _
      | refine LeO.ite ?_ ?_
      | refine LeO.bind ?_ (fun _ => ?_)
set_option maxHeartbeats 8000000 in
set_option maxRecDepth 100000 in
theorem schema_zzSplitThree.calls (k : Nat) (a0 : ByteArray) (r : List ByteArray) (w : World) (h : schema_zzSplitThree.f k a0 = some r) :
    Calls Try.prog 62 #[.string a0] w fun e w' => ∃ v0_ : Value, e = .returned (v0_) ∧ Kd.R Kd.string 9 w' w.heap.size (fun _ => True) v0_ r ∧ Below w.heap.size w w' := by
  have HB := Aside0.mk (Below.refl w.heap.size w)
  have H : (schema_zzSplitThree.l0 k a0 ([] : List ByteArray)) = some r := h
  clear h
  have H' := Aside0.mk H
  clear H
  go_enter Try.func62, Try.ntmps62
  go_wp2
  go_loopg [0, 3] k (fun kq v0 v3 w' => ∃ (x0_1 : ByteArray) (x3_1 : List ByteArray), v0 = .string x0_1 ∧ Aside0 (schema_zzSplitThree.l0 kq x0_1 x3_1 = some r) ∧ Aside0 (kq ≤ k) ∧ Aside0 (Kd.R Kd.string 9 w' w.heap.size (fun _ => True) v3 x3_1) ∧ Aside0 (Below w.heap.size w w'))
  case atStart => exact ⟨(a0), (([] : List ByteArray)), (by first | rfl | (simp; done) | (simp [*]; done)), H', ⟨Nat.le_refl _⟩, ⟨by first | exact Kd.R_nil _ _ _ _ _ | exact Kd.N_nil _ _ _ _ _ | exact Kd.V_nil _ _ _ _ _ | exact Kd.Q_nil _ _ _ _ _ | exact Kd.S_nil _ _ _ _ _⟩, ⟨by repeat (first | (with_reducible first | exact HB.out | apply below_alloc | apply pw_below_drewN | apply below_drew1) | exact HB.out)⟩⟩
  case round =>
    clear H'
    obtain ⟨x0_1, x3_1, rfl, HA, HK1, HO_3, HB⟩ := hrel
    cases gk with
    | zero => exact absurd HA.out (by simp [schema_zzSplitThree.l0])
    | succ k1 =>
      have H := HA.out
      clear HA
      simp only [schema_zzSplitThree.l0] at H
      by_cases c2 : (x3_1.length : Int) < 2
      · rw [if_pos c2] at H
        have c2b0 : decide ((x3_1.length : Int) < 2) = true := decide_eq_true c2
        have c2b1 : decide (x3_1.length < 2) = true := decide_eq_true (by omega)
        clear c2
        replace H := Option.bind_eq_some_iff.mp H
        obtain ⟨t116, A30, H⟩ := H
        replace H : (if t116 < 0 then (if x3_1.length < 8796093022208 then (some (x3_1 ++ [x0_1])) else (none)) else (if 0 ≤ t116 then (if t116 ≤ (x0_1.size : Int) then (if x3_1.length < 8796093022208 then (if 0 ≤ (wrap64 (t116 + 1)) then (if (wrap64 (t116 + 1)) ≤ (x0_1.size : Int) then (schema_zzSplitThree.l0 k1 (x0_1.extract ((wrap64 (t116 + 1)) : Int).toNat x0_1.size) (x3_1 ++ [x0_1.extract 0 (t116 : Int).toNat])) else (none)) else (none)) else (none)) else (none)) else (none))) = some r := H
        have A3 := Aside0.mk A30
        clear A30
        by_cases c4 : t116 < 0
        · rw [if_pos c4] at H
          have c4b0 : decide (t116 < 0) = true := decide_eq_true c4
          clear c4
          by_cases c5 : x3_1.length < 8796093022208
          · rw [if_pos c5] at H
            have LMc5 := Aside0.mk c5
            clear c5
            obtain ⟨y117, hy117⟩ : ∃ y_ : List ByteArray, y_ = (x3_1 ++ [x0_1]) := ⟨_, rfl⟩
            replace H : (some y117) = some r := by first | (rw [hy117]; with_reducible exact H) | (have H2_ := (Option.bind_some _ _).symm.trans H; rw [hy117]; with_reducible exact H2_) | (have H2_ := (Option.bind_some _ _).symm.trans H; with_reducible exact H2_) | with_reducible exact H | (rw [hy117]; exact H) | exact H
            have Ny117 := Aside0.mk hy117
            clear hy117
            obtain rfl := Option.some.inj H
            obtain ⟨Ao6, co6, eo6⟩ := Kd.R_slice HO_3.out
            subst eo6
            go_wp2_with (first | ((with_reducible refine gate_callee (f := 55) rfl ?_); refine goesL_ (some 9) rfl rfl Try.func55 (by kernel_rfl) rfl #[.string x0_1, .string (⟨#[46]⟩ : ByteArray)] rfl (by (try simp only [List.map_toArray, List.map_cons, List.map_nil]); first | done | rfl | (simp only [List.length_drop, List.length_take]; rfl)) ?_; (with_reducible refine (schema_zzIndex.calls k1 x0_1 (⟨#[46]⟩ : ByteArray) t116 _ A3.out).mono ?_); rintro e w' ⟨rfl, ⟨nd, rfl⟩⟩; refine ⟨_, rfl, ?_⟩) | ((with_reducible refine gate_builtin (b := .append) (xs := #[.tmp 22, .tmp 24]) rfl ?_); at_builtin; refine Kd.R_append Kd.string (w0 := w) w.heap.size rfl (.tmp 22) (.tmp 24) 87 9 (.string ⟨#[]⟩) 16 rfl Try.underlying87 info9 rfl (by decide) (by omega) (.slice Ao6 x3_1.length co6) x3_1 x0_1 [.string x0_1] (fun _ => True) (fun _ => False) rfl rfl ?aP (fun _ hk => hk.elim) ?aF ?aO ?aB ?aS ?aL ?_; (case aP => exact rfl); (case aB => exact (by repeat (first | (with_reducible first | exact HB.out | apply below_alloc | apply pw_below_drewN | apply below_drew1) | exact HB.out))); (case aF => exact (fun _ _ => trivial)); (case aO => exact (by (with_reducible repeat (first | apply Kd.R_alloc | apply Kd.R_drewN | apply Kd.R_drew)); exact HO_3.out)); (case aS => exact (below_size (by repeat (first | (with_reducible first | exact HB.out | apply below_alloc | apply pw_below_drewN | apply below_drew1) | exact HB.out)))); (case aL => have := LMc5.out; omega); intro v118 w7 ho hb hg hat; rw [← Ny117.out] at ho; have n0_ := Aside0.mk (hb); have n1_ := Aside0.mk (ho); clear HB; clear HO_3; have HB := n0_; have HO119 := n1_; clear n0_ n1_; clear ho hb hg hat))
            go_ret
            exact ⟨_, by first | rfl | (simp [errW_none, errW_some] <;> rfl) | (simp [*, errW_none, errW_some] <;> rfl), by (with_reducible repeat (first | apply Kd.R_alloc | apply Kd.R_drewN | apply Kd.R_drew)); exact HO119.out, by repeat (first | (with_reducible first | exact HB.out | apply below_alloc | apply pw_below_drewN | apply below_drew1) | exact HB.out)⟩
          · rw [if_neg c5] at H
            exact absurd H (by simp)
        · rw [if_neg c4] at H
          have c4b0 : decide (t116 < 0) = false := decide_eq_false c4
          clear c4
          by_cases c8 : 0 ≤ t116
          · rw [if_pos c8] at H
            have c8b0 := eq_true c8
            have c8b1 : decide (0 ≤ t116) = true := decide_eq_true c8
            clear c8
            by_cases c9 : t116 ≤ (x0_1.size : Int)
            · rw [if_pos c9] at H
              have c9b0 := eq_true c9
              have c9b1 : decide (t116 ≤ (x0_1.size : Int)) = true := decide_eq_true c9
              clear c9
              by_cases c10 : x3_1.length < 8796093022208
              · rw [if_pos c10] at H
                have LMc10 := Aside0.mk c10
                clear c10
                obtain ⟨y120, hy120⟩ : ∃ y_ : List ByteArray, y_ = (x3_1 ++ [x0_1.extract 0 (t116 : Int).toNat]) := ⟨_, rfl⟩
                replace H : (if 0 ≤ (wrap64 (t116 + 1)) then (if (wrap64 (t116 + 1)) ≤ (x0_1.size : Int) then (schema_zzSplitThree.l0 k1 (x0_1.extract ((wrap64 (t116 + 1)) : Int).toNat x0_1.size) y120) else (none)) else (none)) = some r := by first | (rw [hy120]; with_reducible exact H) | (have H2_ := (Option.bind_some _ _).symm.trans H; rw [hy120]; with_reducible exact H2_) | (have H2_ := (Option.bind_some _ _).symm.trans H; with_reducible exact H2_) | with_reducible exact H | (rw [hy120]; exact H) | exact H
                have Ny120 := Aside0.mk hy120
                clear hy120
                obtain ⟨ji11, hji11⟩ : ∃ j_ : Int, (wrap64 (t116 + 1)) = j_ := ⟨_, rfl⟩
                replace H : (if 0 ≤ (ji11) then (if (ji11) ≤ (x0_1.size : Int) then (schema_zzSplitThree.l0 k1 (x0_1.extract ((ji11) : Int).toNat x0_1.size) y120) else (none)) else (none)) = some r := by first | (rw [hji11] at H; exact H) | (simp only [hji11] at H ⊢; exact H)
                (try rw [hji11] at A3)
                have hji11w : (IntKind.i64.wrap (t116 + 1)) = ji11 := (i64_w _).trans hji11
                by_cases c12 : 0 ≤ (ji11)
                · rw [if_pos c12] at H
                  have c12b0 := eq_true c12
                  have c12b1 : decide (0 ≤ (ji11)) = true := decide_eq_true c12
                  clear c12
                  by_cases c13 : (ji11) ≤ (x0_1.size : Int)
                  · rw [if_pos c13] at H
                    have c13b0 := eq_true c13
                    have c13b1 : decide ((ji11) ≤ (x0_1.size : Int)) = true := decide_eq_true c13
                    clear c13
                    have H' := Aside0.mk H
                    clear H
                    obtain ⟨Ao14, co14, eo14⟩ := Kd.R_slice HO_3.out
                    subst eo14
                    go_wp2_with (first | ((with_reducible refine gate_callee (f := 55) rfl ?_); refine goesL_ (some 9) rfl rfl Try.func55 (by kernel_rfl) rfl #[.string x0_1, .string (⟨#[46]⟩ : ByteArray)] rfl (by (try simp only [List.map_toArray, List.map_cons, List.map_nil]); first | done | rfl | (simp only [List.length_drop, List.length_take]; rfl)) ?_; (with_reducible refine (schema_zzIndex.calls k1 x0_1 (⟨#[46]⟩ : ByteArray) t116 _ A3.out).mono ?_); rintro e w' ⟨rfl, ⟨nd, rfl⟩⟩; refine ⟨_, rfl, ?_⟩) | ((with_reducible refine gate_builtin (b := .append) (xs := #[.tmp 12, .tmp 16]) rfl ?_); at_builtin; refine Kd.R_append Kd.string (w0 := w) w.heap.size rfl (.tmp 12) (.tmp 16) 87 9 (.string ⟨#[]⟩) 16 rfl Try.underlying87 info9 rfl (by decide) (by omega) (.slice Ao14 x3_1.length co14) x3_1 (x0_1.extract 0 (t116 : Int).toNat) [.string (x0_1.extract 0 (t116 : Int).toNat)] (fun _ => True) (fun _ => False) rfl rfl ?aP (fun _ hk => hk.elim) ?aF ?aO ?aB ?aS ?aL ?_; (case aP => exact rfl); (case aB => exact (by repeat (first | (with_reducible first | exact HB.out | apply below_alloc | apply pw_below_drewN | apply below_drew1) | exact HB.out))); (case aF => exact (fun _ _ => trivial)); (case aO => exact (by (with_reducible repeat (first | apply Kd.R_alloc | apply Kd.R_drewN | apply Kd.R_drew)); exact HO_3.out)); (case aS => exact (below_size (by repeat (first | (with_reducible first | exact HB.out | apply below_alloc | apply pw_below_drewN | apply below_drew1) | exact HB.out)))); (case aL => have := LMc10.out; omega); intro v121 w15 ho hb hg hat; rw [← Ny120.out] at ho; have n0_ := Aside0.mk (hb); have n1_ := Aside0.mk (ho); clear HB; clear HO_3; have HB := n0_; have HO122 := n1_; clear n0_ n1_; clear ho hb hg hat))
                    go_roundg k1
                    case measure => have := HK1.out; omega
                    case rel => exact ⟨(x0_1.extract ((ji11) : Int).toNat x0_1.size), (y120), (by first | rfl | (simp; done) | (simp only [← hji11] <;> (first | rfl | simp)) | (simp [*]; done)), H', ⟨by have := HK1.out; omega⟩, ⟨by (with_reducible repeat (first | apply Kd.R_alloc | apply Kd.R_drewN | apply Kd.R_drew)); exact HO122.out⟩, ⟨by repeat (first | (with_reducible first | exact HB.out | apply below_alloc | apply pw_below_drewN | apply below_drew1) | exact HB.out)⟩⟩
                  · rw [if_neg c13] at H
                    exact absurd H (by simp)
                · rw [if_neg c12] at H
                  exact absurd H (by simp)
              · rw [if_neg c10] at H
                exact absurd H (by simp)
            · rw [if_neg c9] at H
              exact absurd H (by simp)
          · rw [if_neg c8] at H
            exact absurd H (by simp)
      · rw [if_neg c2] at H
        have c2b0 : decide ((x3_1.length : Int) < 2) = false := decide_eq_false c2
        have c2b1 : decide (x3_1.length < 2) = false := decide_eq_false (by omega)
        clear c2
        by_cases c16 : x3_1.length < 8796093022208
        · rw [if_pos c16] at H
          have LMc16 := Aside0.mk c16
          clear c16
          obtain ⟨y123, hy123⟩ : ∃ y_ : List ByteArray, y_ = (x3_1 ++ [x0_1]) := ⟨_, rfl⟩
          replace H : (some y123) = some r := by first | (rw [hy123]; with_reducible exact H) | (have H2_ := (Option.bind_some _ _).symm.trans H; rw [hy123]; with_reducible exact H2_) | (have H2_ := (Option.bind_some _ _).symm.trans H; with_reducible exact H2_) | with_reducible exact H | (rw [hy123]; exact H) | exact H
          have Ny123 := Aside0.mk hy123
          clear hy123
          obtain rfl := Option.some.inj H
          obtain ⟨Ao17, co17, eo17⟩ := Kd.R_slice HO_3.out
          subst eo17
          go_wp2_with (first | ((with_reducible refine gate_builtin (b := .append) (xs := #[.tmp 22, .tmp 24]) rfl ?_); at_builtin; refine Kd.R_append Kd.string (w0 := w) w.heap.size rfl (.tmp 22) (.tmp 24) 87 9 (.string ⟨#[]⟩) 16 rfl Try.underlying87 info9 rfl (by decide) (by omega) (.slice Ao17 x3_1.length co17) x3_1 x0_1 [.string x0_1] (fun _ => True) (fun _ => False) rfl rfl ?aP (fun _ hk => hk.elim) ?aF ?aO ?aB ?aS ?aL ?_; (case aP => exact rfl); (case aB => exact (by repeat (first | (with_reducible first | exact HB.out | apply below_alloc | apply pw_below_drewN | apply below_drew1) | exact HB.out))); (case aF => exact (fun _ _ => trivial)); (case aO => exact (by (with_reducible repeat (first | apply Kd.R_alloc | apply Kd.R_drewN | apply Kd.R_drew)); exact HO_3.out)); (case aS => exact (below_size (by repeat (first | (with_reducible first | exact HB.out | apply below_alloc | apply pw_below_drewN | apply below_drew1) | exact HB.out)))); (case aL => have := LMc16.out; omega); intro v124 w18 ho hb hg hat; rw [← Ny123.out] at ho; have n0_ := Aside0.mk (hb); have n1_ := Aside0.mk (ho); clear HB; clear HO_3; have HB := n0_; have HO125 := n1_; clear n0_ n1_; clear ho hb hg hat))
          go_ret
          exact ⟨_, by first | rfl | (simp [errW_none, errW_some] <;> rfl) | (simp [*, errW_none, errW_some] <;> rfl), by (with_reducible repeat (first | apply Kd.R_alloc | apply Kd.R_drewN | apply Kd.R_drew)); exact HO125.out, by repeat (first | (with_reducible first | exact HB.out | apply below_alloc | apply pw_below_drewN | apply below_drew1) | exact HB.out)⟩
        · rw [if_neg c16] at H
          exact absurd H (by simp)

/-! ### schema_ParseKindArg: function 50 -/
set_option maxHeartbeats 1000000 in
theorem pka_no (k : Nat) (s g n : ByteArray) (c : Int) (w : World) (hc : schema_zzCount.f k s (⟨#[46]⟩ : ByteArray) = some c) (hlt : ¬ c ≥ 2) (hp : schema_ParseGroupKind.f k s = some (g, n)) :
    Calls Try.prog 50 #[.string s] w fun e w' => e = .returned (.tuple #[.pointer none, .agg #[.string g, .string n]]) ∧ Below w.heap.size w w' := by
  have hu1 := Try.underlying58
  have HC := Aside0.mk hc
  have HP := Aside0.mk hp
  have e1 : decide (c ≥ 2) = false := decide_eq_false hlt
  clear hc hp
  go_enter Try.func50, Try.ntmps50
  go_wp2_with fail
  refine (schema_zzCount.calls _ _ _ _ _ HC.out).mono ?_
  rintro e w1 ⟨rfl, ⟨m, rfl⟩⟩
  go_wp2_with fail
  refine (schema_ParseGroupKind.calls _ _ _ _ _ HP.out).mono ?_
  rintro e w1 ⟨rfl, hb1⟩
  have B1 : Aside0 (Below w.heap.size w w1) := ⟨below_step (pw_below_drewN (below_alloc (Below.refl _ _) _) _) hb1⟩
  have hR : Aside0 (w1.heap[w.heap.size]? = some (.cells #[.string ⟨#[]⟩, .string ⟨#[]⟩] 58 (0, 0))) := ⟨blk_below (blk_drewN (blk_new w _) m) hb1⟩
  have hz1 : w.heap.size < w1.heap.size := by have := hb1.size; simp at this; omega
  have c0 : w1.cell? ⟨w.heap.size, 0, none⟩ = some (.string ⟨#[]⟩) := blk_cell hR.out 0
  have c1 : w1.cell? ⟨w.heap.size, 1, none⟩ = some (.string ⟨#[]⟩) := blk_cell hR.out 1
  have f0 : w1.frozen? ⟨w.heap.size, 0, none⟩ = false := blk_frozen hR.out 0
  have f1 : w1.frozen? ⟨w.heap.size, 1, none⟩ = false := blk_frozen hR.out 1
  clear hb1 hR HC HP
  go_wp2_with fail
  exact bodyPost_ret (v := .tuple #[.pointer none, .agg #[.string g, .string n]]) (by simp [results, Try.results50, go_sem, c0, c1, f0, f1, hz1]) rfl ⟨rfl, (by repeat (first | (with_reducible exact B1.out) | apply below_alloc | apply pw_below_drewN | apply below_drew1 | refine below_set ?_ (Nat.le_refl _)))⟩
set_option maxHeartbeats 1000000 in
theorem pka_yes (k : Nat) (s g n : ByteArray) (c : Int) (l : List ByteArray) (w : World) (hc : schema_zzCount.f k s (⟨#[46]⟩ : ByteArray) = some c) (hlt : c ≥ 2) (hl : schema_zzSplitThree.f k s = some l) (h3 : 3 ≤ l.length) (hp : schema_ParseGroupKind.f k s = some (g, n)) :
    Calls Try.prog 50 #[.string s] w fun e w' => ∃ b, e = .returned (.tuple #[.pointer (some ⟨b, 0, none⟩), .agg #[.string g, .string n]]) ∧ w.heap.size ≤ b ∧ b < w'.heap.size ∧ w'.heap[b]? = some (.cells #[.string (rdOf ByteArray.empty l 2), .string (rdOf ByteArray.empty l 1), .string (rdOf ByteArray.empty l 0)] 49 (0, 0)) ∧ Below w.heap.size w w' := by
  have hu1 := Try.underlying58
  have hu2 := Try.underlying49
  have HC := Aside0.mk hc
  have HP := Aside0.mk hp
  have HL := Aside0.mk hl
  have e1 : decide (c ≥ 2) = true := decide_eq_true hlt
  clear hc hp hl
  go_enter Try.func50, Try.ntmps50
  go_wp2_with fail
  refine (schema_zzCount.calls _ _ _ _ _ HC.out).mono ?_
  rintro e w1 ⟨rfl, ⟨m, rfl⟩⟩
  go_wp2_with fail
  refine (schema_zzSplitThree.calls _ _ _ _ HL.out).mono ?_
  rintro e w1 ⟨v, rfl, hr, hb⟩
  have B1 : Aside0 (Below w.heap.size w w1) := ⟨below_step (pw_below_drewN (below_alloc (Below.refl _ _) _) _) hb⟩
  have hR : Aside0 (w1.heap[w.heap.size]? = some (.cells #[.string ⟨#[]⟩, .string ⟨#[]⟩] 58 (0, 0))) := ⟨blk_below (blk_drewN (blk_new w _) m) hb⟩
  have hz1 : w.heap.size < w1.heap.size := by have := hb.size; simp at this; omega
  obtain ⟨g1, cap, rfl, hg0, hg1, cells, hg2⟩ := Kd.R_form hr (by omega)
  have hg3 : w.heap.size < g1 := by simp at hg0; omega
  have c0 : w1.cell? ⟨g1, 0, none⟩ = some (.string (rdOf ByteArray.empty l 0)) := (Kd.R_cell (ByteArray.empty) hr 0 (by omega) (by omega)).1
  have c1 : w1.cell? ⟨g1, 1, none⟩ = some (.string (rdOf ByteArray.empty l 1)) := (Kd.R_cell (ByteArray.empty) hr 1 (by omega) (by omega)).1
  have c2 : w1.cell? ⟨g1, 2, none⟩ = some (.string (rdOf ByteArray.empty l 2)) := (Kd.R_cell (ByteArray.empty) hr 2 (by omega) (by omega)).1
  have i0 : (0 : Int) < (l.length : Int) := by omega
  have i1 : (1 : Int) < (l.length : Int) := by omega
  have i2 : (2 : Int) < (l.length : Int) := by omega
  have j0 : (0 : Nat) < l.length := by omega
  have j1 : (1 : Nat) < l.length := by omega
  have j2 : (2 : Nat) < l.length := by omega
  clear hr hb HC HL hg2 hg0
  go_wp2_with fail
  go_region
  all_goals go_wp2_with fail
  all_goals refine (schema_ParseGroupKind.calls _ _ _ _ _ HP.out).mono ?_
  all_goals rintro e w2 ⟨rfl, hb2⟩
  all_goals have B2 : Aside0 (Below w.heap.size w w2) := ⟨below_step (below_drew1 (below_alloc B1.out _)) hb2⟩
  all_goals have hT : Aside0 (w2.heap[w.heap.size]? = some (.cells #[.string ⟨#[]⟩, .string ⟨#[]⟩] 58 (0, 0))) := ⟨blk_below (blk_drew (blk_alloc hR.out _)) hb2⟩
  all_goals have hN : Aside0 (w2.heap[w1.heap.size]? = some (.cells #[.string (rdOf ByteArray.empty l 2), .string (rdOf ByteArray.empty l 1), .string (rdOf ByteArray.empty l 0)] 49 (0, 0))) := ⟨blk_below (blk_drew (blk_new w1 _)) hb2⟩
  all_goals have hz2 : w1.heap.size < w2.heap.size := by have := hb2.size; simp at this; omega
  all_goals have hz3 : w.heap.size < w2.heap.size := by omega
  all_goals have d0 : w2.cell? ⟨w.heap.size, 0, none⟩ = some (.string ⟨#[]⟩) := blk_cell hT.out 0
  all_goals have d1 : w2.cell? ⟨w.heap.size, 1, none⟩ = some (.string ⟨#[]⟩) := blk_cell hT.out 1
  all_goals have f0 : w2.frozen? ⟨w.heap.size, 0, none⟩ = false := blk_frozen hT.out 0
  all_goals have f1 : w2.frozen? ⟨w.heap.size, 1, none⟩ = false := blk_frozen hT.out 1
  all_goals clear hb2 hR c0 c1 c2 hT
  all_goals go_wp2_with fail
  all_goals exact bodyPost_ret (v := .tuple #[.pointer (some ⟨w1.heap.size, 0, none⟩), .agg #[.string g, .string n]]) (by simp [results, Try.results50, go_sem, d0, d1, f0, f1, hz2, hz3]) rfl ⟨w1.heap.size, rfl, by omega, by simp; omega, blk_far (blk_far hN.out (by simp; omega) _) (by simp; omega) _, (by repeat (first | (with_reducible exact B2.out) | apply below_alloc | apply pw_below_drewN | apply below_drew1 | refine below_set ?_ (Nat.le_refl _)))⟩
/-! ### impl_KindArg: function 31 -/
def impl_KindArg.f (k : Nat) (a0 : ByteArray) : Option (ByteArray × ByteArray × ByteArray × Bool × ByteArray × ByteArray × ByteArray) := (schema_zzCount.f k a0 (⟨#[46]⟩ : ByteArray)).bind fun c => (schema_ParseGroupKind.f k a0).bind fun p => if c ≥ 2 then (schema_zzSplitThree.f k a0).bind fun l => (if 3 ≤ l.length then some (rdOf ByteArray.empty l 2, rdOf ByteArray.empty l 1, rdOf ByteArray.empty l 0, true, p.1, (⟨#[]⟩ : ByteArray), p.2) else none) else some ((⟨#[]⟩ : ByteArray), (⟨#[]⟩ : ByteArray), (⟨#[]⟩ : ByteArray), false, p.1, (⟨#[]⟩ : ByteArray), p.2)
theorem impl_KindArg.mono : ∀ a0 k, LeO (impl_KindArg.f k a0) (impl_KindArg.f (k + 1) a0) := by
  intro a0 k
  unfold impl_KindArg.f
  exact LeO.bind (schema_zzCount.mono _ _ _) (fun _ => LeO.bind (schema_ParseGroupKind.mono _ _) (fun _ => LeO.ite (LeO.bind (schema_zzSplitThree.mono _ _) (fun _ => LeO.refl _)) (LeO.refl _)))
set_option maxHeartbeats 4000000 in
theorem impl_KindArg.calls (k : Nat) (a0 : ByteArray) (r1 : ByteArray) (r2 : ByteArray) (r3 : ByteArray) (r4 : Bool) (r5 : ByteArray) (r6 : ByteArray) (r7 : ByteArray) (w : World) (h : impl_KindArg.f k a0 = some (r1, r2, r3, r4, r5, r6, r7)) :
    Calls Try.prog 31 #[.string a0] w fun e w' => e = .returned (.tuple #[.agg #[.string r1, .string r2, .string r3], .bool r4, .agg #[.string r5, .string r6, .string r7]]) ∧ Below w.heap.size w w' := by
  have hu1 := Try.underlying58
  have hu2 := Try.underlying25
  have hu3 := Try.underlying49
  unfold impl_KindArg.f at h
  replace h := Option.bind_eq_some_iff.mp h
  obtain ⟨c, hc, h⟩ := h
  replace h := Option.bind_eq_some_iff.mp h
  obtain ⟨⟨g, n⟩, hp, h⟩ := h
  by_cases h2 : c ≥ 2
  · rw [if_pos h2] at h
    replace h := Option.bind_eq_some_iff.mp h
    obtain ⟨l, hl, h⟩ := h
    by_cases h3 : 3 ≤ l.length
    · rw [if_pos h3] at h
      simp only [Option.some.injEq, Prod.mk.injEq] at h
      obtain ⟨rfl, rfl, rfl, rfl, rfl, rfl, rfl⟩ := h
      have HC := Aside0.mk (fun w => pka_yes k a0 g n c l w hc h2 hl h3 hp)
      clear hc hp hl h2 h3
      go_enter Try.func31, Try.ntmps31
      go_wp2_with fail
      refine (HC.out _).mono ?_
      rintro e w1 ⟨b, rfl, hb0, hb1, hblk, hbl⟩
      have B1 : Aside0 (Below w.heap.size w w1) := ⟨below_step (below_alloc (below_alloc (Below.refl _ _) _) _) hbl⟩
      have hR : Aside0 (w1.heap[w.heap.size]? = some (.cells #[.string ⟨#[]⟩, .string ⟨#[]⟩, .string ⟨#[]⟩] 25 (0, 0))) := ⟨blk_below (blk_alloc (blk_new w _) _) hbl⟩
      have hS : Aside0 (w1.heap[w.heap.size + 1]? = some (.cells #[.string ⟨#[]⟩, .string ⟨#[]⟩, .string ⟨#[]⟩] 25 (0, 0))) := ⟨blk_below (by simpa using blk_new (w.alloc _) _) hbl⟩
      have hz1 : w.heap.size + 1 < w1.heap.size := by have := hbl.size; simp at this; omega
      have hz0 : w.heap.size < w1.heap.size := by omega
      have hb2 : w.heap.size + 1 < b := by simp at hb0; omega
      have x0 : w1.cell? ⟨b, 0, none⟩ = some (.string (rdOf ByteArray.empty l 2)) := blk_cell hblk 0
      have x1 : w1.cell? ⟨b, 1, none⟩ = some (.string (rdOf ByteArray.empty l 1)) := blk_cell hblk 1
      have x2 : w1.cell? ⟨b, 2, none⟩ = some (.string (rdOf ByteArray.empty l 0)) := blk_cell hblk 2
      have c0 : w1.cell? ⟨w.heap.size, 0, none⟩ = some (.string ⟨#[]⟩) := blk_cell hR.out 0
      have c1 : w1.cell? ⟨w.heap.size, 1, none⟩ = some (.string ⟨#[]⟩) := blk_cell hR.out 1
      have c2 : w1.cell? ⟨w.heap.size, 2, none⟩ = some (.string ⟨#[]⟩) := blk_cell hR.out 2
      have f0 : w1.frozen? ⟨w.heap.size, 0, none⟩ = false := blk_frozen hR.out 0
      have f1 : w1.frozen? ⟨w.heap.size, 1, none⟩ = false := blk_frozen hR.out 1
      have f2 : w1.frozen? ⟨w.heap.size, 2, none⟩ = false := blk_frozen hR.out 2
      clear hbl HC hblk hb0
      go_wp2_with fail
      go_region
      all_goals go_wp2_with fail
      all_goals clear c0 c1 c2 f0 f1 f2 x0 x1 x2
      all_goals generalize hw2 : ((((w1.setCell ⟨w.heap.size, 0, none⟩ (.string (rdOf ByteArray.empty l 2))).setCell ⟨w.heap.size, 1, none⟩ (.string (rdOf ByteArray.empty l 1))).setCell ⟨w.heap.size, 2, none⟩ (.string (rdOf ByteArray.empty l 0))).alloc (.cells #[.string g, .string n] 58 (0, 0))).drew = w2
      all_goals have B2 : Aside0 (Below w.heap.size w w2) := ⟨by rw [← hw2]; (repeat (first | (with_reducible exact B1.out) | apply below_alloc | apply pw_below_drewN | apply below_drew1 | refine below_set ?_ (Nat.le_refl _)))⟩
      all_goals have hA : Aside0 (w2.heap[w.heap.size]? = some (.cells #[.string (rdOf ByteArray.empty l 2), .string (rdOf ByteArray.empty l 1), .string (rdOf ByteArray.empty l 0)] 25 (0, 0))) := ⟨by rw [← hw2]; exact blk_drew (blk_alloc (blk_put (blk_put (blk_put hR.out 0 _ rfl) 1 _ rfl) 2 _ rfl) _)⟩
      all_goals have hB : Aside0 (w2.heap[w.heap.size + 1]? = some (.cells #[.string ⟨#[]⟩, .string ⟨#[]⟩, .string ⟨#[]⟩] 25 (0, 0))) := ⟨by rw [← hw2]; exact blk_drew (blk_alloc (blk_far (blk_far (blk_far hS.out (by simp) _) (by simp) _) (by simp) _) _)⟩
      all_goals have hD : Aside0 (w2.heap[w1.heap.size]? = some (.cells #[.string g, .string n] 58 (0, 0))) := ⟨by rw [← hw2]; exact by simpa using blk_drew (blk_new (((w1.setCell ⟨w.heap.size, 0, none⟩ (.string (rdOf ByteArray.empty l 2))).setCell ⟨w.heap.size, 1, none⟩ (.string (rdOf ByteArray.empty l 1))).setCell ⟨w.heap.size, 2, none⟩ (.string (rdOf ByteArray.empty l 0))) _)⟩
      all_goals have hz3 : w.heap.size < w2.heap.size := blk_lt hA.out
      all_goals have hz4 : w.heap.size + 1 < w2.heap.size := blk_lt hB.out
      all_goals have a0' : w2.cell? ⟨w.heap.size, 0, none⟩ = some (.string (rdOf ByteArray.empty l 2)) := blk_cell hA.out 0
      all_goals have a1' : w2.cell? ⟨w.heap.size, 1, none⟩ = some (.string (rdOf ByteArray.empty l 1)) := blk_cell hA.out 1
      all_goals have a2' : w2.cell? ⟨w.heap.size, 2, none⟩ = some (.string (rdOf ByteArray.empty l 0)) := blk_cell hA.out 2
      all_goals have f0 : w2.frozen? ⟨w.heap.size, 0, none⟩ = false := blk_frozen hA.out 0
      all_goals have f1 : w2.frozen? ⟨w.heap.size, 1, none⟩ = false := blk_frozen hA.out 1
      all_goals have f2 : w2.frozen? ⟨w.heap.size, 2, none⟩ = false := blk_frozen hA.out 2
      all_goals have s0 : w2.cell? ⟨w.heap.size + 1, 0, none⟩ = some (.string ⟨#[]⟩) := blk_cell hB.out 0
      all_goals have s1 : w2.cell? ⟨w.heap.size + 1, 1, none⟩ = some (.string ⟨#[]⟩) := blk_cell hB.out 1
      all_goals have s2 : w2.cell? ⟨w.heap.size + 1, 2, none⟩ = some (.string ⟨#[]⟩) := blk_cell hB.out 2
      all_goals have e0 : w2.frozen? ⟨w.heap.size + 1, 0, none⟩ = false := blk_frozen hB.out 0
      all_goals have e1 : w2.frozen? ⟨w.heap.size + 1, 1, none⟩ = false := blk_frozen hB.out 1
      all_goals have e2 : w2.frozen? ⟨w.heap.size + 1, 2, none⟩ = false := blk_frozen hB.out 2
      all_goals have d0 : w2.cell? ⟨w1.heap.size, 0, none⟩ = some (.string g) := blk_cell hD.out 0
      all_goals have d1 : w2.cell? ⟨w1.heap.size, 1, none⟩ = some (.string n) := blk_cell hD.out 1
      all_goals clear hw2 hR hS hA hB hD
      all_goals go_region
      all_goals go_wp2_with fail
      all_goals exact bodyPost_ret (v := .tuple #[.agg #[.string (rdOf ByteArray.empty l 2), .string (rdOf ByteArray.empty l 1), .string (rdOf ByteArray.empty l 0)], .bool true, .agg #[.string g, .string ⟨#[]⟩, .string n]]) (by simp [results, Try.results31, go_sem, a0', a1', a2', f0, f1, f2, s0, s1, s2, e0, e1, e2, hz3, hz4]) rfl ⟨rfl, (by repeat (with_reducible (first | exact B2.out | refine below_set ?_ (by omega) | apply below_alloc | apply pw_below_drewN | apply below_drew1)))⟩
    · rw [if_neg h3] at h
      simp at h
  · rw [if_neg h2] at h
    simp only [Option.some.injEq, Prod.mk.injEq] at h
    obtain ⟨rfl, rfl, rfl, rfl, rfl, rfl, rfl⟩ := h
    have HC := Aside0.mk (fun w => pka_no k a0 g n c w hc h2 hp)
    clear hc hp h2
    go_enter Try.func31, Try.ntmps31
    go_wp2_with fail
    refine (HC.out _).mono ?_
    rintro e w1 ⟨rfl, hbl⟩
    have B1 : Aside0 (Below w.heap.size w w1) := ⟨below_step (below_alloc (below_alloc (Below.refl _ _) _) _) hbl⟩
    have hR : Aside0 (w1.heap[w.heap.size]? = some (.cells #[.string ⟨#[]⟩, .string ⟨#[]⟩, .string ⟨#[]⟩] 25 (0, 0))) := ⟨blk_below (blk_alloc (blk_new w _) _) hbl⟩
    have hS : Aside0 (w1.heap[w.heap.size + 1]? = some (.cells #[.string ⟨#[]⟩, .string ⟨#[]⟩, .string ⟨#[]⟩] 25 (0, 0))) := ⟨blk_below (by simpa using blk_new (w.alloc _) _) hbl⟩
    have hz1 : w.heap.size + 1 < w1.heap.size := by have := hbl.size; simp at this; omega
    have hz0 : w.heap.size < w1.heap.size := by omega
    clear hbl HC
    go_wp2_with fail
    all_goals generalize hw2 : w1.alloc (.cells #[.string g, .string n] 58 (0, 0)) = w2
    all_goals have B2 : Aside0 (Below w.heap.size w w2) := ⟨by rw [← hw2]; (repeat (first | (with_reducible exact B1.out) | apply below_alloc | apply pw_below_drewN | apply below_drew1 | refine below_set ?_ (Nat.le_refl _)))⟩
    all_goals have hA : Aside0 (w2.heap[w.heap.size]? = some (.cells #[.string ⟨#[]⟩, .string ⟨#[]⟩, .string ⟨#[]⟩] 25 (0, 0))) := ⟨by rw [← hw2]; exact blk_alloc hR.out _⟩
    all_goals have hB : Aside0 (w2.heap[w.heap.size + 1]? = some (.cells #[.string ⟨#[]⟩, .string ⟨#[]⟩, .string ⟨#[]⟩] 25 (0, 0))) := ⟨by rw [← hw2]; exact blk_alloc hS.out _⟩
    all_goals have hD : Aside0 (w2.heap[w1.heap.size]? = some (.cells #[.string g, .string n] 58 (0, 0))) := ⟨by rw [← hw2]; exact blk_new w1 _⟩
    all_goals have hz3 : w.heap.size < w2.heap.size := blk_lt hA.out
    all_goals have hz4 : w.heap.size + 1 < w2.heap.size := blk_lt hB.out
    all_goals have a0' : w2.cell? ⟨w.heap.size, 0, none⟩ = some (.string ⟨#[]⟩) := blk_cell hA.out 0
    all_goals have a1' : w2.cell? ⟨w.heap.size, 1, none⟩ = some (.string ⟨#[]⟩) := blk_cell hA.out 1
    all_goals have a2' : w2.cell? ⟨w.heap.size, 2, none⟩ = some (.string ⟨#[]⟩) := blk_cell hA.out 2
    all_goals have f0 : w2.frozen? ⟨w.heap.size, 0, none⟩ = false := blk_frozen hA.out 0
    all_goals have f1 : w2.frozen? ⟨w.heap.size, 1, none⟩ = false := blk_frozen hA.out 1
    all_goals have f2 : w2.frozen? ⟨w.heap.size, 2, none⟩ = false := blk_frozen hA.out 2
    all_goals have s0 : w2.cell? ⟨w.heap.size + 1, 0, none⟩ = some (.string ⟨#[]⟩) := blk_cell hB.out 0
    all_goals have s1 : w2.cell? ⟨w.heap.size + 1, 1, none⟩ = some (.string ⟨#[]⟩) := blk_cell hB.out 1
    all_goals have s2 : w2.cell? ⟨w.heap.size + 1, 2, none⟩ = some (.string ⟨#[]⟩) := blk_cell hB.out 2
    all_goals have e0 : w2.frozen? ⟨w.heap.size + 1, 0, none⟩ = false := blk_frozen hB.out 0
    all_goals have e1 : w2.frozen? ⟨w.heap.size + 1, 1, none⟩ = false := blk_frozen hB.out 1
    all_goals have e2 : w2.frozen? ⟨w.heap.size + 1, 2, none⟩ = false := blk_frozen hB.out 2
    all_goals have d0 : w2.cell? ⟨w1.heap.size, 0, none⟩ = some (.string g) := blk_cell hD.out 0
    all_goals have d1 : w2.cell? ⟨w1.heap.size, 1, none⟩ = some (.string n) := blk_cell hD.out 1
    all_goals clear hw2 hR hS hA hB hD
    all_goals go_region
    all_goals go_wp2_with fail
    all_goals exact bodyPost_ret (v := .tuple #[.agg #[.string ⟨#[]⟩, .string ⟨#[]⟩, .string ⟨#[]⟩], .bool false, .agg #[.string g, .string ⟨#[]⟩, .string n]]) (by simp [results, Try.results31, go_sem, a0', a1', a2', f0, f1, f2, s0, s1, s2, e0, e1, e2, hz3, hz4]) rfl ⟨rfl, (by repeat (with_reducible (first | exact B2.out | refine below_set ?_ (by omega) | apply below_alloc | apply pw_below_drewN | apply below_drew1)))⟩
/-! ### schema_ParseGroupResource: function 40 -/
def schema_ParseGroupResource.f (k : Nat) (a0 : ByteArray) : Option (ByteArray × ByteArray) := (schema_zzIndex.f k a0 (⟨#[46]⟩ : ByteArray)).bind fun t127 => (if t127 ≥ 0 then (if 0 ≤ (wrap64 (t127 + 1)) then (if (wrap64 (t127 + 1)) ≤ (a0.size : Int) then (if 0 ≤ t127 then (if t127 ≤ (a0.size : Int) then (some (a0.extract ((wrap64 (t127 + 1)) : Int).toNat a0.size, a0.extract 0 (t127 : Int).toNat)) else (none)) else (none)) else (none)) else (none)) else (some ((⟨#[]⟩ : ByteArray), a0)))
theorem schema_ParseGroupResource.mono : ∀ a0 k, LeO (schema_ParseGroupResource.f k a0) (schema_ParseGroupResource.f (k + 1) a0) := by
  intro a0 k
  unfold schema_ParseGroupResource.f
  repeat' first
      | (with_reducible exact schema_zzIndex.mono _ _ _)
      | (with_reducible exact LeO.refl _)
      | (with_reducible exact LeO.none _)
      | (with_reducible refine LeO.ite ?_ ?_)
      | (with_reducible refine LeO.bind ?_ (fun _ => ?_))
      | exact schema_zzIndex.mono _ _ _
      | exact LeO.none _
      | refine LeO.ite ?_ ?_
      | refine LeO.bind ?_ (fun _ => ?_)
def schema_ParseGroupResource.T3 : Bool × List (List Nat × List Nat) := (true, [([], []), ([], []), ([1], [1]), ([0, 2], [0, 2]), ([], []), ([], []), ([4, 5], [4, 5]), ([3, 6], [3, 6]), ([7, 0, 1, 2, 3, 4, 5, 6, 7], [7])])
def schema_ParseGroupResource.B3 : List Nat := [0, 0, 2, 7, 0, 0, 48, 127, 255]
theorem schema_ParseGroupResource.tab3 : rtab .any (opsOf Try.f40 3) = schema_ParseGroupResource.T3 := by kernel_rfl
theorem schema_ParseGroupResource.bits3 : waitsOk schema_ParseGroupResource.T3.2 schema_ParseGroupResource.B3 = true := by kernel_rfl
set_option maxHeartbeats 8000000 in
set_option maxRecDepth 100000 in
theorem schema_ParseGroupResource.calls (k : Nat) (a0 : ByteArray) (r1 : ByteArray) (r2 : ByteArray) (w : World) (h : schema_ParseGroupResource.f k a0 = some (r1, r2)) :
    Calls Try.prog 40 #[.string a0] w fun e w' => e = .returned (.agg #[.string r1, .string r2]) ∧ Below w.heap.size w w' := by
  have hu61 := Try.underlying61
  have HB := Aside0.mk (Below.refl w.heap.size w)
  have H : ((schema_zzIndex.f k a0 (⟨#[46]⟩ : ByteArray)).bind fun t127 => (if t127 ≥ 0 then (if 0 ≤ (wrap64 (t127 + 1)) then (if (wrap64 (t127 + 1)) ≤ (a0.size : Int) then (if 0 ≤ t127 then (if t127 ≤ (a0.size : Int) then (some (a0.extract ((wrap64 (t127 + 1)) : Int).toNat a0.size, a0.extract 0 (t127 : Int).toNat)) else (none)) else (none)) else (none)) else (none)) else (some ((⟨#[]⟩ : ByteArray), a0)))) = some (r1, r2) := h
  clear h
  replace H := Option.bind_eq_some_iff.mp H
  obtain ⟨t127, A20, H⟩ := H
  replace H : (if t127 ≥ 0 then (if 0 ≤ (wrap64 (t127 + 1)) then (if (wrap64 (t127 + 1)) ≤ (a0.size : Int) then (if 0 ≤ t127 then (if t127 ≤ (a0.size : Int) then (some (a0.extract ((wrap64 (t127 + 1)) : Int).toNat a0.size, a0.extract 0 (t127 : Int).toNat)) else (none)) else (none)) else (none)) else (none)) else (some ((⟨#[]⟩ : ByteArray), a0))) = some (r1, r2) := H
  have A2 := Aside0.mk A20
  clear A20
  by_cases c3 : t127 ≥ 0
  · rw [if_pos c3] at H
    have c3b0 : decide (0 ≤ t127) = true := decide_eq_true c3
    clear c3
    obtain ⟨ji4, hji4⟩ : ∃ j_ : Int, (wrap64 (t127 + 1)) = j_ := ⟨_, rfl⟩
    replace H : (if 0 ≤ (ji4) then (if (ji4) ≤ (a0.size : Int) then (if 0 ≤ t127 then (if t127 ≤ (a0.size : Int) then (some (a0.extract ((ji4) : Int).toNat a0.size, a0.extract 0 (t127 : Int).toNat)) else (none)) else (none)) else (none)) else (none)) = some (r1, r2) := by first | (rw [hji4] at H; exact H) | (simp only [hji4] at H ⊢; exact H)
    (try rw [hji4] at A2)
    have hji4w : (IntKind.i64.wrap (t127 + 1)) = ji4 := (i64_w _).trans hji4
    by_cases c5 : 0 ≤ (ji4)
    · rw [if_pos c5] at H
      have c5b0 := eq_true c5
      have c5b1 : decide (0 ≤ (ji4)) = true := decide_eq_true c5
      clear c5
      by_cases c6 : (ji4) ≤ (a0.size : Int)
      · rw [if_pos c6] at H
        have c6b0 := eq_true c6
        have c6b1 : decide ((ji4) ≤ (a0.size : Int)) = true := decide_eq_true c6
        clear c6
        by_cases c7 : 0 ≤ t127
        · rw [if_pos c7] at H
          have c7b0 := eq_true c7
          have c7b1 : decide (0 ≤ t127) = true := decide_eq_true c7
          clear c7
          by_cases c8 : t127 ≤ (a0.size : Int)
          · rw [if_pos c8] at H
            have c8b0 := eq_true c8
            have c8b1 : decide (t127 ≤ (a0.size : Int)) = true := decide_eq_true c8
            clear c8
            simp only [Option.some.injEq, Prod.mk.injEq] at H
            obtain ⟨rfl, rfl⟩ := H
            go_enter Try.func40, Try.ntmps40
            try go_wp2_with (first | ((with_reducible refine gate_dst (N := 2) rfl ?_); refine box_event ?hg (N := 2) ?hd (cs := #[.string (⟨#[]⟩ : ByteArray), .string (⟨#[]⟩ : ByteArray)]) (t := 61) ?hr ?_; (case hd => rfl); (case hg => rfl); (case hr => first | (go_simp; done) | (go_simp; rfl)); intro gb126 hg w9 hbox hb; have n0_ := Aside0.mk (below_step (by repeat (first | (with_reducible first | exact HB.out | apply below_alloc | apply pw_below_drewN | apply below_drew1) | exact HB.out)) hb); have n1_ := Aside0.mk (hbox); have n2_ := Aside0.mk ((by rw [hg]; exact (below_size (by repeat (first | (with_reducible first | exact HB.out | apply below_alloc | apply pw_below_drewN | apply below_drew1) | exact HB.out))) : w.heap.size ≤ gb126)); have n3_ := Aside0.mk ((by rw [hg]; exact (below_size (by repeat (first | (with_reducible first | exact HB.out | apply below_alloc | apply pw_below_drewN | apply below_drew1) | exact HB.out))) : w.heap.size ≤ gb126)); clear HB; have HB := n0_; have BK126 := n1_; have GW126 := n2_; have GE126 := n3_; clear n0_ n1_ n2_ n3_; clear hb hbox hg) | ((with_reducible refine gate_callee (f := 55) rfl ?_); refine goesL_ (some 5) rfl rfl Try.func55 (by kernel_rfl) rfl #[.string a0, .string (⟨#[46]⟩ : ByteArray)] rfl (by (try simp only [List.map_toArray, List.map_cons, List.map_nil]); first | done | rfl | (simp only [List.length_drop, List.length_take]; rfl)) ?_; (with_reducible refine (schema_zzIndex.calls k a0 (⟨#[46]⟩ : ByteArray) t127 _ A2.out).mono ?_); rintro e w' ⟨rfl, ⟨nd, rfl⟩⟩; refine ⟨_, rfl, ?_⟩; (try (rw [drewN_self w9]; generalize hq_ : World.drewN w9 _ = w9; have n0_ : Aside0 (w9.heap[gb126]? = some (.cells #[.string (⟨#[]⟩ : ByteArray), .string (⟨#[]⟩ : ByteArray)] 61 (0, 0))) := ⟨by rw [← hq_]; exact (by (with_reducible repeat (first | refine blk_drewN ?_ _ | refine blk_drew ?_ | refine blk_alloc ?_ _)); exact BK126.out)⟩; have n1_ : Aside0 (Below w.heap.size w w9) := ⟨by rw [← hq_]; exact (by repeat (first | (with_reducible first | exact HB.out | apply below_alloc | apply pw_below_drewN | apply below_drew1 | refine below_set ?_ GE126.out) | exact HB.out))⟩; clear BK126 HB hq_; have BK126 := n0_; have HB := n1_; clear n0_ n1_))))
            have n0_ := Aside0.mk (blk_drew BK126.out)
            have n1_ := Aside0.mk (below_drew1 HB.out)
            clear BK126
            clear HB
            have BK126 := n0_
            have HB := n1_
            clear n0_ n1_
            refine start_ (n := 9) (S := fun w' => True) (ds := []) #[false, false, false, false, false, false, false, false, false] (by kernel_rfl) rfl rfl trivial (fun hHeld => ?_); refine with_tabW schema_ParseGroupResource.tab3 schema_ParseGroupResource.bits3 (fun HT_ HW_ => ?_)
            generalize w9.drew = w10 at BK126 HB hHeld ⊢
            refine pure_ (i := 0) (N := some 8) (v := ?_) (a' := ?_) #[true, false, false, false, false, false, false, false, false] rfl rfl (any_of HT_.out (by kernel_rfl)) (fun _ _ _ h => h) (Or.inl ⟨by rfl, ?_⟩) ?_ ?_
            rotate_left
            · intro w'
              go_simp
              with_reducible rfl
            rotate_left
            · simp only [Act.put, List.setIfInBounds_toArray, List.set_cons_zero, List.set_cons_succ, i64_w, i32_w]
              rfl
            refine pure_ (i := 1) (N := some 9) (v := ?_) (a' := ?_) #[true, true, false, false, false, false, false, false, false] rfl rfl (any_of HT_.out (by kernel_rfl)) (fun _ _ _ h => h) (Or.inl ⟨by rfl, ?_⟩) ?_ ?_
            rotate_left
            · intro w'
              go_simp
              with_reducible rfl
            rotate_left
            · simp only [Act.put, List.setIfInBounds_toArray, List.set_cons_zero, List.set_cons_succ, i64_w, i32_w]
              rfl
            refine pure_ (i := 2) (N := some 10) (v := ?_) (a' := ?_) #[true, true, true, false, false, false, false, false, false] rfl rfl (any_of HT_.out (by kernel_rfl)) (fun _ _ _ h => h) (Or.inl ⟨by rfl, ?_⟩) ?_ ?_
            rotate_left
            · intro w'
              go_simp
              with_reducible rfl
            rotate_left
            · simp only [Act.put, List.setIfInBounds_toArray, List.set_cons_zero, List.set_cons_succ, i64_w, i32_w]
              rfl
            refine pure_ (i := 3) (N := some 11) (v := ?_) (a' := ?_) #[true, true, true, true, false, false, false, false, false] rfl rfl (any_of HT_.out (by kernel_rfl)) (fun _ _ _ h => h) (Or.inl ⟨by rfl, ?_⟩) ?_ ?_
            rotate_left
            · intro w'
              go_simp
              with_reducible rfl
            rotate_left
            · simp only [Act.put, List.setIfInBounds_toArray, List.set_cons_zero, List.set_cons_succ, i64_w, i32_w]
              rfl
            refine pure_ (i := 4) (N := some 12) (v := ?_) (a' := ?_) #[true, true, true, true, true, false, false, false, false] rfl rfl (any_of HT_.out (by kernel_rfl)) (fun _ _ _ h => h) (Or.inl ⟨by rfl, ?_⟩) ?_ ?_
            rotate_left
            · intro w'
              go_simp
              with_reducible rfl
            rotate_left
            · simp only [Act.put, List.setIfInBounds_toArray, List.set_cons_zero, List.set_cons_succ, i64_w, i32_w]
              rfl
            refine pure_ (i := 5) (N := some 13) (v := ?_) (a' := ?_) #[true, true, true, true, true, true, false, false, false] rfl rfl (any_of HT_.out (by kernel_rfl)) (fun _ _ _ h => h) (Or.inl ⟨by rfl, ?_⟩) ?_ ?_
            rotate_left
            · intro w'
              go_simp
              with_reducible rfl
            rotate_left
            · simp only [Act.put, List.setIfInBounds_toArray, List.set_cons_zero, List.set_cons_succ, i64_w, i32_w]
              rfl
            refine pure_ (i := 6) (N := some 14) (v := ?_) (a' := ?_) #[true, true, true, true, true, true, true, false, false] rfl rfl (any_of HT_.out (by kernel_rfl)) (fun _ _ _ h => h) (Or.inl ⟨by rfl, ?_⟩) ?_ ?_
            rotate_left
            · intro w'
              go_simp
              with_reducible rfl
            rotate_left
            · simp only [Act.put, List.setIfInBounds_toArray, List.set_cons_zero, List.set_cons_succ, i64_w, i32_w]
              rfl
            refine pure_ (i := 7) (N := some 15) (v := ?_) (a' := ?_) #[true, true, true, true, true, true, true, true, false] rfl rfl (any_of HT_.out (by kernel_rfl)) (fun _ _ _ h => h) (Or.inl ⟨by rfl, ?_⟩) ?_ ?_
            rotate_left
            · intro w'
              go_simp
              with_reducible rfl
            rotate_left
            · simp only [Act.put, List.setIfInBounds_toArray, List.set_cons_zero, List.set_cons_succ, i64_w, i32_w]
              rfl
            refine one_ (i := 8) (N := none) #[true, true, true, true, true, true, true, true, true] rfl rfl (one_of HT_.out (by kernel_rfl)) (by decide) (fun K hK => ?_)
            have hs11 : w10.cell? ⟨gb126, 0, none⟩ = some (.string (⟨#[]⟩ : ByteArray)) := (blk_cell BK126.out 0).trans rfl
            have hfs11 := blk_frozen BK126.out 0
            have hs12 : w10.cell? ⟨gb126, 1, none⟩ = some (.string (⟨#[]⟩ : ByteArray)) := (blk_cell BK126.out 1).trans rfl
            have hfs12 := blk_frozen BK126.out 1
            refine skip_ (w1 := ?_) (by rfl) rfl ?_ ?_
            rotate_left
            · go_simp
              rfl
            refine hK.out _ _ trivial (fun hHeld => ?_)
            clear hK K
            refine done_ (done_of HT_.out (by kernel_rfl)) ?_
            try go_wp2
            refine bodyPost_ret (results_cell_row rfl _ _ gb126 61 #[.string (a0.extract ((ji4) : Int).toNat a0.size), .string (a0.extract 0 (t127 : Int).toNat)] (0, 0) _ rfl (by (with_reducible repeat (first | refine blk_drewN ?_ _ | refine blk_drew ?_ | refine blk_alloc ?_ _)); refine blk_put (cs := #[.string (a0.extract ((ji4) : Int).toNat a0.size), .string (⟨#[]⟩ : ByteArray)]) ?_ 1 _ rfl; (with_reducible repeat (first | refine blk_drewN ?_ _ | refine blk_drew ?_ | refine blk_alloc ?_ _)); refine blk_put (cs := #[.string (⟨#[]⟩ : ByteArray), .string (⟨#[]⟩ : ByteArray)]) ?_ 0 _ rfl; (with_reducible repeat (first | refine blk_drewN ?_ _ | refine blk_drew ?_ | refine blk_alloc ?_ _)); exact BK126.out) Try.underlying61 rfl (by kernel_rfl)) rfl ?_
            exact ⟨by first | rfl | (simp [errW_none, errW_some] <;> rfl) | (simp only [← hji4]; first | rfl | (simp [errW_none, errW_some] <;> rfl)) | (simp [*, errW_none, errW_some] <;> rfl), by repeat (first | (with_reducible first | exact HB.out | apply below_alloc | apply pw_below_drewN | apply below_drew1 | refine below_set ?_ GE126.out) | exact HB.out)⟩
          · rw [if_neg c8] at H
            exact absurd H (by simp)
        · rw [if_neg c7] at H
          exact absurd H (by simp)
      · rw [if_neg c6] at H
        exact absurd H (by simp)
    · rw [if_neg c5] at H
      exact absurd H (by simp)
  · rw [if_neg c3] at H
    have c3b0 : decide (0 ≤ t127) = false := decide_eq_false c3
    clear c3
    simp only [Option.some.injEq, Prod.mk.injEq] at H
    obtain ⟨rfl, rfl⟩ := H
    go_enter Try.func40, Try.ntmps40
    go_wp2_with (first | ((with_reducible refine gate_dst (N := 2) rfl ?_); refine box_event ?hg (N := 2) ?hd (cs := #[.string (⟨#[]⟩ : ByteArray), .string (⟨#[]⟩ : ByteArray)]) (t := 61) ?hr ?_; (case hd => rfl); (case hg => rfl); (case hr => first | (go_simp; done) | (go_simp; rfl)); intro gb126 hg w13 hbox hb; have n0_ := Aside0.mk (below_step (by repeat (first | (with_reducible first | exact HB.out | apply below_alloc | apply pw_below_drewN | apply below_drew1) | exact HB.out)) hb); have n1_ := Aside0.mk (hbox); have n2_ := Aside0.mk ((by rw [hg]; exact (below_size (by repeat (first | (with_reducible first | exact HB.out | apply below_alloc | apply pw_below_drewN | apply below_drew1) | exact HB.out))) : w.heap.size ≤ gb126)); have n3_ := Aside0.mk ((by rw [hg]; exact (below_size (by repeat (first | (with_reducible first | exact HB.out | apply below_alloc | apply pw_below_drewN | apply below_drew1) | exact HB.out))) : w.heap.size ≤ gb126)); clear HB; have HB := n0_; have BK126 := n1_; have GW126 := n2_; have GE126 := n3_; clear n0_ n1_ n2_ n3_; clear hb hbox hg) | ((with_reducible refine gate_callee (f := 55) rfl ?_); refine goesL_ (some 5) rfl rfl Try.func55 (by kernel_rfl) rfl #[.string a0, .string (⟨#[46]⟩ : ByteArray)] rfl (by (try simp only [List.map_toArray, List.map_cons, List.map_nil]); first | done | rfl | (simp only [List.length_drop, List.length_take]; rfl)) ?_; (with_reducible refine (schema_zzIndex.calls k a0 (⟨#[46]⟩ : ByteArray) t127 _ A2.out).mono ?_); rintro e w' ⟨rfl, ⟨nd, rfl⟩⟩; refine ⟨_, rfl, ?_⟩; (try (rw [drewN_self w13]; generalize hq_ : World.drewN w13 _ = w13; have n0_ : Aside0 (w13.heap[gb126]? = some (.cells #[.string (⟨#[]⟩ : ByteArray), .string (⟨#[]⟩ : ByteArray)] 61 (0, 0))) := ⟨by rw [← hq_]; exact (by (with_reducible repeat (first | refine blk_drewN ?_ _ | refine blk_drew ?_ | refine blk_alloc ?_ _)); exact BK126.out)⟩; have n1_ : Aside0 (Below w.heap.size w w13) := ⟨by rw [← hq_]; exact (by repeat (first | (with_reducible first | exact HB.out | apply below_alloc | apply pw_below_drewN | apply below_drew1 | refine below_set ?_ GE126.out) | exact HB.out))⟩; clear BK126 HB hq_; have BK126 := n0_; have HB := n1_; clear n0_ n1_)); have hcz14_0 : w13.cell? ⟨gb126, 0, none⟩ = some (.string (⟨#[]⟩ : ByteArray)) := (blk_cell BK126.out 0).trans rfl; have hcz14_1 : w13.cell? ⟨gb126, 1, none⟩ = some (.string (⟨#[]⟩ : ByteArray)) := (blk_cell BK126.out 1).trans rfl; have hfz14_0 := blk_frozen BK126.out 0; have hfz14_1 := blk_frozen BK126.out 1))
    refine bodyPost_ret (results_cell_row rfl _ _ gb126 61 #[.string (⟨#[]⟩ : ByteArray), .string a0] (0, 0) _ rfl (by (with_reducible repeat (first | refine blk_drewN ?_ _ | refine blk_drew ?_ | refine blk_alloc ?_ _)); refine blk_put (cs := #[.string (⟨#[]⟩ : ByteArray), .string (⟨#[]⟩ : ByteArray)]) ?_ 1 _ rfl; (with_reducible repeat (first | refine blk_drewN ?_ _ | refine blk_drew ?_ | refine blk_alloc ?_ _)); refine blk_put (cs := #[.string (⟨#[]⟩ : ByteArray), .string (⟨#[]⟩ : ByteArray)]) ?_ 0 _ rfl; (with_reducible repeat (first | refine blk_drewN ?_ _ | refine blk_drew ?_ | refine blk_alloc ?_ _)); exact BK126.out) Try.underlying61 rfl (by kernel_rfl)) rfl ?_
    exact ⟨by first | rfl | (simp [errW_none, errW_some] <;> rfl) | (simp [*, errW_none, errW_some] <;> rfl), by repeat (first | (with_reducible first | exact HB.out | apply below_alloc | apply pw_below_drewN | apply below_drew1 | refine below_set ?_ GE126.out) | exact HB.out)⟩

/-! ### schema_ParseResourceArg: function 51 -/
set_option maxHeartbeats 1000000 in
theorem pra_no (k : Nat) (s g n : ByteArray) (c : Int) (w : World) (hc : schema_zzCount.f k s (⟨#[46]⟩ : ByteArray) = some c) (hlt : ¬ c ≥ 2) (hp : schema_ParseGroupResource.f k s = some (g, n)) :
    Calls Try.prog 51 #[.string s] w fun e w' => e = .returned (.tuple #[.pointer none, .agg #[.string g, .string n]]) ∧ Below w.heap.size w w' := by
  have hu1 := Try.underlying61
  have HC := Aside0.mk hc
  have HP := Aside0.mk hp
  have e1 : decide (c ≥ 2) = false := decide_eq_false hlt
  clear hc hp
  go_enter Try.func51, Try.ntmps51
  go_wp2_with fail
  refine (schema_zzCount.calls _ _ _ _ _ HC.out).mono ?_
  rintro e w1 ⟨rfl, ⟨m, rfl⟩⟩
  go_wp2_with fail
  refine (schema_ParseGroupResource.calls _ _ _ _ _ HP.out).mono ?_
  rintro e w1 ⟨rfl, hb1⟩
  have B1 : Aside0 (Below w.heap.size w w1) := ⟨below_step (pw_below_drewN (below_alloc (Below.refl _ _) _) _) hb1⟩
  have hR : Aside0 (w1.heap[w.heap.size]? = some (.cells #[.string ⟨#[]⟩, .string ⟨#[]⟩] 61 (0, 0))) := ⟨blk_below (blk_drewN (blk_new w _) m) hb1⟩
  have hz1 : w.heap.size < w1.heap.size := by have := hb1.size; simp at this; omega
  have c0 : w1.cell? ⟨w.heap.size, 0, none⟩ = some (.string ⟨#[]⟩) := blk_cell hR.out 0
  have c1 : w1.cell? ⟨w.heap.size, 1, none⟩ = some (.string ⟨#[]⟩) := blk_cell hR.out 1
  have f0 : w1.frozen? ⟨w.heap.size, 0, none⟩ = false := blk_frozen hR.out 0
  have f1 : w1.frozen? ⟨w.heap.size, 1, none⟩ = false := blk_frozen hR.out 1
  clear hb1 hR HC HP
  go_wp2_with fail
  exact bodyPost_ret (v := .tuple #[.pointer none, .agg #[.string g, .string n]]) (by simp [results, Try.results51, go_sem, c0, c1, f0, f1, hz1]) rfl ⟨rfl, (by repeat (first | (with_reducible exact B1.out) | apply below_alloc | apply pw_below_drewN | apply below_drew1 | refine below_set ?_ (Nat.le_refl _)))⟩
set_option maxHeartbeats 1000000 in
theorem pra_yes (k : Nat) (s g n : ByteArray) (c : Int) (l : List ByteArray) (w : World) (hc : schema_zzCount.f k s (⟨#[46]⟩ : ByteArray) = some c) (hlt : c ≥ 2) (hl : schema_zzSplitThree.f k s = some l) (h3 : 3 ≤ l.length) (hp : schema_ParseGroupResource.f k s = some (g, n)) :
    Calls Try.prog 51 #[.string s] w fun e w' => ∃ b, e = .returned (.tuple #[.pointer (some ⟨b, 0, none⟩), .agg #[.string g, .string n]]) ∧ w.heap.size ≤ b ∧ b < w'.heap.size ∧ w'.heap[b]? = some (.cells #[.string (rdOf ByteArray.empty l 2), .string (rdOf ByteArray.empty l 1), .string (rdOf ByteArray.empty l 0)] 80 (0, 0)) ∧ Below w.heap.size w w' := by
  have hu1 := Try.underlying61
  have hu2 := Try.underlying80
  have HC := Aside0.mk hc
  have HP := Aside0.mk hp
  have HL := Aside0.mk hl
  have e1 : decide (c ≥ 2) = true := decide_eq_true hlt
  clear hc hp hl
  go_enter Try.func51, Try.ntmps51
  go_wp2_with fail
  refine (schema_zzCount.calls _ _ _ _ _ HC.out).mono ?_
  rintro e w1 ⟨rfl, ⟨m, rfl⟩⟩
  go_wp2_with fail
  refine (schema_zzSplitThree.calls _ _ _ _ HL.out).mono ?_
  rintro e w1 ⟨v, rfl, hr, hb⟩
  have B1 : Aside0 (Below w.heap.size w w1) := ⟨below_step (pw_below_drewN (below_alloc (Below.refl _ _) _) _) hb⟩
  have hR : Aside0 (w1.heap[w.heap.size]? = some (.cells #[.string ⟨#[]⟩, .string ⟨#[]⟩] 61 (0, 0))) := ⟨blk_below (blk_drewN (blk_new w _) m) hb⟩
  have hz1 : w.heap.size < w1.heap.size := by have := hb.size; simp at this; omega
  obtain ⟨g1, cap, rfl, hg0, hg1, cells, hg2⟩ := Kd.R_form hr (by omega)
  have hg3 : w.heap.size < g1 := by simp at hg0; omega
  have c0 : w1.cell? ⟨g1, 0, none⟩ = some (.string (rdOf ByteArray.empty l 0)) := (Kd.R_cell (ByteArray.empty) hr 0 (by omega) (by omega)).1
  have c1 : w1.cell? ⟨g1, 1, none⟩ = some (.string (rdOf ByteArray.empty l 1)) := (Kd.R_cell (ByteArray.empty) hr 1 (by omega) (by omega)).1
  have c2 : w1.cell? ⟨g1, 2, none⟩ = some (.string (rdOf ByteArray.empty l 2)) := (Kd.R_cell (ByteArray.empty) hr 2 (by omega) (by omega)).1
  have i0 : (0 : Int) < (l.length : Int) := by omega
  have i1 : (1 : Int) < (l.length : Int) := by omega
  have i2 : (2 : Int) < (l.length : Int) := by omega
  have j0 : (0 : Nat) < l.length := by omega
  have j1 : (1 : Nat) < l.length := by omega
  have j2 : (2 : Nat) < l.length := by omega
  clear hr hb HC HL hg2 hg0
  go_wp2_with fail
  go_region
  all_goals go_wp2_with fail
  all_goals refine (schema_ParseGroupResource.calls _ _ _ _ _ HP.out).mono ?_
  all_goals rintro e w2 ⟨rfl, hb2⟩
  all_goals have B2 : Aside0 (Below w.heap.size w w2) := ⟨below_step (below_drew1 (below_alloc B1.out _)) hb2⟩
  all_goals have hT : Aside0 (w2.heap[w.heap.size]? = some (.cells #[.string ⟨#[]⟩, .string ⟨#[]⟩] 61 (0, 0))) := ⟨blk_below (blk_drew (blk_alloc hR.out _)) hb2⟩
  all_goals have hN : Aside0 (w2.heap[w1.heap.size]? = some (.cells #[.string (rdOf ByteArray.empty l 2), .string (rdOf ByteArray.empty l 1), .string (rdOf ByteArray.empty l 0)] 80 (0, 0))) := ⟨blk_below (blk_drew (blk_new w1 _)) hb2⟩
  all_goals have hz2 : w1.heap.size < w2.heap.size := by have := hb2.size; simp at this; omega
  all_goals have hz3 : w.heap.size < w2.heap.size := by omega
  all_goals have d0 : w2.cell? ⟨w.heap.size, 0, none⟩ = some (.string ⟨#[]⟩) := blk_cell hT.out 0
  all_goals have d1 : w2.cell? ⟨w.heap.size, 1, none⟩ = some (.string ⟨#[]⟩) := blk_cell hT.out 1
  all_goals have f0 : w2.frozen? ⟨w.heap.size, 0, none⟩ = false := blk_frozen hT.out 0
  all_goals have f1 : w2.frozen? ⟨w.heap.size, 1, none⟩ = false := blk_frozen hT.out 1
  all_goals clear hb2 hR c0 c1 c2 hT
  all_goals go_wp2_with fail
  all_goals exact bodyPost_ret (v := .tuple #[.pointer (some ⟨w1.heap.size, 0, none⟩), .agg #[.string g, .string n]]) (by simp [results, Try.results51, go_sem, d0, d1, f0, f1, hz2, hz3]) rfl ⟨w1.heap.size, rfl, by omega, by simp; omega, blk_far (blk_far hN.out (by simp; omega) _) (by simp; omega) _, (by repeat (first | (with_reducible exact B2.out) | apply below_alloc | apply pw_below_drewN | apply below_drew1 | refine below_set ?_ (Nat.le_refl _)))⟩
end Go.Proofs.Ytpaihcikeieliaa.PFnArg
