/- A number or a text: the law. -/
import Derived.Test.YtihlmkgffifknaaDoorIstrU
import Derived.Test.YtihlmkgffifknaaDoorIstrN
import Derived.Lib.QuietBelow
set_option linter.unusedVariables false
set_option linter.unusedSimpArgs false
namespace Go.Proofs.YtihlmkgffifknaaDoor.Istr
open Go Go.Sort Go.RowKit Go.Proofs.YtihlmkgffifknaaDoorW.PrintWords Go.Proofs.YtihlmkgffifknaaDoor.PFnIntStrText Go.Proofs.YtihlmkgffifknaaDoor.Txt

theorem dig_len : ∀ (k u : Nat), u < 10 ^ (k + 1) → (Lib.decDigits u).length ≤ k + 1 := by
  intro k u h
  rw [Lib.decDigits_length]
  induction k generalizing u with
  | zero => rw [Lib.nDigits_small (by omega)]; omega
  | succ k ih =>
    by_cases hu : u < 10
    · rw [Lib.nDigits_small hu]; omega
    · rw [Lib.nDigits_big hu]
      have := ih (u / 10) (by rw [Nat.pow_succ] at h; omega)
      omega
theorem digits_calls (n : Int) (h0 : -2147483648 ≤ n) (h1 : n ≤ 2147483647) (w : World) : Calls Tryd.prog 11 #[.int .i64 n] w fun e w' => e = .returned (.string ⟨(Lib.itoa n).toArray⟩) ∧ Below w.heap.size w w' := by
  obtain ⟨K, hK⟩ := digits_f n h0 h1
  exact (spec_NumDigits.calls K n _ w (hK K (Nat.le_refl _))).mono fun e w' h => h
theorem whole_calls (s : ByteArray) (hs : s.size ≤ 2147483647) : ∃ (v : Int) (ok : Bool), (ok = false → ∀ u, Lib.parseIntB 32 s.data.toList ≠ .ok u) ∧ ∀ w, Calls Tryd.prog 13 #[.string s, .int .i64 (-2147483648), .int .i64 2147483647] w fun e w' => e = .returned (.tuple #[.int .i64 v, .bool ok]) ∧ Below w.heap.size w w' := by
  obtain ⟨v, ok, ⟨K, hK⟩, h2⟩ := whole_f s hs
  refine ⟨v, ok, h2, fun w => (spec_NumWhole.calls K s _ _ v ok w (hK K (Nat.le_refl _))).mono fun e w' h => ?_⟩
  obtain ⟨rfl, nd, rfl⟩ := h
  exact ⟨rfl, pw_below_drewN (Below.refl _ _) nd⟩
set_option maxRecDepth 100000 in
set_option maxHeartbeats 2000000 in
theorem law_in (n : Int) (h0 : -2147483648 ≤ n) (h1 : n ≤ 2147483647) (s : ByteArray) (hs : s.size ≤ 2147483647) (w : World) (htab : Lib.TabIs Tryd.prog w "internal/strconv.uint64pow10" .u64 Lib.pow10Tab) (he : Errs w) :
    Calls Tryd.prog 4 #[.int .i32 n, .string s] w fun e w' => e = .returned (.bool true) ∧ Below w.heap.size w w' := by
  have mixed : Tryd.prog.follows .mixedOrders = true := by kernel_rfl
  have hu2 := Tryd.underlying24
  have HT := Aside0.mk (Lib.tabBelow_of_tabIs htab)
  have HE := Aside0.mk he
  obtain ⟨v, ok, hno, hw⟩ := whole_calls s hs
  have HF := Aside0.mk (fun w => from_calls n w)
  have HA := Aside0.mk (fun w h => text_num n h0 h1 ⟨#[]⟩ w h)
  have HS := Aside0.mk (fun w => text_txt 0 s w)
  have HD := Aside0.mk (fun w => digits_calls n h0 h1 w)
  have hz : (⟨(Lib.itoa n).toArray⟩ : ByteArray).size ≤ 2147483647 := by
    rw [size_len, data_mk]
    unfold Lib.itoa
    have k3 := dig_len 9 n.natAbs (by omega)
    have k4 := dig_len 9 n.toNat (by omega)
    split
    · rw [List.length_cons]; omega
    · omega
  have HP := Aside0.mk (fun w => parse_impl (⟨(Lib.itoa n).toArray⟩ : ByteArray) ⟨#[]⟩ 0 n ⟨by omega, by omega⟩ w (fun w' _ => parse_ok (⟨(Lib.itoa n).toArray⟩ : ByteArray) hz n h0 h1 (NumL.int_itoa n h0 h1) w'))
  have HW := Aside0.mk hw
  have q0 : (2147483647 < (s.size : Int)) = False := eq_false (by omega)
  have q0' : (2147483647 < s.size) = False := eq_false (by omega)
  have e1 : wrap64 n = n := IntWalk.wrap64_in _ ⟨by omega, by omega⟩
  have e2 : IntKind.i64.wrap n = n := (IntWalk.i64_left _).trans e1
  have HB := Aside0.mk (Below.refl w.heap.size w)
  cases ok with
  | true =>
    clear htab he hw h0 h1 hs hz hno
    go_enter Tryd.func4, Tryd.ntmps4
    go_wp2_with (go_at_call 9; (with_reducible refine (HF.out _).mono ?_); rintro e w1 ⟨rfl, hb⟩; have B1 := Aside0.mk (below_step (by repeat (first | (with_reducible exact HB.out) | apply below_alloc)) hb : Below w.heap.size w w1); clear hb)
    obtain ⟨W, hW⟩ : ∃ W, W = (w1.alloc (.cells #[.int .i64 0, .int .i32 n, .string ⟨#[]⟩] 24)).alloc (.cells #[.int .i64 1, .int .i32 0, .string s] 24) := ⟨_, rfl⟩
    have HWb : Aside0 (Below w.heap.size w W) := ⟨by rw [hW]; exact below_alloc (below_alloc B1.out _) _⟩
    have RA : W.heap[w1.heap.size]? = some (.cells #[.int .i64 0, .int .i32 n, .string ⟨#[]⟩] 24) := by rw [hW]; exact blk_alloc (blk_new w1 _) _
    have RB : W.heap[w1.heap.size + 1]? = some (.cells #[.int .i64 1, .int .i32 0, .string s] 24) := by rw [hW]; simpa using blk_new (w1.alloc (.cells #[.int .i64 0, .int .i32 n, .string ⟨#[]⟩] 24)) (.cells #[.int .i64 1, .int .i32 0, .string s] 24)
    have a0 : ∀ d os, (grow (redrawn W d) os).cell? ⟨w1.heap.size, 0, none⟩ = some (.int .i64 0) := fun d os => cell_regrown (blk_cell RA 0) d os
    have a1 : ∀ d os, (grow (redrawn W d) os).cell? ⟨w1.heap.size, 1, none⟩ = some (.int .i32 n) := fun d os => cell_regrown (blk_cell RA 1) d os
    have a2 : ∀ d os, (grow (redrawn W d) os).cell? ⟨w1.heap.size, 2, none⟩ = some (.string ⟨#[]⟩) := fun d os => cell_regrown (blk_cell RA 2) d os
    have b0 : ∀ d os, (grow (redrawn W d) os).cell? ⟨w1.heap.size + 1, 0, none⟩ = some (.int .i64 1) := fun d os => cell_regrown (blk_cell RB 0) d os
    have b1 : ∀ d os, (grow (redrawn W d) os).cell? ⟨w1.heap.size + 1, 1, none⟩ = some (.int .i32 0) := fun d os => cell_regrown (blk_cell RB 1) d os
    have b2 : ∀ d os, (grow (redrawn W d) os).cell? ⟨w1.heap.size + 1, 2, none⟩ = some (.string s) := fun d os => cell_regrown (blk_cell RB 2) d os
    rw [← hW]
    clear hW RA RB
    refine wp_region_quiet_below (by assumption) (by kernel_rfl) ?_
    repeat (quiet_step (first | (go_at_call 10; exact Calls.regrown_of (HA.out _ (HT.out _ (below_step HWb.out (below_regrown _ _ _))))) | (go_at_call 10; exact Calls.regrown_of (HS.out _)) | (go_at_call 11; exact Calls.regrown_of (HD.out _)) | (go_at_call 12; exact Calls.regrown_of (HP.out _))))
    refine wpQuiet_nil ?_
    intro _ hw'
    obtain ⟨⟨dq, osq⟩, hw''⟩ := hw'
    subst hw''
    go_wp2_with (go_at_call 13; (with_reducible refine (HW.out _).mono ?_); rintro e w2 ⟨rfl, hb⟩; have B2 := Aside0.mk (below_step (HWb.out.trans ((below_regrown W dq osq).mono HWb.out.size)) hb); have BW := Aside0.mk (below_step (below_regrown W dq osq) hb); clear hb)
    refine wp_region_quiet_below (by assumption) (by kernel_rfl) ?_
    repeat (quiet_step (fail))
    refine wpQuiet_nil ?_
    intro _ hw'
    obtain ⟨⟨dq2, osq2⟩, hw''⟩ := hw'
    subst hw''
    go_wp2
    go_ret
    exact ⟨by first | rfl | (simp; done), below_step B2.out (below_regrown w2 dq2 osq2)⟩
  | false =>
    have HQ := Aside0.mk (fun w' (hb : Below w.heap.size w w') => parse_impl s s 1 0 ⟨by omega, by omega⟩ w' (fun w'' hb2 => parse_bad s hs (hno rfl) w'' (HE.out.below (below_step hb hb2))))
    clear htab he hw h0 h1 hs hz hno
    go_enter Tryd.func4, Tryd.ntmps4
    go_wp2_with (go_at_call 9; (with_reducible refine (HF.out _).mono ?_); rintro e w1 ⟨rfl, hb⟩; have B1 := Aside0.mk (below_step (by repeat (first | (with_reducible exact HB.out) | apply below_alloc)) hb : Below w.heap.size w w1); clear hb)
    obtain ⟨W, hW⟩ : ∃ W, W = (w1.alloc (.cells #[.int .i64 0, .int .i32 n, .string ⟨#[]⟩] 24)).alloc (.cells #[.int .i64 1, .int .i32 0, .string s] 24) := ⟨_, rfl⟩
    have HWb : Aside0 (Below w.heap.size w W) := ⟨by rw [hW]; exact below_alloc (below_alloc B1.out _) _⟩
    have RA : W.heap[w1.heap.size]? = some (.cells #[.int .i64 0, .int .i32 n, .string ⟨#[]⟩] 24) := by rw [hW]; exact blk_alloc (blk_new w1 _) _
    have RB : W.heap[w1.heap.size + 1]? = some (.cells #[.int .i64 1, .int .i32 0, .string s] 24) := by rw [hW]; simpa using blk_new (w1.alloc (.cells #[.int .i64 0, .int .i32 n, .string ⟨#[]⟩] 24)) (.cells #[.int .i64 1, .int .i32 0, .string s] 24)
    have a0 : ∀ d os, (grow (redrawn W d) os).cell? ⟨w1.heap.size, 0, none⟩ = some (.int .i64 0) := fun d os => cell_regrown (blk_cell RA 0) d os
    have a1 : ∀ d os, (grow (redrawn W d) os).cell? ⟨w1.heap.size, 1, none⟩ = some (.int .i32 n) := fun d os => cell_regrown (blk_cell RA 1) d os
    have a2 : ∀ d os, (grow (redrawn W d) os).cell? ⟨w1.heap.size, 2, none⟩ = some (.string ⟨#[]⟩) := fun d os => cell_regrown (blk_cell RA 2) d os
    have b0 : ∀ d os, (grow (redrawn W d) os).cell? ⟨w1.heap.size + 1, 0, none⟩ = some (.int .i64 1) := fun d os => cell_regrown (blk_cell RB 0) d os
    have b1 : ∀ d os, (grow (redrawn W d) os).cell? ⟨w1.heap.size + 1, 1, none⟩ = some (.int .i32 0) := fun d os => cell_regrown (blk_cell RB 1) d os
    have b2 : ∀ d os, (grow (redrawn W d) os).cell? ⟨w1.heap.size + 1, 2, none⟩ = some (.string s) := fun d os => cell_regrown (blk_cell RB 2) d os
    rw [← hW]
    have RB1 := Aside0.mk RB
    clear hW RA RB
    refine wp_region_quiet_below (by assumption) (by kernel_rfl) ?_
    repeat (quiet_step (first | (go_at_call 10; exact Calls.regrown_of (HA.out _ (HT.out _ (below_step HWb.out (below_regrown _ _ _))))) | (go_at_call 10; exact Calls.regrown_of (HS.out _)) | (go_at_call 11; exact Calls.regrown_of (HD.out _)) | (go_at_call 12; exact Calls.regrown_of (HP.out _))))
    refine wpQuiet_nil ?_
    intro _ hw'
    obtain ⟨⟨dq, osq⟩, hw''⟩ := hw'
    subst hw''
    go_wp2_with (go_at_call 13; (with_reducible refine (HW.out _).mono ?_); rintro e w2 ⟨rfl, hb⟩; have B2 := Aside0.mk (below_step (HWb.out.trans ((below_regrown W dq osq).mono HWb.out.size)) hb); have BW := Aside0.mk (below_step (below_regrown W dq osq) hb); clear hb)
    have RB2 := Aside0.mk (blk_below RB1.out BW.out)
    have b0' : ∀ d os, (grow (redrawn w2 d) os).cell? ⟨w1.heap.size + 1, 0, none⟩ = some (.int .i64 1) := fun d os => cell_regrown (blk_cell RB2.out 0) d os
    have b1' : ∀ d os, (grow (redrawn w2 d) os).cell? ⟨w1.heap.size + 1, 1, none⟩ = some (.int .i32 0) := fun d os => cell_regrown (blk_cell RB2.out 1) d os
    have b2' : ∀ d os, (grow (redrawn w2 d) os).cell? ⟨w1.heap.size + 1, 2, none⟩ = some (.string s) := fun d os => cell_regrown (blk_cell RB2.out 2) d os
    refine wp_region_quiet_below (by assumption) (by kernel_rfl) ?_
    repeat (quiet_step (first | (go_at_call 10; exact Calls.regrown_of (HS.out _)) | (go_at_call 12; exact Calls.regrown_of (HQ.out _ (B2.out.trans ((below_regrown w2 _ _).mono B2.out.size))))))
    refine wpQuiet_nil ?_
    intro _ hw'
    obtain ⟨⟨dq2, osq2⟩, hw''⟩ := hw'
    subst hw''
    go_wp2
    go_ret
    exact ⟨by first | rfl | (simp; done), below_step B2.out (below_regrown w2 dq2 osq2)⟩
end Go.Proofs.YtihlmkgffifknaaDoor.Istr
