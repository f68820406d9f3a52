/- The reader of the fields: the law. -/
import Derived.Test.YtihlmkgffifknaaDoorReadV
set_option linter.unusedVariables false
set_option linter.unusedSimpArgs false
namespace Go.Proofs.YtihlmkgffifknaaDoor.Read
open Go Go.Sort Go.RowKit Go.Proofs.YtihlmkgffifknaaDoorW.PrintWords

set_option maxRecDepth 100000 in
set_option maxHeartbeats 4000000 in
theorem law_calls (Ao : Option Addr) (b cap : Nat) (zs : List Int) (w : World) (hz : Here w Ao b zs) (hr : Bys zs) (hmax : zs.length ≤ 2147483647) (hcap : zs.length ≤ cap) (hge : GErr w) :
    Calls Tryd.prog 3 #[.slice Ao zs.length cap] w fun e w' => e = .returned (.bool true) ∧ Below w.heap.size w w' := by
  have mixed : Tryd.prog.follows .mixedOrders = true := by kernel_rfl
  have hu2 := Tryd.underlying24
  have HS := Aside0.mk (spec_calls Ao b cap zs w hz hr hmax hcap)
  have HI : Aside0 (∀ w', Below w.heap.size w w' → all (zs.length + 1) zs x0 ≠ .left → Calls Tryd.prog 8 #[.slice Ao zs.length cap] w' fun e w'' => e = .returned (impOut (all (zs.length + 1) zs x0)) ∧ Below w'.heap.size w' w'') := by
    refine ⟨fun w' hb hl => ?_⟩
    by_cases h0 : 0 < zs.length
    · obtain ⟨A, rfl, hA⟩ := hz h0
      exact impl_some b A cap zs w' h0 (hA.below hb) hr hmax (hge.below hb) hl
    · have hn : zs = [] := List.eq_nil_of_length_eq_zero (by omega)
      subst hn
      exact impl_none Ao cap w' (hge.below hb) (by cases Ao; exact .inl rfl; exact .inr ⟨_, rfl⟩)
  have q0 : (2147483647 < (zs.length : Int)) = False := eq_false (by omega)
  have q0' : (2147483647 < zs.length) = False := eq_false (by omega)
  clear hz hr hge hmax hcap
  rcases ha : all (zs.length + 1) zs x0 with _ | _ | y
  · have HS2 : Aside0 (Calls Tryd.prog 7 #[.slice Ao zs.length cap] w fun e w' => e = .returned (.tuple #[.agg #[.int .i64 0, .int .i32 0, .string ⟨#[]⟩], .bool false, .bool false]) ∧ Below w.heap.size w w') := ⟨by have := HS.out; rw [ha] at this; exact this⟩
    clear HS HI ha
    go_enter Tryd.func3, Tryd.ntmps3
    go_wp2_with (go_at_call 7; (with_reducible refine (HS2.out).mono ?_); rintro e w1 ⟨rfl, hb⟩; have B1 := Aside0.mk hb; clear hb)
    go_ret
    exact ⟨rfl, by repeat (first | (with_reducible exact B1.out) | apply below_alloc | apply below_set | apply pw_below_drewN | apply below_drew1 | exact Nat.le_refl _)⟩
  · have HS2 : Aside0 (Calls Tryd.prog 7 #[.slice Ao zs.length cap] w fun e w' => e = .returned (.tuple #[.agg #[.int .i64 0, .int .i32 0, .string ⟨#[]⟩], .bool false, .bool true]) ∧ Below w.heap.size w w') := ⟨by have := HS.out; rw [ha] at this; exact this⟩
    have HI2 : Aside0 (∀ w', Below w.heap.size w w' → Calls Tryd.prog 8 #[.slice Ao zs.length cap] w' fun e w'' => e = .returned (.tuple #[.agg #[.int .i64 0, .int .i32 0, .string ⟨#[]⟩], .bool false]) ∧ Below w'.heap.size w' w'') := ⟨fun w' hb => by have := HI.out w' hb (by rw [ha]; intro h; cases h); rw [ha] at this; exact this⟩
    clear HS HI ha
    go_enter Tryd.func3, Tryd.ntmps3
    go_wp2_with (first | (go_at_call 7; (with_reducible refine (HS2.out).mono ?_); rintro e w1 ⟨rfl, hb⟩; have B1 := Aside0.mk hb; clear hb) | (go_at_call 8; (with_reducible refine (HI2.out _ (by repeat (first | exact B1.out | apply below_alloc | apply below_set | apply pw_below_drewN | apply below_drew1 | exact Nat.le_refl _))).mono ?_); rintro e w2 ⟨rfl, hb⟩; have B2 := Aside0.mk (below_step (by repeat (first | exact B1.out | apply below_alloc | apply below_set | apply pw_below_drewN | apply below_drew1 | exact Nat.le_refl _)) hb : Below w.heap.size w w2); clear hb))
    go_ret
    exact ⟨rfl, by repeat (first | (with_reducible exact B2.out) | apply below_alloc | apply below_set | apply pw_below_drewN | apply below_drew1 | exact Nat.le_refl _)⟩
  · have HS2 : Aside0 (Calls Tryd.prog 7 #[.slice Ao zs.length cap] w fun e w' => e = .returned (.tuple #[.agg #[.int .i64 y.1, .int .i32 y.2.1, .string y.2.2], .bool true, .bool true]) ∧ Below w.heap.size w w') := ⟨by have := HS.out; rw [ha] at this; exact this⟩
    have HI2 : Aside0 (∀ w', Below w.heap.size w w' → Calls Tryd.prog 8 #[.slice Ao zs.length cap] w' fun e w'' => e = .returned (.tuple #[.agg #[.int .i64 y.1, .int .i32 y.2.1, .string y.2.2], .bool true]) ∧ Below w'.heap.size w' w'') := ⟨fun w' hb => by have := HI.out w' hb (by rw [ha]; intro h; cases h); rw [ha] at this; exact this⟩
    clear HS HI ha
    go_enter Tryd.func3, Tryd.ntmps3
    go_wp2_with (first | (go_at_call 7; (with_reducible refine (HS2.out).mono ?_); rintro e w1 ⟨rfl, hb⟩; have B1 := Aside0.mk hb; clear hb) | (go_at_call 8; (with_reducible refine (HI2.out _ (by repeat (first | exact B1.out | apply below_alloc | apply below_set | apply pw_below_drewN | apply below_drew1 | exact Nat.le_refl _))).mono ?_); rintro e w2 ⟨rfl, hb⟩; have B2 := Aside0.mk (below_step (by repeat (first | exact B1.out | apply below_alloc | apply below_set | apply pw_below_drewN | apply below_drew1 | exact Nat.le_refl _)) hb : Below w.heap.size w w2); have R2 : w2.heap[w1.heap.size]? = some (cellsX y) := blk_below (blk_new w1 (cellsX y)) hb; have c0 : w2.cell? ⟨w1.heap.size, 0, none⟩ = some (.int .i64 y.1) := blk_cell R2 0; have c1 : w2.cell? ⟨w1.heap.size, 1, none⟩ = some (.int .i32 y.2.1) := blk_cell R2 1; have c2 : w2.cell? ⟨w1.heap.size, 2, none⟩ = some (.string y.2.2) := blk_cell R2 2; have hs2 : w1.heap.size < w2.heap.size := blk_lt R2; clear R2; clear hb))
    go_ret
    exact ⟨by first | rfl | (simp; done), by repeat (first | (with_reducible exact B2.out) | apply below_alloc | apply below_set | apply pw_below_drewN | apply below_drew1 | exact Nat.le_refl _)⟩
end Go.Proofs.YtihlmkgffifknaaDoor.Read
