/- A number or a text: written and read. -/
import Derived.Test.YtihlmkgffifknaaDoorIstrW
set_option linter.unusedVariables false
set_option linter.unusedSimpArgs false
namespace Go.Proofs.YtihlmkgffifknaaDoor.Istr
open Go Go.Sort Go.RowKit Go.Proofs.YtihlmkgffifknaaDoorW.PrintWords

set_option maxRecDepth 100000 in
theorem parse_ok (s : ByteArray) (hmax : s.size ≤ 2147483647) (n : Int) (h0 : -2147483648 ≤ n) (h1 : n ≤ 2147483647) (h : Lib.parseIntB 32 s.data.toList = .ok n) (w : World) :
    Calls Tryd.prog 27 #[.string s] w fun e w' => e = .returned (.agg #[.int .i64 0, .int .i32 n, .string ⟨#[]⟩]) ∧ Below w.heap.size w w' := by
  have mixed : Tryd.prog.follows .mixedOrders = true := by kernel_rfl
  have hu1 := Tryd.underlying51
  have H := Aside0.mk (fun w => readB s hmax n h w)
  have H2 := Aside0.mk (fun w => from32 n w)
  have e1 : wrap32 n = n := IntWalk.wrap32_in n ⟨h0, h1⟩
  have e2 : IntKind.i32.wrap n = n := (IntWalk.i32_left n).trans e1
  clear h h0 h1 hmax
  go_enter Tryd.func27, Tryd.ntmps27
  go_wp2_with (first
    | (go_at_call 33; (with_reducible refine (H.out _).mono ?_); rintro e w1 ⟨rfl, hb⟩; have hz1 : w.heap.size < w1.heap.size := (by have := hb.size; simp at this; omega); have B1 := Aside0.mk (below_step (below_alloc (Below.refl w.heap.size w) _) hb); have R1 := Aside0.mk (blk_below (blk_new w _) hb); clear hb H)
    | (go_at_call 24; (with_reducible refine (H2.out _).mono ?_); rintro e w2 ⟨rfl, hb⟩; have hz2 : w.heap.size < w2.heap.size := (by have := hb.size; omega); have B2 := Aside0.mk (below_step B1.out hb); have R2 := Aside0.mk (blk_below R1.out hb); have c0 : w2.cell? ⟨w.heap.size, 0, none⟩ = some (.int .i64 0) := blk_cell R2.out 0; have c1 : w2.cell? ⟨w.heap.size, 1, none⟩ = some (.int .i32 0) := blk_cell R2.out 1; have c2 : w2.cell? ⟨w.heap.size, 2, none⟩ = some (.string ⟨#[]⟩) := blk_cell R2.out 2; have f0 : w2.frozen? ⟨w.heap.size, 0, none⟩ = false := blk_frozen R2.out 0; have f1 : w2.frozen? ⟨w.heap.size, 1, none⟩ = false := blk_frozen R2.out 1; have f2 : w2.frozen? ⟨w.heap.size, 2, none⟩ = false := blk_frozen R2.out 2; clear hb H2))
  exact bodyPost_ret (v := .agg #[.int .i64 0, .int .i32 n, .string ⟨#[]⟩]) (by simp [results, Tryd.results27, go_sem, c0, c1, c2, f0, f1, f2, hz1, hz2]) rfl ⟨rfl, (by repeat (first | (with_reducible exact B2.out) | apply below_alloc | apply pw_below_drewN | apply below_drew1 | refine below_set ?_ (Nat.le_refl _)))⟩

/-- What both variables of errors hold, as it must be of errors. -/
def Errs (w : World) : Prop := ∃ e5 e6 : Value, w.cell? ⟨5, 0, none⟩ = some e5 ∧ (e5 = .nilIface ∨ ∃ te pe, e5 = .iface te pe) ∧ w.cell? ⟨6, 0, none⟩ = some e6 ∧ (e6 = .nilIface ∨ ∃ te pe, e6 = .iface te pe)
theorem Errs.below {w w' : World} (h : Errs w) (hb : Below w.heap.size w w') : Errs w' := by
  obtain ⟨e5, e6, h5, k5, h6, k6⟩ := h
  exact ⟨e5, e6, (hb.cell (World.block_lt_of_cell? w _ h5)).trans h5, k5, (hb.cell (World.block_lt_of_cell? w _ h6)).trans h6, k6⟩
set_option maxRecDepth 100000 in
theorem parse_bad (s : ByteArray) (hmax : s.size ≤ 2147483647) (h : ∀ v, Lib.parseIntB 32 s.data.toList ≠ .ok v) (w : World) (he : Errs w) :
    Calls Tryd.prog 27 #[.string s] w fun e w' => e = .returned (.agg #[.int .i64 1, .int .i32 0, .string s]) ∧ Below w.heap.size w w' := by
  have mixed : Tryd.prog.follows .mixedOrders = true := by kernel_rfl
  have hu1 := Tryd.underlying51
  obtain ⟨e5, e6, h5, k5, h6, k6⟩ := he.below (below_alloc (Below.refl w.heap.size w) (.cells #[.int .i64 0, .int .i32 0, .string ⟨#[]⟩] 51))
  have H := Aside0.mk (readBad s hmax h (w.alloc (.cells #[.int .i64 0, .int .i32 0, .string ⟨#[]⟩] 51)) e5 e6 h5 k5 h6 k6)
  have H2 := Aside0.mk (fun w => fromText s w)
  clear h hmax he h5 h6 k5 k6
  go_enter Tryd.func27, Tryd.ntmps27
  go_wp2_with (first
    | (go_at_call 33; (with_reducible refine (H.out).mono ?_); rintro e w1 ⟨v, N, rfl, hb⟩; have hz1 : w.heap.size < w1.heap.size := (by have := hb.size; simp at this; omega); have B1 := Aside0.mk (below_step (below_alloc (Below.refl w.heap.size w) _) hb); have R1 := Aside0.mk (blk_below (blk_new w _) hb); clear hb H)
    | (go_at_call 34; (with_reducible refine (H2.out _).mono ?_); rintro e w2 ⟨rfl, hb⟩; have hz2 : w.heap.size < w2.heap.size := (by have := hb.size; omega); have B2 := Aside0.mk (below_step B1.out hb); have R2 := Aside0.mk (blk_below R1.out hb); have c0 : w2.cell? ⟨w.heap.size, 0, none⟩ = some (.int .i64 0) := blk_cell R2.out 0; have c1 : w2.cell? ⟨w.heap.size, 1, none⟩ = some (.int .i32 0) := blk_cell R2.out 1; have c2 : w2.cell? ⟨w.heap.size, 2, none⟩ = some (.string ⟨#[]⟩) := blk_cell R2.out 2; have f0 : w2.frozen? ⟨w.heap.size, 0, none⟩ = false := blk_frozen R2.out 0; have f1 : w2.frozen? ⟨w.heap.size, 1, none⟩ = false := blk_frozen R2.out 1; have f2 : w2.frozen? ⟨w.heap.size, 2, none⟩ = false := blk_frozen R2.out 2; clear hb H2))
  exact bodyPost_ret (v := .agg #[.int .i64 1, .int .i32 0, .string s]) (by simp [results, Tryd.results27, go_sem, c0, c1, c2, f0, f1, f2, hz1, hz2]) rfl ⟨rfl, (by repeat (first | (with_reducible exact B2.out) | apply below_alloc | apply pw_below_drewN | apply below_drew1 | refine below_set ?_ (Nat.le_refl _)))⟩
set_option maxRecDepth 100000 in
/-- impl.IntStrParse copies what Parse tells. -/
theorem parse_impl (s t : ByteArray) (ty n : Int) (hty : -9223372036854775808 ≤ ty ∧ ty ≤ 9223372036854775807) (w : World) (h : ∀ w', Below w.heap.size w w' → Calls Tryd.prog 27 #[.string s] w' fun e w'' => e = .returned (.agg #[.int .i64 ty, .int .i32 n, .string t]) ∧ Below w'.heap.size w' w'') :
    Calls Tryd.prog 12 #[.string s] w fun e w' => e = .returned (.agg #[.int .i64 ty, .int .i32 n, .string t]) ∧ Below w.heap.size w w' := by
  have mixed : Tryd.prog.follows .mixedOrders = true := by kernel_rfl
  have hu1 := Tryd.underlying51
  have hu2 := Tryd.underlying24
  have e1 : wrap64 ty = ty := IntWalk.wrap64_in _ hty
  have e2 : IntKind.i64.wrap ty = ty := (IntWalk.i64_left _).trans e1
  have H := Aside0.mk (h (w.alloc (.cells #[.int .i64 0, .int .i32 0, .string ⟨#[]⟩] 24)) (below_alloc (Below.refl w.heap.size w) _))
  clear h hty
  go_enter Tryd.func12, Tryd.ntmps12
  go_wp2_with (go_at_call 27; (with_reducible refine (H.out).mono ?_); rintro e w2 ⟨rfl, hb⟩; have hz1 : w.heap.size < w2.heap.size := (by have := hb.size; simp at this; omega); have B2 := Aside0.mk (below_step (below_alloc (Below.refl w.heap.size w) _) hb); have R2 := Aside0.mk (blk_below (blk_new w _) hb); have c0 : w2.cell? ⟨w.heap.size, 0, none⟩ = some (.int .i64 0) := blk_cell R2.out 0; have c1 : w2.cell? ⟨w.heap.size, 1, none⟩ = some (.int .i32 0) := blk_cell R2.out 1; have c2 : w2.cell? ⟨w.heap.size, 2, none⟩ = some (.string ⟨#[]⟩) := blk_cell R2.out 2; have f0 : w2.frozen? ⟨w.heap.size, 0, none⟩ = false := blk_frozen R2.out 0; have f1 : w2.frozen? ⟨w.heap.size, 1, none⟩ = false := blk_frozen R2.out 1; have f2 : w2.frozen? ⟨w.heap.size, 2, none⟩ = false := blk_frozen R2.out 2; clear hb H)
  exact bodyPost_ret (v := .agg #[.int .i64 ty, .int .i32 n, .string t]) (by simp [results, Tryd.results12, go_sem, c0, c1, c2, f0, f1, f2, hz1]) rfl ⟨rfl, (by repeat (first | (with_reducible exact B2.out) | apply below_alloc | apply pw_below_drewN | apply below_drew1 | refine below_set ?_ (Nat.le_refl _)))⟩
end Go.Proofs.YtihlmkgffifknaaDoor.Istr
