/- A number or a text: the walks of its calls. -/
import Derived.Test.YtihlmkgffifknaaDoorShelf
import Derived.Test.YtihlmkgffifknaaDoorWWords
import Derived.Test.YtihlmkgffifknaaDoorNumL
import Derived.WalkKit
import Derived.WalkMore
import Derived.KernelRfl
import Derived.Shelf.SlSortCmp.QuietGrown
import Derived.Deep.QuietTactic
import Derived.BigQuiet
import Derived.Lib.AppendIntMem
import Derived.Lib.AtoiErrMem
set_option linter.unusedVariables false
set_option linter.unusedSimpArgs false
namespace Go.Proofs.YtihlmkgffifknaaDoor.Istr
open Go Go.Sort Go.RowKit Go.Proofs.YtihlmkgffifknaaDoorW.PrintWords

theorem itoaB (n : Int) (h0 : -9223372036854775808 ≤ n) (h1 : n ≤ 9223372036854775807) (w : World) (htab : Lib.TabIs Tryd.prog w "internal/strconv.uint64pow10" .u64 Lib.pow10Tab) :
    Calls Tryd.prog 31 #[.int .i64 n] w fun e w' => e = .returned (.string ⟨(Lib.itoa n).toArray⟩) ∧ Below w.heap.size w w' :=
  (Tryd.strconv_Itoa n h0 h1 w htab).mono fun e w' hq => by
    obtain ⟨rfl, k, os, rfl⟩ := hq
    exact ⟨rfl, Lib.below_grow _ _ (Nat.le_refl _) k os⟩
theorem readB (s : ByteArray) (hmax : s.size ≤ 2147483647) (v : Int) (h : Lib.parseIntB 32 s.data.toList = .ok v) (w : World) :
    Calls Tryd.prog 33 #[.string s, .int .i64 10, .int .i64 32] w fun e w' => e = .returned (.tuple #[.int .i64 v, .nilIface]) ∧ Below w.heap.size w w' :=
  (Tryd.strconv_ParseInt_10_at32_ok s (by omega) v h w).mono fun e w' hq => by
    obtain ⟨rfl, rfl | ⟨t, rfl⟩⟩ := hq
    · exact ⟨rfl, Below.refl _ _⟩
    · exact ⟨rfl, Lib.bytesWorld_below w 5 t⟩
/-- What is no number within 32 bits is an error. -/
theorem readBad (s : ByteArray) (hmax : s.size ≤ 2147483647) (h : ∀ v, Lib.parseIntB 32 s.data.toList ≠ .ok v) (w : World) (e5 e6 : Value) (h5 : w.cell? ⟨5, 0, none⟩ = some e5) (k5 : e5 = .nilIface ∨ ∃ te pe, e5 = .iface te pe) (h6 : w.cell? ⟨6, 0, none⟩ = some e6) (k6 : e6 = .nilIface ∨ ∃ te pe, e6 = .iface te pe) :
    Calls Tryd.prog 33 #[.string s, .int .i64 10, .int .i64 32] w fun e w' => ∃ (v : Int) (N : Nat), e = .returned (.tuple #[.int .i64 v, .iface 83 (.pointer (some ⟨N, 0, none⟩))]) ∧ Below w.heap.size w w' := by
  rcases hp : Lib.parseIntB 32 s.data.toList with v | _ | _
  · exact absurd hp (h v)
  ·
    refine (Any.strconv_ParseInt_10_at32_syntax Tryd.laysC174 s (by omega) hp e5 w h5 k5).mono fun e w' hq => ?_
    obtain ⟨N, rfl, _, _, hb⟩ := hq
    exact ⟨_, N, rfl, hb⟩
  ·
    refine (Tryd.strconv_ParseInt_10_at32_range s (by omega) hp e6 w h6 k6).mono fun e w' hq => ?_
    obtain ⟨N, rfl, _, _, hb⟩ := hq
    exact ⟨_, N, rfl, hb⟩

set_option maxRecDepth 100000 in
theorem from32 (n : Int) (w : World) : Calls Tryd.prog 24 #[.int .i32 n] w fun e w' => e = .returned (.agg #[.int .i64 0, .int .i32 n, .string ⟨#[]⟩]) ∧ Below w.heap.size w w' := by
  have hu1 := Tryd.underlying51
  go_enter Tryd.func24, Tryd.ntmps24
  go_wp2
  exact bodyPost_ret (v := .agg #[.int .i64 0, .int .i32 n, .string ⟨#[]⟩]) (by simp [results, Tryd.results24, go_sem]) rfl ⟨rfl, (by repeat (first | exact Below.refl _ _ | apply below_alloc | apply pw_below_drewN | apply below_drew1 | refine below_set ?_ (Nat.le_refl _)))⟩
set_option maxRecDepth 100000 in
theorem fromText (s : ByteArray) (w : World) : Calls Tryd.prog 34 #[.string s] w fun e w' => e = .returned (.agg #[.int .i64 1, .int .i32 0, .string s]) ∧ Below w.heap.size w w' := by
  have hu1 := Tryd.underlying51
  go_enter Tryd.func34, Tryd.ntmps34
  go_wp2
  exact bodyPost_ret (v := .agg #[.int .i64 1, .int .i32 0, .string s]) (by simp [results, Tryd.results34, go_sem]) rfl ⟨rfl, (by repeat (first | exact Below.refl _ _ | apply below_alloc | apply pw_below_drewN | apply below_drew1 | refine below_set ?_ (Nat.le_refl _)))⟩
set_option maxRecDepth 100000 in
theorem from_calls (n : Int) (w : World) : Calls Tryd.prog 9 #[.int .i32 n] w fun e w' => e = .returned (.agg #[.int .i64 0, .int .i32 n, .string ⟨#[]⟩]) ∧ Below w.heap.size w w' := by
  have mixed : Tryd.prog.follows .mixedOrders = true := by kernel_rfl
  have hu1 := Tryd.underlying51
  have hu2 := Tryd.underlying24
  have H := Aside0.mk (fun w => from32 n w)
  go_enter Tryd.func9, Tryd.ntmps9
  go_wp2_with (go_at_call 24; (with_reducible refine (H.out _).mono ?_); rintro e w1 ⟨rfl, hb⟩; have B1 := Aside0.mk (below_step (below_alloc (Below.refl w.heap.size w) _) hb); have hz1 : w.heap.size < w1.heap.size := (by have := hb.size; simp at this; omega); have R := Aside0.mk (blk_below (blk_new w _) hb); have c0 : w1.cell? ⟨w.heap.size, 0, none⟩ = some (.int .i64 0) := blk_cell R.out 0; have c1 : w1.cell? ⟨w.heap.size, 1, none⟩ = some (.int .i32 0) := blk_cell R.out 1; have c2 : w1.cell? ⟨w.heap.size, 2, none⟩ = some (.string ⟨#[]⟩) := blk_cell R.out 2; have f0 : w1.frozen? ⟨w.heap.size, 0, none⟩ = false := blk_frozen R.out 0; have f1 : w1.frozen? ⟨w.heap.size, 1, none⟩ = false := blk_frozen R.out 1; have f2 : w1.frozen? ⟨w.heap.size, 2, none⟩ = false := blk_frozen R.out 2; clear hb H)
  exact bodyPost_ret (v := .agg #[.int .i64 0, .int .i32 n, .string ⟨#[]⟩]) (by simp [results, Tryd.results9, go_sem, c0, c1, c2, f0, f1, f2, hz1]) rfl ⟨rfl, (by repeat (first | (with_reducible exact B1.out) | apply below_alloc | apply pw_below_drewN | apply below_drew1 | refine below_set ?_ (Nat.le_refl _)))⟩
end Go.Proofs.YtihlmkgffifknaaDoor.Istr
