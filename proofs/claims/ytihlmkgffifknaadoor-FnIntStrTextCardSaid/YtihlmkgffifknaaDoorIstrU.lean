/- A number or a text: its text. -/
import Derived.Test.YtihlmkgffifknaaDoorIstrV
set_option linter.unusedVariables false
set_option linter.unusedSimpArgs false
namespace Go.Proofs.YtihlmkgffifknaaDoor.Istr
open Go Go.Sort Go.RowKit Go.Proofs.YtihlmkgffifknaaDoorW.PrintWords

set_option maxRecDepth 100000 in
theorem text_num (n : Int) (h0 : -2147483648 ≤ n) (h1 : n ≤ 2147483647) (s : ByteArray) (w : World) (htab : Lib.TabIs Tryd.prog w "internal/strconv.uint64pow10" .u64 Lib.pow10Tab) :
    Calls Tryd.prog 10 #[.agg #[.int .i64 0, .int .i32 n, .string s]] w fun e w' => e = .returned (.string ⟨(Lib.itoa n).toArray⟩) ∧ Below w.heap.size w w' := by
  have mixed : Tryd.prog.follows .mixedOrders = true := by kernel_rfl
  have hu1 := Tryd.underlying51
  have hu2 := Tryd.underlying24
  have HT := Aside0.mk (Lib.tabBelow_of_tabIs htab)
  have H := Aside0.mk (fun w h => itoaB n (by omega) (by omega) w h)
  have e1 : wrap64 n = n := IntWalk.wrap64_in _ ⟨by omega, by omega⟩
  have e2 : IntKind.i64.wrap n = n := (IntWalk.i64_left _).trans e1
  clear htab h0 h1
  go_enter Tryd.func10, Tryd.ntmps10
  go_wp2_with (first
    | (go_at_call 31; refine (H.out _ (HT.out _ (by repeat (first | exact Below.refl _ _ | apply below_alloc | apply pw_below_drewN | apply below_drew1)))).mono ?_; rintro e w2 ⟨rfl, hb⟩; have B2 := Aside0.mk (below_step (by repeat (first | exact Below.refl w.heap.size w | apply below_alloc | apply pw_below_drewN | apply below_drew1)) hb); clear hb H)
    | go_in)
  go_ret
  exact ⟨rfl, B2.out⟩
set_option maxRecDepth 100000 in
theorem text_txt (n : Int) (s : ByteArray) (w : World) :
    Calls Tryd.prog 10 #[.agg #[.int .i64 1, .int .i32 n, .string s]] w fun e w' => e = .returned (.string s) ∧ Below w.heap.size w w' := by
  have mixed : Tryd.prog.follows .mixedOrders = true := by kernel_rfl
  have hu1 := Tryd.underlying51
  have hu2 := Tryd.underlying24
  go_enter Tryd.func10, Tryd.ntmps10
  go_wp2_with go_in
  go_ret
  exact ⟨rfl, (by repeat (first | exact Below.refl _ _ | apply below_alloc | apply pw_below_drewN | apply below_drew1))⟩
end Go.Proofs.YtihlmkgffifknaaDoor.Istr
