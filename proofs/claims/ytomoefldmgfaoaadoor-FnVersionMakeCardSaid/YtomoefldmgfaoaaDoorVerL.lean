/- Versions: the law. -/
import Derived.Test.YtomoefldmgfaoaaDoorVerS
set_option linter.unusedVariables false
set_option linter.unusedSimpArgs false
namespace Go.Proofs.YtomoefldmgfaoaaDoor.Ver
open Go Go.Sort Go.RowKit Go.Proofs.YtomoefldmgfaoaaDoorW.PrintWords

set_option maxHeartbeats 6400000 in
set_option maxRecDepth 100000 in
theorem law_calls (a m : Nat) (ha : a < 18446744073709551616) (hm : m < 18446744073709551616) (w : World) (htab : Lib.TabIs Tryd.prog w "internal/strconv.uint64pow10" .u64 Lib.pow10Tab) :
    Calls Tryd.prog 3 #[.int .u64 (a : Int), .int .u64 (m : Int)] w fun e w' => e = .returned (.bool true) ∧ Below w.heap.size w w' := by
  have mixed : Tryd.prog.follows .mixedOrders = true := by kernel_rfl
  have hu1 := Tryd.underlying26
  have HT : Aside0 (∀ w', Below w.heap.size w w' → Lib.TabIs Tryd.prog w' "internal/strconv.uint64pow10" .u64 Lib.pow10Tab) := ⟨Lib.tabBelow_of_tabIs htab⟩
  have HM := Aside0.mk (fun w h => make_calls a m ha hm w h)
  have HS := Aside0.mk (fun bc cp w h0 h1 => same_calls w.heap.size 2 bc cp a m ha hm (Nat.le_refl _) w h0 h1)
  clear htab
  have T0 : Aside0 (Two (w.alloc (.cells #[.int .u64 (a : Int), .int .u64 (m : Int)] 22)) w.heap.size a m) := ⟨⟨blk_cell (blk_new w _) 0, blk_cell (blk_new w _) 1⟩⟩
  have HS2 := Aside0.mk (fun bc cp w1 (h0 : Two w1 w.heap.size a m) h1 => same_calls w.heap.size 2 bc cp a m ha hm (Nat.le_refl _) w1 h0 h1)
  clear ha hm HS
  go_enter Tryd.func3, Tryd.ntmps3
  go_wp2_with (first
    | (go_at_call 10; (with_reducible refine (HM.out _ (HT.out _ (below_alloc (Below.refl _ _) _))).mono ?_); rintro e w1 ⟨bc, cp, rfl, hT, hb⟩; have B1 := Aside0.mk (below_step (below_alloc (Below.refl w.heap.size w) _) hb); have T1 := Aside0.mk (T0.out.below hb); have X1 := Aside0.mk hT; clear hb hT)
    | (go_at_call 9; (with_reducible refine (HS2.out _ _ _ T1.out X1.out).mono ?_); rintro e w2 ⟨rfl, hb⟩; have B2 := Aside0.mk (below_step B1.out hb); clear hb))
  go_ret
  exact ⟨rfl, B2.out⟩
end Go.Proofs.YtomoefldmgfaoaaDoor.Ver
