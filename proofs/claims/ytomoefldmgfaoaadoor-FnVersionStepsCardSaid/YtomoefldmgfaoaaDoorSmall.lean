/- Small facts on int64 numbers and powers. -/
import Derived.IntWalk
import Derived.RowKit
set_option linter.unusedVariables false
set_option linter.unusedSimpArgs false
namespace Go.Proofs.YtomoefldmgfaoaaDoor.Small
open Go.RowKit

theorem wf64 {n : Int} (h : (Lit.int .i64 n).wf = true) : -9223372036854775808 ≤ n ∧ n ≤ 9223372036854775807 := by
  simp [Lit.wf, IntKind.min, IntKind.max, IntKind.signed, IntKind.bits] at h
  omega

theorem w64 (n : Int) (h : -9223372036854775808 ≤ n) (g : n ≤ 9223372036854775807) : wrap64 n = n := IntWalk.wrap64_in n ⟨h, g⟩
theorem w64s (t : Nat) (h : t < 9223372036854775807) : wrap64 ((t : Int) + 1) = ((t + 1 : Nat) : Int) := by rw [w64 _ (by omega) (by omega)]; rfl

end Go.Proofs.YtomoefldmgfaoaaDoor.Small
