/- Small facts on int64 numbers and powers. -/
import Derived.IntWalk
import Derived.RowKit
set_option linter.unusedVariables false
set_option linter.unusedSimpArgs false
namespace Go.Proofs.YtomoefldmgfaoaaDoor.Small
open Go.RowKit

theorem wf64 {n : Int} (h : (Lit.int .i64 n).wf = true) : -9223372036854775808 ≤ n ∧ n ≤ 9223372036854775807 := by
  simp [Lit.wf, IntKind.min, IntKind.max, IntKind.signed, IntKind.bits] at h
  omega

theorem w64 (n : Int) (h : -9223372036854775808 ≤ n) (g : n ≤ 9223372036854775807) : wrap64 n = n := IntWalk.wrap64_in n ⟨h, g⟩
theorem w32 (n : Int) (h : -2147483648 ≤ n) (g : n ≤ 2147483647) : wrap32 n = n := IntWalk.wrap32_in n ⟨h, g⟩
theorem w32s (t : Nat) (h : t < 2147483647) : wrap32 ((t : Int) + 1) = ((t + 1 : Nat) : Int) := by rw [w32 _ (by omega) (by omega)]; rfl
theorem w64s (t : Nat) (h : t < 9223372036854775807) : wrap64 ((t : Int) + 1) = ((t + 1 : Nat) : Int) := by rw [w64 _ (by omega) (by omega)]; rfl

theorem pow2_le {m n : Nat} (h : m ≤ n) : (2 : Int) ^ m ≤ 2 ^ n := by exact_mod_cast Nat.pow_le_pow_right (by decide : 2 > 0) h
theorem pow10_le {m n : Nat} (h : m ≤ n) : (10 : Int) ^ m ≤ 10 ^ n := by exact_mod_cast Nat.pow_le_pow_right (by decide : 10 > 0) h

end Go.Proofs.YtomoefldmgfaoaaDoor.Small
