/- Small steps for what is told 'with enough rounds'. -/
import Derived.Test.YtomoefldmgfaoaaDoorWWords
set_option linter.unusedVariables false
set_option linter.unusedSimpArgs false
namespace Go.Proofs.YtomoefldmgfaoaaDoor.Evs
open Go.RowKit Go.Proofs.YtomoefldmgfaoaaDoorW.PrintWords

theorem no {α : Type} {c : Prop} [Decidable c] {g f : Nat → Option α} {r : α} (h : ¬ c) (e : Ev f r) : Ev (fun k => if c then g k else f k) r := by
  simp only [if_neg h]; exact e
/-- At most one answer. -/
theorem uniq {α : Type} {g : Nat → Option α} {r s : α} (h : Ev g r) (k : Ev g s) : r = s := by
  obtain ⟨K, h⟩ := h
  obtain ⟨L, k⟩ := k
  have a := h (K + L) (by omega)
  have b := k (K + L) (by omega)
  rw [a] at b
  exact Option.some.inj b
/-- A round's step, from its text. -/
theorem at1 {α : Type} {g : Nat → Option α} {r : α} (h : ∀ k, g (k + 1) = some r) : Ev g r :=
  ⟨1, fun k hk => by obtain ⟨m, rfl⟩ : ∃ m, k = m + 1 := ⟨k - 1, by omega⟩; exact h m⟩
end Go.Proofs.YtomoefldmgfaoaaDoor.Evs
