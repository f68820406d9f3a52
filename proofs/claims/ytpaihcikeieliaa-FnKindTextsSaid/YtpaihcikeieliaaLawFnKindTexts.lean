/- Functions of the program as plain Lean functions, and that the machine's calls do what these say: written for this claim by wip/myprint.py over the kit's print.py. -/
import Derived.Test.YtpaihcikeieliaaRows
import Derived.Test.YtpaihcikeieliaaPFnKindTextsx1
import Derived.Test.YtpaihcikeieliaaPureFnKindTexts
import Derived.Test.YtpaihcikeieliaaOpens
import Derived.WalkKit
import Derived.ProofKit
import Derived.OpenShut
import Derived.ShutString
import Derived.ChangeOld
import Derived.Below
import Derived.SizedLaws
set_option linter.unusedVariables false
namespace Go.Proofs.Ytpaihcikeieliaa.fnKindTexts
open Go.ChangeShapes Go.WideShapes Go.ChangeAt Go.RowKit Go.Proofs.YtpaihcikeieliaaW.PrintWords Go.Proofs.Ytpaihcikeieliaa.PFnKindTexts
open Go.ChangeMaps (open_string shut_string)
theorem own : ownKnob Try.prog.godebug = none := by kernel_rfl
theorem laidOut : laidOutB Try.prog = true := by kernel_rfl
set_option maxRecDepth 100000 in
theorem lifted (os : Os) (started : os.Started) (H : Type) (enc : TypeId × Value → H) :
    ReturnsInHanded {} Try.checked os 9 .any (Rows.fnKindTextsSpec.pre6 enc Try.prog Try.f9 Rows.fnKindTextsRow.domain false) (Rows.fnKindTextsSpec.post enc Try.prog Try.f9 false true false false) := by
  refine returnsInHanded_of_change_sized (C := Try.checked) own started (by kernel_rfl) Try.func9
    (ChangeSpec.witness6 (enc := enc) (C := Try.checked) false ⟨#[], #[.agg #[.string ByteArray.empty, .string ByteArray.empty, .string ByteArray.empty]], []⟩ 8 (by kernel_rfl) (by kernel_rfl) (by kernel_rfl) (by kernel_rfl)) ?_
  intro W base args ds gs before hval0 hW hcnd hsz0 _
  have hval : ∀ (j : Nat) t v, Try.f9.params[j]? = some t → args[j]? = some v → Value.okWide Try.prog W .any base t v := hval0
  have hW' := hW
  obtain ⟨p, q, hA0, hV, rfl, hfz, hnd⟩ := hW
  have hA : DataW.TrodAll enc Try.prog W 0 (fun _ => true) true Try.f9.params.toList args.toList ds p := hA0
  rw [Try.params9] at hA hval
  obtain ⟨v0, vs0, d0, ds0, p0, q0, hargs, rfl, rfl, h0, r0⟩ := trodAll_cons hA
  obtain ⟨rfl, rfl, rfl⟩ := trodAll_nil r0
  obtain rfl : args = #[v0] := by cases args; simp_all
  obtain ⟨rfl, rfl⟩ := trodVars_none hV
  have k0 := h0
  have lt0 : ∀ x ∈ p0, x.block < W.heap.size := by obtain ⟨m, hm⟩ := k0; exact DataW.trod_lt m _ _ _ hm
  obtain ⟨cs0, rfl, _⟩ := okWide_struct Try.underlying25 (hval 0 25 v0 rfl rfl)
  obtain ⟨z0, hz0, iz0⟩ := Opens.open_any (Opens.opens_struct Try.underlying25 (by kernel_rfl) (Opens.from_cons rfl rfl (Opens.opens_string Try.underlying9) (by kernel_rfl) (Opens.from_cons rfl rfl (Opens.opens_string Try.underlying9) (by kernel_rfl) (Opens.from_last rfl rfl (Opens.opens_string Try.underlying9) (by kernel_rfl))))) k0
  obtain ⟨_, _, e0, rfl, ⟨_, _, rfl, rfl, rfl⟩⟩ := hz0
  obtain rfl : cs0 = #[.string z0.1, .string z0.2.1, .string z0.2.2] := by apply Array.toList_inj.1; simpa [Value.cells] using e0
  clear hA0 hval0 hsz0
  refine (laws_FnKindTexts.walk Pure.FnKindTexts z0.1 z0.2.1 z0.2.2 W  iz0.1 iz0.2.1 iz0.2.2).mono fun e W' ⟨he, bel⟩ => ?_
  subst he
  exact ⟨_, rfl, _, _, _, [], _, [], hW', trodAll_mk1 (shut_bool Try.underlying4 _), (trodAll_cons_mk (Below.trod laidOut (by kernel_rfl) (of_decide_eq_true (by kernel_rfl)) k0 bel lt0) trodAll_mk0), rfl, bel.frame _, fun h => by cases h⟩
theorem over : Rows.fnKindTextsRow.holds Try.pinned (OpenSpec.ofChange Rows.fnKindTextsSpec) :=
  OpenClaim.holds_of_wide 9 Try.f9 rfl rfl rfl rfl rfl rfl rfl ⟨rfl, rfl, rfl, rfl, rfl⟩ rfl rfl rfl rfl rfl (by kernel_rfl) Try.func9 (by kernel_rfl)
    (of_decide_eq_true (by kernel_rfl)) (by unfold Func.isWrapper; first | (rw [if_pos (by decide +kernel)]; kernel_rfl) | (rw [if_neg (by decide +kernel)]; exact ⟨rfl, rfl⟩))
    (fun os started H enc _ => lifted os started H enc)
theorem proved : Rows.FnKindTextsSaid := over
#print axioms proved
end Go.Proofs.Ytpaihcikeieliaa.fnKindTexts
namespace Go.Proofs.Ytpaihcikeieliaa
/-- The row, under a short name, for the claim. -/
theorem fnKindTexts_holds : Rows.FnKindTextsSaid := fnKindTexts.proved
end Go.Proofs.Ytpaihcikeieliaa
