/- The row of the law with its listed package variables, and its card: of all inputs that the statement lets by. -/
import Derived.Test.YtlhbmifffmegeaaDoorRows
import Derived.Test.YtlhbmifffmegeaaDoorCards
import Derived.Test.YtlhbmifffmegeaaDoorTie
import Derived.Test.YtlhbmifffmegeaaDoorPFnNeedEqualx7
import Derived.Test.YtlhbmifffmegeaaDoorPureFnNeedEqual
import Derived.Test.YtlhbmifffmegeaaDoorOpens
import Derived.WalkKit
import Derived.ProofKit
import Derived.OpenShut
import Derived.ShutString
import Derived.ChangeOld
import Derived.Below
import Derived.SizedLaws
import Derived.LaidMore
import Derived.Lay
import Derived.SevenTiedAt
import Derived.Stop.Joined
import Derived.Lib.LaidTab
set_option linter.unusedVariables false
namespace Go.Proofs.YtlhbmifffmegeaaDoor.fnNeedEqual
open Go.ChangeShapes Go.WideShapes Go.ChangeAt Go.RowKit Go.Proofs.YtlhbmifffmegeaaDoorW.PrintWords Go.Proofs.YtlhbmifffmegeaaDoor.PFnNeedEqual
open Go.ChangeMaps (open_string shut_string)
theorem own : ownKnob Tryd.prog.godebug = none := by kernel_rfl
theorem laidOut : laidOutB Tryd.prog = true := by kernel_rfl
set_option maxRecDepth 100000 in
theorem lifted (os : Os) (started : os.Started) (H : Type) (enc : TypeId × Value → H) :
    ReturnsInHanded {} Tryd.checked os 3 .any (fun w args => (Rows.fnNeedEqualSpec.pre enc Tryd.prog Tryd.f3 [] false w args ∧ laidMetH Tryd.prog Rows.fnNeedEqualRow.laid w) ∧ sizedMet enc Tryd.prog Tryd.f3 (OpenSpec.ofChange Rows.fnNeedEqualSpec) false w args)
      (Rows.fnNeedEqualSpec.post enc Tryd.prog Tryd.f3 false true false false) := by
  refine returnsInHanded_of_change_and (C := Tryd.checked) (X := fun w _ => laidMetH Tryd.prog Rows.fnNeedEqualRow.laid w) (fun _ _ _ hh h => h.of_heap hh) own started (by kernel_rfl) Tryd.func3
    (ChangeSpec.witness_shaped (enc := enc) (C := Tryd.checked) (os := os) (X := fun w _ => laidMetH Tryd.prog Rows.fnNeedEqualRow.laid w) false (World.laidAll Tryd.prog os Rows.fnNeedEqualRow.laid) #[.agg #[.string ByteArray.empty, .string ByteArray.empty, .slice none 0 0], .agg #[.string ByteArray.empty, .string ByteArray.empty, .slice none 0 0]] 8 (World.laidAll_os _ _ _)
      (World.shaped_of_ZipB (by kernel_rfl) (by kernel_rfl)) (by kernel_rfl) (by kernel_rfl) (by kernel_rfl)
      (by rw [MakeChecks.laidMetH_plain _ _ _ (by kernel_rfl)]; exact laidMet_laidAll _ (by kernel_rfl) (by kernel_rfl))) ?_
  intro W base args ds gs before hval0 hW hc _ hL _
  have hval : ∀ (j : Nat) t v, Tryd.f3.params[j]? = some t → args[j]? = some v → Value.okWide Tryd.prog W .any base t v := hval0
  have hW' := hW
  obtain ⟨p, q, hA0, hV, rfl, _, _⟩ := hW
  have hA : DataW.TrodAll enc Tryd.prog W 0 (fun _ => true) true Tryd.f3.params.toList args.toList ds p := hA0
  rw [Tryd.params3] at hA hval
  obtain ⟨v0, vs0, d0, ds0, p0, q0, hargs, rfl, rfl, h0, r0⟩ := trodAll_cons hA
  obtain ⟨v1, vs1, d1, ds1, p1, q1, rfl, rfl, rfl, h1, r1⟩ := trodAll_cons r0
  obtain ⟨rfl, rfl, rfl⟩ := trodAll_nil r1
  obtain rfl : args = #[v0, v1] := by cases args; simp_all
  obtain ⟨rfl, rfl⟩ := trodVars_none hV
  have k0 := h0
  have lt0 : ∀ x ∈ p0, x.block < W.heap.size := by obtain ⟨m, hm⟩ := k0; exact DataW.trod_lt m _ _ _ hm
  obtain ⟨cs0, rfl, _⟩ := okWide_struct Tryd.underlying24 (hval 0 24 v0 rfl rfl)
  obtain ⟨z0, hz0, iz0⟩ := Opens.open_any (Opens.opens_struct Tryd.underlying24 (by kernel_rfl) (Opens.from_cons rfl rfl (Opens.opens_string Tryd.underlying9) (by kernel_rfl) (Opens.from_cons rfl rfl (Opens.opens_string Tryd.underlying9) (by kernel_rfl) (Opens.from_last rfl rfl (Opens.opens_slice Tryd.underlying22 (by kernel_rfl) (Opens.opens_string Tryd.underlying9)) (by kernel_rfl))))) k0
  obtain ⟨_, _, e0, rfl, ⟨_, _, rfl, rfl, ⟨A0_2, c0_2, rfl, hc0_2, hr0_2⟩⟩⟩ := hz0
  obtain rfl : cs0 = #[.string z0.1, .string z0.2.1, .slice A0_2 z0.2.2.length c0_2] := by apply Array.toList_inj.1; simpa [Value.cells] using e0
  have k1 := h1
  have lt1 : ∀ x ∈ p1, x.block < W.heap.size := by obtain ⟨m, hm⟩ := k1; exact DataW.trod_lt m _ _ _ hm
  obtain ⟨cs1, rfl, _⟩ := okWide_struct Tryd.underlying24 (hval 1 24 v1 rfl rfl)
  obtain ⟨z1, hz1, iz1⟩ := Opens.open_any (Opens.opens_struct Tryd.underlying24 (by kernel_rfl) (Opens.from_cons rfl rfl (Opens.opens_string Tryd.underlying9) (by kernel_rfl) (Opens.from_cons rfl rfl (Opens.opens_string Tryd.underlying9) (by kernel_rfl) (Opens.from_last rfl rfl (Opens.opens_slice Tryd.underlying22 (by kernel_rfl) (Opens.opens_string Tryd.underlying9)) (by kernel_rfl))))) k1
  obtain ⟨_, _, e1, rfl, ⟨_, _, rfl, rfl, ⟨A1_2, c1_2, rfl, hc1_2, hr1_2⟩⟩⟩ := hz1
  obtain rfl : cs1 = #[.string z1.1, .string z1.2.1, .slice A1_2 z1.2.2.length c1_2] := by apply Array.toList_inj.1; simpa [Value.cells] using e1
  clear hA0 hval0
  refine (laws_FnNeedEqual.walk Pure.FnNeedEqual z0.1 z0.2.1 _ _ z0.2.2 z1.1 z1.2.1 _ _ z1.2.2 W hr0_2 hc0_2 hr1_2 hc1_2 iz0.1 iz0.2.1 iz0.2.2 iz1.1 iz1.2.1 iz1.2.2).mono fun e W' ⟨he, bel⟩ => ?_
  subst he
  exact ⟨_, rfl, _, _, _, [], _, [], hW', trodAll_mk1 (shut_bool Tryd.underlying4 _), (trodAll_cons_mk (Below.trod laidOut (by kernel_rfl) (of_decide_eq_true (by kernel_rfl)) k0 bel lt0) (trodAll_cons_mk (Below.trod laidOut (by kernel_rfl) (of_decide_eq_true (by kernel_rfl)) k1 bel lt1) trodAll_mk0)), rfl, bel.frame _, fun h => by cases h⟩
theorem said : Rows.FnNeedEqualSaid :=
  OpenClaim.holds_of_wide 3 Tryd.f3 rfl rfl rfl rfl rfl rfl rfl ⟨rfl, rfl, rfl, rfl, rfl⟩ rfl rfl rfl rfl rfl (by kernel_rfl) Tryd.func3 (by kernel_rfl)
    (of_decide_eq_true (by kernel_rfl)) (by unfold Func.isWrapper; first | (rw [if_pos (by decide +kernel)]; kernel_rfl) | (rw [if_neg (by decide +kernel)]; exact ⟨rfl, rfl⟩))
    (fun os started H enc _ => lifted os started H enc)
theorem card : Rows.FnNeedEqualCardSaid :=
  Claim7.holds_tied_plain_at .later [] [.data, .data, .data, .sentinel, .sentinel] true (true, "4dccc129be38d20e3ba8d93b8f5839885eac46d75eefa2640b38c0e9523828ba") true said (fun _ h => by cases h) (by kernel_rfl) (fun _ h => by cases h) fnNeedEqual_row_tie rfl ⟨rfl, rfl⟩ (by kernel_rfl) rfl
    (fun f fn hf hfn => by
      obtain rfl : f = 3 := Option.some.inj ((show Tryd.prog.funcNamed "pub-stockroom/laws.FnNeedEqual" = some 3 by kernel_rfl).symm.trans hf) |>.symm
      obtain rfl : fn = Tryd.f3 := (Option.some.inj (Tryd.func3.symm.trans hfn)).symm
      exact ⟨by kernel_rfl, fun j t ht => by
        rw [Tryd.params3] at ht
        have hm : t ∈ [24, 24] := by simpa using Array.mem_of_getElem? ht
        have hall : ([24, 24].all fun u => !Tryd.prog.wantsStandIn u) = true := by kernel_rfl
        exact (show Tryd.prog.wantsStandIn t = false by simpa using List.all_eq_true.1 hall t hm)⟩)
    (by kernel_rfl)
#print axioms card
end Go.Proofs.YtlhbmifffmegeaaDoor.fnNeedEqual
namespace Go.Proofs.YtlhbmifffmegeaaDoor
/-- The card, under a short name, for the claim. -/
theorem fnNeedEqualCard_holds : Rows.FnNeedEqualCardSaid := fnNeedEqual.card
end Go.Proofs.YtlhbmifffmegeaaDoor
