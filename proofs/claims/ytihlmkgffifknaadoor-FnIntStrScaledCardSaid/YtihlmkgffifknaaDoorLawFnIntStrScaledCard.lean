/- So many percent of a total: the row with its listed package variables, and its card: of all inputs that the statement lets by. -/
import Derived.Test.YtihlmkgffifknaaDoorRows
import Derived.Test.YtihlmkgffifknaaDoorCards
import Derived.Test.YtihlmkgffifknaaDoorTie
import Derived.Test.YtihlmkgffifknaaDoorScL
import Derived.Test.YtihlmkgffifknaaDoorOpens
import Derived.WalkKit
import Derived.ProofKit
import Derived.OpenShut
import Derived.ShutString
import Derived.ChangeOld
import Derived.Below
import Derived.SizedLaws
import Derived.LaidMore
import Derived.Lay
import Derived.SevenTiedAt
import Derived.Stop.Joined
import Derived.Stop.LaidErr
import Derived.LaidLaws
set_option linter.unusedVariables false
set_option linter.unusedSimpArgs false
namespace Go.Proofs.YtihlmkgffifknaaDoor.fnIntStrScaled
open Go.ChangeShapes Go.WideShapes Go.ChangeAt Go.RowKit Go.Proofs.YtihlmkgffifknaaDoorW.PrintWords Go.Proofs.YtihlmkgffifknaaDoor.PFnIntStrScaled
open Go.ChangeMaps (open_string shut_string)
theorem own : ownKnob Tryd.prog.godebug = none := by kernel_rfl
theorem laidOut : laidOutB Tryd.prog = true := by kernel_rfl
theorem gES : Tryd.prog.globalNamed "strconv.ErrSyntax" = some 5 := by kernel_rfl
theorem gER : Tryd.prog.globalNamed "strconv.ErrRange" = some 6 := by kernel_rfl
theorem tES : (Tryd.prog.globals[5]?).map (·.type) = some 53 := by kernel_rfl
theorem tER : (Tryd.prog.globals[6]?).map (·.type) = some 53 := by kernel_rfl
theorem cellsE : Tryd.prog.cellsOf 74 = 1 := by kernel_rfl
theorem cellsS : Tryd.prog.cellsOf 9 = 1 := by kernel_rfl
theorem star : "*" ++ "errors.errorString" = "*errors.errorString" := by decide
theorem rowP (u : TypeId) (h : Tryd.prog.typeName? 3 u = some "*errors.errorString") : u = 72 :=
  typeName_ptr_named (nm := "errors.errorString") (by rw [star]; kernel_rfl) (by kernel_rfl) (by decide) u (by rw [star]; exact h)
theorem errs_is {W : World} (h : laidMetH Tryd.prog Rows.fnIntStrScaledRow.laid W) : Sc.Errs W := by
  rw [MakeChecks.laidMetH_plain _ _ _ (by kernel_rfl)] at h
  have h3 := h.tail.tail.tail
  obtain ⟨a0, s0, hv0, -, -, -⟩ := laid_sentinel h3 gER tER Tryd.underlying53 rowP Tryd.underlying72 Tryd.underlying74 rfl rfl Tryd.underlying9 cellsE cellsS
  obtain ⟨a1, s1, hv1, -, -, -⟩ := laid_sentinel h3.tail gES tES Tryd.underlying53 rowP Tryd.underlying72 Tryd.underlying74 rfl rfl Tryd.underlying9 cellsE cellsS
  exact ⟨_, _, by have h0 := World.var?_cell gES hv1 0; simpa using h0, Or.inr ⟨_, _, rfl⟩, by have h0 := World.var?_cell gER hv0 0; simpa using h0, Or.inr ⟨_, _, rfl⟩⟩
set_option maxRecDepth 100000 in
theorem lifted (os : Os) (started : os.Started) (H : Type) (enc : TypeId × Value → H) :
    ReturnsInHanded {} Tryd.checked os 6 .any (fun w args => (Rows.fnIntStrScaledSpec.pre enc Tryd.prog Tryd.f6 [] false w args ∧ laidMetH Tryd.prog Rows.fnIntStrScaledRow.laid w) ∧ sizedMet enc Tryd.prog Tryd.f6 (OpenSpec.ofChange Rows.fnIntStrScaledSpec) false w args)
      (Rows.fnIntStrScaledSpec.post enc Tryd.prog Tryd.f6 false true false false) := by
  refine returnsInHanded_of_change_and (C := Tryd.checked) (X := fun w _ => laidMetH Tryd.prog Rows.fnIntStrScaledRow.laid w) (fun _ _ _ hh h => h.of_heap hh) own started (by kernel_rfl) Tryd.func6
    (ChangeSpec.witness_shaped (enc := enc) (C := Tryd.checked) (os := os) (X := fun w _ => laidMetH Tryd.prog Rows.fnIntStrScaledRow.laid w) false (World.laidAll Tryd.prog os Rows.fnIntStrScaledRow.laid) #[.agg #[.int .i64 0, .int .i32 0, .string ByteArray.empty], .int .i64 0, .bool false] 8 (World.laidAll_os _ _ _)
      (World.shaped_of_ZipB (by kernel_rfl) (by kernel_rfl)) (by kernel_rfl) (by kernel_rfl) (by kernel_rfl)
      (by rw [MakeChecks.laidMetH_plain _ _ _ (by kernel_rfl)]; exact laidMet_laidAll _ (by kernel_rfl) (by kernel_rfl))) ?_
  intro W base args ds gs before hval0 hW hc _ hL _
  have hval : ∀ (j : Nat) t v, Tryd.f6.params[j]? = some t → args[j]? = some v → Value.okWide Tryd.prog W .any base t v := hval0
  have hW' := hW
  obtain ⟨p, q, hA0, hV, rfl, _, _⟩ := hW
  have hA : DataW.TrodAll enc Tryd.prog W 0 (fun _ => true) true Tryd.f6.params.toList args.toList ds p := hA0
  rw [Tryd.params6] at hA hval
  obtain ⟨v0, vs0, d0, ds0, p0, q0, hargs, rfl, rfl, h0, r0⟩ := trodAll_cons hA
  obtain ⟨v1, vs1, d1, ds1, p1, q1, rfl, rfl, rfl, h1, r1⟩ := trodAll_cons r0
  obtain ⟨v2, vs2, d2, ds2, p2, q2, rfl, rfl, rfl, h2, r2⟩ := trodAll_cons r1
  obtain ⟨rfl, rfl, rfl⟩ := trodAll_nil r2
  obtain rfl : args = #[v0, v1, v2] := by cases args; simp_all
  obtain ⟨rfl, rfl⟩ := trodVars_none hV
  have k0 := h0
  have lt0 : ∀ x ∈ p0, x.block < W.heap.size := by obtain ⟨m, hm⟩ := k0; exact DataW.trod_lt m _ _ _ hm
  obtain ⟨cs0, rfl, _⟩ := okWide_struct Tryd.underlying24 (hval 0 24 v0 rfl rfl)
  obtain ⟨z0, hz0, iz0⟩ := Opens.open_any (Opens.opens_struct Tryd.underlying24 (by kernel_rfl) (Opens.from_cons rfl rfl (Opens.opens_int Tryd.underlying2) (by kernel_rfl) (Opens.from_cons rfl rfl (Opens.opens_int Tryd.underlying21) (by kernel_rfl) (Opens.from_last rfl rfl (Opens.opens_string Tryd.underlying9) (by kernel_rfl))))) k0
  obtain ⟨_, _, e0, rfl, ⟨_, _, rfl, rfl, rfl⟩⟩ := hz0
  obtain rfl : cs0 = #[.int .i64 z0.1, .int .i32 z0.2.1, .string z0.2.2] := by apply Array.toList_inj.1; simpa [Value.cells] using e0
  obtain ⟨a1, rfl, rfl, rfl, w1⟩ := open_int Tryd.underlying3 (hval 1 3 v1 rfl rfl) h1
  obtain ⟨a2, rfl, rfl, rfl⟩ := open_bool Tryd.underlying4 (hval 2 4 v2 rfl rfl) h2
  clear hA0 hval0
  refine (Sc.law_all z0.1 z0.2.1 a1 a2 z0.2.2 iz0.2.1 w1 W (errs_is hL)).mono fun e W' ⟨he, bel⟩ => ?_
  subst he
  exact ⟨_, rfl, _, _, _, [], _, [], hW', trodAll_mk1 (shut_bool Tryd.underlying4 _), (trodAll_cons_mk (Below.trod laidOut (by kernel_rfl) (of_decide_eq_true (by kernel_rfl)) k0 bel lt0) (trodAll_cons_mk (shut_int Tryd.underlying3 w1) (trodAll_cons_mk (shut_bool Tryd.underlying4 _) trodAll_mk0))), rfl, bel.frame _, fun h => by cases h⟩
theorem said : Rows.FnIntStrScaledSaid :=
  OpenClaim.holds_of_wide 6 Tryd.f6 rfl rfl rfl rfl rfl rfl rfl ⟨rfl, rfl, rfl, rfl, rfl⟩ rfl rfl rfl rfl rfl (by kernel_rfl) Tryd.func6 (by kernel_rfl)
    (of_decide_eq_true (by kernel_rfl)) (by unfold Func.isWrapper; first | (rw [if_pos (by decide +kernel)]; kernel_rfl) | (rw [if_neg (by decide +kernel)]; exact ⟨rfl, rfl⟩))
    (fun os started H enc _ => lifted os started H enc)
theorem card : Rows.FnIntStrScaledCardSaid :=
  Claim7.holds_tied_plain_at .later [] [.data, .data, .data, .sentinel, .sentinel] true (true, "9d65dd286dd5e743bcb9b1e5ea3988b1bc4f09240a97f7ddeba930bafccb4a5c") true said (fun _ h => by cases h) (by kernel_rfl) (fun _ h => by cases h) fnIntStrScaled_row_tie rfl ⟨rfl, rfl⟩ (by kernel_rfl) rfl
    (fun f fn hf hfn => by
      obtain rfl : f = 6 := Option.some.inj ((show Tryd.prog.funcNamed "pub-stockroom/laws.FnIntStrScaled" = some 6 by kernel_rfl).symm.trans hf) |>.symm
      obtain rfl : fn = Tryd.f6 := (Option.some.inj (Tryd.func6.symm.trans hfn)).symm
      exact ⟨by kernel_rfl, fun j t ht => by
        rw [Tryd.params6] at ht
        have hm : t ∈ [24, 3, 4] := by simpa using Array.mem_of_getElem? ht
        have hall : ([24, 3, 4].all fun u => !Tryd.prog.wantsStandIn u) = true := by kernel_rfl
        exact (show Tryd.prog.wantsStandIn t = false by simpa using List.all_eq_true.1 hall t hm)⟩)
    (by kernel_rfl)
#print axioms card
end Go.Proofs.YtihlmkgffifknaaDoor.fnIntStrScaled
namespace Go.Proofs.YtihlmkgffifknaaDoor
/-- The card, under a short name, for the claim. -/
theorem fnIntStrScaledCard_holds : Rows.FnIntStrScaledCardSaid := fnIntStrScaled.card
end Go.Proofs.YtihlmkgffifknaaDoor
