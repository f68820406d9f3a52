/- The row of the law with its listed package variables, and its card: of all inputs that the statement lets by. -/
import Derived.Test.YtomoefldmgfaoaaDoorRows
import Derived.Test.YtomoefldmgfaoaaDoorCards
import Derived.Test.YtomoefldmgfaoaaDoorTie
import Derived.Test.YtomoefldmgfaoaaDoorPvSh
import Derived.Test.YtomoefldmgfaoaaDoorOpens
import Derived.Stop.LaidErr
import Derived.LaidLaws
import Derived.Lib.LaidTab
import Derived.WalkKit
import Derived.ProofKit
import Derived.OpenShut
import Derived.ShutString
import Derived.ChangeOld
import Derived.Below
import Derived.SizedLaws
import Derived.LaidMore
import Derived.Lay
import Derived.SevenTiedAt
import Derived.Stop.Joined
set_option linter.unusedVariables false
namespace Go.Proofs.YtomoefldmgfaoaaDoor.fnVersionSteps
open Go.ChangeShapes Go.WideShapes Go.ChangeAt Go.RowKit Go.Proofs.YtomoefldmgfaoaaDoorW.PrintWords Go.Proofs.YtomoefldmgfaoaaDoor.PFnVersionSteps
open Go.ChangeMaps (open_string shut_string)
theorem own : ownKnob Tryd.prog.godebug = none := by kernel_rfl
theorem laidOut : laidOutB Tryd.prog = true := by kernel_rfl
theorem gES : Tryd.prog.globalNamed "strconv.ErrSyntax" = some 3 := by kernel_rfl
theorem gER : Tryd.prog.globalNamed "strconv.ErrRange" = some 4 := by kernel_rfl
theorem tES : (Tryd.prog.globals[3]?).map (·.type) = some 68 := by kernel_rfl
theorem tER : (Tryd.prog.globals[4]?).map (·.type) = some 68 := by kernel_rfl
theorem cellsE : Tryd.prog.cellsOf 114 = 1 := by kernel_rfl
theorem cellsS : Tryd.prog.cellsOf 9 = 1 := by kernel_rfl
theorem star : "*" ++ "errors.errorString" = "*errors.errorString" := by decide
theorem rowP (u : TypeId) (h : Tryd.prog.typeName? 3 u = some "*errors.errorString") : u = 112 :=
  typeName_ptr_named (nm := "errors.errorString") (by rw [star]; kernel_rfl) (by kernel_rfl) (by decide) u (by rw [star]; exact h)
theorem tabData_is : (Rows.laid_internal_strconv_uint64pow10 : DataW Unit) = Lib.tabData .u64 Lib.pow10Tab := by kernel_rfl
theorem good_is {W : World} (h : laidMetH Tryd.prog Rows.fnVersionStepsRow.laid W) : Pv.Good W := by
  rw [MakeChecks.laidMetH_plain _ _ _ (by kernel_rfl)] at h
  obtain ⟨a0, s0, hv0, -, -, -⟩ := laid_sentinel h.tail.tail.tail gER tER Tryd.underlying68 rowP Tryd.underlying112 Tryd.underlying114 rfl rfl Tryd.underlying9 cellsE cellsS
  obtain ⟨a1, s1, hv1, -, -, -⟩ := laid_sentinel h.tail.tail.tail.tail gES tES Tryd.underlying68 rowP Tryd.underlying112 Tryd.underlying114 rfl rfl Tryd.underlying9 cellsE cellsS
  refine ⟨⟨_, by have h0 := World.var?_cell gES hv1 0; simpa using h0, Or.inr ⟨_, _, rfl⟩⟩, ⟨_, by have h0 := World.var?_cell gER hv0 0; simpa using h0, Or.inr ⟨_, _, rfl⟩⟩, ?_⟩
  obtain ⟨ps, ⟨g0, t0, cs0, f0, p0, q0, hg0, ht0, hv0, hd0, ⟨g1, t1, cs1, f1, p1, q1, hg1, ht1, hv1, hd1, ⟨g2, t2, cs2, f2, p2, q2, hg2, ht2, hv2, hd2, _, _⟩, _⟩, _⟩, _, _⟩ := h
  obtain rfl := Option.some.inj ((show Tryd.prog.globalNamed "internal/strconv.uint64pow10" = some 2 by kernel_rfl).symm.trans hg2)
  obtain rfl := Option.some.inj ((show (Tryd.prog.globals[2]?).map (·.type) = some 139 by kernel_rfl).symm.trans ht2)
  rw [tabData_is] at hd2
  unfold Lib.TabIs
  rw [hv2, ← Lib.cells_of_tab Tryd.underlying139 Tryd.underlying110 (by kernel_rfl) (by kernel_rfl) hd2]

set_option maxRecDepth 100000 in
theorem lifted (os : Os) (started : os.Started) (H : Type) (enc : TypeId × Value → H) :
    ReturnsInHanded {} Tryd.checked os 6 .any (fun w args => (Rows.fnVersionStepsSpec.pre enc Tryd.prog Tryd.f6 [] false w args ∧ laidMetH Tryd.prog Rows.fnVersionStepsRow.laid w) ∧ sizedMet enc Tryd.prog Tryd.f6 (OpenSpec.ofChange Rows.fnVersionStepsSpec) false w args)
      (Rows.fnVersionStepsSpec.post enc Tryd.prog Tryd.f6 false true false false) := by
  refine returnsInHanded_of_change_and (C := Tryd.checked) (X := fun w _ => laidMetH Tryd.prog Rows.fnVersionStepsRow.laid w) (fun _ _ _ hh h => h.of_heap hh) own started (by kernel_rfl) Tryd.func6
    (ChangeSpec.witness_shaped (enc := enc) (C := Tryd.checked) (os := os) (X := fun w _ => laidMetH Tryd.prog Rows.fnVersionStepsRow.laid w) false (World.laidAll Tryd.prog os Rows.fnVersionStepsRow.laid) #[.int .i64 0, .string ⟨#[]⟩, .slice none 0 0] 8 (World.laidAll_os _ _ _)
      (World.shaped_of_ZipB (by kernel_rfl) (by kernel_rfl)) (by kernel_rfl) (by kernel_rfl) (by kernel_rfl)
      (by rw [MakeChecks.laidMetH_plain _ _ _ (by kernel_rfl)]; exact laidMet_laidAll _ (by kernel_rfl) (by kernel_rfl))) ?_
  intro W base args ds gs before hval0 hW hc _ hL _
  have hval : ∀ (j : Nat) t v, Tryd.f6.params[j]? = some t → args[j]? = some v → Value.okWide Tryd.prog W .any base t v := hval0
  have hW' := hW
  obtain ⟨p, q, hA0, hV, rfl, _, _⟩ := hW
  have hA : DataW.TrodAll enc Tryd.prog W 0 (fun _ => true) true Tryd.f6.params.toList args.toList ds p := hA0
  rw [Tryd.params6] at hA hval
  obtain ⟨v0, vs0, d0, ds0, p0, q0, hargs, rfl, rfl, h0, r0⟩ := trodAll_cons hA
  obtain ⟨v1, vs1, d1, ds1, p1, q1, rfl, rfl, rfl, h1, r1⟩ := trodAll_cons r0
  obtain ⟨v2, vs2, d2, ds2, p2, q2, rfl, rfl, rfl, h2, r2⟩ := trodAll_cons r1
  obtain ⟨rfl, rfl, rfl⟩ := trodAll_nil r2
  obtain rfl : args = #[v0, v1, v2] := by cases args; simp_all
  obtain ⟨rfl, rfl⟩ := trodVars_none hV
  obtain ⟨n0, rfl, rfl, rfl, m0⟩ := open_int Tryd.underlying3 (hval 0 3 v0 rfl rfl) h0
  obtain ⟨s1, rfl, rfl, rfl, m1⟩ := open_string Tryd.underlying9 (hval 1 9 v1 rfl rfl) h1
  have k2 := h2
  have lt2 : ∀ x ∈ p2, x.block < W.heap.size := by obtain ⟨m, hm⟩ := k2; exact DataW.trod_lt m _ _ _ hm
  obtain ⟨a2, len2, cap2, rfl⟩ := okWide_slice Tryd.underlying40 (hval 2 40 v2 rfl rfl)
  obtain ⟨z2, ⟨A2, c2, e2, hc2, hr2⟩, iz2⟩ := Opens.open_any (Opens.opens_slice Tryd.underlying40 (by kernel_rfl) (Opens.opens_iso (fun x : S47 => (x.f0, x.f1, x.f2, x.f3)) (fun y => ⟨y.1, y.2.1, y.2.2.1, y.2.2.2⟩) (fun _ => rfl) (Opens.opens_struct Tryd.underlying47 (by kernel_rfl) (Opens.from_cons rfl rfl (Opens.opens_int Tryd.underlying3) (by kernel_rfl) (Opens.from_cons rfl rfl (Opens.opens_int Tryd.underlying22) (by kernel_rfl) (Opens.from_cons rfl rfl (Opens.opens_int Tryd.underlying3) (by kernel_rfl) (Opens.from_last rfl rfl (Opens.opens_string Tryd.underlying9) (by kernel_rfl)))))))) k2
  simp only [Value.cells, List.cons.injEq, Value.slice.injEq, and_true] at e2
  obtain ⟨rfl, rfl, rfl⟩ := e2
  clear hA0 hval0
  refine (Pv.SFnVersionSteps.law_walk n0 s1 _ _ z2 W hr2 hc2 (fun x hx => Pv.SFnVersionSteps.fits_of (iz2.2 x hx)) (good_is hL)).mono fun e W' ⟨he, bel⟩ => ?_
  subst he
  exact ⟨_, rfl, _, _, _, [], _, [], hW', trodAll_mk1 (shut_bool Tryd.underlying4 _), (trodAll_cons_mk (shut_int Tryd.underlying3 m0) (trodAll_cons_mk (shut_string Tryd.underlying9 m1) (trodAll_cons_mk (Below.trod laidOut (by kernel_rfl) (of_decide_eq_true (by kernel_rfl)) k2 bel lt2) trodAll_mk0))), rfl, bel.frame _, fun h => by cases h⟩
theorem said : Rows.FnVersionStepsSaid :=
  OpenClaim.holds_of_wide 6 Tryd.f6 rfl rfl rfl rfl rfl rfl rfl ⟨rfl, rfl, rfl, rfl, rfl⟩ rfl rfl rfl rfl rfl (by kernel_rfl) Tryd.func6 (by kernel_rfl)
    (of_decide_eq_true (by kernel_rfl)) (by unfold Func.isWrapper; first | (rw [if_pos (by decide +kernel)]; kernel_rfl) | (rw [if_neg (by decide +kernel)]; exact ⟨rfl, rfl⟩))
    (fun os started H enc _ => lifted os started H enc)
theorem card : Rows.FnVersionStepsCardSaid :=
  Claim7.holds_tied_plain_at .later [] [.data, .data, .data, .sentinel, .sentinel, .sentinel] true (true, "8c2b2973ef6b460e58757e778917b858808f434f566d7d1973b5dd3b3187d5ab") true said (fun _ h => by cases h) (by kernel_rfl) (fun _ h => by cases h) fnVersionSteps_row_tie rfl ⟨rfl, rfl⟩ (by kernel_rfl) rfl
    (fun f fn hf hfn => by
      obtain rfl : f = 6 := Option.some.inj ((show Tryd.prog.funcNamed "pub-stockroom/laws.FnVersionSteps" = some 6 by kernel_rfl).symm.trans hf) |>.symm
      obtain rfl : fn = Tryd.f6 := (Option.some.inj (Tryd.func6.symm.trans hfn)).symm
      exact ⟨by kernel_rfl, fun j t ht => by
        rw [Tryd.params6] at ht
        have hm : t ∈ [3, 9, 40] := by simpa using Array.mem_of_getElem? ht
        have hall : ([3, 9, 40].all fun u => !Tryd.prog.wantsStandIn u) = true := by kernel_rfl
        exact (show Tryd.prog.wantsStandIn t = false by simpa using List.all_eq_true.1 hall t hm)⟩)
    (by kernel_rfl)
#print axioms card
end Go.Proofs.YtomoefldmgfaoaaDoor.fnVersionSteps
namespace Go.Proofs.YtomoefldmgfaoaaDoor
/-- The card, under a short name, for the claim. -/
theorem fnVersionStepsCard_holds : Rows.FnVersionStepsCardSaid := fnVersionSteps.card
end Go.Proofs.YtomoefldmgfaoaaDoor
