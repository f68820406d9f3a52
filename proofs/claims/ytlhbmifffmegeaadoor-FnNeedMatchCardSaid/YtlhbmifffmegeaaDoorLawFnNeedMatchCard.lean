/- Labels match a requirement just as the five cases say: the row with its listed package variables, and its card: of all inputs that the statement lets by. -/
import Derived.Test.YtlhbmifffmegeaaDoorRows
import Derived.Test.YtlhbmifffmegeaaDoorCards
import Derived.Test.YtlhbmifffmegeaaDoorTie
import Derived.Test.YtlhbmifffmegeaaDoorNeedL
import Derived.Test.YtlhbmifffmegeaaDoorOpens
import Derived.WalkKit
import Derived.ProofKit
import Derived.OpenShut
import Derived.ShutString
import Derived.ChangeOld
import Derived.Below
import Derived.SizedLaws
import Derived.LaidMore
import Derived.Lay
import Derived.SevenTiedAt
import Derived.Stop.Joined
import Derived.Stop.LaidErr
import Derived.LaidLaws
set_option linter.unusedVariables false
set_option linter.unusedSimpArgs false
namespace Go.Proofs.YtlhbmifffmegeaaDoor.fnNeedMatch
open Go.ChangeShapes Go.WideShapes Go.ChangeAt Go.RowKit Go.Proofs.YtlhbmifffmegeaaDoorW.PrintWords Go.Proofs.YtlhbmifffmegeaaDoor.PFnNeedMatch
open Go.ChangeMaps (open_string shut_string)
theorem own : ownKnob Tryd.prog.godebug = none := by kernel_rfl
theorem laidOut : laidOutB Tryd.prog = true := by kernel_rfl
theorem gES : Tryd.prog.globalNamed "strconv.ErrSyntax" = some 0 := by kernel_rfl
theorem gER : Tryd.prog.globalNamed "strconv.ErrRange" = some 1 := by kernel_rfl
theorem tES : (Tryd.prog.globals[0]?).map (·.type) = some 48 := by kernel_rfl
theorem tER : (Tryd.prog.globals[1]?).map (·.type) = some 48 := by kernel_rfl
theorem cellsE : Tryd.prog.cellsOf 87 = 1 := by kernel_rfl
theorem cellsS : Tryd.prog.cellsOf 9 = 1 := by kernel_rfl
theorem star : "*" ++ "errors.errorString" = "*errors.errorString" := by decide
theorem rowP (u : TypeId) (h : Tryd.prog.typeName? 3 u = some "*errors.errorString") : u = 85 :=
  typeName_ptr_named (nm := "errors.errorString") (by rw [star]; kernel_rfl) (by kernel_rfl) (by decide) u (by rw [star]; exact h)
theorem errs_is {W : World} (h : laidMetH Tryd.prog Rows.fnNeedMatchRow.laid W) : MapS.ErrOK W := by
  rw [MakeChecks.laidMetH_plain _ _ _ (by kernel_rfl)] at h
  have h3 := h.tail.tail.tail
  obtain ⟨a0, s0, hv0, -, -, -⟩ := laid_sentinel h3 gER tER Tryd.underlying48 rowP Tryd.underlying85 Tryd.underlying87 rfl rfl Tryd.underlying9 cellsE cellsS
  obtain ⟨a1, s1, hv1, -, -, -⟩ := laid_sentinel h3.tail gES tES Tryd.underlying48 rowP Tryd.underlying85 Tryd.underlying87 rfl rfl Tryd.underlying9 cellsE cellsS
  exact ⟨⟨_, by have h0 := World.var?_cell gES hv1 0; simpa using h0, Or.inr ⟨_, _, rfl⟩⟩, ⟨_, by have h0 := World.var?_cell gER hv0 0; simpa using h0, Or.inr ⟨_, _, rfl⟩⟩⟩
set_option maxRecDepth 100000 in
theorem lifted (os : Os) (started : os.Started) (H : Type) (enc : TypeId × Value → H) :
    ReturnsInHanded {} Tryd.checked os 4 .any (fun w args => (Rows.fnNeedMatchSpec.pre enc Tryd.prog Tryd.f4 [] false w args ∧ laidMetH Tryd.prog Rows.fnNeedMatchRow.laid w) ∧ sizedMet enc Tryd.prog Tryd.f4 (OpenSpec.ofChange Rows.fnNeedMatchSpec) false w args)
      (Rows.fnNeedMatchSpec.post enc Tryd.prog Tryd.f4 false true false false) := by
  refine returnsInHanded_of_change_and (C := Tryd.checked) (X := fun w _ => laidMetH Tryd.prog Rows.fnNeedMatchRow.laid w) (fun _ _ _ hh h => h.of_heap hh) own started (by kernel_rfl) Tryd.func4
    (ChangeSpec.witness_shaped (enc := enc) (C := Tryd.checked) (os := os) (X := fun w _ => laidMetH Tryd.prog Rows.fnNeedMatchRow.laid w) false (World.laidAll Tryd.prog os Rows.fnNeedMatchRow.laid) #[.agg #[.string ByteArray.empty, .string ByteArray.empty, .slice none 0 0], .slice none 0 0] 8 (World.laidAll_os _ _ _)
      (World.shaped_of_ZipB (by kernel_rfl) (by kernel_rfl)) (by kernel_rfl) (by kernel_rfl) (by kernel_rfl)
      (by rw [MakeChecks.laidMetH_plain _ _ _ (by kernel_rfl)]; exact laidMet_laidAll _ (by kernel_rfl) (by kernel_rfl))) ?_
  intro W base args ds gs before hval0 hW hc _ hL _
  have hval : ∀ (j : Nat) t v, Tryd.f4.params[j]? = some t → args[j]? = some v → Value.okWide Tryd.prog W .any base t v := hval0
  have hW' := hW
  obtain ⟨p, q, hA0, hV, rfl, _, _⟩ := hW
  have hA : DataW.TrodAll enc Tryd.prog W 0 (fun _ => true) true Tryd.f4.params.toList args.toList ds p := hA0
  rw [Tryd.params4] at hA hval
  obtain ⟨v0, vs0, d0, ds0, p0, q0, hargs, rfl, rfl, h0, r0⟩ := trodAll_cons hA
  obtain ⟨v1, vs1, d1, ds1, p1, q1, rfl, rfl, rfl, h1, r1⟩ := trodAll_cons r0
  obtain ⟨rfl, rfl, rfl⟩ := trodAll_nil r1
  obtain rfl : args = #[v0, v1] := by cases args; simp_all
  obtain ⟨rfl, rfl⟩ := trodVars_none hV
  have k0 := h0
  have lt0 : ∀ x ∈ p0, x.block < W.heap.size := by obtain ⟨m, hm⟩ := k0; exact DataW.trod_lt m _ _ _ hm
  obtain ⟨cs0, rfl, _⟩ := okWide_struct Tryd.underlying24 (hval 0 24 v0 rfl rfl)
  obtain ⟨z0, hz0, iz0⟩ := Opens.open_any (Opens.opens_struct Tryd.underlying24 (by kernel_rfl) (Opens.from_cons rfl rfl (Opens.opens_string Tryd.underlying9) (by kernel_rfl) (Opens.from_cons rfl rfl (Opens.opens_string Tryd.underlying9) (by kernel_rfl) (Opens.from_last rfl rfl (Opens.opens_slice Tryd.underlying22 (by kernel_rfl) (Opens.opens_string Tryd.underlying9)) (by kernel_rfl))))) k0
  obtain ⟨_, _, e0, rfl, ⟨_, _, rfl, rfl, ⟨A0_2, c0_2, rfl, hc0_2, hr0_2⟩⟩⟩ := hz0
  obtain rfl : cs0 = #[.string z0.1, .string z0.2.1, .slice A0_2 z0.2.2.length c0_2] := by apply Array.toList_inj.1; simpa [Value.cells] using e0
  have k1 := h1
  have lt1 : ∀ x ∈ p1, x.block < W.heap.size := by obtain ⟨m, hm⟩ := k1; exact DataW.trod_lt m _ _ _ hm
  obtain ⟨a1, len1, cap1, rfl⟩ := okWide_slice Tryd.underlying30 (hval 1 30 v1 rfl rfl)
  obtain ⟨z1, ⟨A1, c1, e1, hc1, hr1⟩, iz1⟩ := Opens.open_any (Opens.opens_slice Tryd.underlying30 (by kernel_rfl) (Opens.opens_iso (fun x : S37 => (x.f0, x.f1)) (fun y => ⟨y.1, y.2⟩) (fun _ => rfl) (Opens.opens_struct Tryd.underlying37 (by kernel_rfl) (Opens.from_cons rfl rfl (Opens.opens_string Tryd.underlying9) (by kernel_rfl) (Opens.from_last rfl rfl (Opens.opens_string Tryd.underlying9) (by kernel_rfl)))))) k1
  simp only [Value.cells, List.cons.injEq, Value.slice.injEq, and_true] at e1
  obtain ⟨rfl, rfl, rfl⟩ := e1
  clear hA0 hval0
  refine (NeedM.law_walk z0.1 z0.2.1 _ _ z0.2.2 _ _ z1 W hr0_2 hc0_2 hr1 hc1 (errs_is hL)).mono fun e W' ⟨he, bel⟩ => ?_
  subst he
  exact ⟨_, rfl, _, _, _, [], _, [], hW', trodAll_mk1 (shut_bool Tryd.underlying4 _), (trodAll_cons_mk (Below.trod laidOut (by kernel_rfl) (of_decide_eq_true (by kernel_rfl)) k0 bel lt0) (trodAll_cons_mk (Below.trod laidOut (by kernel_rfl) (of_decide_eq_true (by kernel_rfl)) k1 bel lt1) trodAll_mk0)), rfl, bel.frame _, fun h => by cases h⟩
theorem said : Rows.FnNeedMatchSaid :=
  OpenClaim.holds_of_wide 4 Tryd.f4 rfl rfl rfl rfl rfl rfl rfl ⟨rfl, rfl, rfl, rfl, rfl⟩ rfl rfl rfl rfl rfl (by kernel_rfl) Tryd.func4 (by kernel_rfl)
    (of_decide_eq_true (by kernel_rfl)) (by unfold Func.isWrapper; first | (rw [if_pos (by decide +kernel)]; kernel_rfl) | (rw [if_neg (by decide +kernel)]; exact ⟨rfl, rfl⟩))
    (fun os started H enc _ => lifted os started H enc)
theorem card : Rows.FnNeedMatchCardSaid :=
  Claim7.holds_tied_plain_at .later [] [.data, .data, .data, .sentinel, .sentinel] true (true, "4dccc129be38d20e3ba8d93b8f5839885eac46d75eefa2640b38c0e9523828ba") true said (fun _ h => by cases h) (by kernel_rfl) (fun _ h => by cases h) fnNeedMatch_row_tie rfl ⟨rfl, rfl⟩ (by kernel_rfl) rfl
    (fun f fn hf hfn => by
      obtain rfl : f = 4 := Option.some.inj ((show Tryd.prog.funcNamed "pub-stockroom/laws.FnNeedMatch" = some 4 by kernel_rfl).symm.trans hf) |>.symm
      obtain rfl : fn = Tryd.f4 := (Option.some.inj (Tryd.func4.symm.trans hfn)).symm
      exact ⟨by kernel_rfl, fun j t ht => by
        rw [Tryd.params4] at ht
        have hm : t ∈ [24, 30] := by simpa using Array.mem_of_getElem? ht
        have hall : ([24, 30].all fun u => !Tryd.prog.wantsStandIn u) = true := by kernel_rfl
        exact (show Tryd.prog.wantsStandIn t = false by simpa using List.all_eq_true.1 hall t hm)⟩)
    (by kernel_rfl)
#print axioms card
end Go.Proofs.YtlhbmifffmegeaaDoor.fnNeedMatch
namespace Go.Proofs.YtlhbmifffmegeaaDoor
/-- The card, under a short name, for the claim. -/
theorem fnNeedMatchCard_holds : Rows.FnNeedMatchCardSaid := fnNeedMatch.card
end Go.Proofs.YtlhbmifffmegeaaDoor
