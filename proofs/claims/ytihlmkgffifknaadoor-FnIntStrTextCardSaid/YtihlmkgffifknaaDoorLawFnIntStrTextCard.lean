/- A number or a text: the row with its listed variables, and its card. -/
import Derived.Test.YtihlmkgffifknaaDoorRows
import Derived.Test.YtihlmkgffifknaaDoorCards
import Derived.Test.YtihlmkgffifknaaDoorTie
import Derived.Test.YtihlmkgffifknaaDoorIstrL
import Derived.Stop.LaidErr
import Derived.ShutString
import Derived.WalkKit
import Derived.ProofKit
import Derived.OpenShut
import Derived.Below
import Derived.LaidMore
import Derived.Lay
import Derived.SevenTiedAt
import Derived.Stop.Joined
import Derived.Lib.LaidTab
set_option linter.unusedVariables false
set_option linter.unusedSimpArgs false
namespace Go.Proofs.YtihlmkgffifknaaDoor.fnIntStrText
open Go.ChangeMaps (open_string shut_string)
open Go.ChangeShapes Go.WideShapes Go.ChangeAt Go.RowKit

theorem own : ownKnob Tryd.prog.godebug = none := by kernel_rfl
theorem laidOut : laidOutB Tryd.prog = true := by kernel_rfl
theorem tabData_is : (Rows.laid_internal_strconv_uint64pow10 : DataW Unit) = Lib.tabData .u64 Lib.pow10Tab := by kernel_rfl
theorem pow_is {W : World} (h : laidMetH Tryd.prog Rows.fnIntStrTextRow.laid W) : Lib.TabIs Tryd.prog W "internal/strconv.uint64pow10" .u64 Lib.pow10Tab := by
  rw [MakeChecks.laidMetH_plain _ _ _ (by kernel_rfl)] at h
  obtain ⟨ps, ⟨g0, t0, cs0, f0, p0, q0, hg0, ht0, hv0, hd0, ⟨g1, t1, cs1, f1, p1, q1, hg1, ht1, hv1, hd1, ⟨g2, t2, cs2, f2, p2, q2, hg2, ht2, hv2, hd2, _, _⟩, _⟩, _⟩, _, _⟩ := h
  obtain rfl := Option.some.inj ((show Tryd.prog.globalNamed "internal/strconv.uint64pow10" = some 7 by kernel_rfl).symm.trans hg2)
  obtain rfl := Option.some.inj ((show (Tryd.prog.globals[7]?).map (·.type) = some 103 by kernel_rfl).symm.trans ht2)
  rw [tabData_is] at hd2
  unfold Lib.TabIs
  rw [hv2, ← Lib.cells_of_tab Tryd.underlying103 Tryd.underlying46 (by kernel_rfl) (by kernel_rfl) hd2]

theorem gES : Tryd.prog.globalNamed "strconv.ErrSyntax" = some 5 := by kernel_rfl
theorem gER : Tryd.prog.globalNamed "strconv.ErrRange" = some 6 := by kernel_rfl
theorem tES : (Tryd.prog.globals[5]?).map (·.type) = some 53 := by kernel_rfl
theorem tER : (Tryd.prog.globals[6]?).map (·.type) = some 53 := by kernel_rfl
theorem cells74 : Tryd.prog.cellsOf 74 = 1 := by kernel_rfl
theorem cells9 : Tryd.prog.cellsOf 9 = 1 := by kernel_rfl
theorem star : "*" ++ "errors.errorString" = "*errors.errorString" := by decide
theorem row72 (u : TypeId) (h : Tryd.prog.typeName? 3 u = some "*errors.errorString") : u = 72 :=
  typeName_ptr_named (nm := "errors.errorString") (by rw [star]; kernel_rfl) (by kernel_rfl) (by decide) u (by rw [star]; exact h)
theorem errs_is {W : World} (h : laidMetH Tryd.prog Rows.fnIntStrTextRow.laid W) : Istr.Errs W := by
  rw [MakeChecks.laidMetH_plain _ _ _ (by kernel_rfl)] at h
  have h3 := h.tail.tail.tail
  obtain ⟨a0, s0, hv0, -, -, -⟩ := laid_sentinel h3 gER tER Tryd.underlying53 row72 Tryd.underlying72 Tryd.underlying74 rfl rfl Tryd.underlying9 cells74 cells9
  obtain ⟨a1, s1, hv1, -, -, -⟩ := laid_sentinel h3.tail gES tES Tryd.underlying53 row72 Tryd.underlying72 Tryd.underlying74 rfl rfl Tryd.underlying9 cells74 cells9
  exact ⟨_, _, by have h0 := World.var?_cell gES hv1 0; simpa using h0, Or.inr ⟨_, _, rfl⟩, by have h0 := World.var?_cell gER hv0 0; simpa using h0, Or.inr ⟨_, _, rfl⟩⟩
theorem wf32 {x : Int} (h : (Lit.int .i32 x).wf = true) : -2147483648 ≤ x ∧ x ≤ 2147483647 := by
  simp [Lit.wf, IntKind.min, IntKind.max, IntKind.signed, IntKind.bits] at h
  omega
theorem law_out (n : Int) (s : ByteArray) (h : 2147483647 < s.size) (W : World) :
    Calls Tryd.prog 4 #[.int .i32 n, .string s] W fun e w' => e = .returned (.bool true) ∧ Below W.heap.size W w' := by
  have q0 : (2147483647 < (s.size : Int)) = True := eq_true (by omega)
  have q0' : (2147483647 < s.size) = True := eq_true h
  clear h
  go_enter Tryd.func4, Tryd.ntmps4
  go_wp2
  go_ret
  exact ⟨rfl, Below.refl _ _⟩
theorem law_all (n : Int) (s : ByteArray) (wn : (Lit.int .i32 n).wf = true) (W : World) (htab : Lib.TabIs Tryd.prog W "internal/strconv.uint64pow10" .u64 Lib.pow10Tab) (he : Istr.Errs W) :
    Calls Tryd.prog 4 #[.int .i32 n, .string s] W fun e w' => e = .returned (.bool true) ∧ Below W.heap.size W w' := by
  have h := wf32 wn
  by_cases hs : s.size ≤ 2147483647
  · exact Istr.law_in n h.1 h.2 s hs W htab he
  · exact law_out n s (by omega) W

set_option maxRecDepth 100000 in
theorem lifted (os : Os) (started : os.Started) (H : Type) (enc : TypeId × Value → H) :
    ReturnsInHanded {} Tryd.checked os 4 .any (fun w args => (Rows.fnIntStrTextSpec.pre enc Tryd.prog Tryd.f4 [] false w args ∧ laidMetH Tryd.prog Rows.fnIntStrTextRow.laid w) ∧ sizedMet enc Tryd.prog Tryd.f4 (OpenSpec.ofChange Rows.fnIntStrTextSpec) false w args)
      (Rows.fnIntStrTextSpec.post enc Tryd.prog Tryd.f4 false true false false) := by
  refine returnsInHanded_of_change_and (C := Tryd.checked) (X := fun w _ => laidMetH Tryd.prog Rows.fnIntStrTextRow.laid w) (fun _ _ _ hh h => h.of_heap hh) own started (by kernel_rfl) Tryd.func4
    (ChangeSpec.witness_shaped (enc := enc) (C := Tryd.checked) (os := os) (X := fun w _ => laidMetH Tryd.prog Rows.fnIntStrTextRow.laid w) false (World.laidAll Tryd.prog os Rows.fnIntStrTextRow.laid) #[.int .i32 0, .string ⟨#[]⟩] 8 (World.laidAll_os _ _ _)
      (World.shaped_of_ZipB (by kernel_rfl) (by kernel_rfl)) (by kernel_rfl) (by kernel_rfl) (by kernel_rfl)
      (by rw [MakeChecks.laidMetH_plain _ _ _ (by kernel_rfl)]; exact laidMet_laidAll _ (by kernel_rfl) (by kernel_rfl))) ?_
  intro W base args ds gs before hval0 hW hc _ hL _
  have hval : ∀ (j : Nat) t v, Tryd.f4.params[j]? = some t → args[j]? = some v → Value.okWide Tryd.prog W .any base t v := hval0
  have hW' := hW
  obtain ⟨p, q, hA0, hV, rfl, _, _⟩ := hW
  have hA : DataW.TrodAll enc Tryd.prog W 0 (fun _ => true) true Tryd.f4.params.toList args.toList ds p := hA0
  rw [Tryd.params4] at hA hval
  obtain ⟨v0, vs0, d0, ds0, p0, q0, hargs, rfl, rfl, h0, r0⟩ := trodAll_cons hA
  obtain ⟨v1, vs1, d1, ds1, p1, q1, rfl, rfl, rfl, h1, r1⟩ := trodAll_cons r0
  obtain ⟨rfl, rfl, rfl⟩ := trodAll_nil r1
  obtain rfl : args = #[v0, v1] := by cases args; simp_all
  obtain ⟨rfl, rfl⟩ := trodVars_none hV
  obtain ⟨a0, rfl, rfl, rfl, w0⟩ := open_int Tryd.underlying21 (hval 0 21 v0 rfl rfl) h0
  obtain ⟨a1, rfl, rfl, rfl, w1⟩ := open_string Tryd.underlying9 (hval 1 9 v1 rfl rfl) h1
  clear hA0 hval0
  refine (law_all a0 a1 w0 W (pow_is hL) (errs_is hL)).mono fun e W' ⟨he, bel⟩ => ?_
  subst he
  exact ⟨_, rfl, _, _, _, [], _, [], hW', trodAll_mk1 (shut_bool Tryd.underlying4 _), (trodAll_cons_mk (shut_int Tryd.underlying21 w0) (trodAll_cons_mk (shut_string Tryd.underlying9 w1) trodAll_mk0)), rfl, bel.frame _, fun h => by cases h⟩

theorem said : Rows.FnIntStrTextSaid :=
  OpenClaim.holds_of_wide 4 Tryd.f4 rfl rfl rfl rfl rfl rfl rfl ⟨rfl, rfl, rfl, rfl, rfl⟩ rfl rfl rfl rfl rfl (by kernel_rfl) Tryd.func4 (by kernel_rfl)
    (of_decide_eq_true (by kernel_rfl)) (by unfold Func.isWrapper; first | (rw [if_pos (by decide +kernel)]; kernel_rfl) | (rw [if_neg (by decide +kernel)]; exact ⟨rfl, rfl⟩))
    (fun os started H enc _ => lifted os started H enc)
theorem card : Rows.FnIntStrTextCardSaid :=
  Claim7.holds_tied_plain_at .later [] [.data, .data, .data, .sentinel, .sentinel] true (true, "9d65dd286dd5e743bcb9b1e5ea3988b1bc4f09240a97f7ddeba930bafccb4a5c") true said (fun _ h => by cases h) (by kernel_rfl) (fun _ h => by cases h) fnIntStrText_row_tie rfl ⟨rfl, rfl⟩ (by kernel_rfl) rfl
    (fun f fn hf hfn => by
      obtain rfl : f = 4 := Option.some.inj ((show Tryd.prog.funcNamed "pub-stockroom/laws.FnIntStrText" = some 4 by kernel_rfl).symm.trans hf) |>.symm
      obtain rfl : fn = Tryd.f4 := (Option.some.inj (Tryd.func4.symm.trans hfn)).symm
      exact ⟨by kernel_rfl, fun j t ht => by
        rw [Tryd.params4] at ht
        have hm : t ∈ [21, 9] := by simpa using Array.mem_of_getElem? ht
        have hall : ([21, 9].all fun u => !Tryd.prog.wantsStandIn u) = true := by kernel_rfl
        exact (show Tryd.prog.wantsStandIn t = false by simpa using List.all_eq_true.1 hall t hm)⟩)
    (by kernel_rfl)
end Go.Proofs.YtihlmkgffifknaaDoor.fnIntStrText
namespace Go.Proofs.YtihlmkgffifknaaDoor
/-- The card, under a short name, for the claim. -/
theorem fnIntStrTextCard_holds : Rows.FnIntStrTextCardSaid := fnIntStrText.card
end Go.Proofs.YtihlmkgffifknaaDoor
