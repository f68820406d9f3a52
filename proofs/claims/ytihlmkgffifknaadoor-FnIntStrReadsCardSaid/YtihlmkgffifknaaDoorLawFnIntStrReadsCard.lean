/- The reader of the fields: the row with its listed variables, and its card. -/
import Derived.Test.YtihlmkgffifknaaDoorRows
import Derived.Test.YtihlmkgffifknaaDoorCards
import Derived.Test.YtihlmkgffifknaaDoorTie
import Derived.Test.YtihlmkgffifknaaDoorReadL
import Derived.Stop.LaidErr
import Derived.ShutString
import Derived.WalkKit
import Derived.ProofKit
import Derived.OpenShut
import Derived.Below
import Derived.LaidMore
import Derived.Lay
import Derived.SevenTiedAt
import Derived.Stop.Joined
import Derived.ChangeSlices
set_option linter.unusedVariables false
set_option linter.unusedSimpArgs false
namespace Go.Proofs.YtihlmkgffifknaaDoor.fnIntStrReads
open Go.ChangeMaps (open_string shut_string)
open Go.ChangeShapes Go.WideShapes Go.ChangeAt Go.RowKit

theorem own : ownKnob Tryd.prog.godebug = none := by kernel_rfl
theorem laidOut : laidOutB Tryd.prog = true := by kernel_rfl
theorem g0 : Tryd.prog.globalNamed "pub-stockroom/pub/apimachinery/pkg/util/intstr.ErrIntOverflowGenerated" = some 0 := by kernel_rfl
theorem g1 : Tryd.prog.globalNamed "io.ErrUnexpectedEOF" = some 1 := by kernel_rfl
theorem g2 : Tryd.prog.globalNamed "pub-stockroom/pub/apimachinery/pkg/util/intstr.ErrInvalidLengthGenerated" = some 2 := by kernel_rfl
theorem t0 : (Tryd.prog.globals[0]?).map (·.type) = some 53 := by kernel_rfl
theorem t1 : (Tryd.prog.globals[1]?).map (·.type) = some 53 := by kernel_rfl
theorem t2 : (Tryd.prog.globals[2]?).map (·.type) = some 53 := by kernel_rfl
theorem cells74 : Tryd.prog.cellsOf 74 = 1 := by kernel_rfl
theorem cells9 : Tryd.prog.cellsOf 9 = 1 := by kernel_rfl
theorem star : "*" ++ "errors.errorString" = "*errors.errorString" := by decide
theorem row72 (u : TypeId) (h : Tryd.prog.typeName? 3 u = some "*errors.errorString") : u = 72 :=
  typeName_ptr_named (nm := "errors.errorString") (by rw [star]; kernel_rfl) (by kernel_rfl) (by decide) u (by rw [star]; exact h)
theorem errs_is {W : World} (h : laidMetH Tryd.prog Rows.fnIntStrReadsRow.laid W) : Read.GErr W := by
  rw [MakeChecks.laidMetH_plain _ _ _ (by kernel_rfl)] at h
  obtain ⟨a1, s1, hv1, -, -, -⟩ := laid_sentinel h g1 t1 Tryd.underlying53 row72 Tryd.underlying72 Tryd.underlying74 rfl rfl Tryd.underlying9 cells74 cells9
  obtain ⟨a2, s2, hv2, -, -, -⟩ := laid_sentinel h.tail g2 t2 Tryd.underlying53 row72 Tryd.underlying72 Tryd.underlying74 rfl rfl Tryd.underlying9 cells74 cells9
  obtain ⟨a0, s0, hv0, -, -, -⟩ := laid_sentinel h.tail.tail g0 t0 Tryd.underlying53 row72 Tryd.underlying72 Tryd.underlying74 rfl rfl Tryd.underlying9 cells74 cells9
  exact ⟨_, _, _, _, _, _, by have h0 := World.var?_cell g0 hv0 0; simpa using h0, by have h0 := World.var?_cell g1 hv1 0; simpa using h0, by have h0 := World.var?_cell g2 hv2 0; simpa using h0⟩
theorem law_out (Ao : Option Addr) (n cap : Nat) (h : 2147483647 < n) (W : World) :
    Calls Tryd.prog 3 #[.slice Ao n cap] W fun e w' => e = .returned (.bool true) ∧ Below W.heap.size W w' := by
  have q0 : (2147483647 < (n : Int)) = True := eq_true (by omega)
  have q0' : (2147483647 < n) = True := eq_true h
  clear h
  go_enter Tryd.func3, Tryd.ntmps3
  go_wp2
  go_ret
  exact ⟨rfl, Below.refl _ _⟩
theorem law_all (Ao : Option Addr) (b n cap : Nat) (zs : List Int) (hn : n = zs.length) (W : World) (hz : Read.Here W Ao b zs) (hr : Read.Bys zs) (hcap : n ≤ cap) (he : Read.GErr W) :
    Calls Tryd.prog 3 #[.slice Ao n cap] W fun e w' => e = .returned (.bool true) ∧ Below W.heap.size W w' := by
  subst hn
  by_cases hs : zs.length ≤ 2147483647
  · exact Read.law_calls Ao b cap zs W hz hr hs hcap he
  · exact law_out Ao zs.length cap (by omega) W

set_option maxRecDepth 100000 in
theorem lifted (os : Os) (started : os.Started) (H : Type) (enc : TypeId × Value → H) :
    ReturnsInHanded {} Tryd.checked os 3 .any (fun w args => (Rows.fnIntStrReadsSpec.pre enc Tryd.prog Tryd.f3 [] false w args ∧ laidMetH Tryd.prog Rows.fnIntStrReadsRow.laid w) ∧ sizedMet enc Tryd.prog Tryd.f3 (OpenSpec.ofChange Rows.fnIntStrReadsSpec) false w args)
      (Rows.fnIntStrReadsSpec.post enc Tryd.prog Tryd.f3 false true false false) := by
  refine returnsInHanded_of_change_and (C := Tryd.checked) (X := fun w _ => laidMetH Tryd.prog Rows.fnIntStrReadsRow.laid w) (fun _ _ _ hh h => h.of_heap hh) own started (by kernel_rfl) Tryd.func3
    (ChangeSpec.witness_shaped (enc := enc) (C := Tryd.checked) (os := os) (X := fun w _ => laidMetH Tryd.prog Rows.fnIntStrReadsRow.laid w) false (World.laidAll Tryd.prog os Rows.fnIntStrReadsRow.laid) #[.slice none 0 0] 8 (World.laidAll_os _ _ _)
      (World.shaped_of_ZipB (by kernel_rfl) (by kernel_rfl)) (by kernel_rfl) (by kernel_rfl) (by kernel_rfl)
      (by rw [MakeChecks.laidMetH_plain _ _ _ (by kernel_rfl)]; exact laidMet_laidAll _ (by kernel_rfl) (by kernel_rfl))) ?_
  intro W base args ds gs before hval0 hW hc _ hL _
  have hval : ∀ (j : Nat) t v, Tryd.f3.params[j]? = some t → args[j]? = some v → Value.okWide Tryd.prog W .any base t v := hval0
  have hW' := hW
  obtain ⟨p, q, hA0, hV, rfl, _, _⟩ := hW
  have hA : DataW.TrodAll enc Tryd.prog W 0 (fun _ => true) true Tryd.f3.params.toList args.toList ds p := hA0
  rw [Tryd.params3] at hA hval
  obtain ⟨v0, vs0, d0, ds0, p0, q0, hargs, rfl, rfl, h0, r0⟩ := trodAll_cons hA
  obtain ⟨rfl, rfl, rfl⟩ := trodAll_nil r0
  obtain rfl : args = #[v0] := by cases args; simp_all
  obtain ⟨rfl, rfl⟩ := trodVars_none hV
  obtain ⟨a0, len0, cap0, rfl⟩ := okWide_slice Tryd.underlying22 (hval 0 22 v0 rfl rfl)
  have k0 := h0
  have lt0 : ∀ x ∈ p0, x.block < W.heap.size := by obtain ⟨m, hm⟩ := k0; exact DataW.trod_lt m _ _ _ hm
  have row : ∃ (b : Nat) (zs : List Int), len0 = zs.length ∧ Read.Here W a0 b zs ∧ Read.Bys zs ∧ len0 ≤ cap0 := by
    obtain ⟨fuel, hf⟩ := h0
    rcases open_ints Tryd.underlying22 Tryd.underlying5 (by kernel_rfl) hf with ⟨hcs, _⟩ | ⟨x, l, c, zs, hcs, _, hl, hm, hz, _, hcell, hwz⟩
    · simp [Value.cells] at hcs
      obtain ⟨rfl, rfl, rfl⟩ := hcs
      exact ⟨0, [], rfl, fun h => absurd h (by simp), fun j => by simp, Nat.le_refl _⟩
    · simp [Value.cells] at hcs
      obtain ⟨rfl, rfl, rfl⟩ := hcs
      have hzl : zs.length = cap0 := by simpa using hz
      by_cases h00 : 0 < len0
      · obtain ⟨b, off, rfl, hc⟩ := ints_at hcell (by omega)
        refine ⟨b, zs.take len0, by simp; omega, fun _ => ⟨off, rfl, fun j hj => ?_⟩, fun j => ?_, hl⟩
        · rw [List.length_take] at hj
          rw [hc j (by omega)]
          simp [List.getD_eq_getElem?_getD, List.getElem?_take_of_lt (show j < len0 by omega)]
        · rw [List.getD_eq_getElem?_getD, List.getElem?_take]
          split
          · exact range_u8 hwz j
          · simp
      · exact ⟨0, [], by simp; omega, fun h => absurd h (by simp), fun j => by simp, hl⟩
  obtain ⟨b, zs, hn, hz, hr, hcp⟩ := row
  clear hA0 hval0
  refine (law_all a0 b len0 cap0 zs hn W hz hr hcp (errs_is hL)).mono fun e W' ⟨he, bel⟩ => ?_
  subst he
  exact ⟨_, rfl, _, _, _, [], _, [], hW', trodAll_mk1 (shut_bool Tryd.underlying4 _), (trodAll_cons_mk (Below.trod laidOut (by kernel_rfl) (of_decide_eq_true (by kernel_rfl)) k0 bel lt0) trodAll_mk0), rfl, bel.frame _, fun h => by cases h⟩

theorem said : Rows.FnIntStrReadsSaid :=
  OpenClaim.holds_of_wide 3 Tryd.f3 rfl rfl rfl rfl rfl rfl rfl ⟨rfl, rfl, rfl, rfl, rfl⟩ rfl rfl rfl rfl rfl (by kernel_rfl) Tryd.func3 (by kernel_rfl)
    (of_decide_eq_true (by kernel_rfl)) (by unfold Func.isWrapper; first | (rw [if_pos (by decide +kernel)]; kernel_rfl) | (rw [if_neg (by decide +kernel)]; exact ⟨rfl, rfl⟩))
    (fun os started H enc _ => lifted os started H enc)
theorem card : Rows.FnIntStrReadsCardSaid :=
  Claim7.holds_tied_plain_at .later [] [.sentinel, .sentinel, .sentinel, .sentinel] true (true, "9d65dd286dd5e743bcb9b1e5ea3988b1bc4f09240a97f7ddeba930bafccb4a5c") true said (fun _ h => by cases h) (by kernel_rfl) (fun _ h => by cases h) fnIntStrReads_row_tie rfl ⟨rfl, rfl⟩ (by kernel_rfl) rfl
    (fun f fn hf hfn => by
      obtain rfl : f = 3 := Option.some.inj ((show Tryd.prog.funcNamed "pub-stockroom/laws.FnIntStrReads" = some 3 by kernel_rfl).symm.trans hf) |>.symm
      obtain rfl : fn = Tryd.f3 := (Option.some.inj (Tryd.func3.symm.trans hfn)).symm
      exact ⟨by kernel_rfl, fun j t ht => by
        rw [Tryd.params3] at ht
        have hm : t ∈ [22] := by simpa using Array.mem_of_getElem? ht
        have hall : ([22].all fun u => !Tryd.prog.wantsStandIn u) = true := by kernel_rfl
        exact (show Tryd.prog.wantsStandIn t = false by simpa using List.all_eq_true.1 hall t hm)⟩)
    (by kernel_rfl)
end Go.Proofs.YtihlmkgffifknaaDoor.fnIntStrReads
namespace Go.Proofs.YtihlmkgffifknaaDoor
/-- The card, under a short name, for the claim. -/
theorem fnIntStrReadsCard_holds : Rows.FnIntStrReadsCardSaid := fnIntStrReads.card
end Go.Proofs.YtihlmkgffifknaaDoor
