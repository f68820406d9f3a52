/- Paths, of bounded bulk: the row with its listed variables and its condition, and its card. -/
import Derived.Test.YtnopoobidhaccaaDoorRows
import Derived.Test.YtnopoobidhaccaaDoorCards
import Derived.Test.YtnopoobidhaccaaDoorTie
import Derived.Test.YtnopoobidhaccaaDoorPathL
import Derived.Test.YtnopoobidhaccaaDoorOpensN
import Derived.ShutString
import Derived.WalkKit
import Derived.ProofKit
import Derived.OpenShut
import Derived.Below
import Derived.LaidMore
import Derived.Lay
import Derived.SevenTiedAt
import Derived.Stop.Joined
import Derived.Deep.DeepHandedRow
import Derived.Lib.LaidTab
set_option linter.unusedVariables false
set_option linter.unusedSimpArgs false
namespace Go.Proofs.YtnopoobidhaccaaDoor.fnPathText
open Go.ChangeMaps (open_string shut_string)
open Go.ChangeShapes Go.WideShapes Go.ChangeAt Go.RowKit
open Go.Proofs.YtnopoobidhaccaaDoor.PFnPathText Go.Proofs.YtnopoobidhaccaaDoor.OpensN Go.Proofs.YtnopoobidhaccaaDoorW.PrintWords

theorem own : ownKnob Tryd.prog.godebug = none := by kernel_rfl
theorem laidOut : laidOutB Tryd.prog = true := by kernel_rfl
theorem tabData_is : (Rows.laid_internal_strconv_uint64pow10 : DataW Unit) = Lib.tabData .u64 Lib.pow10Tab := by kernel_rfl
theorem pow_is {W : World} (h : laidMetH Tryd.prog Rows.fnPathTextUptoRow.laid W) : Lib.TabIs Tryd.prog W "internal/strconv.uint64pow10" .u64 Lib.pow10Tab := by
  rw [MakeChecks.laidMetH_plain _ _ _ (by kernel_rfl)] at h
  obtain ⟨ps, ⟨g0, t0, cs0, f0, p0, q0, hg0, ht0, hv0, hd0, ⟨g1, t1, cs1, f1, p1, q1, hg1, ht1, hv1, hd1, ⟨g2, t2, cs2, f2, p2, q2, hg2, ht2, hv2, hd2, _, _⟩, _⟩, _⟩, _, _⟩ := h
  obtain rfl := Option.some.inj ((show Tryd.prog.globalNamed "internal/strconv.uint64pow10" = some 1 by kernel_rfl).symm.trans hg2)
  obtain rfl := Option.some.inj ((show (Tryd.prog.globals[1]?).map (·.type) = some 97 by kernel_rfl).symm.trans ht2)
  rw [tabData_is] at hd2
  unfold Lib.TabIs
  rw [hv2, ← Lib.cells_of_tab Tryd.underlying97 Tryd.underlying62 (by kernel_rfl) (by kernel_rfl) hd2]

theorem opens_way (N : Nat) : OpensN N Tryd.prog 27 k27 (fun x : S27 => (-9223372036854775808 ≤ x.f2 ∧ x.f2 ≤ 9223372036854775807) ∧ x.f1.size ≤ N) := by
  intro H enc w n cs y hy hb
  obtain ⟨a, s, b, rfl, wa, hs, wb⟩ := opens_three (k0 := .i64) (k2 := .i64) Tryd.underlying27 (by kernel_rfl) rfl rfl rfl rfl rfl rfl (by kernel_rfl) (by kernel_rfl) (by kernel_rfl) (by kernel_rfl) (by kernel_rfl) (by kernel_rfl) hy hb
  refine ⟨⟨a, s, b⟩, k27_mk w ⟨a, s, b⟩, ?_, hs⟩
  simp [Lit.wf, IntKind.min, IntKind.max, IntKind.signed, IntKind.bits] at wb
  exact ⟨by show -9223372036854775808 ≤ b; omega, by show b ≤ 9223372036854775807; omega⟩

set_option maxRecDepth 100000 in
theorem contract (H : Type) (enc : TypeId × Value → H) (W : World) (base : Nat) (args : Array Value) (ds gs : List (DataW H)) (before : List MemPlace)
    (hval0 : ∀ (j : Nat) t v, Tryd.f3.params[j]? = some t → args[j]? = some v → Value.okWide Tryd.prog W .any base t v)
    (hW : DataW.Whole enc Tryd.prog Tryd.f3.params.toList Rows.fnPathTextSpec.vars false W args.toList ds gs before) (hk : Rows.uptoSmall H (ds ++ gs) = true) (hL : laidMetH Tryd.prog Rows.fnPathTextUptoRow.laid W) :
    Calls Tryd.prog 3 args W fun e W' => ∃ v, e = .returned v ∧ Rows.fnPathTextSpec.post enc Tryd.prog Tryd.f3 false true false false W args v W' := by
  have hval : ∀ (j : Nat) t v, Tryd.f3.params[j]? = some t → args[j]? = some v → Value.okWide Tryd.prog W .any base t v := hval0
  have hW' := hW
  obtain ⟨p, q, hA0, hV, rfl, _, _⟩ := hW
  have hA : DataW.TrodAll enc Tryd.prog W 0 (fun _ => true) true Tryd.f3.params.toList args.toList ds p := hA0
  rw [Tryd.params3] at hA hval
  obtain ⟨v0, vs0, d0, ds0, p0, q0, hargs, rfl, rfl, h0, r0⟩ := trodAll_cons hA
  obtain ⟨v1, vs1, d1, ds1, p1, q1, rfl, rfl, rfl, h1, r1⟩ := trodAll_cons r0
  obtain ⟨v2, vs2, d2, ds2, p2, q2, rfl, rfl, rfl, h2, r2⟩ := trodAll_cons r1
  obtain ⟨rfl, rfl, rfl⟩ := trodAll_nil r2
  obtain rfl : args = #[v0, v1, v2] := by cases args; simp_all
  obtain ⟨rfl, rfl⟩ := trodVars_none hV
  have hbulk : Rows.uptoBulkAll [d0, d1, d2] ≤ 1048576 := by
    have := of_decide_eq_true hk
    simpa using this
  have b0 : Rows.uptoBulk d0 ≤ 1048576 := Nat.le_trans (part_le (by simp)) hbulk
  have b1 : Rows.uptoBulk d1 ≤ 1048576 := Nat.le_trans (part_le (by simp)) hbulk
  have b2 : Rows.uptoBulk d2 ≤ 1048576 := Nat.le_trans (part_le (by simp)) hbulk
  obtain ⟨s, rfl, rfl, rfl, hmax⟩ := open_string Tryd.underlying9 (hval 0 9 v0 rfl rfl) h0
  obtain ⟨a1, len1, cap1, rfl⟩ := okWide_slice Tryd.underlying22 (hval 1 22 v1 rfl rfl)
  obtain ⟨a2, len2, cap2, rfl⟩ := okWide_slice Tryd.underlying23 (hval 2 23 v2 rfl rfl)
  have k1 := h1
  have k2 := h2
  have lt1 : ∀ x ∈ p1, x.block < W.heap.size := by obtain ⟨m, hm⟩ := k1; exact DataW.trod_lt m _ _ _ hm
  have lt2 : ∀ x ∈ p2, x.block < W.heap.size := by obtain ⟨m, hm⟩ := k2; exact DataW.trod_lt m _ _ _ hm
  have hs : s.size ≤ 1048576 := by
    have e1 : Rows.uptoBulk (DataW.lit (H := H) (.string s.data.toList)) = s.data.toList.length + 1 := by simp [Rows.uptoBulk]
    have e2 : s.size = s.data.toList.length := by rw [Array.length_toList]; rfl
    rw [e1] at b0
    omega
  have row1 : ∃ more : List ByteArray, len1 = more.length ∧ len1 ≤ cap1 ∧ Kd.C Kd.string W a1 more.length more ∧ more.length ≤ 1048576 ∧ ∀ x ∈ more, x.size ≤ 1048576 := by
    obtain ⟨fuel, hf⟩ := h1
    obtain ⟨xs, ⟨A, c, hcs, hle, hC⟩, hl, hx⟩ := opens_slice (N := 1048576) Tryd.underlying22 (by kernel_rfl) (opens_string Tryd.underlying9) H enc W fuel _ _ hf b1
    simp [Value.cells] at hcs
    obtain ⟨rfl, rfl, rfl⟩ := hcs
    exact ⟨xs, rfl, hle, hC, hl, hx⟩
  have row2 : ∃ ls : List S27, len2 = ls.length ∧ len2 ≤ cap2 ∧ Kd.C k27 W a2 ls.length ls ∧ ls.length ≤ 1048576 ∧ ∀ x ∈ ls, (-9223372036854775808 ≤ x.f2 ∧ x.f2 ≤ 9223372036854775807) ∧ x.f1.size ≤ 1048576 := by
    obtain ⟨fuel, hf⟩ := h2
    obtain ⟨xs, ⟨A, c, hcs, hle, hC⟩, hl, hx⟩ := opens_slice (N := 1048576) Tryd.underlying23 (by kernel_rfl) (opens_way 1048576) H enc W fuel _ _ hf b2
    simp [Value.cells] at hcs
    obtain ⟨rfl, rfl, rfl⟩ := hcs
    exact ⟨xs, rfl, hle, hC, hl, hx⟩
  obtain ⟨more, rfl, hc1, hC1, hl1, hx1⟩ := row1
  obtain ⟨ls, rfl, hc2, hC2, hl2, hx2⟩ := row2
  clear hA0 hval0 hk
  refine (Path.law_small s a1 cap1 more a2 cap2 ls W hC1 hc1 hC2 hc2 (fun x hx => (hx2 x hx).1) (by omega) (by omega) (by omega) (fun x hx => Nat.le_trans (hx1 x hx) (by omega)) (fun x hx => Nat.le_trans (hx2 x hx).2 (by omega)) (pow_is hL)).mono fun e W' ⟨he, bel⟩ => ?_
  subst he
  exact ⟨_, rfl, _, _, _, [], _, [], hW', trodAll_mk1 (shut_bool Tryd.underlying4 _),
    (trodAll_cons_mk (shut_string Tryd.underlying9 hmax) (trodAll_cons_mk (Below.trod laidOut (by kernel_rfl) (of_decide_eq_true (by kernel_rfl)) k1 bel lt1) (trodAll_cons_mk (Below.trod laidOut (by kernel_rfl) (of_decide_eq_true (by kernel_rfl)) k2 bel lt2) trodAll_mk0))), rfl, bel.frame _, fun h => by cases h⟩

/-- 'There is an input that fits', over a world of the right shape. -/
theorem witness_shaped {H : Type} {enc : TypeId × Value → H} {C : Checked} {os : Os} {f : FuncId} {fn : Func} {s : OpenSpec} {conds : List PathCond} {apart : Bool} {laid : List (String × DataW Unit)} (modest : Bool) (w0 : World) (args : Array Value) (hos : w0.os = os)
    (hsh : (w0.forCall (fun _ _ => 0) ⟨#[], args, []⟩).Shaped C.prog)
    (hok : Input.okWideB C.prog (w0.forCall (fun _ _ => 0) ⟨#[], args, []⟩) f ⟨#[], args, []⟩ = true)
    (hrow : s.preRow enc C.prog fn conds apart laid (w0.forCall (fun _ _ => 0) ⟨#[], args, []⟩).memory args) :
    ∃ (w : World) (tape : Tape) (i : Input), w.os = os ∧ (w.forCall tape i).Shaped C.prog ∧ i.vars = [] ∧ Input.okWide C.prog (w.forCall tape i) .any w.heap.size f i ∧
      s.preRow enc C.prog fn conds apart laid (w.forCall tape i).memory i.args ∧ ({ modest := modest } : Assume).holds C.prog (lone (Frame.enter C.prog f i.args .normal) [] (w.forCall tape i)) :=
  ⟨w0, fun _ _ => 0, ⟨#[], args, []⟩, hos, hsh, (Input.okWide_of_okWideB (base := 0) hok).1, (Input.okWide_of_okWideB hok).2, hrow, by
    simp only [Assume.holds]
    exact ⟨by simp, by simp, fun _ => Modest.zero, by simp, by simp⟩⟩
/-- An input that fits: no text, and two lists of none. -/
theorem reads (os : Os) {H : Type} (enc : TypeId × Value → H) : ∃ places, DataW.whole enc Tryd.prog ((World.laidAll Tryd.prog os Rows.fnPathTextUptoRow.laid).forCall (fun _ _ => 0) ⟨#[], #[.string ⟨#[]⟩, .slice none 0 0, .slice none 0 0], []⟩).memory Tryd.f3.params.toList Rows.fnPathTextSpec.vars false #[Value.string ⟨#[]⟩, .slice none 0 0, .slice none 0 0].toList 8 = some ([.lit (.string []), .nil, .nil], [], places) :=
  ⟨[], by kernel_rfl⟩

set_option maxRecDepth 100000 in
theorem lifted (os : Os) (started : os.Started) (H : Type) (enc : TypeId × Value → H) (F : Stop.Interp) :
    ReturnsInHanded {} Tryd.checked os 3 .any ((Rows.OpenSpec.upto Rows.fnPathTextSpec).preRow enc Tryd.prog Tryd.f3 Rows.fnPathTextUptoRow.domain false Rows.fnPathTextUptoRow.laid) (((Rows.OpenSpec.upto Rows.fnPathTextSpec).at F).post enc Tryd.prog Tryd.f3 false true false false) := by
  obtain ⟨places, hx⟩ := reads os enc
  refine returnsInHanded_of_row (C := Tryd.checked) (s := Rows.OpenSpec.upto Rows.fnPathTextSpec) own started (by kernel_rfl) Tryd.func3
    (witness_shaped (enc := enc) (C := Tryd.checked) false (World.laidAll Tryd.prog os Rows.fnPathTextUptoRow.laid) #[.string ⟨#[]⟩, .slice none 0 0, .slice none 0 0] (World.laidAll_os _ _ _)
      (World.shaped_of_ZipB (by kernel_rfl) (by kernel_rfl)) (by kernel_rfl)
      (OpenSpec.preRow_of_cond 8 hx (by kernel_rfl) (fun k hk => by cases hk; kernel_rfl) (by kernel_rfl) (by rw [MakeChecks.laidMetH_plain _ _ _ (by kernel_rfl)]; exact laidMet_laidAll _ (by kernel_rfl) (by kernel_rfl)))) ?_
  intro W base args ds gs before hval hW _ hcond _ hL _ _
  exact contract H enc W base args ds gs before hval hW (hcond _ rfl) hL

theorem said : Rows.FnPathTextUptoSaid :=
  OpenClaim.holds_of_cond 3 Tryd.f3 rfl rfl rfl rfl rfl rfl rfl ⟨rfl, rfl, rfl, rfl, rfl⟩ rfl rfl rfl rfl rfl (by kernel_rfl) Tryd.func3 (by kernel_rfl)
    (of_decide_eq_true (by kernel_rfl)) (by unfold Func.isWrapper; first | (rw [if_pos (by decide +kernel)]; kernel_rfl) | (rw [if_neg (by decide +kernel)]; exact ⟨rfl, rfl⟩))
    (fun os started H enc _ F => by rw [OpenClaim.pre_eq_preRow]; exact lifted os started H enc F)
theorem card : Rows.FnPathTextUptoCardSaid :=
  Claim7.holds_tied_plain_at .later [] [.data, .data, .data, .sentinel] true (true, "5fae71e9dc57283299aa14c0a9c73af581d92c60e8c7a8c1c8b385dba32aa451") true said (fun _ h => by cases h) (by kernel_rfl) (fun _ h => by cases h) fnPathTextUpto_row_tie rfl ⟨rfl, rfl⟩ (by kernel_rfl) rfl
    (fun f fn hf hfn => by
      obtain rfl : f = 3 := Option.some.inj ((show Tryd.prog.funcNamed "pub-stockroom/laws.FnPathText" = some 3 by kernel_rfl).symm.trans hf) |>.symm
      obtain rfl : fn = Tryd.f3 := (Option.some.inj (Tryd.func3.symm.trans hfn)).symm
      exact ⟨by kernel_rfl, fun j t ht => by
        rw [Tryd.params3] at ht
        have hm : t ∈ [9, 22, 23] := by simpa using Array.mem_of_getElem? ht
        have hall : ([9, 22, 23].all fun u => !Tryd.prog.wantsStandIn u) = true := by kernel_rfl
        exact (show Tryd.prog.wantsStandIn t = false by simpa using List.all_eq_true.1 hall t hm)⟩)
    (by kernel_rfl)
end Go.Proofs.YtnopoobidhaccaaDoor.fnPathText
namespace Go.Proofs.YtnopoobidhaccaaDoor
/-- The card, under a short name, for the claim. -/
theorem fnPathTextUptoCard_holds : Rows.FnPathTextUptoCardSaid := fnPathText.card
end Go.Proofs.YtnopoobidhaccaaDoor
