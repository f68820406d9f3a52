/- The row of the law, of bounded bulk, with its listed package variables, and its card. -/
import Derived.Test.YthejejeginnbdaaGreatDoorRows
import Derived.Test.YthejejeginnbdaaGreatDoorCards
import Derived.Test.YthejejeginnbdaaGreatDoorTie
import Derived.Test.YthejejeginnbdaaGreatDoorFdTL
import Derived.Test.YthejejeginnbdaaGreatDoorOpensN
import Derived.ShutString
import Derived.WalkKit
import Derived.ProofKit
import Derived.OpenShut
import Derived.Below
import Derived.LaidMore
import Derived.Lay
import Derived.SevenTiedAt
import Derived.Stop.Joined
import Derived.Deep.DeepHandedRow
set_option linter.unusedVariables false
namespace Go.Proofs.YthejejeginnbdaaGreatDoor.fnFieldTurn
open Go.ChangeMaps (open_string shut_string)
open Go.ChangeShapes Go.WideShapes Go.ChangeAt Go.RowKit
open Go.Proofs.YthejejeginnbdaaGreatDoor.PFnFieldTurn Go.Proofs.YthejejeginnbdaaGreatDoor.OpensN Go.Proofs.YthejejeginnbdaaGreatDoorW.PrintWords
theorem own : ownKnob Tryz.prog.godebug = none := by kernel_rfl
theorem laidOut : laidOutB Tryz.prog = true := by kernel_rfl
set_option maxRecDepth 100000 in
theorem contract (H : Type) (enc : TypeId × Value → H) (W : World) (base : Nat) (args : Array Value) (ds gs : List (DataW H)) (before : List MemPlace)
    (hval0 : ∀ (j : Nat) t v, Tryz.f4.params[j]? = some t → args[j]? = some v → Value.okWide Tryz.prog W .any base t v)
    (hW : DataW.Whole enc Tryz.prog Tryz.f4.params.toList Rows.fnFieldTurnSpec.vars false W args.toList ds gs before) (hk : Rows.uptoSmall H (ds ++ gs) = true) (hL : laidMetH Tryz.prog Rows.fnFieldTurnUptoRow.laid W) :
    Calls Tryz.prog 4 args W fun e W' => ∃ v, e = .returned v ∧ Rows.fnFieldTurnSpec.post enc Tryz.prog Tryz.f4 false true false false W args v W' := by
  have hval : ∀ (j : Nat) t v, Tryz.f4.params[j]? = some t → args[j]? = some v → Value.okWide Tryz.prog W .any base t v := hval0
  have hW' := hW
  obtain ⟨p, q, hA0, hV, rfl, _, _⟩ := hW
  have hA : DataW.TrodAll enc Tryz.prog W 0 (fun _ => true) true Tryz.f4.params.toList args.toList ds p := hA0
  rw [Tryz.params4] at hA hval
  obtain ⟨v0, vs0, d0, ds0, p0, q0, hargs, rfl, rfl, h0, r0⟩ := trodAll_cons hA
  obtain ⟨v1, vs1, d1, ds1, p1, q1, rfl, rfl, rfl, h1, r1⟩ := trodAll_cons r0
  obtain ⟨v2, vs2, d2, ds2, p2, q2, rfl, rfl, rfl, h2, r2⟩ := trodAll_cons r1
  obtain ⟨v3, vs3, d3, ds3, p3, q3, rfl, rfl, rfl, h3, r3⟩ := trodAll_cons r2
  obtain ⟨rfl, rfl, rfl⟩ := trodAll_nil r3
  obtain rfl : args = #[v0, v1, v2, v3] := by cases args; simp_all
  obtain ⟨rfl, rfl⟩ := trodVars_none hV
  have hbulk : Rows.uptoBulkAll [d0, d1, d2, d3] ≤ 1048576 := by
    have := of_decide_eq_true hk
    simpa using this
  have b0 : Rows.uptoBulk d0 ≤ 1048576 := Nat.le_trans (part_le (by simp)) hbulk
  have b1 : Rows.uptoBulk d1 ≤ 1048576 := Nat.le_trans (part_le (by simp)) hbulk
  have b2 : Rows.uptoBulk d2 ≤ 1048576 := Nat.le_trans (part_le (by simp)) hbulk
  have b3 : Rows.uptoBulk d3 ≤ 1048576 := Nat.le_trans (part_le (by simp)) hbulk
  obtain ⟨s0, rfl, rfl, rfl, mx0⟩ := open_string Tryz.underlying9 (hval 0 9 v0 rfl rfl) h0
  have m0 : s0.size ≤ 1048576 := by
    have e1 : Rows.uptoBulk (DataW.lit (H := H) (.string s0.data.toList)) = s0.data.toList.length + 1 := by simp [Rows.uptoBulk]
    have e2 : s0.size = s0.data.toList.length := by rw [Array.length_toList]; rfl
    rw [e1] at b0
    omega
  have k1 := h1
  have lt1 : ∀ x ∈ p1, x.block < W.heap.size := by obtain ⟨m, hm⟩ := k1; exact DataW.trod_lt m _ _ _ hm
  obtain ⟨a1, len1, cap1, rfl⟩ := okWide_slice Tryz.underlying22 (hval 1 22 v1 rfl rfl)
  have row1 : ∃ z : List S43, len1 = z.length ∧ len1 ≤ cap1 ∧ Kd.C k43 W a1 z.length z ∧ z.length ≤ 1048576 ∧ ∀ x ∈ z, x.f0.size ≤ 1048576 ∧ x.f1.size ≤ 1048576 := by
    obtain ⟨fuel, hf⟩ := h1
    obtain ⟨xs, ⟨A, c, hcs, hle, hC⟩, hl, hx⟩ := opens_slice (N := 1048576) (d := k43) (I := fun x => x.f0.size ≤ 1048576 ∧ x.f1.size ≤ 1048576) Tryz.underlying22 (by kernel_rfl) (fun H enc w n cs y hy hb => by
      obtain ⟨a, s, rfl, h1, h2⟩ := opens_two Tryz.underlying43 (by kernel_rfl) rfl rfl rfl rfl (by kernel_rfl) (by kernel_rfl) (by kernel_rfl) (by kernel_rfl) hy hb
      exact ⟨⟨a, s⟩, k43_mk w ⟨a, s⟩, h1, h2⟩) H enc W fuel _ _ hf b1
    simp [Value.cells] at hcs
    obtain ⟨rfl, rfl, rfl⟩ := hcs
    exact ⟨xs, rfl, hle, hC, hl, hx⟩
  obtain ⟨z1, rfl, hc1, hr1, hl1, hx1⟩ := row1
  obtain ⟨s2, rfl, rfl, rfl, mx2⟩ := open_string Tryz.underlying9 (hval 2 9 v2 rfl rfl) h2
  have m2 : s2.size ≤ 1048576 := by
    have e1 : Rows.uptoBulk (DataW.lit (H := H) (.string s2.data.toList)) = s2.data.toList.length + 1 := by simp [Rows.uptoBulk]
    have e2 : s2.size = s2.data.toList.length := by rw [Array.length_toList]; rfl
    rw [e1] at b2
    omega
  obtain ⟨s3, rfl, rfl, rfl, mx3⟩ := open_string Tryz.underlying9 (hval 3 9 v3 rfl rfl) h3
  have m3 : s3.size ≤ 1048576 := by
    have e1 : Rows.uptoBulk (DataW.lit (H := H) (.string s3.data.toList)) = s3.data.toList.length + 1 := by simp [Rows.uptoBulk]
    have e2 : s3.size = s3.data.toList.length := by rw [Array.length_toList]; rfl
    rw [e1] at b3
    omega
  clear hA0 hval0 hk
  refine (FdTL.law_walk s0 _ _ z1 s2 s3 W hr1 hc1 m0 hl1 hx1 m2 m3).mono fun e W' ⟨he, bel⟩ => ?_
  subst he
  exact ⟨_, rfl, _, _, _, [], _, [], hW', trodAll_mk1 (shut_bool Tryz.underlying4 _), (trodAll_cons_mk (shut_string Tryz.underlying9 mx0) (trodAll_cons_mk (Below.trod laidOut (by kernel_rfl) (of_decide_eq_true (by kernel_rfl)) k1 bel lt1) (trodAll_cons_mk (shut_string Tryz.underlying9 mx2) (trodAll_cons_mk (shut_string Tryz.underlying9 mx3) trodAll_mk0)))), rfl, bel.frame _, fun h => by cases h⟩

/-- 'There is an input that fits', over a world of the right shape. -/
theorem witness_shaped {H : Type} {enc : TypeId × Value → H} {C : Checked} {os : Os} {f : FuncId} {fn : Func} {s : OpenSpec} {conds : List PathCond} {apart : Bool} {laid : List (String × DataW Unit)} (modest : Bool) (w0 : World) (args : Array Value) (hos : w0.os = os)
    (hsh : (w0.forCall (fun _ _ => 0) ⟨#[], args, []⟩).Shaped C.prog)
    (hok : Input.okWideB C.prog (w0.forCall (fun _ _ => 0) ⟨#[], args, []⟩) f ⟨#[], args, []⟩ = true)
    (hrow : s.preRow enc C.prog fn conds apart laid (w0.forCall (fun _ _ => 0) ⟨#[], args, []⟩).memory args) :
    ∃ (w : World) (tape : Tape) (i : Input), w.os = os ∧ (w.forCall tape i).Shaped C.prog ∧ i.vars = [] ∧ Input.okWide C.prog (w.forCall tape i) .any w.heap.size f i ∧
      s.preRow enc C.prog fn conds apart laid (w.forCall tape i).memory i.args ∧ ({ modest := modest } : Assume).holds C.prog (lone (Frame.enter C.prog f i.args .normal) [] (w.forCall tape i)) :=
  ⟨w0, fun _ _ => 0, ⟨#[], args, []⟩, hos, hsh, (Input.okWide_of_okWideB (base := 0) hok).1, (Input.okWide_of_okWideB hok).2, hrow, by
    simp only [Assume.holds]
    exact ⟨by simp, by simp, fun _ => Modest.zero, by simp, by simp⟩⟩
/-- An input that fits. -/
theorem reads (os : Os) {H : Type} (enc : TypeId × Value → H) : ∃ places, DataW.whole enc Tryz.prog ((World.laidAll Tryz.prog os Rows.fnFieldTurnUptoRow.laid).forCall (fun _ _ => 0) ⟨#[], #[.string ⟨#[]⟩, .slice none 0 0, .string ⟨#[]⟩, .string ⟨#[]⟩], []⟩).memory Tryz.f4.params.toList Rows.fnFieldTurnSpec.vars false #[Value.string ⟨#[]⟩, .slice none 0 0, .string ⟨#[]⟩, .string ⟨#[]⟩].toList 8 = some ([.lit (.string []), .nil, .lit (.string []), .lit (.string [])], [], places) :=
  ⟨[], by kernel_rfl⟩

set_option maxRecDepth 100000 in
theorem lifted (os : Os) (started : os.Started) (H : Type) (enc : TypeId × Value → H) (F : Stop.Interp) :
    ReturnsInHanded {} Tryz.checked os 4 .any ((Rows.OpenSpec.upto Rows.fnFieldTurnSpec).preRow enc Tryz.prog Tryz.f4 Rows.fnFieldTurnUptoRow.domain false Rows.fnFieldTurnUptoRow.laid) (((Rows.OpenSpec.upto Rows.fnFieldTurnSpec).at F).post enc Tryz.prog Tryz.f4 false true false false) := by
  obtain ⟨places, hx⟩ := reads os enc
  refine returnsInHanded_of_row (C := Tryz.checked) (s := Rows.OpenSpec.upto Rows.fnFieldTurnSpec) own started (by kernel_rfl) Tryz.func4
    (witness_shaped (enc := enc) (C := Tryz.checked) false (World.laidAll Tryz.prog os Rows.fnFieldTurnUptoRow.laid) #[.string ⟨#[]⟩, .slice none 0 0, .string ⟨#[]⟩, .string ⟨#[]⟩] (World.laidAll_os _ _ _)
      (World.shaped_of_ZipB (by kernel_rfl) (by kernel_rfl)) (by kernel_rfl)
      (OpenSpec.preRow_of_cond 8 hx (by kernel_rfl) (fun k hk => by cases hk; kernel_rfl) (by kernel_rfl) (by rw [MakeChecks.laidMetH_plain _ _ _ (by kernel_rfl)]; exact laidMet_laidAll _ (by kernel_rfl) (by kernel_rfl)))) ?_
  intro W base args ds gs before hval hW _ hcond _ hL _ _
  exact contract H enc W base args ds gs before hval hW (hcond _ rfl) hL

theorem said : Rows.FnFieldTurnUptoSaid :=
  OpenClaim.holds_of_cond 4 Tryz.f4 rfl rfl rfl rfl rfl rfl rfl ⟨rfl, rfl, rfl, rfl, rfl⟩ rfl rfl rfl rfl rfl (by kernel_rfl) Tryz.func4 (by kernel_rfl)
    (of_decide_eq_true (by kernel_rfl)) (by unfold Func.isWrapper; first | (rw [if_pos (by decide +kernel)]; kernel_rfl) | (rw [if_neg (by decide +kernel)]; exact ⟨rfl, rfl⟩))
    (fun os started H enc _ F => by rw [OpenClaim.pre_eq_preRow]; exact lifted os started H enc F)
theorem card : Rows.FnFieldTurnUptoCardSaid :=
  Claim7.holds_tied_plain_at .later [] [.sentinel] true (true, "8f12f2810968a7d1e82587050f02903a29e820454be4b651bc8d616415957802") false said (fun _ h => by cases h) (by kernel_rfl) (fun _ h => by cases h) fnFieldTurnUpto_row_tie rfl ⟨rfl, rfl⟩ (by kernel_rfl) rfl
    (fun f fn hf hfn => by
      obtain rfl : f = 4 := Option.some.inj ((show Tryz.prog.funcNamed "pub-stockroom/laws.FnFieldTurn" = some 4 by kernel_rfl).symm.trans hf) |>.symm
      obtain rfl : fn = Tryz.f4 := (Option.some.inj (Tryz.func4.symm.trans hfn)).symm
      exact ⟨by kernel_rfl, fun j t ht => by
        rw [Tryz.params4] at ht
        have hm : t ∈ [9, 22, 9, 9] := by simpa using Array.mem_of_getElem? ht
        have hall : ([9, 22, 9, 9].all fun u => !Tryz.prog.wantsStandIn u) = true := by kernel_rfl
        exact (show Tryz.prog.wantsStandIn t = false by simpa using List.all_eq_true.1 hall t hm)⟩)
    (by kernel_rfl)
#print axioms card
end Go.Proofs.YthejejeginnbdaaGreatDoor.fnFieldTurn
namespace Go.Proofs.YthejejeginnbdaaGreatDoor
/-- The card, under a short name, for the claim. -/
theorem fnFieldTurnUptoCard_holds : Rows.FnFieldTurnUptoCardSaid := fnFieldTurn.card
end Go.Proofs.YthejejeginnbdaaGreatDoor
