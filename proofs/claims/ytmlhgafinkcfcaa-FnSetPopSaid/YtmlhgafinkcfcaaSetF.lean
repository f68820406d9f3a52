/- Sets of whole numbers: what IntSetOps computes. Printed by wip/mkops3.py. -/
import Derived.Test.YtmlhgafinkcfcaaSetP
set_option linter.unusedVariables false
set_option linter.unusedSimpArgs false
namespace Go.Proofs.Ytmlhgafinkcfcaa.SetW
open Go Go.RowKit Go.Maps Go.Sort Go.MapKept Go.ChangeMaps Go.Proofs.YtmlhgafinkcfcaaW.PrintWords
def setF (op : Int) (a b wi : List Int) : Option (List Int × List Int × List Int × Bool) :=
  if op = 0 then some (ks a, ks a, ks b, false) else
  if op = 1 then some (ks (a ++ b), ks a, ks b, false) else
  if op = 2 then some (ks (a.filter fun x => decide (x ∈ b)), ks a, ks b, false) else
  if op = 3 then some (ks (a.filter fun x => !decide (x ∈ b)), ks a, ks b, false) else
  if op = 4 then some (ks ((a.filter fun x => !decide (x ∈ b)) ++ (b.filter fun x => !decide (x ∈ a))), ks a, ks b, false) else
  if op = 5 then some (ks (a ++ wi), ks (a ++ wi), ks b, false) else
  if op = 6 then some (ks (a.filter fun x => !wi.contains x), ks (a.filter fun x => !wi.contains x), ks b, false) else
  if op = 7 then some (ks [], ks a, ks b, (wi.all fun x => decide (x ∈ a))) else
  if op = 8 then some (ks [], ks a, ks b, (wi.any fun x => decide (x ∈ a))) else
  if op = 9 then some (ks [], ks a, ks b, (b.all fun x => decide (x ∈ a))) else
  if op = 10 then some (ks [], ks a, ks b, (decide ((ks a).length = (ks b).length) && b.all fun x => decide (x ∈ a))) else
  if op = 12 then some (ks a, ks a, ks b, false) else
  if op = 13 then some (ks [], ks [], ks b, false) else
  if op = 11 ∧ 0 < wi.length then some (ks [], ks a, ks b, decide (rd wi 0 ∈ a)) else none
def okSet (l : List Int) : Bool := decide (l.length ≤ 4294967296) && l.all fun x => (Lit.int .i64 x).wf
theorem okSet_small {l : List Int} (h : okSet l = true) : Small l := by
  unfold okSet at h
  rw [Bool.and_eq_true, decide_eq_true_eq, List.all_eq_true] at h
  exact h
def setG (op : Int) (a b wi : List Int) : Option (List Int × List Int × List Int × Bool) :=
  if okSet a = true ∧ okSet b = true ∧ okSet wi = true then setF op a b wi else none
theorem setOps_calls (op : Int) (A0 : Option Addr) (c0 : Nat) (a : List Int) (A1 : Option Addr) (c1 : Nat) (b : List Int) (A2 : Option Addr) (c2 : Nat) (wi : List Int) (r1 r2 r3 : List Int) (r4 : Bool) (w : World) (hr0 : Kd.C (Kd.int .i64) w A0 a.length a) (hr1 : Kd.C (Kd.int .i64) w A1 b.length b) (hr2 : Kd.C (Kd.int .i64) w A2 wi.length wi) (h1 : Small a) (h2 : Small b) (h3 : Small wi)
    (h : setF op a b wi = some (r1, r2, r3, r4)) :
    Calls Try.prog 21 #[.int .i64 op, .slice A0 a.length c0, .slice A1 b.length c1, .slice A2 wi.length c2] w fun e w' => ∃ v0 v1 v2 : Value, e = .returned (.tuple #[v0, v1, v2, .bool r4]) ∧ Told w w' v0 v1 v2 r1 r2 r3 := by
  unfold setF at h
  by_cases c : op = 0
  · rw [if_pos c] at h
    subst c
    cases h
    exact op_0 A0 c0 a A1 c1 b A2 c2 wi w hr0 hr1 hr2 h1 h2 h3
  rw [if_neg c] at h
  clear c
  by_cases c : op = 1
  · rw [if_pos c] at h
    subst c
    cases h
    exact op_1 A0 c0 a A1 c1 b A2 c2 wi w hr0 hr1 hr2 h1 h2 h3
  rw [if_neg c] at h
  clear c
  by_cases c : op = 2
  · rw [if_pos c] at h
    subst c
    cases h
    exact op_2 A0 c0 a A1 c1 b A2 c2 wi w hr0 hr1 hr2 h1 h2 h3
  rw [if_neg c] at h
  clear c
  by_cases c : op = 3
  · rw [if_pos c] at h
    subst c
    cases h
    exact op_3 A0 c0 a A1 c1 b A2 c2 wi w hr0 hr1 hr2 h1 h2 h3
  rw [if_neg c] at h
  clear c
  by_cases c : op = 4
  · rw [if_pos c] at h
    subst c
    cases h
    exact op_4 A0 c0 a A1 c1 b A2 c2 wi w hr0 hr1 hr2 h1 h2 h3
  rw [if_neg c] at h
  clear c
  by_cases c : op = 5
  · rw [if_pos c] at h
    subst c
    cases h
    exact op_5 A0 c0 a A1 c1 b A2 c2 wi w hr0 hr1 hr2 h1 h2 h3
  rw [if_neg c] at h
  clear c
  by_cases c : op = 6
  · rw [if_pos c] at h
    subst c
    cases h
    exact op_6 A0 c0 a A1 c1 b A2 c2 wi w hr0 hr1 hr2 h1 h2 h3
  rw [if_neg c] at h
  clear c
  by_cases c : op = 7
  · rw [if_pos c] at h
    subst c
    cases h
    exact op_7 A0 c0 a A1 c1 b A2 c2 wi w hr0 hr1 hr2 h1 h2 h3
  rw [if_neg c] at h
  clear c
  by_cases c : op = 8
  · rw [if_pos c] at h
    subst c
    cases h
    exact op_8 A0 c0 a A1 c1 b A2 c2 wi w hr0 hr1 hr2 h1 h2 h3
  rw [if_neg c] at h
  clear c
  by_cases c : op = 9
  · rw [if_pos c] at h
    subst c
    cases h
    exact op_9 A0 c0 a A1 c1 b A2 c2 wi w hr0 hr1 hr2 h1 h2 h3
  rw [if_neg c] at h
  clear c
  by_cases c : op = 10
  · rw [if_pos c] at h
    subst c
    cases h
    exact op_10 A0 c0 a A1 c1 b A2 c2 wi w hr0 hr1 hr2 h1 h2 h3
  rw [if_neg c] at h
  clear c
  by_cases c : op = 12
  · rw [if_pos c] at h
    subst c
    cases h
    exact op_12 A0 c0 a A1 c1 b A2 c2 wi w hr0 hr1 hr2 h1 h2 h3
  rw [if_neg c] at h
  clear c
  by_cases c : op = 13
  · rw [if_pos c] at h
    subst c
    cases h
    exact op_13 A0 c0 a A1 c1 b A2 c2 wi w hr0 hr1 hr2 h1 h2 h3
  rw [if_neg c] at h
  clear c
  split at h
  · rename_i c
    obtain ⟨c, hn⟩ := c
    subst c
    cases h
    exact op_11 A0 c0 a A1 c1 b A2 c2 wi w hr0 hr1 hr2 h1 h2 h3 hn
  · cases h
theorem setG_calls (op : Int) (A0 : Option Addr) (c0 : Nat) (a : List Int) (A1 : Option Addr) (c1 : Nat) (b : List Int) (A2 : Option Addr) (c2 : Nat) (wi : List Int) (r1 r2 r3 : List Int) (r4 : Bool) (w : World) (hr0 : Kd.C (Kd.int .i64) w A0 a.length a) (hr1 : Kd.C (Kd.int .i64) w A1 b.length b) (hr2 : Kd.C (Kd.int .i64) w A2 wi.length wi)
    (h : setG op a b wi = some (r1, r2, r3, r4)) :
    Calls Try.prog 8 #[.int .i64 op, .slice A0 a.length c0, .slice A1 b.length c1, .slice A2 wi.length c2] w fun e w' => ∃ v0 v1 v2 : Value, e = .returned (.tuple #[v0, v1, v2, .bool r4]) ∧ Told w w' v0 v1 v2 r1 r2 r3 := by
  unfold setG at h
  split at h
  · rename_i c
    have HC := Aside0.mk (setOps_calls op A0 c0 a A1 c1 b A2 c2 wi r1 r2 r3 r4 w hr0 hr1 hr2 (okSet_small c.1) (okSet_small c.2.1) (okSet_small c.2.2) h)
    clear hr0 hr1 hr2 h c
    go_enter Try.func8, Try.ntmps8
    go_wp2_with (go_at_call 21; refine (HC.out).mono ?_; rintro e w1 ⟨v0, v1, v2, rfl, ht⟩)
    (try simp only [Exit.inBlock, Exit.then]); refine bodyPost_ret (results_tmp4 rfl _ _ _) rfl ?_
    exact ⟨v0, v1, v2, rfl, ht⟩
  · cases h
end Go.Proofs.Ytmlhgafinkcfcaa.SetW
