/- Ranges of ports: the law. -/
import Derived.Test.YtmlhgafinkcfcaaDoorPortsV
set_option linter.unusedVariables false
set_option linter.unusedSimpArgs false
namespace Go.Proofs.YtmlhgafinkcfcaaDoor.Ports
open Go Go.Sort Go.RowKit Go.Proofs.YtmlhgafinkcfcaaDoorW.PrintWords Go.Proofs.YtmlhgafinkcfcaaDoor.PFnPortsBack Go.Proofs.YtmlhgafinkcfcaaDoor.Txt

set_option maxRecDepth 100000 in
set_option maxHeartbeats 1000000 in
theorem law_main (a n b : Nat) (p : Int) (r1 r2 : Bool) (h1 : 1 ≤ a) (h2 : 1 ≤ n) (h3 : a + n = b + 1) (h4 : b ≤ 65535) (d1 : decide ((a : Int) ≤ p) = r1) (d2 : decide (p ≤ (b : Int)) = r2)
    (HB : Aside0 (∀ w, Calls Tryd.prog 11 #[.int .i64 (a : Int), .int .i64 (n : Int), .int .i64 p] w fun e w' => e = .returned (.bool (r1 && r2)) ∧ Below w.heap.size w w')) (hr : r1 = true ∨ r2 = true) (w : World) (htab : Lib.TabIs Tryd.prog w "internal/strconv.uint64pow10" .u64 Lib.pow10Tab) :
    Calls Tryd.prog 4 #[.int .u16 (a : Int), .int .u16 (n : Int), .int .i64 p] w fun e w' => e = .returned (.bool true) ∧ Below w.heap.size w w' := by
  have mixed : Tryd.prog.follows .mixedOrders = true := by kernel_rfl
  have HT := Aside0.mk (text_calls a n b h1 h2 h3 (by omega) w htab)
  have HP := Aside0.mk (fun w => parse_calls a n b h1 h2 h3 h4 w)
  have q1 : ((a : Int) < 1) = False := eq_false (by omega)
  have q2 : ((n : Int) < 1) = False := eq_false (by omega)
  have q1' : (a < 1) = False := eq_false (by omega)
  have q2' : (n < 1) = False := eq_false (by omega)
  have q1'' : (a = 0) = False := eq_false (by omega)
  have q2'' : (n = 0) = False := eq_false (by omega)
  have e0 : wrap64 (a : Int) = (a : Int) := IntWalk.wrap64_in _ ⟨by omega, by omega⟩
  have e0' : wrap64 (n : Int) = (n : Int) := IntWalk.wrap64_in _ ⟨by omega, by omega⟩
  have e1 : wrap64 ((a : Int) + (n : Int)) = (b : Int) + 1 := by rw [IntWalk.wrap64_in _ ⟨by omega, by omega⟩]; omega
  have e2 : wrap64 ((b : Int) + 1 - 1) = (b : Int) := by rw [show ((b : Int) + 1 - 1) = b by omega]; exact IntWalk.wrap64_in _ ⟨by omega, by omega⟩
  have e3 : wrap64 (b : Int) = (b : Int) := IntWalk.wrap64_in _ ⟨by omega, by omega⟩
  have e4 : IntKind.i64.wrap ((a : Int) + (n : Int)) = (b : Int) + 1 := (IntWalk.i64_left _).trans e1
  have e5 : IntKind.i64.wrap ((b : Int) + 1 - 1) = (b : Int) := (IntWalk.i64_left _).trans e2
  have e6 : IntKind.i64.wrap (b : Int) = (b : Int) := (IntWalk.i64_left _).trans e3
  have e7 : IntKind.i64.wrap (a : Int) = (a : Int) := (IntWalk.i64_left _).trans e0
  have e8 : IntKind.i64.wrap (n : Int) = (n : Int) := (IntWalk.i64_left _).trans e0'
  have q3 : ((65535 : Int) < (b : Int)) = False := eq_false (by omega)
  have q3' : (65535 < b) = False := eq_false (by omega)
  clear htab h1 h2 h3 h4
  cases r1 <;> cases r2
  · simp at hr
  · have x1 : ((a : Int) ≤ p) = False := eq_false (of_decide_eq_false d1)
    have x2 : (p ≤ (b : Int)) = True := eq_true (of_decide_eq_true d2)
    simp only [Bool.and_true, Bool.and_false, Bool.true_and, Bool.false_and] at HB
    clear hr
    go_enter Tryd.func4, Tryd.ntmps4
    go_wp2_with (first
      | (go_at_call 10; (with_reducible refine (HT.out).mono ?_); rintro e w1 ⟨rfl, hb⟩; have B1 := Aside0.mk hb; clear hb HT)
      | (go_at_call 9; (with_reducible refine (HP.out _).mono ?_); rintro e w2 ⟨rfl, hb⟩; have B2 := Aside0.mk (below_step B1.out hb); clear hb HP)
      | (go_at_call 11; (with_reducible refine (HB.out _).mono ?_); rintro e w3 ⟨rfl, hb⟩; have B3 := Aside0.mk (below_step B2.out hb); clear hb HB))
    go_ret
    exact ⟨by first | rfl | (simp; done), B3.out⟩
  · have x1 : ((a : Int) ≤ p) = True := eq_true (of_decide_eq_true d1)
    have x2 : (p ≤ (b : Int)) = False := eq_false (of_decide_eq_false d2)
    simp only [Bool.and_true, Bool.and_false, Bool.true_and, Bool.false_and] at HB
    clear hr
    go_enter Tryd.func4, Tryd.ntmps4
    go_wp2_with (first
      | (go_at_call 10; (with_reducible refine (HT.out).mono ?_); rintro e w1 ⟨rfl, hb⟩; have B1 := Aside0.mk hb; clear hb HT)
      | (go_at_call 9; (with_reducible refine (HP.out _).mono ?_); rintro e w2 ⟨rfl, hb⟩; have B2 := Aside0.mk (below_step B1.out hb); clear hb HP)
      | (go_at_call 11; (with_reducible refine (HB.out _).mono ?_); rintro e w3 ⟨rfl, hb⟩; have B3 := Aside0.mk (below_step B2.out hb); clear hb HB))
    go_ret
    exact ⟨by first | rfl | (simp; done), B3.out⟩
  · have x1 : ((a : Int) ≤ p) = True := eq_true (of_decide_eq_true d1)
    have x2 : (p ≤ (b : Int)) = True := eq_true (of_decide_eq_true d2)
    simp only [Bool.and_true, Bool.and_false, Bool.true_and, Bool.false_and] at HB
    clear hr
    go_enter Tryd.func4, Tryd.ntmps4
    go_wp2_with (first
      | (go_at_call 10; (with_reducible refine (HT.out).mono ?_); rintro e w1 ⟨rfl, hb⟩; have B1 := Aside0.mk hb; clear hb HT)
      | (go_at_call 9; (with_reducible refine (HP.out _).mono ?_); rintro e w2 ⟨rfl, hb⟩; have B2 := Aside0.mk (below_step B1.out hb); clear hb HP)
      | (go_at_call 11; (with_reducible refine (HB.out _).mono ?_); rintro e w3 ⟨rfl, hb⟩; have B3 := Aside0.mk (below_step B2.out hb); clear hb HB))
    go_ret
    exact ⟨by first | rfl | (simp; done), B3.out⟩

theorem law_out (f s p : Int) (hf : 0 ≤ f ∧ f ≤ 65535) (hs : 0 ≤ s ∧ s ≤ 65535) (h : f < 1 ∨ s < 1 ∨ 65535 < f + s - 1) (w : World) :
    Calls Tryd.prog 4 #[.int .u16 f, .int .u16 s, .int .i64 p] w fun e w' => e = .returned (.bool true) ∧ Below w.heap.size w w' := by
  have e0 : wrap64 f = f := IntWalk.wrap64_in _ ⟨by omega, by omega⟩
  have e0' : wrap64 s = s := IntWalk.wrap64_in _ ⟨by omega, by omega⟩
  have e1 : wrap64 (f + s) = f + s := IntWalk.wrap64_in _ ⟨by omega, by omega⟩
  have e2 : wrap64 (f + s - 1) = f + s - 1 := IntWalk.wrap64_in _ ⟨by omega, by omega⟩
  have e7 : IntKind.i64.wrap f = f := (IntWalk.i64_left _).trans e0
  have e8 : IntKind.i64.wrap s = s := (IntWalk.i64_left _).trans e0'
  by_cases h1 : f < 1
  · have q1 : (f < 1) = True := eq_true h1
    clear hf hs h h1
    go_enter Tryd.func4, Tryd.ntmps4
    go_wp2
    go_ret
    exact ⟨rfl, Below.refl _ _⟩
  · have q1 : (f < 1) = False := eq_false h1
    by_cases h2 : s < 1
    · have q2 : (s < 1) = True := eq_true h2
      clear hf hs h h1 h2
      go_enter Tryd.func4, Tryd.ntmps4
      go_wp2
      go_ret
      exact ⟨rfl, Below.refl _ _⟩
    · have q2 : (s < 1) = False := eq_false h2
      have q3 : (65535 < f + s - 1) = True := eq_true (by omega)
      clear hf hs h h1 h2
      go_enter Tryd.func4, Tryd.ntmps4
      go_wp2
      go_ret
      exact ⟨rfl, Below.refl _ _⟩
end Go.Proofs.YtmlhgafinkcfcaaDoor.Ports
