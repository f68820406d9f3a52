/- Ranges of ports: the walks. -/
import Derived.Test.YtmlhgafinkcfcaaDoorShelf
import Derived.Test.YtmlhgafinkcfcaaDoorWWords
import Derived.WalkKit
import Derived.WalkMore
import Derived.KernelRfl
set_option linter.unusedVariables false
set_option linter.unusedSimpArgs false
namespace Go.Proofs.YtmlhgafinkcfcaaDoor.Ports
open Go.RowKit Go.Proofs.YtmlhgafinkcfcaaDoorW.PrintWords

theorem nosp (n : Nat) (h0 : 33 ≤ n) (h1 : n < 128) (w : World) : Calls Tryd.prog 42 #[.int .i32 (n : Int)] w fun e w' => e = .returned (.bool false) ∧ w' = w := by
  have q1 : ((n : Int) == 32) = false := beq_eq_false_iff_ne.2 (by omega)
  have q2 : ((n : Int) == 9) = false := beq_eq_false_iff_ne.2 (by omega)
  have q3 : ((n : Int) == 10) = false := beq_eq_false_iff_ne.2 (by omega)
  have q4 : ((n : Int) == 11) = false := beq_eq_false_iff_ne.2 (by omega)
  have q5 : ((n : Int) == 12) = false := beq_eq_false_iff_ne.2 (by omega)
  have q6 : ((n : Int) == 13) = false := beq_eq_false_iff_ne.2 (by omega)
  have q7 : ((n : Int) == 133) = false := beq_eq_false_iff_ne.2 (by omega)
  have q8 : ((n : Int) == 160) = false := beq_eq_false_iff_ne.2 (by omega)
  have q9 : ((n : Int) == 5760) = false := beq_eq_false_iff_ne.2 (by omega)
  have q10 : ((n : Int) == 8232) = false := beq_eq_false_iff_ne.2 (by omega)
  have q11 : ((n : Int) == 8233) = false := beq_eq_false_iff_ne.2 (by omega)
  have q12 : ((n : Int) == 8239) = false := beq_eq_false_iff_ne.2 (by omega)
  have q13 : ((n : Int) == 8287) = false := beq_eq_false_iff_ne.2 (by omega)
  have q14 : ((n : Int) == 12288) = false := beq_eq_false_iff_ne.2 (by omega)
  have q15 : (8192 ≤ (n : Int)) = False := eq_false (by omega)
  clear h0 h1
  go_enter Tryd.func42, Tryd.ntmps42
  go_wp2
  go_ret
  exact ⟨rfl, rfl⟩

theorem dec0 (s : ByteArray) (x : UInt8) (w : World) (h0 : s.data.toList[0]? = some x) (hx : x.toNat < 128) :
    Calls Tryd.prog 41 #[.string s] w fun e w' => e = .returned (.tuple #[.int .i32 x.toNat, .int .i64 1]) ∧ w' = w := by
  have hsz : 0 < s.size := by
    rw [Lib.size_eq]
    exact (List.getElem?_eq_some_iff.1 h0).1
  have hne : s.toList.isEmpty = false := by
    rw [Lib.toList_data]
    cases h : s.data.toList with
    | nil => rw [h] at h0; simp at h0
    | cons _ _ => rfl
  have hs0 : s[0]'hsz = x := by
    have := Lib.data_getElem? s 0 hsz
    rw [h0] at this
    exact (Option.some.inj this).symm
  have hszz : (0 : Int) < (s.size : Int) := by omega
  have hxz : (x.toNat : Int) < 128 := by omega
  go_enter Tryd.func41, Tryd.ntmps41
  go_wp2
  go_ret2
  exact ⟨rfl, rfl⟩
set_option maxRecDepth 100000 in
theorem decL (s : ByteArray) (x : UInt8) (w : World) (n : Nat) (hn : s.size = n + 1) (hb : n < 1000000) (h0 : s.data.toList[n]? = some x) (hx : x.toNat < 128) :
    Calls Tryd.prog 43 #[.string s] w fun e w' => e = .returned (.tuple #[.int .i32 x.toNat, .int .i64 1]) ∧ w' = w := by
  have hsz : n < s.size := by omega
  have hs0 : s[n]'hsz = x := by
    have := Lib.data_getElem? s n hsz
    rw [h0] at this
    exact (Option.some.inj this).symm
  have e1 : wrap64 ((n : Int) + 1 - 1) = (n : Int) := by rw [show ((n : Int) + 1 - 1) = n by omega]; exact IntWalk.wrap64_in _ ⟨by omega, by omega⟩
  have hxz : (x.toNat : Int) < 128 := by omega
  have h9 : ((s.size : Int)) = (n : Int) + 1 := by omega
  go_enter Tryd.func43, Tryd.ntmps43
  go_wp2
  go_ret2
  exact ⟨rfl, rfl⟩
set_option maxRecDepth 100000 in
theorem trim (s : ByteArray) (x y : UInt8) (w : World) (n : Nat) (hn : s.size = n + 1) (hb : n < 1000000) (h0 : s.data.toList[0]? = some x) (hx0 : 33 ≤ x.toNat) (hx : x.toNat < 128) (hl : s.data.toList[n]? = some y) (hy0 : 33 ≤ y.toNat) (hy : y.toNat < 128) :
    Calls Tryd.prog 33 #[.string s] w fun e w' => e = .returned (.string s) ∧ w' = w := by
  have H1 := Aside0.mk (fun w => dec0 s x w h0 hx)
  have H2 := Aside0.mk (fun w => nosp x.toNat hx0 hx w)
  have H3 := Aside0.mk (fun w => decL s y w n hn hb hl hy)
  have H4 := Aside0.mk (fun w => nosp y.toNat hy0 hy w)
  have h9 : (0 < (s.size : Int)) = True := eq_true (by omega)
  have h10 : (0 < s.size) = True := eq_true (by omega)
  clear h0 hl hx0 hx hy0 hy hn hb
  go_enter Tryd.func33, Tryd.ntmps33
  go_wp2
  refine wp_loop_rounds 1 ?_
  rw [rounds_succ]
  go_wp2_with (first
    | (go_at_call 41; refine (H1.out _).mono ?_; rintro e w1 ⟨rfl, rfl⟩)
    | (go_at_call 42; (with_reducible refine (H2.out _).mono ?_); rintro e w1 ⟨rfl, rfl⟩; clear H2))
  refine wp_loop_rounds 1 ?_
  rw [rounds_succ]
  go_wp2_with (first
    | (go_at_call 43; refine (H3.out _).mono ?_; rintro e w1 ⟨rfl, rfl⟩)
    | (go_at_call 42; (with_reducible refine (H4.out _).mono ?_); rintro e w1 ⟨rfl, rfl⟩))
  go_ret
  exact ⟨rfl, rfl⟩
end Go.Proofs.YtmlhgafinkcfcaaDoor.Ports
