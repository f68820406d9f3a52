/- Ranges of ports: read again. -/
import Derived.Test.YtmlhgafinkcfcaaDoorPortsY
set_option linter.unusedVariables false
set_option linter.unusedSimpArgs false
namespace Go.Proofs.YtmlhgafinkcfcaaDoor.Ports
open Go Go.Sort Go.RowKit Go.Proofs.YtmlhgafinkcfcaaDoorW.PrintWords Go.Proofs.YtmlhgafinkcfcaaDoor.PFnPortsBack Go.Proofs.YtmlhgafinkcfcaaDoor.Txt

theorem set_two {w : World} {g : Nat} {x y u v : Value} {t : TypeId} (h : w.heap[g]? = some (.cells #[x, y] t (0, 0))) : ((w.setCell ⟨g, 0, none⟩ u).setCell ⟨g, 1, none⟩ v).heap[g]? = some (.cells #[u, v] t (0, 0)) := by
  simp [World.setCell, Array.getElem?_modify, h]
theorem set_grown (w : World) (g : Nat) (u v : Value) : w.grownBy ((w.setCell ⟨g, 0, none⟩ u).setCell ⟨g, 1, none⟩ v) (some g) := by
  refine ⟨rfl, rfl, rfl, by simp [World.setCell], fun k hk hne => ?_⟩
  have : k ≠ g := fun e => hne (by rw [e])
  rw [Below.heap_setCell _ _ _ _ this, Below.heap_setCell _ _ _ _ this]
set_option maxRecDepth 100000 in
set_option maxHeartbeats 1000000 in
theorem set_core (S A B : ByteArray) (h a n b g : Nat) (h1 : 1 ≤ a) (h2 : 1 ≤ n) (h3 : a + n = b + 1) (h4 : b ≤ 65535) (k0 : h + 1 ≤ S.size) (k1 : S.size < 1000) (hne : S ≠ ⟨#[]⟩)
    (lo : S.extract 0 h = A) (hi : S.extract (h + 1) S.size = B)
    (H1 : Aside0 (∀ w, Calls Tryd.prog 33 #[.string S] w fun e w' => e = .returned (.string S) ∧ w' = w))
    (H2 : Aside0 (∀ w, Calls Tryd.prog 34 #[.string S, .string (⟨#[45]⟩ : ByteArray)] w fun e w' => e = .returned (.int .i64 (h : Int)) ∧ Below w.heap.size w w'))
    (H3 : Aside0 (∀ w, Calls Tryd.prog 34 #[.string S, .string (⟨#[43]⟩ : ByteArray)] w fun e w' => e = .returned (.int .i64 (-1)) ∧ Below w.heap.size w w'))
    (H4 : Aside0 (∀ w, Calls Tryd.prog 35 #[.string A] w fun e w' => e = .returned (.tuple #[.int .i64 (a : Int), .nilIface]) ∧ Below w.heap.size w w'))
    (H5 : Aside0 (∀ w, Calls Tryd.prog 35 #[.string B] w fun e w' => e = .returned (.tuple #[.int .i64 (b : Int), .nilIface]) ∧ Below w.heap.size w w')) (w : World)
    (hR : w.heap[g]? = some (.cells #[.int .i64 0, .int .i64 0] 52 (0, 0))) :
    Calls Tryd.prog 29 #[.pointer (some ⟨g, 0, none⟩), .string S] w fun e w' => e = .returned .nilIface ∧ w'.heap[g]? = some (.cells #[.int .i64 (a : Int), .int .i64 (n : Int)] 52 (0, 0)) ∧ w.grownBy w' (some g) := by
  have mixed : Tryd.prog.follows .mixedOrders = true := by kernel_rfl
  have q1 : ((h : Int) == -1) = false := beq_eq_false_iff_ne.2 (by omega)
  have q1' : ((h : Int) != -1) = true := bne_iff_ne.2 (by omega)
  have q2 : ((0 : Int) ≤ (h : Int)) = True := eq_true (by omega)
  have q3 : ((h : Int) ≤ (S.size : Int)) = True := eq_true (by omega)
  have q4 : wrap64 ((h : Int) + 1) = (h : Int) + 1 := IntWalk.wrap64_in _ ⟨by omega, by omega⟩
  have q5 : ((h : Int) + 1 ≤ (S.size : Int)) = True := eq_true (by omega)
  have q3' : (h ≤ S.size) = True := eq_true (by omega)
  have q5' : (h + 1 ≤ S.size) = True := eq_true (by omega)
  have q5'' : (h < S.size) = True := eq_true (by omega)
  have q6 : ((65535 : Int) < (a : Int)) = False := eq_false (by omega)
  have q7 : ((65535 : Int) < (b : Int)) = False := eq_false (by omega)
  have q8 : ((b : Int) < (a : Int)) = False := eq_false (by omega)
  have q8' : (b < a) = False := eq_false (by omega)
  have q9 : wrap64 (1 + (b : Int)) = 1 + (b : Int) := IntWalk.wrap64_in _ ⟨by omega, by omega⟩
  have q10 : wrap64 (1 + (b : Int) - (a : Int)) = (n : Int) := by rw [show (1 + (b : Int) - (a : Int)) = n by omega]; exact IntWalk.wrap64_in _ ⟨by omega, by omega⟩
  have q11 : ((0 : Int) ≤ (h : Int) + 1) = True := eq_true (by omega)
  have t1 : ((h : Int) + 1).toNat = h + 1 := by omega
  have nz : (S.toList == []) = false := beq_eq_false_iff_ne.2 (fun e => hne (ext (by rw [← toL, e])))
  have nz2 : (S.toList = []) = False := eq_false (fun e => hne (ext (by rw [← toL, e])))
  have nz4 : S.toList.isEmpty = false := by cases hs : S.toList with | nil => exact absurd hs (by rw [nz2]; exact id) | cons _ _ => rfl
  have HR := Aside0.mk hR
  clear h1 h2 h3 h4 k0 k1 hne hR
  go_enter Tryd.func29, Tryd.ntmps29
  go_wp2_with (first
    | (go_at_call 33; refine (H1.out _).mono ?_; rintro e w1 ⟨rfl, hw1⟩; have hw := hw1.symm; clear hw1; subst hw; clear H1)
    | (go_at_call 34; (with_reducible refine (H2.out _).mono ?_); rintro e w2 ⟨rfl, hb⟩; have B2 := Aside0.mk hb; clear hb H2)
    | (go_at_call 34; (with_reducible refine (H3.out _).mono ?_); rintro e w3 ⟨rfl, hb⟩; have B3 := Aside0.mk (below_step B2.out hb); clear hb H3)
    | (go_at_call 35; (with_reducible refine (H4.out _).mono ?_); rintro e w4 ⟨rfl, hb⟩; have B4 := Aside0.mk (below_step B3.out hb); clear hb H4)
    | (go_at_call 35; (with_reducible refine (H5.out _).mono ?_); rintro e w5 ⟨rfl, hb⟩; have B5 := Aside0.mk (below_step B4.out hb); have R5 := Aside0.mk (blk_below HR.out B5.out); have c0 : w5.cell? ⟨g, 0, none⟩ = some (.int .i64 0) := blk_cell R5.out 0; have c1 : w5.cell? ⟨g, 1, none⟩ = some (.int .i64 0) := blk_cell R5.out 1; have f0 : w5.frozen? ⟨g, 0, none⟩ = false := blk_frozen R5.out 0; have f1 : w5.frozen? ⟨g, 1, none⟩ = false := blk_frozen R5.out 1; clear hb H5))
  go_ret
  exact ⟨rfl, set_two R5.out, (grown_of_below B5.out (some g)).trans (set_grown _ g _ _)⟩
end Go.Proofs.YtmlhgafinkcfcaaDoor.Ports
