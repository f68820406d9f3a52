/- Ranges of ports: the calls of the law. -/
import Derived.Test.YtmlhgafinkcfcaaDoorPortsZ
import Derived.Deep.QuietTactic
import Derived.BigQuiet
set_option linter.unusedVariables false
set_option linter.unusedSimpArgs false
namespace Go.Proofs.YtmlhgafinkcfcaaDoor.Ports
open Go Go.Sort Go.RowKit Go.Proofs.YtmlhgafinkcfcaaDoorW.PrintWords Go.Proofs.YtmlhgafinkcfcaaDoor.PFnPortsBack Go.Proofs.YtmlhgafinkcfcaaDoor.Txt

set_option maxRecDepth 100000 in
set_option maxHeartbeats 1000000 in
theorem parse_core (S : ByteArray) (a n : Nat)
    (HS : Aside0 (∀ (w : World) (g : Nat), w.heap[g]? = some (.cells #[.int .i64 0, .int .i64 0] 52 (0, 0)) → Calls Tryd.prog 29 #[.pointer (some ⟨g, 0, none⟩), .string S] w fun e w' => e = .returned .nilIface ∧ w'.heap[g]? = some (.cells #[.int .i64 (a : Int), .int .i64 (n : Int)] 52 (0, 0)) ∧ w.grownBy w' (some g))) (w : World) :
    Calls Tryd.prog 9 #[.string S] w fun e w' => e = .returned (.tuple #[.int .i64 (a : Int), .int .i64 (n : Int), .bool false]) ∧ Below w.heap.size w w' := by
  have mixed : Tryd.prog.follows .mixedOrders = true := by kernel_rfl
  have hu2 := Tryd.underlying52
  have HS := Aside0.mk (HS.out (w.alloc (.cells #[.int .i64 0, .int .i64 0] 52)) w.heap.size (blk_new w _))
  go_enter Tryd.func9, Tryd.ntmps9
  go_wp2_with (first
    | (go_at_call 29; (with_reducible refine (HS.out).mono ?_); rintro e w1 ⟨rfl, hb, hg⟩; have c0 : w1.cell? ⟨w.heap.size, 0, none⟩ = some (.int .i64 (a : Int)) := blk_cell hb 0; have c1 : w1.cell? ⟨w.heap.size, 1, none⟩ = some (.int .i64 (n : Int)) := blk_cell hb 1; have B1 := Aside0.mk ((below_alloc (Below.refl w.heap.size w) (.cells #[.int .i64 0, .int .i64 0] 52)).grown hg (by simp) (fun k hk => by cases hk; exact Nat.le_refl _)); clear hb hg HS)
    | (go_at_call 21; go_in))
  go_quiet (fail)
  go_wp2
  go_ret3
  exact ⟨rfl, pw_below_drewN B1.out _⟩

theorem parse_calls (a n b : Nat) (h1 : 1 ≤ a) (h2 : 1 ≤ n) (h3 : a + n = b + 1) (h4 : b ≤ 65535) (w : World) :
    Calls Tryd.prog 9 #[.string (range a b)] w fun e w' => e = .returned (.tuple #[.int .i64 (a : Int), .int .i64 (n : Int), .bool false]) ∧ Below w.heap.size w w' := by
  have s1 := txt_size a (by omega)
  have s2 := txt_size b (by omega)
  have sr := range_size a b
  have hy := range_hyphen a b
  have pl := range_plus a b
  obtain ⟨x, hx, hx0, hx1⟩ := range_first a b
  obtain ⟨y, hl, hl0, hl1⟩ := range_last a b ((range a b).size - 1) (by omega)
  have H2 := fun w => indexB (range a b) 45 (by omega) w
  have H3 := fun w => indexB (range a b) 43 (by omega) w
  rw [hy] at H2
  rw [pl] at H3
  refine parse_core (range a b) a n ⟨fun w g hR => ?_⟩ w
  refine set_core (range a b) (txt a) (txt b) (txt a).size a n b g h1 h2 h3 h4 (by omega) (by omega) (fun e => ?_) (range_low a b) (range_high a b)
    ⟨fun w => trim (range a b) x y w ((range a b).size - 1) (by omega) (by omega) hx hx0 hx1 hl hl0 hl1⟩ ⟨H2⟩ ⟨H3⟩
    ⟨fun w => atoiB (txt a) a (by omega) (by rw [txt_list]; exact atoi_dig a) w⟩ ⟨fun w => atoiB (txt b) b (by omega) (by rw [txt_list]; exact atoi_dig b) w⟩ w hR
  rw [e] at sr
  have : (⟨#[]⟩ : ByteArray).size = 0 := rfl
  omega

set_option maxRecDepth 100000 in
set_option maxHeartbeats 1000000 in
theorem have_calls (a n b : Nat) (p : Int) (h1 : 1 ≤ a) (h2 : 1 ≤ n) (h3 : a + n = b + 1) (h4 : b ≤ 65535) (hp0 : -9223372036854775808 ≤ p) (hp1 : p ≤ 9223372036854775807) (w : World) :
    Calls Tryd.prog 11 #[.int .i64 (a : Int), .int .i64 (n : Int), .int .i64 p] w fun e w' => e = .returned (.bool (decide ((a : Int) ≤ p) && decide (p ≤ (b : Int)))) ∧ Below w.heap.size w w' := by
  have mixed : Tryd.prog.follows .mixedOrders = true := by kernel_rfl
  have hu2 := Tryd.underlying52
  by_cases hA : (a : Int) ≤ p
  · have q0 : decide ((a : Int) ≤ p) = true := decide_eq_true hA
    have q1 : ((a : Int) ≤ p) = True := eq_true hA
    have q2 : wrap64 (p - (a : Int)) = p - (a : Int) := IntWalk.wrap64_in _ ⟨by omega, by omega⟩
    have q3 : IntKind.i64.wrap (p - (a : Int)) = p - (a : Int) := (IntWalk.i64_left _).trans q2
    have q4 : decide (p ≤ (b : Int)) = decide (p - (a : Int) < (n : Int)) := decide_eq_decide.2 (by omega)
    rw [q4]
    clear h1 h2 h3 h4 hp0 hp1 hA q4
    go_enter Tryd.func11, Tryd.ntmps11
    go_wp2_with go_in
    go_quiet (fail)
    go_wp2
    go_ret
    exact ⟨by first | rfl | (simp [q0]; done) | (simp; done), pw_below_drewN (below_alloc (Below.refl _ _) _) _⟩
  · have q0 : decide ((a : Int) ≤ p) = false := decide_eq_false hA
    have q1 : ((a : Int) ≤ p) = False := eq_false hA
    clear h1 h2 h3 h4 hp0 hp1 hA
    go_enter Tryd.func11, Tryd.ntmps11
    go_wp2_with go_in
    go_quiet (fail)
    go_wp2
    go_ret
    exact ⟨by first | rfl | (simp [q0]; done) | (simp; done), pw_below_drewN (below_alloc (Below.refl _ _) _) _⟩
end Go.Proofs.YtmlhgafinkcfcaaDoor.Ports
