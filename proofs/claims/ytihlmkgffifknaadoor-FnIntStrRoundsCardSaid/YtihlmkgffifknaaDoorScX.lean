/- A part by percent: the arithmetic, walked. -/
import Derived.Test.YtihlmkgffifknaaDoorScW
set_option linter.unusedVariables false
set_option linter.unusedSimpArgs false
namespace Go.Proofs.YtihlmkgffifknaaDoor.Sc
open Go Go.Sort Go.RowKit Go.Proofs.YtihlmkgffifknaaDoor Go.Proofs.YtihlmkgffifknaaDoorW.PrintWords Go.Proofs.YtihlmkgffifknaaDoor.PFnIntStrScaled

set_option maxRecDepth 100000 in
theorem got_up (g : Nat) (v total : Int) (r q : Nat) (zf : World → Int) (wf : World → World) (w : World)
    (hm : floatBits .mul .f64 (floatOfInt .f64 v) (floatOfInt .f64 total) = some r) (hq : floatBits .quo .f64 r 4636737291354636288 = some q) (hn : ∀ s t, FloatKind.f64.decode q ≠ .nan s t)
    (hz : ∀ W, (convert 70 3 (.float .f64 (FloatKind.f64.encode ((FloatKind.f64.decode q).integral .up)))).run Tryd.prog W = .ok (.int .i64 (zf W)) (wf W)) (hw : ∀ W, Below W.heap.size W (wf W))
    (HH : Aside0 (∀ w', Below w.heap.size w w' → Calls Tryd.prog 35 #[.pointer (some ⟨g, 0, none⟩)] w' fun e w'' => e = .returned (.tuple #[.int .i64 v, .bool true, .nilIface]) ∧ Below w'.heap.size w' w'')) :
    Calls Tryd.prog 28 #[.pointer (some ⟨g, 0, none⟩), .int .i64 total, .bool true] w fun e w' => (∃ W, e = .returned (.tuple #[.int .i64 (zf W), .nilIface])) ∧ Below w.heap.size w w' := by
  have fm : ∀ W, (binOp .mul 70 (.float .f64 (floatOfInt .f64 v)) (.float .f64 (floatOfInt .f64 total))).run Tryd.prog W = .ok (.float .f64 r) W := fun W => run_float_arith W .mul 70 .f64 _ _ r hm
  have fq : ∀ W, (binOp .quo 70 (.float .f64 r) (.float .f64 4636737291354636288)).run Tryd.prog W = .ok (.float .f64 q) W := fun W => run_float_arith W .quo 70 .f64 _ _ q hq
  have HC := Aside0.mk (fun W => ceil_calls q hn W)
  have HW := Aside0.mk hw
  clear hm hq hn hw
  generalize hb : FloatKind.f64.encode ((FloatKind.f64.decode q).integral .up) = b at hz HC
  clear hb
  go_enter Tryd.func28, Tryd.ntmps28
  go_wp2_with (first
    | (go_at_call 35; (with_reducible refine (HH.out _ (by repeat (first | exact Below.refl w.heap.size w | apply below_alloc | apply pw_below_drewN | apply below_drew1))).mono ?_); rintro e w1 ⟨rfl, hb⟩; have B1 := Aside0.mk (below_step (by repeat (first | exact Below.refl w.heap.size w | apply below_alloc | apply pw_below_drewN | apply below_drew1)) hb); clear hb HH)
    | (go_at_call 36; (with_reducible refine (HC.out _).mono ?_); rintro e w2 ⟨rfl, rfl⟩; clear HC))
  go_ret2
  exact ⟨⟨_, rfl⟩, by repeat (first | (with_reducible exact B1.out) | apply below_alloc | apply pw_below_drewN | apply below_drew1 | refine below_step ?_ (HW.out _))⟩
set_option maxRecDepth 100000 in
theorem got_down (g : Nat) (v total : Int) (r q : Nat) (zf : World → Int) (wf : World → World) (w : World)
    (hm : floatBits .mul .f64 (floatOfInt .f64 v) (floatOfInt .f64 total) = some r) (hq : floatBits .quo .f64 r 4636737291354636288 = some q) (hn : ∀ s t, FloatKind.f64.decode q ≠ .nan s t)
    (hz : ∀ W, (convert 70 3 (.float .f64 (FloatKind.f64.encode ((FloatKind.f64.decode q).integral .down)))).run Tryd.prog W = .ok (.int .i64 (zf W)) (wf W)) (hw : ∀ W, Below W.heap.size W (wf W))
    (HH : Aside0 (∀ w', Below w.heap.size w w' → Calls Tryd.prog 35 #[.pointer (some ⟨g, 0, none⟩)] w' fun e w'' => e = .returned (.tuple #[.int .i64 v, .bool true, .nilIface]) ∧ Below w'.heap.size w' w'')) :
    Calls Tryd.prog 28 #[.pointer (some ⟨g, 0, none⟩), .int .i64 total, .bool false] w fun e w' => (∃ W, e = .returned (.tuple #[.int .i64 (zf W), .nilIface])) ∧ Below w.heap.size w w' := by
  have fm : ∀ W, (binOp .mul 70 (.float .f64 (floatOfInt .f64 v)) (.float .f64 (floatOfInt .f64 total))).run Tryd.prog W = .ok (.float .f64 r) W := fun W => run_float_arith W .mul 70 .f64 _ _ r hm
  have fq : ∀ W, (binOp .quo 70 (.float .f64 r) (.float .f64 4636737291354636288)).run Tryd.prog W = .ok (.float .f64 q) W := fun W => run_float_arith W .quo 70 .f64 _ _ q hq
  have HC := Aside0.mk (fun W => floor_calls q hn W)
  have HW := Aside0.mk hw
  clear hm hq hn hw
  generalize hb : FloatKind.f64.encode ((FloatKind.f64.decode q).integral .down) = b at hz HC
  clear hb
  go_enter Tryd.func28, Tryd.ntmps28
  go_wp2_with (first
    | (go_at_call 35; (with_reducible refine (HH.out _ (by repeat (first | exact Below.refl w.heap.size w | apply below_alloc | apply pw_below_drewN | apply below_drew1))).mono ?_); rintro e w1 ⟨rfl, hb⟩; have B1 := Aside0.mk (below_step (by repeat (first | exact Below.refl w.heap.size w | apply below_alloc | apply pw_below_drewN | apply below_drew1)) hb); clear hb HH)
    | (go_at_call 37; (with_reducible refine (HC.out _).mono ?_); rintro e w2 ⟨rfl, rfl⟩; clear HC))
  go_ret2
  exact ⟨⟨_, rfl⟩, by repeat (first | (with_reducible exact B1.out) | apply below_alloc | apply pw_below_drewN | apply below_drew1 | refine below_step ?_ (HW.out _))⟩
set_option maxRecDepth 100000 in
theorem got_int (g : Nat) (n total : Int) (up : Bool) (w : World)
    (HH : Aside0 (∀ w', Below w.heap.size w w' → Calls Tryd.prog 35 #[.pointer (some ⟨g, 0, none⟩)] w' fun e w'' => e = .returned (.tuple #[.int .i64 n, .bool false, .nilIface]) ∧ Below w'.heap.size w' w'')) :
    Calls Tryd.prog 28 #[.pointer (some ⟨g, 0, none⟩), .int .i64 total, .bool up] w fun e w' => (∃ _ : World, e = .returned (.tuple #[.int .i64 n, .nilIface])) ∧ Below w.heap.size w w' := by
  go_enter Tryd.func28, Tryd.ntmps28
  go_wp2_with (go_at_call 35; (with_reducible refine (HH.out _ (by repeat (first | exact Below.refl w.heap.size w | apply below_alloc | apply pw_below_drewN | apply below_drew1))).mono ?_); rintro e w1 ⟨rfl, hb⟩; have B1 := Aside0.mk (below_step (by repeat (first | exact Below.refl w.heap.size w | apply below_alloc | apply pw_below_drewN | apply below_drew1)) hb); clear hb HH)
  go_ret2
  exact ⟨⟨w, rfl⟩, by repeat (first | (with_reducible exact B1.out) | apply below_alloc | apply pw_below_drewN | apply below_drew1)⟩
set_option maxRecDepth 100000 in
theorem got_err (g : Nat) (total : Int) (up : Bool) (w : World)
    (HH : Aside0 (∀ w', Below w.heap.size w w' → Calls Tryd.prog 35 #[.pointer (some ⟨g, 0, none⟩)] w' fun e w'' => (∃ x, e = .returned (.tuple #[.int .i64 0, .bool false, .iface 72 x])) ∧ Below w'.heap.size w' w'')) :
    Calls Tryd.prog 28 #[.pointer (some ⟨g, 0, none⟩), .int .i64 total, .bool up] w fun e w' => (∃ x, e = .returned (.tuple #[.int .i64 0, .iface 72 x])) ∧ Below w.heap.size w w' := by
  have H := Aside0.mk (fun s w => new_calls s w)
  go_enter Tryd.func28, Tryd.ntmps28
  go_wp2_with (first
    | (go_at_call 35; (with_reducible refine (HH.out _ (by repeat (first | exact Below.refl w.heap.size w | apply below_alloc | apply pw_below_drewN | apply below_drew1))).mono ?_); rintro e w1 ⟨⟨x, rfl⟩, hb⟩; have B1 := Aside0.mk (below_step (by repeat (first | exact Below.refl w.heap.size w | apply below_alloc | apply pw_below_drewN | apply below_drew1)) hb); clear hb HH)
    | (go_at_call 29; (with_reducible refine (H.out _ _).mono ?_); rintro e w2 ⟨⟨y, rfl⟩, hb⟩; have B2 := Aside0.mk (below_step (by repeat (first | exact B1.out | apply below_alloc | apply pw_below_drewN | apply below_drew1)) hb); clear hb H))
  go_ret2
  exact ⟨⟨_, rfl⟩, B2.out⟩
set_option maxRecDepth 100000 in
theorem scaled_ok (ty n : Int) (s : ByteArray) (total : Int) (up : Bool) (zf : World → Int) (w : World)
    (HH : Aside0 (∀ w' g, Below w.heap.size w w' → At w' g ty n s → Calls Tryd.prog 28 #[.pointer (some ⟨g, 0, none⟩), .int .i64 total, .bool up] w' fun e w'' => (∃ W, e = .returned (.tuple #[.int .i64 (zf W), .nilIface])) ∧ Below w'.heap.size w' w'')) :
    Calls Tryd.prog 16 #[.agg #[.int .i64 ty, .int .i32 n, .string s], .int .i64 total, .bool up] w fun e w' => (∃ W, e = .returned (.tuple #[.int .i64 (zf W), .bool true])) ∧ Below w.heap.size w w' := by
  have hu24 := Tryd.underlying24
  have HI := Aside0.mk (fun w' (h : Below w.heap.size w w') => impl_intStr.calls ty n s ty n s w w' h rfl)
  go_enter Tryd.func16, Tryd.ntmps16
  go_wp2_with (first
    | (go_at_call 25; (with_reducible refine (HI.out _ (by repeat (first | exact Below.refl w.heap.size w | apply below_alloc | apply pw_below_drewN | apply below_drew1))).mono ?_); rintro e w1 ⟨g, rfl, hs, hb, _⟩; have B1 := Aside0.mk hb; have R1 := Aside0.mk hs.1; clear hs hb HI)
    | (go_at_call 28; (with_reducible refine (HH.out _ g (by repeat (first | exact B1.out | apply below_alloc | apply pw_below_drewN | apply below_drew1)) R1.out).mono ?_); rintro e w2 ⟨⟨W, rfl⟩, hb⟩; have B2 := Aside0.mk (below_step (by repeat (first | exact B1.out | apply below_alloc | apply pw_below_drewN | apply below_drew1)) hb); clear hb HH))
  repeat (go_quiet (fail); try go_wp2)
  go_ret2
  exact ⟨⟨W, rfl⟩, by repeat (first | (with_reducible exact B2.out) | apply below_alloc | apply pw_below_drewN | apply below_drew1)⟩
set_option maxRecDepth 100000 in
theorem scaled_err (ty n : Int) (s : ByteArray) (total : Int) (up : Bool) (w : World)
    (HH : Aside0 (∀ w' g, Below w.heap.size w w' → At w' g ty n s → Calls Tryd.prog 28 #[.pointer (some ⟨g, 0, none⟩), .int .i64 total, .bool up] w' fun e w'' => (∃ x, e = .returned (.tuple #[.int .i64 0, .iface 72 x])) ∧ Below w'.heap.size w' w'')) :
    Calls Tryd.prog 16 #[.agg #[.int .i64 ty, .int .i32 n, .string s], .int .i64 total, .bool up] w fun e w' => e = .returned (.tuple #[.int .i64 0, .bool false]) ∧ Below w.heap.size w w' := by
  have hu24 := Tryd.underlying24
  have HI := Aside0.mk (fun w' (h : Below w.heap.size w w') => impl_intStr.calls ty n s ty n s w w' h rfl)
  go_enter Tryd.func16, Tryd.ntmps16
  go_wp2_with (first
    | (go_at_call 25; (with_reducible refine (HI.out _ (by repeat (first | exact Below.refl w.heap.size w | apply below_alloc | apply pw_below_drewN | apply below_drew1))).mono ?_); rintro e w1 ⟨g, rfl, hs, hb, _⟩; have B1 := Aside0.mk hb; have R1 := Aside0.mk hs.1; clear hs hb HI)
    | (go_at_call 28; (with_reducible refine (HH.out _ g (by repeat (first | exact B1.out | apply below_alloc | apply pw_below_drewN | apply below_drew1)) R1.out).mono ?_); rintro e w2 ⟨⟨x, rfl⟩, hb⟩; have B2 := Aside0.mk (below_step (by repeat (first | exact B1.out | apply below_alloc | apply pw_below_drewN | apply below_drew1)) hb); clear hb HH))
  repeat (go_quiet (fail); try go_wp2)
  go_ret2
  exact ⟨rfl, by repeat (first | (with_reducible exact B2.out) | apply below_alloc | apply pw_below_drewN | apply below_drew1)⟩
end Go.Proofs.YtihlmkgffifknaaDoor.Sc
