/- A part by percent: the walks of its calls. -/
import Derived.Test.YtihlmkgffifknaaDoorShelf
import Derived.Test.YtihlmkgffifknaaDoorPFnIntStrScaledx1
import Derived.Test.YtihlmkgffifknaaDoorPFnIntStrScaledx2
import Derived.Test.YtihlmkgffifknaaDoorFlN
import Derived.WalkKit
import Derived.WalkMore
import Derived.KernelRfl
import Derived.Shelf.SlSortCmp.QuietGrown
import Derived.Deep.QuietTactic
import Derived.BigQuiet
import Derived.Lib.AtoiErrMem
set_option linter.unusedVariables false
set_option linter.unusedSimpArgs false
namespace Go.Proofs.YtihlmkgffifknaaDoor.Sc
open Go Go.Sort Go.RowKit Go.Proofs.YtihlmkgffifknaaDoor Go.Proofs.YtihlmkgffifknaaDoorW.PrintWords Go.Proofs.YtihlmkgffifknaaDoor.PFnIntStrScaled

theorem integral_run (name : String) (way : Ieee.Toward) (x : Nat) (hx : ∀ s t, FloatKind.f64.decode x ≠ .nan s t) (w : World) : (Extern.MathFloor.toIntegral name way #[.float .f64 x]).run Tryd.prog w = .ok (.float .f64 (FloatKind.f64.encode ((FloatKind.f64.decode x).integral way))) w := by
  have e0 : ∃ F : Bool → Nat → Sem Value, Extern.MathFloor.toIntegral name way #[.float .f64 x] = (match FloatKind.f64.decode x with | .nan s t => F s t | d => pure (.float .f64 (FloatKind.f64.encode (d.integral way)))) := ⟨_, rfl⟩
  obtain ⟨F, e0⟩ := e0
  rw [e0]
  cases h : FloatKind.f64.decode x with
  | nan s t => exact absurd h (hx s t)
  | number s m e => rfl
  | infinity s => rfl
set_option maxRecDepth 100000 in
theorem ceil_calls (x : Nat) (hx : ∀ s t, FloatKind.f64.decode x ≠ .nan s t) (w : World) :
    Calls Tryd.prog 36 #[.float .f64 x] w fun e w' => e = .returned (.float .f64 (FloatKind.f64.encode ((FloatKind.f64.decode x).integral .up))) ∧ w' = w := by
  have hc : ∀ W, (callFunc 44 #[.float .f64 x]).run Tryd.prog W = .ok (.value (.float .f64 (FloatKind.f64.encode ((FloatKind.f64.decode x).integral .up)))) W := fun W => by
    rw [run_callFunc_extern (e := Extern.MathFloor.toIntegral "math.archCeil" .up) Tryd.func44 (by kernel_rfl) (by kernel_rfl) (by kernel_rfl) (by kernel_rfl), integral_run _ _ x hx]; rfl
  go_enter Tryd.func36, Tryd.ntmps36
  go_wp2_with fail
  go_ret
  exact ⟨rfl, rfl⟩
set_option maxRecDepth 100000 in
theorem floor_calls (x : Nat) (hx : ∀ s t, FloatKind.f64.decode x ≠ .nan s t) (w : World) :
    Calls Tryd.prog 37 #[.float .f64 x] w fun e w' => e = .returned (.float .f64 (FloatKind.f64.encode ((FloatKind.f64.decode x).integral .down))) ∧ w' = w := by
  have hc : ∀ W, (callFunc 46 #[.float .f64 x]).run Tryd.prog W = .ok (.value (.float .f64 (FloatKind.f64.encode ((FloatKind.f64.decode x).integral .down)))) W := fun W => by
    rw [run_callFunc_extern (e := Extern.MathFloor.toIntegral "math.archFloor" .down) Tryd.func46 (by kernel_rfl) (by kernel_rfl) (by kernel_rfl) (by kernel_rfl), integral_run _ _ x hx]; rfl
  go_enter Tryd.func37, Tryd.ntmps37
  go_wp2_with fail
  go_ret
  exact ⟨rfl, rfl⟩
set_option maxHeartbeats 1000000 in
theorem new_calls (s : ByteArray) (w : World) :
    Calls Tryd.prog 29 #[.string s] w fun e w' => (∃ x, e = .returned (.iface 72 x)) ∧ Below w.heap.size w w' := by
  have hu1 := Tryd.underlying74
  go_enter Tryd.func29, Tryd.ntmps29
  go_wp2_with fail
  go_ret
  exact ⟨⟨_, rfl⟩, by repeat (first | (with_reducible exact Below.refl _ _) | apply below_alloc | apply pw_below_drewN | apply below_drew1)⟩
/-- Where the value stands. -/
abbrev At (w : World) (g : Nat) (ty n : Int) (s : ByteArray) : Prop := w.heap[g]? = some (.cells #[.int .i64 ty, .int .i32 n, .string s] 51 (0, 0))
set_option maxRecDepth 100000 in
theorem value_int (n : Int) (h0 : -2147483648 ≤ n) (h1 : n ≤ 2147483647) (s : ByteArray) (g : Nat) (w : World) (hg : At w g 0 n s) :
    Calls Tryd.prog 32 #[.pointer (some ⟨g, 0, none⟩)] w fun e w' => e = .returned (.int .i64 n) ∧ Below w.heap.size w w' := by
  have hu1 := Tryd.underlying51
  have e1 : wrap64 n = n := IntWalk.wrap64_in _ ⟨by omega, by omega⟩
  have e2 : IntKind.i64.wrap n = n := (IntWalk.i64_left _).trans e1
  have c0 : w.cell? ⟨g, 0, none⟩ = some (.int .i64 0) := blk_cell hg 0
  have c1 : w.cell? ⟨g, 1, none⟩ = some (.int .i32 n) := blk_cell hg 1
  clear h0 h1 hg
  go_enter Tryd.func32, Tryd.ntmps32
  go_wp2_with fail
  go_ret
  exact ⟨rfl, by repeat (first | (with_reducible exact Below.refl _ _) | apply below_alloc | apply pw_below_drewN | apply below_drew1)⟩
set_option maxRecDepth 100000 in
theorem safe_int (n : Int) (h0 : -2147483648 ≤ n) (h1 : n ≤ 2147483647) (s : ByteArray) (g : Nat) (w : World) (hg : At w g 0 n s) :
    Calls Tryd.prog 35 #[.pointer (some ⟨g, 0, none⟩)] w fun e w' => e = .returned (.tuple #[.int .i64 n, .bool false, .nilIface]) ∧ Below w.heap.size w w' := by
  have hu1 := Tryd.underlying51
  have c0 : w.cell? ⟨g, 0, none⟩ = some (.int .i64 0) := blk_cell hg 0
  have R := Aside0.mk hg
  have H := Aside0.mk (fun w hw => value_int n h0 h1 s g w hw)
  clear h0 h1 hg
  go_enter Tryd.func35, Tryd.ntmps35
  go_wp2_with (go_at_call 32; (with_reducible refine (H.out _ ?_).mono ?_); exact R.out; rintro e w1 ⟨rfl, hb⟩; have B1 := Aside0.mk (below_step (by repeat (first | exact Below.refl w.heap.size w | apply below_alloc | apply pw_below_drewN | apply below_drew1)) hb); clear hb H)
  go_ret3
  exact ⟨rfl, B1.out⟩
set_option maxRecDepth 100000 in
theorem safe_other (ty n : Int) (k0 : ty ≠ 0) (k1 : ty ≠ 1) (s : ByteArray) (g : Nat) (w : World) (hg : At w g ty n s) :
    Calls Tryd.prog 35 #[.pointer (some ⟨g, 0, none⟩)] w fun e w' => (∃ x, e = .returned (.tuple #[.int .i64 0, .bool false, .iface 72 x])) ∧ Below w.heap.size w w' := by
  have hu1 := Tryd.underlying51
  have c0 : w.cell? ⟨g, 0, none⟩ = some (.int .i64 ty) := blk_cell hg 0
  have d0 : (ty == 0) = false := beq_eq_false_iff_ne.2 k0
  have d1 : (ty == 1) = false := beq_eq_false_iff_ne.2 k1
  have q0 : (ty = 0) = False := eq_false k0
  have q1 : (ty = 1) = False := eq_false k1
  have H := Aside0.mk (fun s w => new_calls s w)
  clear hg k0 k1
  go_enter Tryd.func35, Tryd.ntmps35
  go_wp2_with (go_at_call 29; (with_reducible refine (H.out _ _).mono ?_); rintro e w1 ⟨⟨x, rfl⟩, hb⟩; have B1 := Aside0.mk (below_step (by repeat (first | exact Below.refl w.heap.size w | apply below_alloc | apply pw_below_drewN | apply below_drew1)) hb); clear hb H)
  go_ret3
  exact ⟨⟨_, rfl⟩, B1.out⟩
set_option maxRecDepth 100000 in
theorem safe_plain (n : Int) (s : ByteArray) (hs : strings_HasSuffix.f s ⟨#[37]⟩ = some false) (g : Nat) (w : World) (hg : At w g 1 n s) :
    Calls Tryd.prog 35 #[.pointer (some ⟨g, 0, none⟩)] w fun e w' => (∃ x, e = .returned (.tuple #[.int .i64 0, .bool false, .iface 72 x])) ∧ Below w.heap.size w w' := by
  have hu1 := Tryd.underlying51
  have c0 : w.cell? ⟨g, 0, none⟩ = some (.int .i64 1) := blk_cell hg 0
  have c2 : w.cell? ⟨g, 2, none⟩ = some (.string s) := blk_cell hg 2
  have H := Aside0.mk (fun s w => new_calls s w)
  have HS := Aside0.mk (fun w => strings_HasSuffix.calls s ⟨#[37]⟩ false w hs)
  clear hg hs
  go_enter Tryd.func35, Tryd.ntmps35
  go_wp2_with (first
    | (go_at_call 42; (with_reducible refine (HS.out _).mono ?_); rintro e w1 ⟨rfl, hb⟩; have hb := hb.below; have B0 := Aside0.mk (below_step (by repeat (first | exact Below.refl w.heap.size w | apply below_alloc | apply pw_below_drewN | apply below_drew1)) hb); clear hb HS)
    | (go_at_call 29; (with_reducible refine (H.out _ _).mono ?_); rintro e w2 ⟨⟨x, rfl⟩, hb⟩; have B1 := Aside0.mk (below_step (by repeat (first | exact B0.out | apply below_alloc | apply pw_below_drewN | apply below_drew1)) hb); clear hb H))
  go_ret3
  exact ⟨⟨_, rfl⟩, B1.out⟩
theorem atoiB (s : ByteArray) (hmax : s.size ≤ 2147483647) (v : Int) (h : Lib.atoiAll s.data.toList = .ok v) (w : World) :
    Calls Tryd.prog 39 #[.string s] w fun e w' => e = .returned (.tuple #[.int .i64 v, .nilIface]) ∧ Below w.heap.size w w' :=
  (Tryd.strconv_Atoi_ok s (by omega) v h w).mono fun e w' hq => by
    obtain ⟨rfl, rfl | ⟨t, rfl⟩⟩ := hq
    · exact ⟨rfl, Below.refl _ _⟩
    · exact ⟨rfl, Lib.bytesWorld_below w 5 t⟩
theorem atoiBad (s : ByteArray) (hmax : s.size ≤ 2147483647) (h : ∀ v, Lib.atoiAll s.data.toList ≠ .ok v) (w : World) (e5 e6 : Value) (h5 : w.cell? ⟨5, 0, none⟩ = some e5) (k5 : e5 = .nilIface ∨ ∃ te pe, e5 = .iface te pe) (h6 : w.cell? ⟨6, 0, none⟩ = some e6) (k6 : e6 = .nilIface ∨ ∃ te pe, e6 = .iface te pe) :
    Calls Tryd.prog 39 #[.string s] w fun e w' => ∃ (v : Int) (N : Nat), e = .returned (.tuple #[.int .i64 v, .iface 83 (.pointer (some ⟨N, 0, none⟩))]) ∧ Below w.heap.size w w' := by
  rcases hp : Lib.atoiAll s.data.toList with v | _ | _
  · exact absurd hp (h v)
  · refine (Any.strconv_Atoi_syntax Tryd.laysC172 s (by omega) hp e5 w h5 k5).mono fun e w' hq => ?_
    obtain ⟨N, rfl, _, _, hb⟩ := hq
    exact ⟨_, N, rfl, hb⟩
  · refine (Tryd.strconv_Atoi_range s (by omega) hp e6 w h6 k6).mono fun e w' hq => ?_
    obtain ⟨N, rfl, _, _, hb⟩ := hq
    exact ⟨_, N, rfl, hb⟩
/-- What both variables of errors hold, as it must be of errors. -/
def Errs (w : World) : Prop := ∃ e5 e6 : Value, w.cell? ⟨5, 0, none⟩ = some e5 ∧ (e5 = .nilIface ∨ ∃ te pe, e5 = .iface te pe) ∧ w.cell? ⟨6, 0, none⟩ = some e6 ∧ (e6 = .nilIface ∨ ∃ te pe, e6 = .iface te pe)
theorem Errs.below {w w' : World} (h : Errs w) (hb : Below w.heap.size w w') : Errs w' := by
  obtain ⟨e5, e6, h5, k5, h6, k6⟩ := h
  exact ⟨e5, e6, (hb.cell (World.block_lt_of_cell? w _ h5)).trans h5, k5, (hb.cell (World.block_lt_of_cell? w _ h6)).trans h6, k6⟩
theorem atoiE (s : ByteArray) (hmax : s.size ≤ 2147483647) (h : ∀ v, Lib.atoiAll s.data.toList ≠ .ok v) (w : World) (he : Errs w) :
    Calls Tryd.prog 39 #[.string s] w fun e w' => ∃ (v : Int) (N : Nat), e = .returned (.tuple #[.int .i64 v, .iface 83 (.pointer (some ⟨N, 0, none⟩))]) ∧ Below w.heap.size w w' := by
  obtain ⟨e5, e6, h5, k5, h6, k6⟩ := he
  exact atoiBad s hmax h w e5 e6 h5 k5 h6 k6
set_option maxRecDepth 100000 in
theorem safe_ok (n v : Int) (s t : ByteArray) (hs : strings_HasSuffix.f s ⟨#[37]⟩ = some true) (ht : strings_TrimSuffix.f s ⟨#[37]⟩ = some t) (hmax : t.size ≤ 2147483647) (hv : Lib.atoiAll t.data.toList = .ok v) (g : Nat) (w : World) (hg : At w g 1 n s) :
    Calls Tryd.prog 35 #[.pointer (some ⟨g, 0, none⟩)] w fun e w' => e = .returned (.tuple #[.int .i64 v, .bool true, .nilIface]) ∧ Below w.heap.size w w' := by
  have hu1 := Tryd.underlying51
  have c0 : w.cell? ⟨g, 0, none⟩ = some (.int .i64 1) := blk_cell hg 0
  have c2 : w.cell? ⟨g, 2, none⟩ = some (.string s) := blk_cell hg 2
  have hb := Lib.atoiAll_bounds hv
  have e1 : wrap64 v = v := IntWalk.wrap64_in _ ⟨by omega, by omega⟩
  have e2 : IntKind.i64.wrap v = v := (IntWalk.i64_left _).trans e1
  have R := Aside0.mk hg
  have HS := Aside0.mk (fun w => strings_HasSuffix.calls s ⟨#[37]⟩ true w hs)
  have HT := Aside0.mk (fun w => strings_TrimSuffix.calls s ⟨#[37]⟩ t w ht)
  have HA := Aside0.mk (fun w => atoiB t hmax v hv w)
  clear hg hs ht hv hb hmax
  go_enter Tryd.func35, Tryd.ntmps35
  go_wp2_with (first
    | (go_at_call 42; (with_reducible refine (HS.out _).mono ?_); rintro e w1 ⟨rfl, hb⟩; have hb := hb.below; have B0 := Aside0.mk (below_step (by repeat (first | exact Below.refl w.heap.size w | apply below_alloc | apply pw_below_drewN | apply below_drew1)) hb); have R1 := Aside0.mk (blk_below R.out B0.out); have c3 : w1.cell? ⟨g, 2, none⟩ = some (.string s) := blk_cell R1.out 2; clear hb HS)
    | (go_at_call 43; (with_reducible refine (HT.out _).mono ?_); rintro e w2 ⟨rfl, hb⟩; have hb := hb.below; have B1 := Aside0.mk (below_step (by repeat (first | exact B0.out | apply below_alloc | apply pw_below_drewN | apply below_drew1)) hb); clear hb HT)
    | (go_at_call 39; (with_reducible refine (HA.out _).mono ?_); rintro e w3 ⟨rfl, hb⟩; have B2 := Aside0.mk (below_step (by repeat (first | exact B1.out | apply below_alloc | apply pw_below_drewN | apply below_drew1)) hb); clear hb HA))
  go_ret3
  exact ⟨rfl, B2.out⟩
set_option maxRecDepth 100000 in
theorem safe_bad (n : Int) (s t : ByteArray) (hs : strings_HasSuffix.f s ⟨#[37]⟩ = some true) (ht : strings_TrimSuffix.f s ⟨#[37]⟩ = some t) (hmax : t.size ≤ 2147483647) (hv : ∀ v, Lib.atoiAll t.data.toList ≠ .ok v) (g : Nat) (w : World) (he : Errs w) (hg : At w g 1 n s) :
    Calls Tryd.prog 35 #[.pointer (some ⟨g, 0, none⟩)] w fun e w' => (∃ x, e = .returned (.tuple #[.int .i64 0, .bool false, .iface 72 x])) ∧ Below w.heap.size w w' := by
  have hu1 := Tryd.underlying51
  have c0 : w.cell? ⟨g, 0, none⟩ = some (.int .i64 1) := blk_cell hg 0
  have c2 : w.cell? ⟨g, 2, none⟩ = some (.string s) := blk_cell hg 2
  have R := Aside0.mk hg
  have H := Aside0.mk (fun s w => new_calls s w)
  have HS := Aside0.mk (fun w => strings_HasSuffix.calls s ⟨#[37]⟩ true w hs)
  have HT := Aside0.mk (fun w => strings_TrimSuffix.calls s ⟨#[37]⟩ t w ht)
  have HA := Aside0.mk (fun w h => atoiE t hmax hv w h)
  have HE := Aside0.mk (fun (w' : World) hb => Errs.below (w' := w') he hb)
  clear hg hs ht hv hmax he
  go_enter Tryd.func35, Tryd.ntmps35
  go_wp2_with (first
    | (go_at_call 42; (with_reducible refine (HS.out _).mono ?_); rintro e w1 ⟨rfl, hb⟩; have hb := hb.below; have B0 := Aside0.mk (below_step (by repeat (first | exact Below.refl w.heap.size w | apply below_alloc | apply pw_below_drewN | apply below_drew1)) hb); have R1 := Aside0.mk (blk_below R.out B0.out); have c3 : w1.cell? ⟨g, 2, none⟩ = some (.string s) := blk_cell R1.out 2; clear hb HS)
    | (go_at_call 43; (with_reducible refine (HT.out _).mono ?_); rintro e w2 ⟨rfl, hb⟩; have hb := hb.below; have B1 := Aside0.mk (below_step (by repeat (first | exact B0.out | apply below_alloc | apply pw_below_drewN | apply below_drew1)) hb); clear hb HT)
    | (go_at_call 39; (with_reducible refine (HA.out _ (HE.out _ (by repeat (first | exact B1.out | apply below_alloc | apply pw_below_drewN | apply below_drew1)))).mono ?_); rintro e w3 ⟨v, N, rfl, hb⟩; have B2 := Aside0.mk (below_step (by repeat (first | exact B1.out | apply below_alloc | apply pw_below_drewN | apply below_drew1)) hb); clear hb HA)
    | (go_at_call 29; (with_reducible refine (H.out _ _).mono ?_); rintro e w4 ⟨⟨x, rfl⟩, hb⟩; have B3 := Aside0.mk (below_step (by repeat (first | exact B2.out | apply below_alloc | apply pw_below_drewN | apply below_drew1)) hb); clear hb H))
  go_ret3
  exact ⟨⟨_, rfl⟩, B3.out⟩
end Go.Proofs.YtihlmkgffifknaaDoor.Sc
