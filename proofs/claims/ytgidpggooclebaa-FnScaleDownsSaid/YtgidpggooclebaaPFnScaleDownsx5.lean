-- PRINTED BY print.sh 35421559b90ae4d0a3588c463048766b98c2df88dd9212a6774a882060cdf62d: not written by this session
import Derived.Test.YtgidpggooclebaaPFnScaleDownsx0
import Derived.Test.YtgidpggooclebaaPFnScaleDownsx4
namespace Go.Proofs.Ytgidpggooclebaa.PFnScaleDowns
open Go.RowKit Go.Proofs.YtgidpggooclebaaW.PrintWords Go.Proofs.YtgidpggooclebaaW.PrintLast Go.Proofs.YtgidpggooclebaaW.PrintMore
attribute [local go_sem] max2_int min2_int max_two min_two max_three min_three max_four min_four   -- for this text's walks alone
set_option linter.unusedVariables false
set_option linter.unusedSimpArgs false

/-! ### impl_ScaleDown: function 17 -/
def impl_ScaleDown.f (k : Nat) (a0 : Int) (a1 : Int) : Option (Int × Bool) := (resource_ZzNegativeScale.f k a0 (wrap32 (a1))).bind fun bt199 => (some (bt199.1, bt199.2))
theorem impl_ScaleDown.mono : ∀ a0 a1 k, LeO (impl_ScaleDown.f k a0 a1) (impl_ScaleDown.f (k + 1) a0 a1) := by
  intro a0 a1 k
  unfold impl_ScaleDown.f
  repeat' first
      | (with_reducible exact resource_ZzNegativeScale.mono _ _ _)
      | (with_reducible exact LeO.refl _)
      | (with_reducible exact LeO.none _)
      | (with_reducible refine LeO.ite ?_ ?_)
      | (with_reducible refine LeO.bind ?_ (fun _ => ?_))
      | exact resource_ZzNegativeScale.mono _ _ _
      | exact LeO.none _
      | refine LeO.ite ?_ ?_
      | refine LeO.bind ?_ (fun _ => ?_)
set_option maxHeartbeats 8000000 in
set_option maxRecDepth 100000 in
theorem impl_ScaleDown.calls (k : Nat) (a0 : Int) (a1 : Int) (r1 : Int) (r2 : Bool) (w : World) (h : impl_ScaleDown.f k a0 a1 = some (r1, r2)) :
    Calls Try.prog 17 #[.int .i64 a0, .int .i64 a1] w fun e w' => e = .returned (.tuple #[.int .i64 r1, .bool r2]) ∧ Drawn0 w w' := by
  have H : ((resource_ZzNegativeScale.f k a0 (wrap32 (a1))).bind fun bt199 => (some (bt199.1, bt199.2))) = some (r1, r2) := h
  clear h
  replace H := Option.bind_eq_some_iff.mp H
  obtain ⟨⟨t199, t200⟩, A30, H⟩ := H
  replace H : (some (t199, t200)) = some (r1, r2) := H
  have A3 := Aside0.mk A30
  clear A30
  simp only [Option.some.injEq, Prod.mk.injEq] at H
  obtain ⟨rfl, rfl⟩ := H
  go_enter Try.func17, Try.ntmps17
  go_wp2_with (first | ((with_reducible refine gate_callee (f := 29) rfl ?_); refine goesL_ (some 9) rfl rfl Try.func29 (by kernel_rfl) rfl #[.int .i64 a0, .int .i32 (wrap32 (a1))] rfl (by (try simp only [List.map_toArray, List.map_cons, List.map_nil]); first | done | rfl | (simp only [List.length_drop, List.length_take]; rfl)) ?_; (with_reducible refine (resource_ZzNegativeScale.calls k a0 (wrap32 (a1)) t199 t200 _ A3.out).mono ?_); rintro e w' ⟨rfl, ⟨nd, rfl⟩⟩; refine ⟨_, rfl, ?_⟩))
  go_ret2
  exact ⟨by first | rfl | (simp; done) | (simp [*]; done), by repeat (first | exact Drawn0.refl _ | apply Drawn0.step)⟩

end Go.Proofs.Ytgidpggooclebaa.PFnScaleDowns
