/- Versions of kinds: their order is one: no program in sight. -/
import Derived.Test.YtomoefldmgfaoaaDoorPvO
set_option linter.unusedVariables false
set_option linter.unusedSimpArgs false
namespace Go.Proofs.YtomoefldmgfaoaaDoor.Pv
open Go

theorem cb_neg : ∀ (x y : Bs), Lib.compareBytes x y = -Lib.compareBytes y x
  | [], [] => rfl
  | [], _ :: _ => rfl
  | _ :: _, [] => rfl
  | a :: x, b :: y => by
    rw [Lib.compareBytes, Lib.compareBytes, cb_neg x y]
    by_cases h1 : a < b
    · have h2 : ¬ b < a := fun h => by rw [UInt8.lt_iff_toNat_lt] at h h1; omega
      rw [if_pos h1, if_neg h2, if_pos h1]
    · by_cases h2 : b < a
      · rw [if_neg h1, if_pos h2, if_pos h2]; rfl
      · rw [if_neg h1, if_neg h2, if_neg h2, if_neg h1]
theorem cb_trans : ∀ (x y z : Bs), 0 ≤ Lib.compareBytes x y → 0 ≤ Lib.compareBytes y z → 0 ≤ Lib.compareBytes x z
  | [], [], z, _, h => h
  | [], _ :: _, _, h, _ => absurd (show (0 : Int) ≤ -1 from h) (by decide)
  | _ :: _, _, [], _, _ => by show (0 : Int) ≤ 1; omega
  | _ :: _, [], _ :: _, _, h => absurd (show (0 : Int) ≤ -1 from h) (by decide)
  | a :: x, b :: y, c :: z, h1, h2 => by
    rw [Lib.compareBytes] at h1 h2 ⊢
    have ab : ¬ a < b := fun h => by rw [if_pos h] at h1; exact absurd (show (0 : Int) ≤ -1 from h1) (by decide)
    have bc : ¬ b < c := fun h => by rw [if_pos h] at h2; exact absurd (show (0 : Int) ≤ -1 from h2) (by decide)
    have ac : ¬ a < c := fun h => by rw [UInt8.lt_iff_toNat_lt] at ab bc h; omega
    rw [if_neg ab] at h1
    rw [if_neg bc] at h2
    rw [if_neg ac]
    by_cases ca : c < a
    · rw [if_pos ca]; omega
    · rw [if_neg ca]
      have ba : ¬ b < a := fun h => by rw [UInt8.lt_iff_toNat_lt] at bc ca h; omega
      have cb : ¬ c < b := fun h => by rw [UInt8.lt_iff_toNat_lt] at ab ca h; omega
      rw [if_neg ba] at h1
      rw [if_neg cb] at h2
      exact cb_trans x y z h1 h2
theorem kcmp_self (a : Bs) : kcmp a a = 0 := if_pos rfl
theorem kcmp_neg (a b : Bs) : kcmp a b = -kcmp b a := by
  by_cases h : a = b
  · rw [h, kcmp_self]; rfl
  · unfold kcmp
    rw [if_neg h, if_neg (fun e => h e.symm)]
    cases kube a with
    | none =>
      cases kube b with
      | none => exact cb_neg b a
      | some y => rfl
    | some x =>
      cases kube b with
      | none => rfl
      | some y =>
        simp only
        generalize val x.2.1 = P
        generalize val y.2.1 = Q
        generalize val x.2.2 = U
        generalize val y.2.2 = V
        generalize x.1 = p
        generalize y.1 = q
        repeat' split
        all_goals omega
theorem kcmp_trans (a b c : Bs) (h1 : 0 ≤ kcmp a b) (h2 : 0 ≤ kcmp b c) : 0 ≤ kcmp a c := by
  by_cases ab : a = b
  · rw [ab]; exact h2
  by_cases bc : b = c
  · rw [← bc]; exact h1
  by_cases ac : a = c
  · rw [ac, kcmp_self]; omega
  unfold kcmp at h1 h2 ⊢
  rw [if_neg ab] at h1
  rw [if_neg bc] at h2
  rw [if_neg ac]
  cases ka : kube a with
  | none =>
    rw [ka] at h1
    cases kb : kube b with
    | some y => rw [kb] at h1; exact absurd (show (0 : Int) ≤ -1 from h1) (by decide)
    | none =>
      rw [kb] at h1 h2
      cases kc : kube c with
      | some z => rw [kc] at h2; exact absurd (show (0 : Int) ≤ -1 from h2) (by decide)
      | none => rw [kc] at h2; exact cb_trans c b a h2 h1
  | some x =>
    rw [ka] at h1
    cases kc : kube c with
    | none => show (0 : Int) ≤ 1; omega
    | some z =>
      rw [kc] at h2
      cases kb : kube b with
      | none => rw [kb] at h2; exact absurd (show (0 : Int) ≤ -1 from h2) (by decide)
      | some y =>
        rw [kb] at h1 h2
        simp only at h1 h2 ⊢
        generalize val x.2.1 = P at h1 ⊢
        generalize val y.2.1 = Q at h1 h2
        generalize val z.2.1 = R at h2 ⊢
        generalize val x.2.2 = U at h1 ⊢
        generalize val y.2.2 = V at h1 h2
        generalize val z.2.2 = W at h2 ⊢
        generalize x.1 = p at h1 ⊢
        generalize y.1 = q at h1 h2
        generalize z.1 = r at h2 ⊢
        repeat' split at h1
        all_goals repeat' split at h2
        all_goals repeat' split
        all_goals omega
end Go.Proofs.YtomoefldmgfaoaaDoor.Pv
