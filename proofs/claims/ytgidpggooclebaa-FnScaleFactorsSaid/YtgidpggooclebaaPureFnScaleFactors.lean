/- A whole number loses its factors of a base in the package's own loop just as in the reference's: of every pair of int64 numbers, but for a base below 2 and the least number, of which nothing is asked. -/
import Derived.Test.YtgidpggooclebaaPFnScaleFactorsx1
import Derived.Test.YtgidpggooclebaaSmall
namespace Go.Proofs.Ytgidpggooclebaa.Pure
open Go.RowKit Go.Proofs.Ytgidpggooclebaa.PFnScaleFactors Go.Proofs.YtgidpggooclebaaW.PrintWords Go.Proofs.YtgidpggooclebaaW.PrintLast

theorem sf_l0 (k : Nat) : ∀ (x t : Int) (n : Bool), resource_removeInt64Factors.l0 k x t n = resource_removeInt64Factors.l2 k 10 x t n := by
  induction k with
  | zero => intro x t n; simp [resource_removeInt64Factors.l0, resource_removeInt64Factors.l2]
  | succ k ih =>
    intro x t n
    simp only [resource_removeInt64Factors.l0, resource_removeInt64Factors.l2]
    rw [if_neg (show ¬ (10 : Int) = 0 by decide), ih]

theorem sf_l1 (k : Nat) : ∀ (x t : Int) (n : Bool), resource_removeInt64Factors.l1 k x t n = resource_removeInt64Factors.l2 k 1024 x t n := by
  induction k with
  | zero => intro x t n; simp [resource_removeInt64Factors.l1, resource_removeInt64Factors.l2]
  | succ k ih =>
    intro x t n
    simp only [resource_removeInt64Factors.l1, resource_removeInt64Factors.l2]
    rw [if_neg (show ¬ (1024 : Int) = 0 by decide), ih]

theorem sf_j0 (k : Nat) (b x : Int) (n : Bool) : resource_removeInt64Factors.j0 (k + 1) b x 0 n = resource_removeInt64Factors.l2 k b x 0 n := by
  simp only [resource_removeInt64Factors.j0, sf_l0, sf_l1]
  by_cases h : b = 10
  · rw [if_pos h, h]
  · rw [if_neg h]
    by_cases g : b = 1024
    · rw [if_pos g, g]
    · rw [if_neg g]

theorem sf_pow {x b : Int} {t : Nat} (h2 : 2 ≤ b) (hb : b ≤ x) (h : x * 2 ^ t ≤ 9223372036854775807) : (x / b) * 2 ^ (t + 1) ≤ 9223372036854775807 ∧ t ≤ 62 := by
  have hp : (0 : Int) < 2 ^ t := Int.pow_pos (by decide)
  constructor
  · have h1 : x / b * 2 ≤ x := by
      have : x / b * b ≤ x := Int.ediv_mul_le x (by omega)
      have h0 : 0 ≤ x / b := Int.ediv_nonneg (by omega) (by omega)
      have : x / b * 2 ≤ x / b * b := Int.mul_le_mul_of_nonneg_left h2 h0
      omega
    have : x / b * 2 ^ (t + 1) = x / b * 2 * 2 ^ t := by rw [Int.pow_succ, Int.mul_assoc, Int.mul_comm (2 ^ t)]
    rw [this]
    exact Int.le_trans (Int.mul_le_mul_of_nonneg_right h1 (Int.le_of_lt hp)) h
  · by_cases ht : t ≤ 62
    · exact ht
    · exfalso
      have h63 : (2 : Int) ^ 63 ≤ 2 ^ t := Small.pow2_le (by omega)
      have : 2 * 2 ^ t ≤ x * 2 ^ t := Int.mul_le_mul_of_nonneg_right (by omega) (Int.le_of_lt hp)
      have e : (2 : Int) ^ 63 = 9223372036854775808 := by decide
      omega

/-- Both loops, of a number and of its negative, from `t` factors on. -/
theorem sf_both (b : Int) (h2 : 2 ≤ b) (hb : b ≤ 9223372036854775807) (d : Nat) : ∀ (k : Nat) (x : Int) (t : Nat), 0 ≤ x → x * 2 ^ t ≤ 9223372036854775807 → x ≤ 9223372036854775807 → x.toNat < d → d ≤ k → t ≤ 63 →
    ∃ (r : Int) (m : Nat), m ≤ 64 ∧ resource_removeInt64Factors.l2 k b x t false = some (r, (m : Int)) ∧ resource_removeInt64Factors.l2 k b x t true = some (-r, (m : Int)) ∧
      spec_Factors.l0 k x b t = some (r, (m : Int)) ∧ spec_Factors.l0 k (-x) b t = some (-r, (m : Int)) := by
  induction d with
  | zero => intro k x t _ _ _ h; omega
  | succ d ih =>
    intro k x t h0 hx hm hd hk ht
    obtain ⟨k, rfl⟩ : ∃ m, k = m + 1 := ⟨k - 1, by omega⟩
    have wb : Unit → wrap64 (-b) = -b := fun _ => Small.w64 _ (by omega) (by omega)
    have wx : Unit → wrap64 (-x) = -x := fun _ => Small.w64 _ (by omega) (by omega)
    by_cases hge : b ≤ x
    · by_cases hr : Int.tmod x b = 0
      · have hq : Int.tdiv x b = x / b := Int.tdiv_eq_ediv_of_nonneg h0
        have q0 : 0 ≤ x / b := Int.ediv_nonneg (by omega) (by omega)
        have qlt : x / b < x := Int.ediv_lt_self_of_pos_of_ne_one (by omega) (by omega)
        obtain ⟨hp, ht'⟩ := sf_pow h2 hge hx
        obtain ⟨r, m, hm', e1, e2, e3, e4⟩ := ih k (x / b) (t + 1) q0 hp (by omega) (by omega) (by omega) (by omega)
        clear hp hx ih
        generalize x / b = q at *
        have w1 : Unit → wrap64 q = q := fun _ => Small.w64 _ (by omega) (by omega)
        have w2 : Unit → wrap64 (-q) = -q := fun _ => Small.w64 _ (by omega) (by omega)
        have w3 : Unit → wrap32 ((t : Int) + 1) = ((t + 1 : Nat) : Int) := fun _ => Small.w32s t (by omega)
        have w4 : Unit → wrap64 ((t : Int) + 1) = ((t + 1 : Nat) : Int) := fun _ => Small.w64s t (by omega)
        refine ⟨r, m, hm', ?_, ?_, ?_, ?_⟩
        · simp only [resource_removeInt64Factors.l2]
          rw [if_pos hge, if_neg (by omega), if_pos hr, hq, w1 (), w3 (), e1]
        · simp only [resource_removeInt64Factors.l2]
          rw [if_pos hge, if_neg (by omega), if_pos hr, hq, w1 (), w3 (), e2]
        · simp only [spec_Factors.l0]
          rw [if_pos hge, if_neg (by omega), if_pos hr, hq, w1 (), w4 (), e3]
        · simp only [spec_Factors.l0]
          rw [if_neg (by omega), wb (), if_pos (by omega), if_neg (by omega), Int.neg_tmod, hr, if_pos (by decide), Int.neg_tdiv, hq, w2 (), w4 (), e4]
      · refine ⟨x, t, by omega, ?_, ?_, ?_, ?_⟩
        · simp only [resource_removeInt64Factors.l2]
          rw [if_pos hge, if_neg (by omega), if_neg hr]; rfl
        · simp only [resource_removeInt64Factors.l2]
          rw [if_pos hge, if_neg (by omega), if_neg hr, if_pos trivial, wx ()]
        · simp only [spec_Factors.l0]
          rw [if_pos hge, if_neg (by omega), if_neg hr]
        · simp only [spec_Factors.l0]
          rw [if_neg (by omega), wb (), if_pos (by omega), if_neg (by omega), Int.neg_tmod, if_neg (by omega)]
    · refine ⟨x, t, by omega, ?_, ?_, ?_, ?_⟩
      · simp only [resource_removeInt64Factors.l2]
        rw [if_neg hge]; rfl
      · simp only [resource_removeInt64Factors.l2]
        rw [if_neg hge, if_pos trivial, wx ()]
      · simp only [spec_Factors.l0]
        rw [if_neg hge, wb (), if_neg (by omega)]
      · simp only [spec_Factors.l0]
        rw [if_neg (by omega), wb (), if_neg (by omega)]

/-- The package's function and the reference's tell the same. -/
theorem sf_same (a b : Int) (h1 : -9223372036854775808 < a) (h1' : a ≤ 9223372036854775807) (h2 : 2 ≤ b) (h2' : b ≤ 9223372036854775807) :
    ∃ (r : Int) (m : Int), Ev (fun k => impl_TakeFactors.f k a b) (r, m) ∧ Ev (fun k => spec_Factors.f k a b) (r, m) := by
  by_cases h : a < 0
  · obtain ⟨r, m, hm, _, e2, _, e4⟩ := sf_both b h2 h2' ((-a).toNat + 1) ((-a).toNat + 1) (-a) 0 (by omega) (by simp; omega) (by omega) (by omega) (by omega) (by omega)
    refine ⟨-r, m, Ev.of (impl_TakeFactors.mono a b) (k := (-a).toNat + 1 + 1) ?_, Ev.of (spec_Factors.mono a b) (k := (-a).toNat + 1) ?_⟩
    · have w : wrap64 (-a) = -a := by unfold wrap64; omega
      have w' : wrap64 (m : Int) = m := by unfold wrap64; omega
      unfold impl_TakeFactors.f resource_ZzRemoveFactors.f resource_removeInt64Factors.f
      rw [if_pos h, w, sf_j0, decide_eq_true h]
      simp only [Int.natCast_zero] at e2
      rw [e2]; simp only [Option.bind_some, w']
    · unfold spec_Factors.f
      simp only [Int.natCast_zero, Int.neg_neg] at e4
      exact e4
  · obtain ⟨r, m, hm, e1, _, e3, _⟩ := sf_both b h2 h2' (a.toNat + 1) (a.toNat + 1) a 0 (by omega) (by simp; omega) (by omega) (by omega) (by omega) (by omega)
    refine ⟨r, m, Ev.of (impl_TakeFactors.mono a b) (k := a.toNat + 1 + 1) ?_, Ev.of (spec_Factors.mono a b) (k := a.toNat + 1) ?_⟩
    · have w' : wrap64 (m : Int) = m := by unfold wrap64; omega
      unfold impl_TakeFactors.f resource_ZzRemoveFactors.f resource_removeInt64Factors.f
      rw [if_neg h, sf_j0, decide_eq_false h]
      simp only [Int.natCast_zero] at e1
      rw [e1]; simp only [Option.bind_some, w']
    · unfold spec_Factors.f
      simp only [Int.natCast_zero] at e3
      exact e3

theorem sf_j (a b : Int) (h1 : -9223372036854775808 < a) (h1' : a ≤ 9223372036854775807) (h2 : 2 ≤ b) (h2' : b ≤ 9223372036854775807) :
    Ev (fun k => laws_FnScaleFactors.j0 k a b false) true := by
  obtain ⟨r, m, e1, e2⟩ := sf_same a b h1 h1' h2 h2'
  have e3 : Ev (fun k => impl_TakeFactors.f k 3000 10) (3, 3) := Ev.of (impl_TakeFactors.mono 3000 10) (k := 10) (by decide +kernel)
  refine Ev.step (f := fun k => (impl_TakeFactors.f k a b).bind fun bt105 => ((spec_Factors.f k a b).bind fun bt107 => ((impl_TakeFactors.f k 3000 10).bind fun bt109 => (if bt105.1 = bt107.1 then (if bt105.2 = bt107.2 then (if bt109.1 = 3 then (some (bt109.2 == 3)) else (some false)) else (some false)) else (some false))))) (fun k => ?_) ?_
  · simp only [laws_FnScaleFactors.j0]; rfl
  · refine Ev.bind e1 (Ev.bind e2 (Ev.bind e3 ?_))
    simp only [if_true]
    exact Ev.now _

theorem FnScaleFactors : laws_FnScaleFactors.Pure := by
  intro a b ha hb
  have ha := Small.wf64 ha
  have hb := Small.wf64 hb
  unfold laws_FnScaleFactors.f
  by_cases h : b < 2
  · exact ⟨1, by rw [if_pos h]; rfl⟩
  · by_cases g : a = -9223372036854775808
    · exact ⟨1, by rw [if_neg h, g]; rfl⟩
    · obtain ⟨k, hk⟩ := (sf_j a b (by omega) (by omega) (by omega) (by omega)).rounds
      exact ⟨k, by rw [if_neg h, beq_eq_false_iff_ne.mpr g]; exact hk⟩

end Go.Proofs.Ytgidpggooclebaa.Pure
