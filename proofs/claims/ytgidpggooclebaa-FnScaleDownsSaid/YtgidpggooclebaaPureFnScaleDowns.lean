/- A number divided by a power of ten, away from 0, is what it is, and exact just if nothing is lost: of every int64 number and each scale from 0 to 500. -/
import Derived.Test.YtgidpggooclebaaPFnScaleDownsx6
import Derived.Test.YtgidpggooclebaaSmall
import Derived.Test.YtgidpggooclebaaDec
set_option linter.unusedVariables false
set_option linter.unusedSimpArgs false
namespace Go.Proofs.Ytgidpggooclebaa.Pure
open Go.RowKit Go.Proofs.Ytgidpggooclebaa.PFnScaleDowns Go.Proofs.YtgidpggooclebaaW.PrintWords Go.Proofs.YtgidpggooclebaaW.PrintLast Go.Proofs.Ytgidpggooclebaa.Dec

theorem sg_neg_zero (neg : Bool) : canon (sg neg 0) = canon 0 := by rw [sg_zero]

theorem decimal_l1 (neg : Bool) : ∀ l, Dg l → l.head? ≠ some 0 → ∀ (k : Nat) (e : Int), l.length < k → l.length ≤ 17592186044415 →
    -4611686018427387904 ≤ e → e + l.length ≤ 4611686018427387904 → spec_decimal.l1 k neg l e = some (canon (sg neg (val l)) e) := by
  refine snoc_ind ?_ ?_
  · intro _ _ k e hk _ _ _
    obtain ⟨k, rfl⟩ : ∃ m, k = m + 1 := ⟨k - 1, by omega⟩
    simp only [spec_decimal.l1]
    rw [if_neg (by simp), if_pos (by simp), val_nil, sg_zero, canon_zero]
  · intro l d ih hd h0 k e hk hl e0 e1
    obtain ⟨k, rfl⟩ : ∃ m, k = m + 1 := ⟨k - 1, by omega⟩
    have hlen : ((l ++ [d]).length : Int) = l.length + 1 := by simp
    have hlen' : (l ++ [d]).length = l.length + 1 := by simp
    have hw : Aside0 (wrap64 (((l ++ [d]).length : Int) - 1) = l.length) := ⟨by rw [hlen]; unfold wrap64; omega⟩
    have hr : rd (l ++ [d]) (l.length : Int) = d := by unfold rd; simp
    simp only [spec_decimal.l1]
    rw [hw.out, hr, if_pos (by omega), if_pos (by omega), if_pos (by omega)]
    by_cases h1 : d = 0
    · subst h1
      have h0' : l.head? ≠ some 0 := by
        cases l with
        | nil => simp
        | cons x l => simpa using h0
      have hw2 : Aside0 (wrap64 (e + 1) = e + 1) := ⟨by unfold wrap64; omega⟩
      rw [if_pos rfl, if_pos (by omega), hw2.out, show ((l.length : Int)).toNat = l.length from by omega, List.take_left', ih hd.left h0' k (e + 1) (by omega) (by omega) (by omega) (by omega), val_snoc, Int.add_zero, sg_ten, canon_ten]
      rfl
    · rw [if_neg h1, if_neg (by omega), canon_trim neg l d e hd h0 h1]
      simp only [Option.bind_some, List.length_nil, Nat.zero_add, List.nil_append]
      rw [if_pos (by omega)]

theorem decimal_l0 (neg : Bool) (e : Int) (e0 : -4611686018427387904 ≤ e) : ∀ (l : List Int) (k : Nat), Dg l → 2 * l.length + 2 < k → l.length ≤ 17592186044415 →
    e + l.length ≤ 4611686018427387904 → spec_decimal.l0 k neg l e = some (canon (sg neg (val l)) e) := by
  have stop : ∀ (l : List Int) (k : Nat), Dg l → l.head? ≠ some 0 → l.length + 1 < k → l.length ≤ 17592186044415 → e + l.length ≤ 4611686018427387904 →
      spec_decimal.j1 k neg l e = some (canon (sg neg (val l)) e) := by
    intro l k hd h0 hk hl e1
    obtain ⟨k, rfl⟩ : ∃ m, k = m + 1 := ⟨k - 1, by omega⟩
    simp only [spec_decimal.j1]
    exact decimal_l1 neg l hd h0 k e (by omega) hl e0 e1
  intro l
  induction l with
  | nil =>
    intro k hd hk hl e1
    obtain ⟨k, rfl⟩ : ∃ m, k = m + 1 := ⟨k - 1, by omega⟩
    simp only [spec_decimal.l0]
    rw [if_neg (by simp)]
    exact stop [] k hd (by simp) (by simpa using by omega) hl e1
  | cons x l ih =>
    intro k hd hk hl e1
    simp only [List.length_cons] at hk hl e1
    obtain ⟨k, rfl⟩ : ∃ m, k = m + 1 := ⟨k - 1, by omega⟩
    have hr : rd (x :: l) 0 = x := by unfold rd; simp
    have hlen : ((x :: l).length : Int) = l.length + 1 := by simp
    simp only [spec_decimal.l0]
    rw [hr, if_pos (by omega), if_pos (by omega)]
    by_cases h : x = 0
    · subst h
      rw [if_pos rfl, if_pos (by omega), List.drop_one, List.tail_cons, ih k hd.cons.2 (by omega) (by omega) (by omega), val_cons]
      simp
    · rw [if_neg h]
      exact stop (x :: l) k hd (by simpa using h) (by simp only [List.length_cons]; omega) (by simp only [List.length_cons]; omega) (by simp only [List.length_cons]; omega)

theorem decimal_f (neg : Bool) (l : List Int) (e : Int) (k : Nat) (hd : Dg l) (hk : 2 * l.length + 2 < k) (hl : l.length ≤ 17592186044415) (e0 : -4611686018427387904 ≤ e) (e1 : e + l.length ≤ 4611686018427387904) :
    spec_decimal.f k neg l e = some (canon (sg neg (val l)) e) := by
  unfold spec_decimal.f
  exact decimal_l0 neg e e0 l k hd hk hl e1

/-- Of a number's digits that are still to be read, and those that are. -/
theorem of_l0 (x e : Int) (e0 : -4611686018427387904 ≤ e) (e1 : e ≤ 4611686018427380000) (n : Nat) : ∀ (acc : List Int) (k : Nat), (n : Int) ≤ 18446744073709551615 → Dg acc →
    (digs n).length + acc.length ≤ 400 → 2 * ((digs n).length + acc.length) + (digs n).length + 4 < k →
    spec_DecimalOf.l0 k x e n acc = some (canon (sg (decide (x < 0)) (val (digs n ++ acc))) e) := by
  induction n using Nat.strongRecOn with
  | _ n ih =>
    intro acc k hn ha hl hk
    obtain ⟨k, rfl⟩ : ∃ m, k = m + 1 := ⟨k - 1, by omega⟩
    by_cases h : n = 0
    · subst h
      simp only [digs_zero, List.length_nil, Nat.zero_add, List.nil_append] at *
      simp only [spec_DecimalOf.l0]
      rw [if_neg (by simp), decimal_f _ acc e k ha (by omega) (by omega) e0 (by omega)]
      simp
    · have hs := digs_step n h
      have hlen : (digs n).length = (digs (n / 10)).length + 1 := by rw [hs]; simp
      have hq : Aside0 (IntKind.u64.wrap (Int.tdiv (n : Int) 10) = ((n / 10 : Nat) : Int)) := Aside0.mk <| by
        rw [IntWalk.u64_quo _ _ (by omega)]; simp
      have hr : Aside0 (wrap64 (Int.tmod (n : Int) 10) = ((n % 10 : Nat) : Int)) := Aside0.mk <| by
        rw [Int.tmod_eq_emod_of_nonneg (by omega)]
        unfold wrap64; omega
      simp only [spec_DecimalOf.l0]
      rw [if_pos (by omega)]
      simp only [Option.bind_some, hq.out, hr.out]
      rw [if_pos (by simp only [List.length_cons, List.length_nil]; omega)]
      rw [show [((n % 10 : Nat) : Int)] ++ acc = ((n % 10 : Nat) : Int) :: acc from rfl]
      rw [ih (n / 10) (by omega) (((n % 10 : Nat) : Int) :: acc) k (by omega) (fun d hd => (List.mem_cons.1 hd).elim (fun z => by omega) (ha d)) (by simp only [List.length_cons]; omega) (by simp only [List.length_cons]; omega), hs]
      simp

theorem digs_len20 (n : Nat) (h : (n : Int) ≤ 18446744073709551615) : (digs n).length ≤ 20 := (digs_len 20 n).2 (by omega)

theorem of_f (x e : Int) (e0 : -4611686018427387904 ≤ e) (e1 : e ≤ 4611686018427380000) (hx : -9223372036854775808 ≤ x ∧ x ≤ 9223372036854775807) (k : Nat) (hk : 70 ≤ k) :
    spec_DecimalOf.f k x e = some (canon x e) := by
  obtain ⟨k, rfl⟩ : ∃ m, k = m + 1 := ⟨k - 1, by omega⟩
  have hl := digs_len20 x.natAbs (by omega)
  unfold spec_DecimalOf.f
  by_cases h : x < 0
  · have hw : IntKind.u64.wrap (-(IntKind.u64.wrap x)) = (x.natAbs : Int) := by
      rw [IntKind.wrap_u64, IntKind.wrap_u64]; omega
    rw [if_pos h, hw]
    simp only [spec_DecimalOf.j0]
    rw [of_l0 x e e0 e1 x.natAbs [] k (by omega) Dg.nil (by simp; omega) (by simp; omega), List.append_nil, val_digs]
    congr 2; unfold sg; simp [h]; omega
  · have hw : IntKind.u64.wrap x = (x.natAbs : Int) := by
      rw [IntKind.wrap_u64]; omega
    rw [if_neg h, hw]
    simp only [spec_DecimalOf.j0]
    rw [of_l0 x e e0 e1 x.natAbs [] k (by omega) Dg.nil (by simp; omega) (by simp; omega), List.append_nil, val_digs]
    congr 2; unfold sg; simp [h]; omega

theorem of_ev (x e : Int) (e0 : -4611686018427387904 ≤ e) (e1 : e ≤ 4611686018427380000) (hx : -9223372036854775808 ≤ x ∧ x ≤ 9223372036854775807) :
    Ev (fun k => spec_DecimalOf.f k x e) (canon x e) := ⟨70, fun k hk => of_f x e e0 e1 hx k hk⟩
theorem wide_l0 (n : Nat) : ∀ (exp e : Int) (l : List Int) (k : Nat), l ≠ [] → e - exp = n → n < k → l.length + n < 17592186044416 → -4611686018427387904 ≤ exp → e ≤ 4611686018427387904 →
    spec_wide.l0 k exp l e = some (l ++ List.replicate n 0) := by
  induction n with
  | zero =>
    intro exp e l k hl he hk _ _ _
    obtain ⟨k, rfl⟩ : ∃ m, k = m + 1 := ⟨k - 1, by omega⟩
    simp only [spec_wide.l0]
    rw [if_neg (by omega)]; simp
  | succ n ih =>
    intro exp e l k hl he hk hlen h0 h1
    obtain ⟨k, rfl⟩ : ∃ m, k = m + 1 := ⟨k - 1, by omega⟩
    have hp : 0 < l.length := List.length_pos_iff.2 hl
    have hw : Aside0 (wrap64 (e - 1) = e - 1) := ⟨by unfold wrap64; omega⟩
    simp only [spec_wide.l0]
    rw [if_pos (by omega), if_pos (by omega), if_pos (by omega), hw.out, ih exp (e - 1) (l ++ [0]) k (by simp) (by omega) (by omega) (by simp; omega) h0 (by omega), List.append_assoc]
    rfl

theorem wide_nil (exp e : Int) (k : Nat) (neg : Bool) (hk : 0 < k) : spec_wide.f k neg [] e exp = some [] := by
  obtain ⟨k, rfl⟩ : ∃ m, k = m + 1 := ⟨k - 1, by omega⟩
  unfold spec_wide.f
  simp only [Option.bind_some, List.length_nil, List.append_nil, spec_wide.l0]
  rw [if_pos (by decide)]
  split
  · rw [if_neg (by simp)]
  · rfl

theorem wide_f (neg : Bool) (l : List Int) (exp e : Int) (n k : Nat) (hl : l ≠ []) (he : e - exp = n) (hk : n < k) (hlen : l.length + n < 17592186044416) (h0 : -4611686018427387904 ≤ exp) (h1 : e ≤ 4611686018427387904) :
    spec_wide.f k neg l e exp = some (l ++ List.replicate n 0) := by
  unfold spec_wide.f
  simp only [Option.bind_some, List.length_nil, Nat.zero_add, List.nil_append]
  rw [if_pos (by omega)]
  exact wide_l0 n exp e l k hl he hk hlen h0 h1

theorem u64_acc {a d : Int} (h0 : 0 ≤ a) (hd : 0 ≤ d ∧ d ≤ 9) (h1 : 10 * a + d ≤ 18446744073709551615) : IntKind.u64.wrap ((IntKind.u64.wrap (10 * a)) + (IntKind.u64.wrap d)) = 10 * a + d := by
  rw [IntWalk.u64_in (10 * a) (by omega), IntWalk.u64_in d (by omega), IntWalk.u64_in _ (by omega)]

/-- The digits' number, step by step. -/
theorem int_l0 (l : List Int) (hd : Dg l) (hl : l.length ≤ 19) (neg : Bool) (ds : List Int) (e : Int) (n : Nat) : ∀ (i k : Nat), i + n = l.length → n < k →
    spec_DecimalInt.l0 k (val (l.take i)) l (l.length : Int) i neg ds e = (if neg = true then (some (wrap64 (IntKind.u64.wrap (-(val l))), decide (val l ≤ 9223372036854775808))) else (some (wrap64 (val l), decide (val l < 9223372036854775808)))) := by
  induction n with
  | zero =>
    intro i k hi hk
    obtain ⟨k, rfl⟩ : ∃ m, k = m + 1 := ⟨k - 1, by omega⟩
    simp only [spec_DecimalInt.l0]
    rw [if_neg (by omega), List.take_of_length_le (by omega)]
  | succ n ih =>
    intro i k hi hk
    obtain ⟨k, rfl⟩ : ∃ m, k = m + 1 := ⟨k - 1, by omega⟩
    have hlt : i < l.length := by omega
    have hi1 : Aside0 (wrap64 ((i : Int) + 1) = ((i + 1 : Nat) : Int)) := ⟨by unfold wrap64; omega⟩
    have hr : rd l (i : Int) = l[i] := by unfold rd; simp [hlt]
    have hdt : Dg (l.take i) := fun d h => hd d (List.mem_of_mem_take h)
    have hdt1 : Dg (l.take (i + 1)) := fun d h => hd d (List.mem_of_mem_take h)
    have hs : l.take (i + 1) = l.take i ++ [l[i]] := by rw [List.take_succ_eq_append_getElem hlt]
    have hv : val (l.take (i + 1)) = 10 * val (l.take i) + l[i] := by rw [hs, val_snoc]
    have h19 : val (l.take (i + 1)) < 10 ^ 19 := by
      have h1 := val_lt _ hdt1
      have h2 : (10 : Int) ^ (l.take (i + 1)).length ≤ 10 ^ 19 := Small.pow10_le (by simp; omega)
      omega
    have e19 : (10 : Int) ^ 19 = 10000000000000000000 := by decide
    have hb := hd l[i] (List.getElem_mem hlt)
    have h0 := val_nonneg _ hdt
    simp only [spec_DecimalInt.l0]
    rw [if_pos (by omega), if_pos (by omega), if_pos (by omega), hr, u64_acc h0 hb (by omega), hi1.out, ← hv]
    exact ih (i + 1) k (by omega) (by omega)

/-- A number as an int64: told just if it is one. -/
theorem int_ev (m e : Int) (he : -4611686018427380000 ≤ e) (hE : ∀ neg D E, canon m e = (neg, digs D, E) → E + (digs D).length ≤ 4611686018427387904 ∧ (digs D).length ≤ 17592186044000) :
    ∃ g : Int × Bool, Ev (fun k => spec_DecimalInt.f k (canon m e).1 (canon m e).2.1 (canon m e).2.2) g ∧
      (g.2 = true → -9223372036854775808 ≤ g.1 ∧ g.1 ≤ 9223372036854775807 ∧ canon m e = canon g.1 0) ∧
      (∀ v, -9223372036854775808 ≤ v → v ≤ 9223372036854775807 → canon m e = canon v 0 → g = (v, true)) := by
  rcases canon_split m e with ⟨rfl, hc⟩ | ⟨neg, D, E, hD, hc, hc', heE, _, _⟩
  · rw [hc]
    refine ⟨(0, true), ⟨3, fun k hk => ?_⟩, fun _ => ⟨by decide, by decide, by rw [canon_zero]⟩, fun v _ _ hv => ?_⟩
    · obtain ⟨k, rfl⟩ : ∃ m, k = m + 2 := ⟨k - 2, by omega⟩
      simp only [spec_DecimalInt.f]
      rw [if_neg (by simp)]
      simp only [spec_DecimalInt.j0]
      rw [if_neg (by simp), wide_nil 0 0 (k + 1) false (by omega)]
      simp only [Option.bind_some, spec_DecimalInt.l0]
      rw [if_neg (by simp), if_neg (by simp), Small.w64 0 (by decide) (by decide)]
      rfl
    · have : canon 0 0 = canon v 0 := by rw [canon_zero]; exact hv
      have := canon_inj this
      rw [← this]
  · obtain ⟨hE1, hE2⟩ := hE neg D E hc
    have hDn : digs D ≠ [] := digs_ne D (by omega)
    have hlp : 0 < (digs D).length := List.length_pos_iff.2 hDn
    have hw : Aside0 (wrap64 (((digs D).length : Int) + E) = (digs D).length + E) := ⟨by unfold wrap64; omega⟩
    rw [hc]
    simp only
    by_cases h0 : E < 0
    · refine ⟨(0, false), ⟨2, fun k hk => ?_⟩, fun h => by simp at h, fun v _ _ hv => ?_⟩
      · obtain ⟨k, rfl⟩ : ∃ m, k = m + 1 := ⟨k - 1, by omega⟩
        simp only [spec_DecimalInt.f]
        rw [if_pos (by omega), if_pos h0]
        simp only [spec_DecimalInt.j0]
        rw [if_pos trivial]
      · exfalso
        rcases canon_split v 0 with ⟨_, hz⟩ | ⟨n2, D2, E2, _, hz, _, h2, _, _⟩
        · rw [hz] at hv; simp only [Prod.mk.injEq] at hv; exact hDn hv.2.1
        · rw [hz] at hv; simp only [Prod.mk.injEq] at hv; omega
    · obtain ⟨n, rfl⟩ := Int.eq_ofNat_of_zero_le (show 0 ≤ E by omega)
      have hval : val (digs D ++ List.replicate n 0) = (D : Int) * 10 ^ n := by rw [val_append, val_digs, val_zeros]; simp
      have hcv : canon m e = canon (sg neg (D * 10 ^ n)) 0 := by
        rw [hc']
        have : sg neg ((D : Int) * 10 ^ n) = sg neg D * 10 ^ n := by unfold sg; split <;> grind
        rw [this, canon_pow]; simp
      have huniq : ∀ v, (neg, digs D, (n : Int)) = canon v 0 → v = sg neg (D * 10 ^ n) := by
        intro v hv
        rw [← hc, hcv] at hv
        exact (canon_inj hv).symm
      have hge : (10 : Int) ^ ((digs D).length - 1) ≤ D := by
        have := (digs_len ((digs D).length - 1) D)
        have h1 : ¬ D < 10 ^ ((digs D).length - 1) := fun h => by have := this.2 h; omega
        have h2 : 10 ^ ((digs D).length - 1) ≤ D := by omega
        exact_mod_cast h2
      by_cases h19 : ((digs D).length : Int) + n > 19
      · refine ⟨(0, false), ⟨2, fun k hk => ?_⟩, fun h => by simp at h, fun v v0 v1 hv => ?_⟩
        · obtain ⟨k, rfl⟩ : ∃ m, k = m + 1 := ⟨k - 1, by omega⟩
          simp only [spec_DecimalInt.f]
          rw [if_pos (by omega), if_neg h0, hw.out, decide_eq_true h19]
          simp only [spec_DecimalInt.j0]
          rw [if_pos trivial]
        · exfalso
          have hv := huniq v hv
          have hbig : (10 : Int) ^ 19 ≤ D * 10 ^ n := by
            have h1 : (10 : Int) ^ 19 ≤ 10 ^ ((digs D).length - 1 + n) := Small.pow10_le (by omega)
            have h2 : (10 : Int) ^ ((digs D).length - 1 + n) ≤ D * 10 ^ n := by
              rw [Int.pow_add]
              exact Int.mul_le_mul_of_nonneg_right hge (Int.le_of_lt (Int.pow_pos (by decide)))
            omega
          have e19 : (10 : Int) ^ 19 = 10000000000000000000 := by decide
          unfold sg at hv; split at hv <;> omega
      · have hdz : Dg (digs D ++ List.replicate n 0) := (digs_dg D).append (Dg.zeros n)
        have hl19 : (digs D ++ List.replicate n 0).length ≤ 19 := by simp; omega
        have hb := val_lt _ hdz
        have hb0 := val_nonneg _ hdz
        have hb19 : (10 : Int) ^ (digs D ++ List.replicate n 0).length ≤ 10 ^ 19 := Small.pow10_le hl19
        have e19 : (10 : Int) ^ 19 = 10000000000000000000 := by decide
        have hD0 : (1 : Int) ≤ D := by omega
        have hp1 : (1 : Int) ≤ 10 ^ n := Int.pow_pos (by decide)
        have hv1 : (1 : Int) ≤ D * 10 ^ n := by
          have := Int.mul_le_mul_of_nonneg_right hD0 (Int.le_of_lt (Int.lt_of_lt_of_le (by decide) hp1))
          omega
        refine ⟨(if neg = true then (wrap64 (IntKind.u64.wrap (-(val (digs D ++ List.replicate n 0)))), decide (val (digs D ++ List.replicate n 0) ≤ 9223372036854775808)) else (wrap64 (val (digs D ++ List.replicate n 0)), decide (val (digs D ++ List.replicate n 0) < 9223372036854775808))), ⟨n + 30, fun k hk => ?_⟩, ?_, ?_⟩
        · obtain ⟨k, rfl⟩ : ∃ m, k = m + 1 := ⟨k - 1, by omega⟩
          simp only [spec_DecimalInt.f]
          rw [if_pos (by omega), if_neg h0, hw.out, decide_eq_false h19]
          simp only [spec_DecimalInt.j0]
          rw [if_neg (by simp), wide_f neg (digs D) 0 n n k hDn (by omega) (by omega) (by omega) (by omega) (by omega)]
          simp only [Option.bind_some]
          have := int_l0 (digs D ++ List.replicate n 0) hdz hl19 neg (digs D) n (digs D ++ List.replicate n 0).length 0 k (by omega) (by omega)
          rw [List.take_zero, val_nil] at this
          rw [show ((0 : Nat) : Int) = 0 from rfl] at this
          rw [this]
          split <;> rfl
        · rw [hval]
          intro h
          cases neg with
          | true =>
            simp only [if_true, decide_eq_true_eq] at h ⊢
            have hw : Aside0 (wrap64 (IntKind.u64.wrap (-((D : Int) * 10 ^ n))) = -(D * 10 ^ n)) := ⟨by rw [IntKind.wrap_u64]; unfold wrap64; omega⟩
            rw [hw.out]
            refine ⟨by omega, by omega, ?_⟩
            rw [← hc, hcv]; rfl
          | false =>
            simp only [Bool.false_eq_true, if_false, decide_eq_true_eq] at h ⊢
            have hw : Aside0 (wrap64 ((D : Int) * 10 ^ n) = D * 10 ^ n) := ⟨by unfold wrap64; omega⟩
            rw [hw.out]
            refine ⟨by omega, by omega, ?_⟩
            rw [← hc, hcv]; rfl
        · intro v v0 v1 hv
          have hv := huniq v hv
          rw [hval]
          subst hv
          cases neg with
          | true =>
            simp only [sg, if_true] at *
            have hw : Aside0 (wrap64 (IntKind.u64.wrap (-((D : Int) * 10 ^ n))) = -(D * 10 ^ n)) := ⟨by rw [IntKind.wrap_u64]; unfold wrap64; omega⟩
            rw [hw.out, decide_eq_true (by omega)]
          | false =>
            simp only [sg, Bool.false_eq_true, if_false] at *
            have hw : Aside0 (wrap64 ((D : Int) * 10 ^ n) = D * 10 ^ n) := ⟨by unfold wrap64; omega⟩
            rw [hw.out, decide_eq_true (by omega)]

/-- The carrying of a product. -/
theorem times_l2 (na nb : Bool) (la lb : List Int) (ea eb : Int) (T : Int) (hT0 : T < 10 ^ (la.length + lb.length)) (he0 : -4611686018427387904 ≤ ea + eb) (he1 : ea + eb + (la.length + lb.length + 1) ≤ 4611686018427387904)
    (hl : la.length + lb.length + 1 ≤ 17592186044415) (i : Nat) : ∀ (xs : List Int), xs.length = la.length + lb.length + 1 → i < xs.length → val xs = T →
    (∀ j, j < i → 0 ≤ xs.getD j 0 ∧ xs.getD j 0 ≤ 2305843009213693952) → (0 ≤ xs.getD i 0 ∧ xs.getD i 0 ≤ 4611686018427387904) → (∀ j, i < j → 0 ≤ xs.getD j 0 ∧ xs.getD j 0 ≤ 9) →
    Ev (fun k => spec_DecimalTimes.l2 k xs i na la ea nb lb eb) (canon (sg (na != nb) T) (ea + eb)) := by
  induction i with
  | zero =>
    intro xs hx hi hv _ h0 hgt
    have hdg : Dg xs := by
      refine dg_getD (fun j => ?_)
      cases j with
      | zero =>
        refine ⟨h0.1, ?_⟩
        cases xs with
        | nil => simp at hx
        | cons x l =>
          simp only [List.getD_cons_zero] at h0 ⊢
          simp only [List.length_cons] at hx
          rw [val_cons] at hv
          have hl0 : 0 ≤ val l := val_nonneg l (dg_getD fun j => by have := hgt (j + 1) (by omega); simpa using this)
          rw [show l.length = la.length + lb.length from by omega] at hv
          by_cases h9 : x ≤ 9
          · exact h9
          · exfalso
            have hp : (0 : Int) < 10 ^ (la.length + lb.length) := Int.pow_pos (by decide)
            have : 1 * 10 ^ (la.length + lb.length) ≤ x * 10 ^ (la.length + lb.length) := Int.mul_le_mul_of_nonneg_right (by omega) (Int.le_of_lt hp)
            omega
      | succ j => exact hgt (j + 1) (by omega)
    have hw : Aside0 (wrap64 (ea + eb) = ea + eb) := ⟨by unfold wrap64; omega⟩
    refine ⟨2 * xs.length + 5, fun k hk => ?_⟩
    obtain ⟨k, rfl⟩ : ∃ m, k = m + 1 := ⟨k - 1, by omega⟩
    simp only [spec_DecimalTimes.l2]
    rw [if_neg (by simp), hw.out, decimal_f _ xs _ k hdg (by omega) (by omega) he0 (by omega), hv]
    rfl
  | succ i ih =>
    intro xs hx hi hv hlt hat hgt
    have hw : Aside0 (wrap64 (((i + 1 : Nat) : Int) - 1) = i) := ⟨by unfold wrap64; omega⟩
    have hr : rd xs ((i + 1 : Nat) : Int) = xs.getD (i + 1) 0 := by unfold rd; simp
    have hr' : rd xs (i : Int) = xs.getD i 0 := by unfold rd; simp
    have hq : Int.tdiv (xs.getD (i + 1) 0) 10 = xs.getD (i + 1) 0 / 10 := Int.tdiv_eq_ediv_of_nonneg hat.1
    have hm : Int.tmod (xs.getD (i + 1) 0) 10 = xs.getD (i + 1) 0 % 10 := Int.tmod_eq_emod_of_nonneg hat.1
    have hb := hlt i (by omega)
    generalize hA : xs.getD (i + 1) 0 = A at *
    generalize hB : xs.getD i 0 = B at *
    have hw2 : Aside0 (wrap64 (A / 10) = A / 10) := ⟨by unfold wrap64; omega⟩
    have hw3 : Aside0 (wrap64 (B + A / 10) = B + A / 10) := ⟨by unfold wrap64; omega⟩
    have hy : rd (xs.set i (B + A / 10)) ((i + 1 : Nat) : Int) = A := by
      have : rd (xs.set i (B + A / 10)) ((i + 1 : Nat) : Int) = (xs.set i (B + A / 10)).getD (i + 1) 0 := by unfold rd; simp
      rw [this, getD_set _ _ _ _ (by omega), if_neg (by omega), hA]
    have hlen1 : (xs.set i (B + A / 10)).length = xs.length := List.length_set
    have hlen : ((xs.set i (B + A / 10)).set (i + 1) (A % 10)).length = la.length + lb.length + 1 := by simp [hx]
    have hval : val ((xs.set i (B + A / 10)).set (i + 1) (A % 10)) = T := by
      rw [val_set _ _ _ (by omega), val_set _ _ _ (by omega), getD_set _ _ _ _ (by omega), if_neg (by omega), hA, hB, hlen1, hv]
      rw [show xs.length - 1 - i = (xs.length - 1 - (i + 1)) + 1 from by omega, Int.pow_succ]
      have : A = 10 * (A / 10) + A % 10 := by omega
      generalize A / 10 = q at *
      generalize A % 10 = r at *
      subst this
      generalize (10 : Int) ^ (xs.length - 1 - (i + 1)) = p
      grind
    have hget : ∀ j, ((xs.set i (B + A / 10)).set (i + 1) (A % 10)).getD j 0 = if i + 1 = j then A % 10 else if i = j then B + A / 10 else xs.getD j 0 := by
      intro j
      rw [getD_set _ _ _ _ (by omega), getD_set _ _ _ _ (by omega)]
    refine Ev.step (f := fun k => spec_DecimalTimes.l2 k ((xs.set i (B + A / 10)).set (i + 1) (A % 10)) i na la ea nb lb eb) (fun k => ?_) ?_
    · simp only [spec_DecimalTimes.l2]
      rw [if_pos (by omega), hw.out, if_pos (by omega), if_pos (by omega), if_pos (by omega), if_pos (by omega)]
      simp only [Option.bind_some, hr, hr', hq, hw2.out, hw3.out, Int.toNat_natCast, hy, hm]
    · refine ih _ hlen (by omega) hval ?_ ?_ ?_
      · intro j hj
        rw [hget, if_neg (by omega), if_neg (by omega)]
        exact hlt j (by omega)
      · rw [hget, if_neg (by omega), if_pos rfl]; omega
      · intro j hj
        rw [hget]
        by_cases h1 : i + 1 = j
        · rw [if_pos h1]; omega
        · rw [if_neg h1, if_neg (by omega)]
          exact hgt j (by omega)

theorem mul_room (n j c lb M : Nat) (h : c + (n + 1) * lb ≤ M) : c + n * lb + lb ≤ M := by rw [Nat.succ_mul] at h; omega

/-- A product's rows: from place `i` of the first number on, `n` of its digits to come. -/
theorem times_l0 (na nb : Bool) (la lb : List Int) (ea eb : Int) (M : Nat) (hM : M ≤ 1125899906842624) (ha : Dg la) (hb : Dg lb) (he0 : -4611686018427387904 ≤ ea + eb) (he1 : ea + eb + (la.length + lb.length + 1) ≤ 4611686018427387904)
    (hl : la.length + lb.length + 1 ≤ 17592186044415) (n : Nat) : ∀ (i c : Nat) (xs : List Int), i + n = la.length → c + n * lb.length ≤ M → xs.length = la.length + lb.length + 1 →
    val xs + val (la.drop i) * val lb = val la * val lb → (∀ j, 0 ≤ xs.getD j 0 ∧ xs.getD j 0 ≤ 81 * (c : Int)) →
    Ev (fun k => spec_DecimalTimes.l0 k xs (la.length : Int) i na la ea nb lb eb) (canon (sg (na != nb) (val la * val lb)) (ea + eb)) := by
  have hTlt : val la * val lb < 10 ^ (la.length + lb.length) := by
    rw [Int.pow_add]
    have h1 := val_lt la ha
    have h2 := val_lt lb hb
    have h3 := val_nonneg la ha
    have h4 := val_nonneg lb hb
    have hp : (0 : Int) < 10 ^ lb.length := Int.pow_pos (by decide)
    have h5 : val la * val lb ≤ val la * 10 ^ lb.length := Int.mul_le_mul_of_nonneg_left (Int.le_of_lt h2) h3
    have h6 : val la * 10 ^ lb.length < 10 ^ la.length * 10 ^ lb.length := Int.mul_lt_mul_of_pos_right h1 hp
    omega
  induction n with
  | zero =>
    intro i c xs hi hc hx hv hbd
    have hdr : val (la.drop i) = 0 := by rw [List.drop_eq_nil_of_le (by omega), val_nil]
    rw [hdr] at hv
    have hlast : Aside0 (wrap64 ((xs.length : Int) - 1) = ((la.length + lb.length : Nat) : Int)) := ⟨by unfold wrap64; omega⟩
    refine Ev.step (f := fun k => spec_DecimalTimes.l2 k xs ((la.length + lb.length : Nat) : Int) na la ea nb lb eb) (fun k => ?_) ?_
    · simp only [spec_DecimalTimes.l0]
      rw [if_neg (by omega), hlast.out]
    · refine times_l2 na nb la lb ea eb _ hTlt he0 he1 hl (la.length + lb.length) xs hx (by omega) (by omega) ?_ ?_ ?_
      · intro j _; have := hbd j; omega
      · have := hbd (la.length + lb.length); omega
      · intro j hj
        rw [List.getD_eq_getElem?_getD, List.getElem?_eq_none (by omega)]; simp
  | succ n ih =>
    intro i c xs hi hc hx hv hbd
    have hil : i < la.length := by omega
    have hroom := mul_room n 0 c lb.length M hc
    -- the inner loop, `m` digits of the second number to come
    have inner : ∀ (m j d : Nat) (xs : List Int), j + m = lb.length → d + m + n * lb.length ≤ M → xs.length = la.length + lb.length + 1 →
        val xs + la.getD i 0 * val (lb.drop j) * 10 ^ (la.length - 1 - i) + val (la.drop (i + 1)) * val lb = val la * val lb → (∀ j, 0 ≤ xs.getD j 0 ∧ xs.getD j 0 ≤ 81 * (d : Int)) →
        Ev (fun k => spec_DecimalTimes.l1 k xs i (la.length : Int) i (lb.length : Int) j na la ea nb lb eb) (canon (sg (na != nb) (val la * val lb)) (ea + eb)) := by
      intro m
      induction m with
      | zero =>
        intro j d xs hj hd hx hv hbd
        have hdr : val (lb.drop j) = 0 := by rw [List.drop_eq_nil_of_le (by omega), val_nil]
        rw [hdr] at hv
        have hw : Aside0 (wrap64 ((i : Int) + 1) = ((i + 1 : Nat) : Int)) := ⟨by unfold wrap64; omega⟩
        refine Ev.step (f := fun k => spec_DecimalTimes.l0 k xs (la.length : Int) ((i + 1 : Nat) : Int) na la ea nb lb eb) (fun k => ?_) ?_
        · simp only [spec_DecimalTimes.l1]
          rw [if_neg (by omega), hw.out]
        · exact ih (i + 1) d xs (by omega) (by omega) hx (by simpa using hv) hbd
      | succ m ihm =>
        intro j d xs hj hd hx hv hbd
        have hjl : j < lb.length := by omega
        have hw : Aside0 (wrap64 ((wrap64 ((i : Int) + (j : Int))) + 2) = ((i + j + 2 : Nat) : Int)) := ⟨by rw [Small.w64 ((i : Int) + (j : Int)) (by omega) (by omega), Small.w64 _ (by omega) (by omega)]; omega⟩
        have hw1 : Aside0 (wrap64 ((j : Int) + 1) = ((j + 1 : Nat) : Int)) := ⟨by unfold wrap64; omega⟩
        have hpr := dd (getD_dg ha i) (getD_dg hb j)
        have hr : rd xs ((i + j + 2 : Nat) : Int) = xs.getD (i + j + 2) 0 := by unfold rd; rw [Int.toNat_natCast]
        have hra : rd la (i : Int) = la.getD i 0 := by unfold rd; simp
        have hrb : rd lb (j : Int) = lb.getD j 0 := by unfold rd; simp
        have hbx := hbd (i + j + 2)
        have hw2 : Aside0 (wrap64 (la.getD i 0 * lb.getD j 0) = la.getD i 0 * lb.getD j 0) := Aside0.mk <| by
          generalize la.getD i 0 * lb.getD j 0 = z at *; unfold wrap64; omega
        have hw3 : Aside0 (wrap64 (xs.getD (i + j + 2) 0 + la.getD i 0 * lb.getD j 0) = xs.getD (i + j + 2) 0 + la.getD i 0 * lb.getD j 0) := Aside0.mk <| by
          generalize la.getD i 0 * lb.getD j 0 = z at *; generalize xs.getD (i + j + 2) 0 = y at *; unfold wrap64; omega
        refine Ev.step (f := fun k => spec_DecimalTimes.l1 k (xs.set (i + j + 2) (xs.getD (i + j + 2) 0 + la.getD i 0 * lb.getD j 0)) i (la.length : Int) i (lb.length : Int) ((j + 1 : Nat) : Int) na la ea nb lb eb) (fun k => ?_) ?_
        · simp only [spec_DecimalTimes.l1]
          rw [if_pos (by omega), hw.out, if_pos (by omega), if_pos (by omega), if_pos (by omega), if_pos (by omega), if_pos (by omega), if_pos (by omega), hr, hra, hrb, hw2.out, hw3.out, hw1.out, Int.toNat_natCast]
        · refine ihm (j + 1) (d + 1) _ (by omega) (by omega) (by simp [hx]) ?_ ?_
          · rw [val_set _ _ _ (by omega)]
            rw [val_drop lb j hjl] at hv
            rw [show xs.length - 1 - (i + j + 2) = (lb.length - 1 - j) + (la.length - 1 - i) from by omega, Int.pow_add]
            rw [← hv]
            generalize (10 : Int) ^ (lb.length - 1 - j) = p
            generalize (10 : Int) ^ (la.length - 1 - i) = q
            grind
          · intro t
            rw [getD_set _ _ _ _ (by omega)]
            have h1 := hbd t
            by_cases e : i + j + 2 = t
            · rw [if_pos e]; omega
            · rw [if_neg e]; omega
    refine Ev.step (f := fun k => spec_DecimalTimes.l1 k xs i (la.length : Int) i (lb.length : Int) ((0 : Nat) : Int) na la ea nb lb eb) (fun k => ?_) ?_
    · simp only [spec_DecimalTimes.l0]
      rw [if_pos (by omega)]; rfl
    · refine inner lb.length 0 c xs (by omega) (by omega) hx ?_ hbd
      rw [val_drop la i hil] at hv
      rw [List.drop_zero, ← hv]
      generalize (10 : Int) ^ (la.length - 1 - i) = q
      grind

/-- A product of two numbers as digits. -/
theorem times_ev (na nb : Bool) (la lb : List Int) (ea eb : Int) (ha : Dg la) (hb : Dg lb) (hM : la.length * lb.length ≤ 1125899906842624) (hl : la.length + lb.length ≤ 17592186044000)
    (he0 : -4611686018427387904 ≤ ea + eb) (he1 : ea + eb ≤ 4611000000000000000) :
    Ev (fun k => spec_DecimalTimes.f k na la ea nb lb eb) (canon (sg (na != nb) (val la * val lb)) (ea + eb)) := by
  have hw : Aside0 (wrap64 ((wrap64 ((la.length : Int) + (lb.length : Int))) + 1) = ((la.length + lb.length + 1 : Nat) : Int)) := ⟨by rw [Small.w64 ((la.length : Int) + (lb.length : Int)) (by omega) (by omega), Small.w64 _ (by omega) (by omega)]; omega⟩
  refine Ev.congr (f := fun k => spec_DecimalTimes.l0 k (List.replicate (la.length + lb.length + 1) 0) (la.length : Int) ((0 : Nat) : Int) na la ea nb lb eb) (fun k => ?_) ?_
  · unfold spec_DecimalTimes.f
    rw [hw.out, if_pos (by omega), Int.toNat_natCast, if_pos (by omega)]; rfl
  · refine times_l0 na nb la lb ea eb (la.length * lb.length) hM ha hb he0 (by omega) (by omega) la.length 0 0 _ (by omega) (by omega) (by simp) ?_ ?_
    · rw [List.drop_zero, val_zeros]; omega
    · intro j
      have := getD_dg (Dg.zeros (la.length + lb.length + 1)) j
      rw [List.getD_eq_getElem?_getD, List.getElem?_replicate]
      split <;> simp

/-- A product of two numbers in their shortest forms. -/
theorem times_canon (m n e f : Int) (hM : (canon m e).2.1.length * (canon n f).2.1.length ≤ 1125899906842624) (hl : (canon m e).2.1.length + (canon n f).2.1.length ≤ 17592186044000)
    (he0 : -4611686018427387904 ≤ e + f) (he : -4611686018427387904 ≤ e) (hf : -4611686018427387904 ≤ f) (he1 : (canon m e).2.2 + (canon n f).2.2 ≤ 4611000000000000000) (he2 : (canon m e).2.2 ≤ 4611000000000000000) (he3 : (canon n f).2.2 ≤ 4611000000000000000) :
    Ev (fun k => spec_DecimalTimes.f k (canon m e).1 (canon m e).2.1 (canon m e).2.2 (canon n f).1 (canon n f).2.1 (canon n f).2.2) (canon (m * n) (e + f)) := by
  rcases canon_split m e with ⟨rfl, hc⟩ | ⟨na, A, Ea, hA, hc, _, h1, h2, _⟩ <;> rcases canon_split n f with ⟨rfl, hc'⟩ | ⟨nb, B, Eb, hB, hc', _, h1', h2', _⟩ <;> simp only [hc, hc'] at hM hl he1 he2 he3 ⊢
  · have := times_ev false false [] [] 0 0 Dg.nil Dg.nil (by simp) (by simp) (by decide) (by decide)
    simpa [val_nil, sg_zero, canon_zero] using this
  · have := times_ev false nb [] (digs B) 0 Eb Dg.nil (digs_dg B) (by simp) (by simpa using hl) (by omega) (by omega)
    simpa [val_nil, sg_zero, canon_zero] using this
  · have := times_ev na false (digs A) [] Ea 0 (digs_dg A) Dg.nil (by simp) (by simpa using hl) (by omega) (by omega)
    simpa [val_nil, sg_zero, canon_zero] using this
  · have := times_ev na nb (digs A) (digs B) Ea Eb (digs_dg A) (digs_dg B) hM hl (by omega) he1
    rw [val_digs, val_digs] at this
    have e1 : canon (m * n) (e + f) = canon (sg (na != nb) ((A : Int) * B)) (Ea + Eb) := by
      have : m * n = sg (na != nb) ((A : Int) * B) * 10 ^ ((Ea - e).toNat + (Eb - f).toNat) := by
        rw [h2, h2', Int.pow_add]
        generalize (10 : Int) ^ (Ea - e).toNat = p
        generalize (10 : Int) ^ (Eb - f).toNat = q
        cases na <;> cases nb <;> simp [sg] <;> grind
      rw [this, canon_pow]
      congr 1; omega
    rw [e1]; exact this
theorem val_take (l : List Int) (hd : Dg l) (j : Nat) : val (l.take (l.length - j)) = val l / 10 ^ j := by
  have hs : l = l.take (l.length - j) ++ l.drop (l.length - j) := (List.take_append_drop _ _).symm
  have hr : Dg (l.drop (l.length - j)) := fun d h => hd d (List.mem_of_mem_drop h)
  have h0 := val_nonneg _ hr
  have h1 := val_lt _ hr
  by_cases hj : j ≤ l.length
  · have hlen : (l.drop (l.length - j)).length = j := by simp; omega
    have hv : val l = val (l.take (l.length - j)) * 10 ^ j + val (l.drop (l.length - j)) := by
      conv => lhs; rw [hs]
      rw [val_append, hlen]
    rw [hlen] at h1
    rw [hv, Int.add_comm, Int.add_mul_ediv_right _ _ (Int.ne_of_gt (Int.pow_pos (by decide))), Int.ediv_eq_zero_of_lt h0 h1]
    omega
  · rw [show l.length - j = 0 from by omega, List.take_zero, val_nil]
    have h2 := val_lt l hd
    have h3 := val_nonneg l hd
    have h4 : (10 : Int) ^ l.length ≤ 10 ^ j := Small.pow10_le (by omega)
    rw [Int.ediv_eq_zero_of_lt h3 (by omega)]

/-- One is added at place `i`. -/
theorem up_l0 (neg : Bool) (ds : List Int) (e exp T : Int) (he0 : -4611686018427387904 ≤ exp) (i : Nat) : ∀ (xs : List Int), Dg xs → xs.getD 0 0 = 0 → i < xs.length → xs.length ≤ 17592186044415 → exp + xs.length ≤ 4611686018427387904 →
    val xs + 10 ^ (xs.length - 1 - i) = T → Ev (fun k => spec_DecimalUp.l0 k exp xs i neg ds e) ((canon (sg neg T) exp).1, (canon (sg neg T) exp).2.1, (canon (sg neg T) exp).2.2, false) := by
  induction i with
  | zero =>
    intro xs hd h0 hi hl he hv
    have hr : rd xs ((0 : Nat) : Int) = 0 := by unfold rd; simpa using h0
    have hr' : rd (xs.set 0 1) ((0 : Nat) : Int) = 1 := by
      have : rd (xs.set 0 1) ((0 : Nat) : Int) = (xs.set 0 1).getD 0 0 := by unfold rd; simp
      rw [this, getD_set _ _ _ _ hi, if_pos rfl]
    have hd' : Dg (xs.set 0 1) := dg_getD fun j => by
      rw [getD_set _ _ _ _ hi]; have := getD_dg hd j; split <;> omega
    have hval : val (xs.set 0 1) = T := by rw [val_set _ _ _ hi, h0, ← hv]; omega
    refine ⟨2 * xs.length + 10, fun k hk => ?_⟩
    obtain ⟨k, rfl⟩ : ∃ m, k = m + 1 := ⟨k - 1, by omega⟩
    simp only [spec_DecimalUp.l0]
    rw [if_pos (by omega), if_pos (by omega), hr]
    simp only [Option.bind_some, Int.toNat_natCast, show wrap64 (0 + 1) = 1 from Small.w64 1 (by decide) (by decide)]
    rw [hr', if_pos (by decide), decimal_f neg _ exp k hd' (by simp; omega) (by simp; omega) he0 (by simp; omega), hval]
    rfl
  | succ i ih =>
    intro xs hd h0 hi hl he hv
    have hr : rd xs ((i + 1 : Nat) : Int) = xs.getD (i + 1) 0 := by unfold rd; simp
    have hb := getD_dg hd (i + 1)
    have hw : Aside0 (wrap64 (xs.getD (i + 1) 0 + 1) = xs.getD (i + 1) 0 + 1) := ⟨by unfold wrap64; omega⟩
    have hw1 : Aside0 (wrap64 (((i + 1 : Nat) : Int) - 1) = (i : Int)) := ⟨by unfold wrap64; omega⟩
    have hr' : ∀ v, rd (xs.set (i + 1) v) ((i + 1 : Nat) : Int) = v := by
      intro v
      have : rd (xs.set (i + 1) v) ((i + 1 : Nat) : Int) = (xs.set (i + 1) v).getD (i + 1) 0 := by unfold rd; simp
      rw [this, getD_set _ _ _ _ hi, if_pos rfl]
    by_cases h9 : xs.getD (i + 1) 0 + 1 < 10
    · have hd' : Dg (xs.set (i + 1) (xs.getD (i + 1) 0 + 1)) := dg_getD fun j => by
        rw [getD_set _ _ _ _ hi]; have := getD_dg hd j; split <;> omega
      have hval : val (xs.set (i + 1) (xs.getD (i + 1) 0 + 1)) = T := by
        rw [val_set _ _ _ hi, ← hv]; generalize (10 : Int) ^ (xs.length - 1 - (i + 1)) = p; grind
      refine ⟨2 * xs.length + 10, fun k hk => ?_⟩
      obtain ⟨k, rfl⟩ : ∃ m, k = m + 1 := ⟨k - 1, by omega⟩
      simp only [spec_DecimalUp.l0]
      rw [if_pos (by omega), if_pos (by omega), hr, hw.out]
      simp only [Option.bind_some, Int.toNat_natCast]
      rw [hr', if_pos h9, decimal_f neg _ exp k hd' (by simp; omega) (by simp; omega) he0 (by simp; omega), hval]
      rfl
    · have e9 : xs.getD (i + 1) 0 = 9 := by omega
      refine Ev.step (f := fun k => spec_DecimalUp.l0 k exp ((xs.set (i + 1) 10).set (i + 1) 0) i neg ds e) (fun k => ?_) ?_
      · simp only [spec_DecimalUp.l0]
        rw [if_pos (by omega), if_pos (by omega), hr, hw.out, e9]
        simp only [Option.bind_some, Int.toNat_natCast]
        rw [show (9 : Int) + 1 = 10 from rfl, hr', if_neg (by decide), hw1.out]
      · rw [List.set_set]
        refine ih (xs.set (i + 1) 0) ?_ ?_ (by simp; omega) (by simpa using hl) (by simpa using he) ?_
        · exact dg_getD fun j => by rw [getD_set _ _ _ _ hi]; have := getD_dg hd j; split <;> omega
        · rw [getD_set _ _ _ _ hi, if_neg (by omega), h0]
        · rw [val_set _ _ _ hi, List.length_set, e9, ← hv, show xs.length - 1 - i = xs.length - 1 - (i + 1) + 1 from by omega, Int.pow_succ]
          generalize (10 : Int) ^ (xs.length - 1 - (i + 1)) = p; grind

/-- Rounding away from 0: of a number that is not a multiple. -/
theorem up_raw (neg : Bool) (D : Nat) (E exp : Int) (hD : D % 10 ≠ 0) (hlt : E < exp) (hE : -4611686018427380000 ≤ E) (hexp : exp ≤ 4611686018420000000) (hl : (digs D).length ≤ 1000000) :
    Ev (fun k => spec_DecimalUp.f k neg (digs D) E exp) ((canon (sg neg ((D : Int) / 10 ^ (exp - E).toNat + 1)) exp).1, (canon (sg neg ((D : Int) / 10 ^ (exp - E).toNat + 1)) exp).2.1, (canon (sg neg ((D : Int) / 10 ^ (exp - E).toNat + 1)) exp).2.2, false) := by
  have hDn : digs D ≠ [] := digs_ne D (by omega)
  have hlp : 0 < (digs D).length := List.length_pos_iff.2 hDn
  have hw : Aside0 (wrap64 ((wrap64 (((digs D).length : Int) + E)) - exp) = (digs D).length + E - exp) := ⟨by rw [Small.w64 (((digs D).length : Int) + E) (by omega) (by omega), Small.w64 _ (by omega) (by omega)]⟩
  have hmx : mx 0 (((digs D).length : Int) + E - exp) = (((digs D).length - (exp - E).toNat : Nat) : Int) := by unfold mx; omega
  obtain ⟨n, hn⟩ : ∃ n, (exp - E).toNat = n := ⟨_, rfl⟩
  rw [hn] at hmx ⊢
  have hv := val_take (digs D) (digs_dg D) n
  rw [val_digs] at hv
  have htl : ((digs D).take ((digs D).length - n)).length = (digs D).length - n := by simp
  have hgoal : ∀ xs, xs = (0 : Int) :: (digs D).take ((digs D).length - n) → Ev (fun k => spec_DecimalUp.l0 k exp xs (wrap64 ((xs.length : Int) - 1)) neg (digs D) E)
      ((canon (sg neg ((D : Int) / 10 ^ n + 1)) exp).1, (canon (sg neg ((D : Int) / 10 ^ n + 1)) exp).2.1, (canon (sg neg ((D : Int) / 10 ^ n + 1)) exp).2.2, false) := by
    intro xs hxs
    have hlen : xs.length = (digs D).length - n + 1 := by rw [hxs]; simp
    have hw2 : Aside0 (wrap64 ((xs.length : Int) - 1) = (((digs D).length - n : Nat) : Int)) := ⟨by unfold wrap64; omega⟩
    rw [hw2.out]
    refine up_l0 neg (digs D) E exp _ (by omega) ((digs D).length - n) xs ?_ (by rw [hxs]; simp) (by omega) (by omega) (by omega) ?_
    · rw [hxs]
      intro d hd
      simp only [List.mem_cons] at hd
      rcases hd with rfl | hd
      · omega
      · exact digs_dg D d (List.mem_of_mem_take hd)
    · rw [show xs.length - 1 - ((digs D).length - n) = 0 from by omega, hxs, val_cons, hv]; simp
  refine Ev.congr (f := fun k => spec_DecimalUp.j0 k exp false neg (digs D) E) (fun k => ?_) ?_
  · unfold spec_DecimalUp.f
    rw [if_neg (by omega), decide_eq_false (by omega)]
  · refine Ev.step (f := fun k => spec_DecimalUp.l0 k exp ((0 : Int) :: (digs D).take ((digs D).length - n)) (wrap64 ((((0 : Int) :: (digs D).take ((digs D).length - n)).length : Int) - 1)) neg (digs D) E) (fun k => ?_) (hgoal _ rfl)
    simp only [spec_DecimalUp.j0]
    rw [if_neg (by simp), hw.out, hmx]
    simp only [Option.bind_some, Int.toNat_natCast]
    rw [if_pos (by omega), if_pos (by omega), if_pos (by simp only [List.length_cons, List.length_nil]; omega)]
    rfl

/-- Rounding away from 0: of a multiple, and of 0. -/
theorem up_exact (m e exp : Int) (h : m = 0 ∨ exp ≤ (canon m e).2.2) : Ev (fun k => spec_DecimalUp.f k (canon m e).1 (canon m e).2.1 (canon m e).2.2 exp) ((canon m e).1, (canon m e).2.1, (canon m e).2.2, true) := by
  refine ⟨1, fun k hk => ?_⟩
  obtain ⟨k, rfl⟩ : ∃ m, k = m + 1 := ⟨k - 1, by omega⟩
  have hj : ∀ neg ds e, spec_DecimalUp.j0 (k + 1) exp true neg ds e = some (neg, ds, e, true) := by
    intro neg ds e; simp only [spec_DecimalUp.j0]; rw [if_pos trivial]
  show spec_DecimalUp.f (k + 1) (canon m e).1 (canon m e).2.1 (canon m e).2.2 exp = _
  unfold spec_DecimalUp.f
  by_cases h0 : ((canon m e).2.1.length : Int) = 0
  · rw [if_pos h0, hj]
  · rw [if_neg h0]
    rcases h with rfl | h
    · rw [canon_zero] at h0; simp at h0
    · rw [decide_eq_true (show (canon m e).2.2 ≥ exp from h), hj]

/-- A number by a power of ten, away from 0; whether it is exact. -/
def negS (a : Int) (s : Nat) : Int × Bool := (sg (decide (a < 0)) (((a.natAbs / 10 ^ s : Nat) : Int) + if a.natAbs % 10 ^ s = 0 then 0 else 1), decide (a.natAbs % 10 ^ s = 0))

theorem negS_lt (A s : Nat) (h : A % 10 ^ s ≠ 0) : A / 10 ^ s + 1 ≤ A := by
  have h1 := Nat.div_add_mod A (10 ^ s)
  have h2 : A / 10 ^ s * 1 ≤ 10 ^ s * (A / 10 ^ s) := by rw [Nat.mul_comm (10 ^ s)]; exact Nat.mul_le_mul_left _ (Nat.pow_pos (by decide))
  omega

theorem negS_range (a : Int) (ha : -9223372036854775808 ≤ a ∧ a ≤ 9223372036854775807) (s : Nat) : -9223372036854775808 ≤ (negS a s).1 ∧ (negS a s).1 ≤ 9223372036854775807 := by
  have h := negS_lt a.natAbs s
  have h1 := Nat.div_le_self a.natAbs (10 ^ s)
  unfold negS sg
  simp only [decide_eq_true_eq]
  generalize a.natAbs / 10 ^ s = q at *
  by_cases h0 : a.natAbs % 10 ^ s = 0
  · rw [if_pos h0]; split <;> omega
  · rw [if_neg h0]; have := h h0; split <;> omega

theorem neg_l0 (a : Int) (ha : -9223372036854775808 ≤ a ∧ a ≤ 9223372036854775807) (s : Nat) (hs : s ≤ 2147483647) (n : Nat) : ∀ i : Nat, i + n = s →
    Ev (fun k => resource_negativeScaleInt64.l0 k a s (sg (decide (a < 0)) ((a.natAbs / 10 ^ i : Nat) : Int)) (decide (a.natAbs % 10 ^ i ≠ 0)) i) (negS a s) := by
  induction n with
  | zero =>
    intro i hi
    obtain rfl : i = s := by omega
    refine ⟨1, fun k hk => ?_⟩
    obtain ⟨k, rfl⟩ : ∃ m, k = m + 1 := ⟨k - 1, by omega⟩
    simp only [resource_negativeScaleInt64.l0]
    rw [if_neg (by omega)]
    have hlt := negS_lt a.natAbs i
    have hle := Nat.div_le_self a.natAbs (10 ^ i)
    unfold negS
    by_cases h : a.natAbs % 10 ^ i = 0
    · rw [if_neg (by simpa using h), if_pos h]; simp [h]
    · have hlt := hlt h
      rw [if_pos (by simpa using h), if_neg h]
      generalize a.natAbs / 10 ^ i = q at *
      by_cases hp : a > 0
      · rw [if_pos hp]
        have hw : Aside0 (wrap64 (sg (decide (a < 0)) (q : Int) + 1) = sg (decide (a < 0)) ((q : Int) + 1)) := ⟨by unfold sg wrap64; simp only [decide_eq_true_eq]; split <;> omega⟩
        rw [hw.out]; simp [h]
      · rw [if_neg hp]
        have hw : Aside0 (wrap64 (sg (decide (a < 0)) (q : Int) - 1) = sg (decide (a < 0)) ((q : Int) + 1)) := ⟨by unfold sg wrap64; simp only [decide_eq_true_eq]; split <;> omega⟩
        rw [hw.out]; simp [h]
  | succ n ih =>
    intro i hi
    have hle := Nat.div_le_self a.natAbs (10 ^ i)
    have hdd : a.natAbs / 10 ^ (i + 1) = a.natAbs / 10 ^ i / 10 := by rw [Nat.pow_succ, Nat.div_div_eq_div_mul]
    have hmm : a.natAbs % 10 ^ (i + 1) = a.natAbs % 10 ^ i + 10 ^ i * (a.natAbs / 10 ^ i % 10) := Nat.mod_pow_succ
    have hpp : 0 < 10 ^ i := Nat.pow_pos (by decide)
    have hfr : decide (a.natAbs % 10 ^ (i + 1) ≠ 0) = (decide (a.natAbs % 10 ^ i ≠ 0) || decide (a.natAbs / 10 ^ i % 10 ≠ 0)) := by
      rw [hmm, Bool.eq_iff_iff]
      simp only [decide_eq_true_eq, Bool.or_eq_true]
      constructor
      · intro h
        by_cases g : a.natAbs / 10 ^ i % 10 = 0
        · rw [g] at h; exact Or.inl (by simpa using h)
        · exact Or.inr g
      · rintro (h | h)
        · omega
        · have : 0 < 10 ^ i * (a.natAbs / 10 ^ i % 10) := Nat.mul_pos hpp (by omega)
          omega
    have htd : Aside0 (wrap64 (Int.tdiv (sg (decide (a < 0)) ((a.natAbs / 10 ^ i : Nat) : Int)) 10) = sg (decide (a < 0)) ((a.natAbs / 10 ^ (i + 1) : Nat) : Int)) := Aside0.mk <| by
      rw [hdd]
      generalize a.natAbs / 10 ^ i = q at *
      have h1 : Int.tdiv (q : Int) 10 = ((q / 10 : Nat) : Int) := by rw [Int.tdiv_eq_ediv_of_nonneg (by omega)]; omega
      have h2 : Int.tdiv (-(q : Int)) 10 = -((q / 10 : Nat) : Int) := by rw [Int.neg_tdiv, h1]
      unfold sg
      by_cases g : a < 0
      · simp only [g, decide_true, if_true, h2]; unfold wrap64; omega
      · simp only [g, decide_false, Bool.false_eq_true, if_false, h1]; unfold wrap64; omega
    have htm : (Int.tmod (sg (decide (a < 0)) ((a.natAbs / 10 ^ i : Nat) : Int)) 10 != 0) = decide (a.natAbs / 10 ^ i % 10 ≠ 0) := by
      generalize a.natAbs / 10 ^ i = q at *
      have h1 : Int.tmod (q : Int) 10 = ((q % 10 : Nat) : Int) := by rw [Int.tmod_eq_emod_of_nonneg (by omega)]; omega
      have h2 : Int.tmod (-(q : Int)) 10 = -((q % 10 : Nat) : Int) := by rw [Int.neg_tmod, h1]
      unfold sg
      rw [Bool.eq_iff_iff]
      simp only [bne_iff_ne, decide_eq_true_eq]
      split
      · rw [h2]; omega
      · rw [h1]; omega
    have hw32 : Aside0 (wrap32 ((i : Int) + 1) = ((i + 1 : Nat) : Int)) := ⟨by unfold wrap32; omega⟩
    have j2 : Ev (fun k => resource_negativeScaleInt64.j2 k a s (sg (decide (a < 0)) ((a.natAbs / 10 ^ i : Nat) : Int)) (decide (a.natAbs % 10 ^ (i + 1) ≠ 0)) i) (negS a s) := by
      by_cases hz : a.natAbs / 10 ^ (i + 1) = 0
      · have hA : a.natAbs < 10 ^ (i + 1) := by
          rcases Nat.div_eq_zero_iff.1 hz with h | h
          · exact absurd h (Nat.ne_of_gt (Nat.pow_pos (by decide)))
          · exact h
        have hA2 : a.natAbs < 10 ^ s := Nat.lt_of_lt_of_le hA (Nat.pow_le_pow_right (by decide) (by omega))
        refine ⟨1, fun k hk => ?_⟩
        obtain ⟨k, rfl⟩ : ∃ m, k = m + 1 := ⟨k - 1, by omega⟩
        simp only [resource_negativeScaleInt64.j2]
        rw [htd.out, hz, Nat.mod_eq_of_lt hA]
        unfold negS
        rw [Nat.mod_eq_of_lt hA2, Nat.div_eq_of_lt hA2]
        rw [if_pos (by unfold sg; split <;> rfl)]
        by_cases h0 : a.natAbs = 0
        · have : a = 0 := by omega
          subst this; simp [sg]
        · rw [if_pos (by simpa using h0), if_neg h0]
          unfold sg
          by_cases hp : a > 0
          · rw [if_pos hp]; simp [h0]; omega
          · rw [if_neg hp]; simp [h0]; omega
      · refine Ev.step (f := fun k => resource_negativeScaleInt64.l0 k a s (sg (decide (a < 0)) ((a.natAbs / 10 ^ (i + 1) : Nat) : Int)) (decide (a.natAbs % 10 ^ (i + 1) ≠ 0)) ((i + 1 : Nat) : Int)) (fun k => ?_) (ih (i + 1) (by omega))
        simp only [resource_negativeScaleInt64.j2]
        rw [htd.out, hw32.out, if_neg (by unfold sg; split <;> omega)]
    have j1 : ∀ fr x24, (x24 || fr) = decide (a.natAbs % 10 ^ (i + 1) ≠ 0) → Ev (fun k => resource_negativeScaleInt64.j1 k a s (sg (decide (a < 0)) ((a.natAbs / 10 ^ i : Nat) : Int)) fr i x24) (negS a s) := by
      intro fr x24 h
      refine Ev.step (f := fun k => resource_negativeScaleInt64.j2 k a s (sg (decide (a < 0)) ((a.natAbs / 10 ^ i : Nat) : Int)) (decide (a.natAbs % 10 ^ (i + 1) ≠ 0)) i) (fun k => ?_) j2
      simp only [resource_negativeScaleInt64.j1]
      rw [← h]
      cases x24
      · rw [if_neg (by simp)]; rfl
      · rw [if_pos rfl]; rfl
    by_cases hf : decide (a.natAbs % 10 ^ i ≠ 0) = true
    · refine Ev.step (f := fun k => resource_negativeScaleInt64.j1 k a s (sg (decide (a < 0)) ((a.natAbs / 10 ^ i : Nat) : Int)) (decide (a.natAbs % 10 ^ i ≠ 0)) i false) (fun k => ?_) (j1 _ _ ?_)
      · simp only [resource_negativeScaleInt64.l0]
        rw [if_pos (by omega), if_pos hf]
      · rw [hfr, hf]; simp
    · refine Ev.step (f := fun k => resource_negativeScaleInt64.j1 k a s (sg (decide (a < 0)) ((a.natAbs / 10 ^ i : Nat) : Int)) (decide (a.natAbs % 10 ^ i ≠ 0)) i (decide (a.natAbs / 10 ^ i % 10 ≠ 0))) (fun k => ?_) (j1 _ _ ?_)
      · simp only [resource_negativeScaleInt64.l0]
        rw [if_pos (by omega), if_neg hf, htm]
      · rw [hfr, Bool.or_comm]

theorem neg_scale (a : Int) (ha : -9223372036854775808 ≤ a ∧ a ≤ 9223372036854775807) (s : Nat) (hs : s ≤ 2147483647) : Ev (fun k => resource_negativeScaleInt64.f k a s) (negS a s) := by
  by_cases h : s = 0
  · subst h
    refine ⟨0, fun k _ => ?_⟩
    show resource_negativeScaleInt64.f k a ((0 : Nat) : Int) = _
    unfold resource_negativeScaleInt64.f
    rw [if_pos (by decide)]
    unfold negS
    simp [Nat.mod_one, sg]
    omega
  · refine Ev.congr (f := fun k => resource_negativeScaleInt64.l0 k a s a false 0) (fun k => ?_) ?_
    · unfold resource_negativeScaleInt64.f
      rw [if_neg (by omega)]
    · have := neg_l0 a ha s hs s 0 (by omega)
      simp only [Nat.pow_zero, Nat.div_one, Nat.mod_one] at this
      have e : sg (decide (a < 0)) ((a.natAbs : Nat) : Int) = a := by unfold sg; simp only [decide_eq_true_eq]; split <;> omega
      rw [e] at this
      exact this

theorem sd_down (a : Int) (ha : -9223372036854775808 ≤ a ∧ a ≤ 9223372036854775807) (s : Nat) (hs : s ≤ 500) : Ev (fun k => impl_ScaleDown.f k a s) (negS a s) := by
  have hw : Aside0 (wrap32 (s : Int) = s) := ⟨by unfold wrap32; omega⟩
  refine Ev.congr (f := fun k => ((resource_negativeScaleInt64.f k a s).bind fun bt197 => (some (bt197.1, bt197.2))).bind fun bt199 => (some (bt199.1, bt199.2))) (fun k => ?_) ?_
  · unfold impl_ScaleDown.f resource_ZzNegativeScale.f
    rw [hw.out]
  · exact Ev.bind (Ev.bind (neg_scale a ha s (by omega)) (Ev.now _)) (Ev.now _)

theorem sd_up (a : Int) (ha : -9223372036854775808 ≤ a ∧ a ≤ 9223372036854775807) (s : Nat) (hs : s ≤ 500) :
    Ev (fun k => spec_DecimalUp.f k (canon a 0).1 (canon a 0).2.1 (canon a 0).2.2 s) ((canon (negS a s).1 s).1, (canon (negS a s).1 s).2.1, (canon (negS a s).1 s).2.2, (negS a s).2) := by
  rcases canon_split a 0 with ⟨rfl, hc⟩ | ⟨neg, D, E, hD, hc, hc2, h0, hx, hneg⟩
  · have := up_exact 0 0 s (Or.inl rfl)
    have h1 : (negS 0 s).1 = 0 := by unfold negS; simp [sg]
    have h2 : (negS 0 s).2 = true := by unfold negS; simp
    rw [h1, h2, canon_zero]
    rw [canon_zero] at this
    exact this
  · obtain ⟨n, rfl⟩ := Int.eq_ofNat_of_zero_le h0
    simp only [Int.sub_zero, Int.toNat_natCast] at hx
    have hA : a.natAbs = D * 10 ^ n := by
      rw [hx, Int.natAbs_mul, Int.natAbs_pow]
      have : (sg neg (D : Int)).natAbs = D := by unfold sg; split <;> omega
      rw [this]; rfl
    by_cases hge : s ≤ n
    · have h1 : (negS a s) = (sg neg ((D * 10 ^ (n - s) : Nat) : Int), true) := by
        have hp : D * 10 ^ n = D * 10 ^ (n - s) * 10 ^ s := by rw [Nat.mul_assoc, ← Nat.pow_add, Nat.sub_add_cancel hge]
        unfold negS
        rw [hA, hp, Nat.mul_mod_left, Nat.mul_div_cancel _ (Nat.pow_pos (by decide)), ← hneg]
        simp
      have h2 : canon (negS a s).1 s = canon a 0 := by
        rw [h1, hc2]
        have : sg neg ((D * 10 ^ (n - s) : Nat) : Int) = sg neg D * 10 ^ (n - s) := by
          unfold sg; split <;> simp <;> grind
        simp only [this, canon_pow]
        congr 1; omega
      have := up_exact a 0 s (Or.inr (by rw [hc]; simp only; omega))
      rw [h2, h1]; exact this
    · have hp : 10 ^ s = 10 ^ (s - n) * 10 ^ n := by rw [← Nat.pow_add, Nat.sub_add_cancel (by omega)]
      have hne : D * 10 ^ n % 10 ^ s ≠ 0 := by
        rw [hp, Nat.mul_mod_mul_right]
        intro z
        have h3 : D % 10 ^ (s - n) = 0 := by
          rcases Nat.mul_eq_zero.1 z with h | h
          · exact h
          · exact absurd h (Nat.ne_of_gt (Nat.pow_pos (by decide)))
        have h4 : 10 ∣ 10 ^ (s - n) := by rw [show s - n = (s - n - 1) + 1 from by omega, Nat.pow_succ]; exact Nat.dvd_mul_left _ _
        exact hD (Nat.mod_eq_zero_of_dvd (Nat.dvd_trans h4 (Nat.dvd_of_mod_eq_zero h3)))
      have h1 : negS a s = (sg neg ((D : Int) / 10 ^ (s - n) + 1), false) := by
        unfold negS
        rw [hA, ← hneg, if_neg hne, decide_eq_false hne, hp, Nat.mul_div_mul_right _ _ (Nat.pow_pos (by decide))]
        congr 2
      have := up_raw neg D n s hD (by omega) (by omega) (by omega) (by
        have := (canon_len a 0 20 (by omega) neg D n hc).2; omega)
      rw [hc, h1]
      rw [show ((s : Int) - (n : Int)).toNat = s - n from by omega] at this
      exact this

theorem sd_fit (a : Int) (ha : -9223372036854775808 ≤ a ∧ a ≤ 9223372036854775807) : Ev (fun k => laws_scaleFits.f k (canon a 0).1 (canon a 0).2.1 (canon a 0).2.2) (a, true) := by
  obtain ⟨g, hg, h1, h2⟩ := int_ev a 0 (by decide) (fun neg D E hc => by have := canon_len a 0 20 (by omega) neg D E hc; omega)
  have e := h2 a ha.1 ha.2 rfl
  subst e
  exact Ev.bind hg (Ev.now _)

theorem sd_times (c : Int) (hc : -9223372036854775808 ≤ c ∧ c ≤ 9223372036854775807) (s : Nat) (hs : s ≤ 500) :
    Ev (fun k => spec_DecimalTimes.f k (canon c s).1 (canon c s).2.1 (canon c s).2.2 (canon 1 (-s)).1 (canon 1 (-s)).2.1 (canon 1 (-s)).2.2) (canon c 0) := by
  have h1 := canon_room c s 20 (by omega)
  have h2 := canon_room 1 (-s) 20 (by decide)
  have := times_canon c 1 s (-s) (Nat.le_trans (Nat.mul_le_mul h1.1 h2.1) (by decide)) (by omega) (by omega) (by omega) (by omega) (by omega) (by omega) (by omega)
  rw [Int.mul_one, show (s : Int) + -(s : Int) = 0 from by omega] at this
  exact this

theorem sd_j0 (a : Int) (ha : -9223372036854775808 ≤ a ∧ a ≤ 9223372036854775807) (s : Nat) (hs : s ≤ 500) : Ev (fun k => laws_FnScaleDowns.j0 k a s false) true := by
  have hw : Aside0 (wrap64 (-(s : Int)) = -s) := ⟨by unfold wrap64; omega⟩
  have hr := negS_range a ha s
  refine Ev.step (f := fun k => (spec_DecimalOf.f k a 0).bind fun bt201 => ((spec_DecimalUp.f k bt201.1 bt201.2.1 bt201.2.2 s).bind fun bt206 => ((spec_DecimalOf.f k 1 (-s)).bind fun bt213 => ((spec_DecimalTimes.f k bt206.1 bt206.2.1 bt206.2.2.1 bt213.1 bt213.2.1 bt213.2.2).bind fun bt218 => ((laws_scaleFits.f k bt218.1 bt218.2.1 bt218.2.2).bind fun bt223 => ((impl_ScaleDown.f k a s).bind fun bt225 => ((impl_ScaleDown.f k 11 1).bind fun bt227 => (if bt225.1 = bt223.1 then (if (bt225.2 == bt206.2.2.2) = true then (if bt227.1 = 2 then (some (!bt227.2)) else (some false)) else (some false)) else (some false)))))))))
    (fun k => ?_) ?_
  · simp only [laws_FnScaleDowns.j0]
    rw [if_neg (by simp), hw.out]
  · refine Ev.bind (of_ev a 0 (by decide) (by decide) ha) (Ev.bind (sd_up a ha s hs) (Ev.bind (of_ev 1 (-s) (by omega) (by omega) (by decide)) (Ev.bind (sd_times _ hr s hs) (Ev.bind (sd_fit _ hr) (Ev.bind (sd_down a ha s hs) (Ev.bind (sd_down 11 (by decide) 1 (by decide)) ?_))))))
    have e11 : negS 11 1 = (2, false) := by decide
    rw [e11]
    simp only [if_true, beq_self_eq_true, Bool.not_false]
    exact Ev.now _

theorem FnScaleDowns : laws_FnScaleDowns.Pure := by
  intro a s ha hs
  have ha := Small.wf64 ha
  unfold laws_FnScaleDowns.f
  by_cases h : s < 0
  · exact ⟨1, by rw [if_pos h]; rfl⟩
  · by_cases g : s > 500
    · exact ⟨1, by rw [if_neg h, decide_eq_true g]; rfl⟩
    · obtain ⟨n, rfl⟩ := Int.eq_ofNat_of_zero_le (show 0 ≤ s by omega)
      obtain ⟨k, hk⟩ := (sd_j0 a ha n (by omega)).rounds
      exact ⟨k, by rw [if_neg h, decide_eq_false g]; exact hk⟩

end Go.Proofs.Ytgidpggooclebaa.Pure
