/- A product of an amount and a number that is told is the product; it is told where the value times the number is an int64, and the product is a whole one: of every amount and number (that the statement lets by). -/
import Derived.Test.YtdhooibmibkbeaaPFnAmountMulx9
import Derived.Test.YtdhooibmibkbeaaSmall
import Derived.Test.YtdhooibmibkbeaaDec
import Derived.Test.YtdhooibmibkbeaaEvs
set_option linter.unusedVariables false
set_option linter.unusedSimpArgs false
namespace Go.Proofs.Ytdhooibmibkbeaa.Pure
open Go.RowKit Go.Proofs.Ytdhooibmibkbeaa.PFnAmountMul Go.Proofs.YtdhooibmibkbeaaW.PrintWords Go.Proofs.YtdhooibmibkbeaaW.PrintLast Go.Proofs.Ytdhooibmibkbeaa.Dec

theorem sg_neg_zero (neg : Bool) : canon (sg neg 0) = canon 0 := by rw [sg_zero]

theorem decimal_l1 (neg : Bool) : ∀ l, Dg l → l.head? ≠ some 0 → ∀ (k : Nat) (e : Int), l.length < k → l.length ≤ 17592186044415 →
    -4611686018427387904 ≤ e → e + l.length ≤ 4611686018427387904 → spec_decimal.l1 k neg l e = some (canon (sg neg (val l)) e) := by
  refine snoc_ind ?_ ?_
  · intro _ _ k e hk _ _ _
    obtain ⟨k, rfl⟩ : ∃ m, k = m + 1 := ⟨k - 1, by omega⟩
    simp only [spec_decimal.l1]
    rw [if_neg (by simp), if_pos (by simp), val_nil, sg_zero, canon_zero]
  · intro l d ih hd h0 k e hk hl e0 e1
    obtain ⟨k, rfl⟩ : ∃ m, k = m + 1 := ⟨k - 1, by omega⟩
    have hlen : ((l ++ [d]).length : Int) = l.length + 1 := by simp
    have hlen' : (l ++ [d]).length = l.length + 1 := by simp
    have hw : Aside0 (wrap64 (((l ++ [d]).length : Int) - 1) = l.length) := ⟨by rw [hlen]; unfold wrap64; omega⟩
    have hr : rd (l ++ [d]) (l.length : Int) = d := by unfold rd; simp
    simp only [spec_decimal.l1]
    rw [hw.out, hr, if_pos (by omega), if_pos (by omega), if_pos (by omega)]
    by_cases h1 : d = 0
    · subst h1
      have h0' : l.head? ≠ some 0 := by
        cases l with
        | nil => simp
        | cons x l => simpa using h0
      have hw2 : Aside0 (wrap64 (e + 1) = e + 1) := ⟨by unfold wrap64; omega⟩
      rw [if_pos rfl, if_pos (by omega), hw2.out, show ((l.length : Int)).toNat = l.length from by omega, List.take_left', ih hd.left h0' k (e + 1) (by omega) (by omega) (by omega) (by omega), val_snoc, Int.add_zero, sg_ten, canon_ten]
      rfl
    · rw [if_neg h1, if_neg (by omega), canon_trim neg l d e hd h0 h1]
      simp only [Option.bind_some, List.length_nil, Nat.zero_add, List.nil_append]
      rw [if_pos (by omega)]

theorem decimal_l0 (neg : Bool) (e : Int) (e0 : -4611686018427387904 ≤ e) : ∀ (l : List Int) (k : Nat), Dg l → 2 * l.length + 2 < k → l.length ≤ 17592186044415 →
    e + l.length ≤ 4611686018427387904 → spec_decimal.l0 k neg l e = some (canon (sg neg (val l)) e) := by
  have stop : ∀ (l : List Int) (k : Nat), Dg l → l.head? ≠ some 0 → l.length + 1 < k → l.length ≤ 17592186044415 → e + l.length ≤ 4611686018427387904 →
      spec_decimal.j1 k neg l e = some (canon (sg neg (val l)) e) := by
    intro l k hd h0 hk hl e1
    obtain ⟨k, rfl⟩ : ∃ m, k = m + 1 := ⟨k - 1, by omega⟩
    simp only [spec_decimal.j1]
    exact decimal_l1 neg l hd h0 k e (by omega) hl e0 e1
  intro l
  induction l with
  | nil =>
    intro k hd hk hl e1
    obtain ⟨k, rfl⟩ : ∃ m, k = m + 1 := ⟨k - 1, by omega⟩
    simp only [spec_decimal.l0]
    rw [if_neg (by simp)]
    exact stop [] k hd (by simp) (by simpa using by omega) hl e1
  | cons x l ih =>
    intro k hd hk hl e1
    simp only [List.length_cons] at hk hl e1
    obtain ⟨k, rfl⟩ : ∃ m, k = m + 1 := ⟨k - 1, by omega⟩
    have hr : rd (x :: l) 0 = x := by unfold rd; simp
    have hlen : ((x :: l).length : Int) = l.length + 1 := by simp
    simp only [spec_decimal.l0]
    rw [hr, if_pos (by omega), if_pos (by omega)]
    by_cases h : x = 0
    · subst h
      rw [if_pos rfl, if_pos (by omega), List.drop_one, List.tail_cons, ih k hd.cons.2 (by omega) (by omega) (by omega), val_cons]
      simp
    · rw [if_neg h]
      exact stop (x :: l) k hd (by simpa using h) (by simp only [List.length_cons]; omega) (by simp only [List.length_cons]; omega) (by simp only [List.length_cons]; omega)

theorem decimal_f (neg : Bool) (l : List Int) (e : Int) (k : Nat) (hd : Dg l) (hk : 2 * l.length + 2 < k) (hl : l.length ≤ 17592186044415) (e0 : -4611686018427387904 ≤ e) (e1 : e + l.length ≤ 4611686018427387904) :
    spec_decimal.f k neg l e = some (canon (sg neg (val l)) e) := by
  unfold spec_decimal.f
  exact decimal_l0 neg e e0 l k hd hk hl e1

/-- Of a number's digits that are still to be read, and those that are. -/
theorem of_l0 (x e : Int) (e0 : -4611686018427387904 ≤ e) (e1 : e ≤ 4611686018427380000) (n : Nat) : ∀ (acc : List Int) (k : Nat), (n : Int) ≤ 18446744073709551615 → Dg acc →
    (digs n).length + acc.length ≤ 400 → 2 * ((digs n).length + acc.length) + (digs n).length + 4 < k →
    spec_DecimalOf.l0 k x e n acc = some (canon (sg (decide (x < 0)) (val (digs n ++ acc))) e) := by
  induction n using Nat.strongRecOn with
  | _ n ih =>
    intro acc k hn ha hl hk
    obtain ⟨k, rfl⟩ : ∃ m, k = m + 1 := ⟨k - 1, by omega⟩
    by_cases h : n = 0
    · subst h
      simp only [digs_zero, List.length_nil, Nat.zero_add, List.nil_append] at *
      simp only [spec_DecimalOf.l0]
      rw [if_neg (by simp), decimal_f _ acc e k ha (by omega) (by omega) e0 (by omega)]
      simp
    · have hs := digs_step n h
      have hlen : (digs n).length = (digs (n / 10)).length + 1 := by rw [hs]; simp
      have hq : Aside0 (IntKind.u64.wrap (Int.tdiv (n : Int) 10) = ((n / 10 : Nat) : Int)) := Aside0.mk <| by
        rw [IntWalk.u64_quo _ _ (by omega)]; simp
      have hr : Aside0 (wrap64 (Int.tmod (n : Int) 10) = ((n % 10 : Nat) : Int)) := Aside0.mk <| by
        rw [Int.tmod_eq_emod_of_nonneg (by omega)]
        unfold wrap64; omega
      simp only [spec_DecimalOf.l0]
      rw [if_pos (by omega)]
      simp only [Option.bind_some, hq.out, hr.out]
      rw [if_pos (by simp only [List.length_cons, List.length_nil]; omega)]
      rw [show [((n % 10 : Nat) : Int)] ++ acc = ((n % 10 : Nat) : Int) :: acc from rfl]
      rw [ih (n / 10) (by omega) (((n % 10 : Nat) : Int) :: acc) k (by omega) (fun d hd => (List.mem_cons.1 hd).elim (fun z => by omega) (ha d)) (by simp only [List.length_cons]; omega) (by simp only [List.length_cons]; omega), hs]
      simp

theorem digs_len20 (n : Nat) (h : (n : Int) ≤ 18446744073709551615) : (digs n).length ≤ 20 := (digs_len 20 n).2 (by omega)

theorem of_f (x e : Int) (e0 : -4611686018427387904 ≤ e) (e1 : e ≤ 4611686018427380000) (hx : -9223372036854775808 ≤ x ∧ x ≤ 9223372036854775807) (k : Nat) (hk : 70 ≤ k) :
    spec_DecimalOf.f k x e = some (canon x e) := by
  obtain ⟨k, rfl⟩ : ∃ m, k = m + 1 := ⟨k - 1, by omega⟩
  have hl := digs_len20 x.natAbs (by omega)
  unfold spec_DecimalOf.f
  by_cases h : x < 0
  · have hw : IntKind.u64.wrap (-(IntKind.u64.wrap x)) = (x.natAbs : Int) := by
      rw [IntKind.wrap_u64, IntKind.wrap_u64]; omega
    rw [if_pos h, hw]
    simp only [spec_DecimalOf.j0]
    rw [of_l0 x e e0 e1 x.natAbs [] k (by omega) Dg.nil (by simp; omega) (by simp; omega), List.append_nil, val_digs]
    congr 2; unfold sg; simp [h]; omega
  · have hw : IntKind.u64.wrap x = (x.natAbs : Int) := by
      rw [IntKind.wrap_u64]; omega
    rw [if_neg h, hw]
    simp only [spec_DecimalOf.j0]
    rw [of_l0 x e e0 e1 x.natAbs [] k (by omega) Dg.nil (by simp; omega) (by simp; omega), List.append_nil, val_digs]
    congr 2; unfold sg; simp [h]; omega

theorem of_ev (x e : Int) (e0 : -4611686018427387904 ≤ e) (e1 : e ≤ 4611686018427380000) (hx : -9223372036854775808 ≤ x ∧ x ≤ 9223372036854775807) :
    Ev (fun k => spec_DecimalOf.f k x e) (canon x e) := ⟨70, fun k hk => of_f x e e0 e1 hx k hk⟩
theorem wide_l0 (n : Nat) : ∀ (exp e : Int) (l : List Int) (k : Nat), l ≠ [] → e - exp = n → n < k → l.length + n < 17592186044416 → -4611686018427387904 ≤ exp → e ≤ 4611686018427387904 →
    spec_wide.l0 k exp l e = some (l ++ List.replicate n 0) := by
  induction n with
  | zero =>
    intro exp e l k hl he hk _ _ _
    obtain ⟨k, rfl⟩ : ∃ m, k = m + 1 := ⟨k - 1, by omega⟩
    simp only [spec_wide.l0]
    rw [if_neg (by omega)]; simp
  | succ n ih =>
    intro exp e l k hl he hk hlen h0 h1
    obtain ⟨k, rfl⟩ : ∃ m, k = m + 1 := ⟨k - 1, by omega⟩
    have hp : 0 < l.length := List.length_pos_iff.2 hl
    have hw : Aside0 (wrap64 (e - 1) = e - 1) := ⟨by unfold wrap64; omega⟩
    simp only [spec_wide.l0]
    rw [if_pos (by omega), if_pos (by omega), if_pos (by omega), hw.out, ih exp (e - 1) (l ++ [0]) k (by simp) (by omega) (by omega) (by simp; omega) h0 (by omega), List.append_assoc]
    rfl

theorem wide_nil (exp e : Int) (k : Nat) (neg : Bool) (hk : 0 < k) : spec_wide.f k neg [] e exp = some [] := by
  obtain ⟨k, rfl⟩ : ∃ m, k = m + 1 := ⟨k - 1, by omega⟩
  unfold spec_wide.f
  simp only [Option.bind_some, List.length_nil, List.append_nil, spec_wide.l0]
  rw [if_pos (by decide)]
  split
  · rw [if_neg (by simp)]
  · rfl

theorem wide_f (neg : Bool) (l : List Int) (exp e : Int) (n k : Nat) (hl : l ≠ []) (he : e - exp = n) (hk : n < k) (hlen : l.length + n < 17592186044416) (h0 : -4611686018427387904 ≤ exp) (h1 : e ≤ 4611686018427387904) :
    spec_wide.f k neg l e exp = some (l ++ List.replicate n 0) := by
  unfold spec_wide.f
  simp only [Option.bind_some, List.length_nil, Nat.zero_add, List.nil_append]
  rw [if_pos (by omega)]
  exact wide_l0 n exp e l k hl he hk hlen h0 h1

theorem u64_acc {a d : Int} (h0 : 0 ≤ a) (hd : 0 ≤ d ∧ d ≤ 9) (h1 : 10 * a + d ≤ 18446744073709551615) : IntKind.u64.wrap ((IntKind.u64.wrap (10 * a)) + (IntKind.u64.wrap d)) = 10 * a + d := by
  rw [IntWalk.u64_in (10 * a) (by omega), IntWalk.u64_in d (by omega), IntWalk.u64_in _ (by omega)]

/-- The digits' number, step by step. -/
theorem int_l0 (l : List Int) (hd : Dg l) (hl : l.length ≤ 19) (neg : Bool) (ds : List Int) (e : Int) (n : Nat) : ∀ (i k : Nat), i + n = l.length → n < k →
    spec_DecimalInt.l0 k (val (l.take i)) l (l.length : Int) i neg ds e = (if neg = true then (some (wrap64 (IntKind.u64.wrap (-(val l))), decide (val l ≤ 9223372036854775808))) else (some (wrap64 (val l), decide (val l < 9223372036854775808)))) := by
  induction n with
  | zero =>
    intro i k hi hk
    obtain ⟨k, rfl⟩ : ∃ m, k = m + 1 := ⟨k - 1, by omega⟩
    simp only [spec_DecimalInt.l0]
    rw [if_neg (by omega), List.take_of_length_le (by omega)]
  | succ n ih =>
    intro i k hi hk
    obtain ⟨k, rfl⟩ : ∃ m, k = m + 1 := ⟨k - 1, by omega⟩
    have hlt : i < l.length := by omega
    have hi1 : Aside0 (wrap64 ((i : Int) + 1) = ((i + 1 : Nat) : Int)) := ⟨by unfold wrap64; omega⟩
    have hr : rd l (i : Int) = l[i] := by unfold rd; simp [hlt]
    have hdt : Dg (l.take i) := fun d h => hd d (List.mem_of_mem_take h)
    have hdt1 : Dg (l.take (i + 1)) := fun d h => hd d (List.mem_of_mem_take h)
    have hs : l.take (i + 1) = l.take i ++ [l[i]] := by rw [List.take_succ_eq_append_getElem hlt]
    have hv : val (l.take (i + 1)) = 10 * val (l.take i) + l[i] := by rw [hs, val_snoc]
    have h19 : val (l.take (i + 1)) < 10 ^ 19 := by
      have h1 := val_lt _ hdt1
      have h2 : (10 : Int) ^ (l.take (i + 1)).length ≤ 10 ^ 19 := Small.pow10_le (by simp; omega)
      omega
    have e19 : (10 : Int) ^ 19 = 10000000000000000000 := by decide
    have hb := hd l[i] (List.getElem_mem hlt)
    have h0 := val_nonneg _ hdt
    simp only [spec_DecimalInt.l0]
    rw [if_pos (by omega), if_pos (by omega), if_pos (by omega), hr, u64_acc h0 hb (by omega), hi1.out, ← hv]
    exact ih (i + 1) k (by omega) (by omega)

/-- A number as an int64: told just if it is one. -/
theorem int_ev (m e : Int) (he : -4611686018427380000 ≤ e) (hE : ∀ neg D E, canon m e = (neg, digs D, E) → E + (digs D).length ≤ 4611686018427387904 ∧ (digs D).length ≤ 17592186044000) :
    ∃ g : Int × Bool, Ev (fun k => spec_DecimalInt.f k (canon m e).1 (canon m e).2.1 (canon m e).2.2) g ∧
      (g.2 = true → -9223372036854775808 ≤ g.1 ∧ g.1 ≤ 9223372036854775807 ∧ canon m e = canon g.1 0) ∧
      (∀ v, -9223372036854775808 ≤ v → v ≤ 9223372036854775807 → canon m e = canon v 0 → g = (v, true)) := by
  rcases canon_split m e with ⟨rfl, hc⟩ | ⟨neg, D, E, hD, hc, hc', heE, _, _⟩
  · rw [hc]
    refine ⟨(0, true), ⟨3, fun k hk => ?_⟩, fun _ => ⟨by decide, by decide, by rw [canon_zero]⟩, fun v _ _ hv => ?_⟩
    · obtain ⟨k, rfl⟩ : ∃ m, k = m + 2 := ⟨k - 2, by omega⟩
      simp only [spec_DecimalInt.f]
      rw [if_neg (by simp)]
      simp only [spec_DecimalInt.j0]
      rw [if_neg (by simp), wide_nil 0 0 (k + 1) false (by omega)]
      simp only [Option.bind_some, spec_DecimalInt.l0]
      rw [if_neg (by simp), if_neg (by simp), Small.w64 0 (by decide) (by decide)]
      rfl
    · have : canon 0 0 = canon v 0 := by rw [canon_zero]; exact hv
      have := canon_inj this
      rw [← this]
  · obtain ⟨hE1, hE2⟩ := hE neg D E hc
    have hDn : digs D ≠ [] := digs_ne D (by omega)
    have hlp : 0 < (digs D).length := List.length_pos_iff.2 hDn
    have hw : Aside0 (wrap64 (((digs D).length : Int) + E) = (digs D).length + E) := ⟨by unfold wrap64; omega⟩
    rw [hc]
    simp only
    by_cases h0 : E < 0
    · refine ⟨(0, false), ⟨2, fun k hk => ?_⟩, fun h => by simp at h, fun v _ _ hv => ?_⟩
      · obtain ⟨k, rfl⟩ : ∃ m, k = m + 1 := ⟨k - 1, by omega⟩
        simp only [spec_DecimalInt.f]
        rw [if_pos (by omega), if_pos h0]
        simp only [spec_DecimalInt.j0]
        rw [if_pos trivial]
      · exfalso
        rcases canon_split v 0 with ⟨_, hz⟩ | ⟨n2, D2, E2, _, hz, _, h2, _, _⟩
        · rw [hz] at hv; simp only [Prod.mk.injEq] at hv; exact hDn hv.2.1
        · rw [hz] at hv; simp only [Prod.mk.injEq] at hv; omega
    · obtain ⟨n, rfl⟩ := Int.eq_ofNat_of_zero_le (show 0 ≤ E by omega)
      have hval : val (digs D ++ List.replicate n 0) = (D : Int) * 10 ^ n := by rw [val_append, val_digs, val_zeros]; simp
      have hcv : canon m e = canon (sg neg (D * 10 ^ n)) 0 := by
        rw [hc']
        have : sg neg ((D : Int) * 10 ^ n) = sg neg D * 10 ^ n := by unfold sg; split <;> grind
        rw [this, canon_pow]; simp
      have huniq : ∀ v, (neg, digs D, (n : Int)) = canon v 0 → v = sg neg (D * 10 ^ n) := by
        intro v hv
        rw [← hc, hcv] at hv
        exact (canon_inj hv).symm
      have hge : (10 : Int) ^ ((digs D).length - 1) ≤ D := by
        have := (digs_len ((digs D).length - 1) D)
        have h1 : ¬ D < 10 ^ ((digs D).length - 1) := fun h => by have := this.2 h; omega
        have h2 : 10 ^ ((digs D).length - 1) ≤ D := by omega
        exact_mod_cast h2
      by_cases h19 : ((digs D).length : Int) + n > 19
      · refine ⟨(0, false), ⟨2, fun k hk => ?_⟩, fun h => by simp at h, fun v v0 v1 hv => ?_⟩
        · obtain ⟨k, rfl⟩ : ∃ m, k = m + 1 := ⟨k - 1, by omega⟩
          simp only [spec_DecimalInt.f]
          rw [if_pos (by omega), if_neg h0, hw.out, decide_eq_true h19]
          simp only [spec_DecimalInt.j0]
          rw [if_pos trivial]
        · exfalso
          have hv := huniq v hv
          have hbig : (10 : Int) ^ 19 ≤ D * 10 ^ n := by
            have h1 : (10 : Int) ^ 19 ≤ 10 ^ ((digs D).length - 1 + n) := Small.pow10_le (by omega)
            have h2 : (10 : Int) ^ ((digs D).length - 1 + n) ≤ D * 10 ^ n := by
              rw [Int.pow_add]
              exact Int.mul_le_mul_of_nonneg_right hge (Int.le_of_lt (Int.pow_pos (by decide)))
            omega
          have e19 : (10 : Int) ^ 19 = 10000000000000000000 := by decide
          unfold sg at hv; split at hv <;> omega
      · have hdz : Dg (digs D ++ List.replicate n 0) := (digs_dg D).append (Dg.zeros n)
        have hl19 : (digs D ++ List.replicate n 0).length ≤ 19 := by simp; omega
        have hb := val_lt _ hdz
        have hb0 := val_nonneg _ hdz
        have hb19 : (10 : Int) ^ (digs D ++ List.replicate n 0).length ≤ 10 ^ 19 := Small.pow10_le hl19
        have e19 : (10 : Int) ^ 19 = 10000000000000000000 := by decide
        have hD0 : (1 : Int) ≤ D := by omega
        have hp1 : (1 : Int) ≤ 10 ^ n := Int.pow_pos (by decide)
        have hv1 : (1 : Int) ≤ D * 10 ^ n := by
          have := Int.mul_le_mul_of_nonneg_right hD0 (Int.le_of_lt (Int.lt_of_lt_of_le (by decide) hp1))
          omega
        refine ⟨(if neg = true then (wrap64 (IntKind.u64.wrap (-(val (digs D ++ List.replicate n 0)))), decide (val (digs D ++ List.replicate n 0) ≤ 9223372036854775808)) else (wrap64 (val (digs D ++ List.replicate n 0)), decide (val (digs D ++ List.replicate n 0) < 9223372036854775808))), ⟨n + 30, fun k hk => ?_⟩, ?_, ?_⟩
        · obtain ⟨k, rfl⟩ : ∃ m, k = m + 1 := ⟨k - 1, by omega⟩
          simp only [spec_DecimalInt.f]
          rw [if_pos (by omega), if_neg h0, hw.out, decide_eq_false h19]
          simp only [spec_DecimalInt.j0]
          rw [if_neg (by simp), wide_f neg (digs D) 0 n n k hDn (by omega) (by omega) (by omega) (by omega) (by omega)]
          simp only [Option.bind_some]
          have := int_l0 (digs D ++ List.replicate n 0) hdz hl19 neg (digs D) n (digs D ++ List.replicate n 0).length 0 k (by omega) (by omega)
          rw [List.take_zero, val_nil] at this
          rw [show ((0 : Nat) : Int) = 0 from rfl] at this
          rw [this]
          split <;> rfl
        · rw [hval]
          intro h
          cases neg with
          | true =>
            simp only [if_true, decide_eq_true_eq] at h ⊢
            have hw : Aside0 (wrap64 (IntKind.u64.wrap (-((D : Int) * 10 ^ n))) = -(D * 10 ^ n)) := ⟨by rw [IntKind.wrap_u64]; unfold wrap64; omega⟩
            rw [hw.out]
            refine ⟨by omega, by omega, ?_⟩
            rw [← hc, hcv]; rfl
          | false =>
            simp only [Bool.false_eq_true, if_false, decide_eq_true_eq] at h ⊢
            have hw : Aside0 (wrap64 ((D : Int) * 10 ^ n) = D * 10 ^ n) := ⟨by unfold wrap64; omega⟩
            rw [hw.out]
            refine ⟨by omega, by omega, ?_⟩
            rw [← hc, hcv]; rfl
        · intro v v0 v1 hv
          have hv := huniq v hv
          rw [hval]
          subst hv
          cases neg with
          | true =>
            simp only [sg, if_true] at *
            have hw : Aside0 (wrap64 (IntKind.u64.wrap (-((D : Int) * 10 ^ n))) = -(D * 10 ^ n)) := ⟨by rw [IntKind.wrap_u64]; unfold wrap64; omega⟩
            rw [hw.out, decide_eq_true (by omega)]
          | false =>
            simp only [sg, Bool.false_eq_true, if_false] at *
            have hw : Aside0 (wrap64 ((D : Int) * 10 ^ n) = D * 10 ^ n) := ⟨by unfold wrap64; omega⟩
            rw [hw.out, decide_eq_true (by omega)]

/-- The carrying of a product. -/
theorem times_l2 (na nb : Bool) (la lb : List Int) (ea eb : Int) (T : Int) (hT0 : T < 10 ^ (la.length + lb.length)) (he0 : -4611686018427387904 ≤ ea + eb) (he1 : ea + eb + (la.length + lb.length + 1) ≤ 4611686018427387904)
    (hl : la.length + lb.length + 1 ≤ 17592186044415) (i : Nat) : ∀ (xs : List Int), xs.length = la.length + lb.length + 1 → i < xs.length → val xs = T →
    (∀ j, j < i → 0 ≤ xs.getD j 0 ∧ xs.getD j 0 ≤ 2305843009213693952) → (0 ≤ xs.getD i 0 ∧ xs.getD i 0 ≤ 4611686018427387904) → (∀ j, i < j → 0 ≤ xs.getD j 0 ∧ xs.getD j 0 ≤ 9) →
    Ev (fun k => spec_DecimalTimes.l2 k xs i na la ea nb lb eb) (canon (sg (na != nb) T) (ea + eb)) := by
  induction i with
  | zero =>
    intro xs hx hi hv _ h0 hgt
    have hdg : Dg xs := by
      refine dg_getD (fun j => ?_)
      cases j with
      | zero =>
        refine ⟨h0.1, ?_⟩
        cases xs with
        | nil => simp at hx
        | cons x l =>
          simp only [List.getD_cons_zero] at h0 ⊢
          simp only [List.length_cons] at hx
          rw [val_cons] at hv
          have hl0 : 0 ≤ val l := val_nonneg l (dg_getD fun j => by have := hgt (j + 1) (by omega); simpa using this)
          rw [show l.length = la.length + lb.length from by omega] at hv
          by_cases h9 : x ≤ 9
          · exact h9
          · exfalso
            have hp : (0 : Int) < 10 ^ (la.length + lb.length) := Int.pow_pos (by decide)
            have : 1 * 10 ^ (la.length + lb.length) ≤ x * 10 ^ (la.length + lb.length) := Int.mul_le_mul_of_nonneg_right (by omega) (Int.le_of_lt hp)
            omega
      | succ j => exact hgt (j + 1) (by omega)
    have hw : Aside0 (wrap64 (ea + eb) = ea + eb) := ⟨by unfold wrap64; omega⟩
    refine ⟨2 * xs.length + 5, fun k hk => ?_⟩
    obtain ⟨k, rfl⟩ : ∃ m, k = m + 1 := ⟨k - 1, by omega⟩
    simp only [spec_DecimalTimes.l2]
    rw [if_neg (by simp), hw.out, decimal_f _ xs _ k hdg (by omega) (by omega) he0 (by omega), hv]
    rfl
  | succ i ih =>
    intro xs hx hi hv hlt hat hgt
    have hw : Aside0 (wrap64 (((i + 1 : Nat) : Int) - 1) = i) := ⟨by unfold wrap64; omega⟩
    have hr : rd xs ((i + 1 : Nat) : Int) = xs.getD (i + 1) 0 := by unfold rd; simp
    have hr' : rd xs (i : Int) = xs.getD i 0 := by unfold rd; simp
    have hq : Int.tdiv (xs.getD (i + 1) 0) 10 = xs.getD (i + 1) 0 / 10 := Int.tdiv_eq_ediv_of_nonneg hat.1
    have hm : Int.tmod (xs.getD (i + 1) 0) 10 = xs.getD (i + 1) 0 % 10 := Int.tmod_eq_emod_of_nonneg hat.1
    have hb := hlt i (by omega)
    generalize hA : xs.getD (i + 1) 0 = A at *
    generalize hB : xs.getD i 0 = B at *
    have hw2 : Aside0 (wrap64 (A / 10) = A / 10) := ⟨by unfold wrap64; omega⟩
    have hw3 : Aside0 (wrap64 (B + A / 10) = B + A / 10) := ⟨by unfold wrap64; omega⟩
    have hy : rd (xs.set i (B + A / 10)) ((i + 1 : Nat) : Int) = A := by
      have : rd (xs.set i (B + A / 10)) ((i + 1 : Nat) : Int) = (xs.set i (B + A / 10)).getD (i + 1) 0 := by unfold rd; simp
      rw [this, getD_set _ _ _ _ (by omega), if_neg (by omega), hA]
    have hlen1 : (xs.set i (B + A / 10)).length = xs.length := List.length_set
    have hlen : ((xs.set i (B + A / 10)).set (i + 1) (A % 10)).length = la.length + lb.length + 1 := by simp [hx]
    have hval : val ((xs.set i (B + A / 10)).set (i + 1) (A % 10)) = T := by
      rw [val_set _ _ _ (by omega), val_set _ _ _ (by omega), getD_set _ _ _ _ (by omega), if_neg (by omega), hA, hB, hlen1, hv]
      rw [show xs.length - 1 - i = (xs.length - 1 - (i + 1)) + 1 from by omega, Int.pow_succ]
      have : A = 10 * (A / 10) + A % 10 := by omega
      generalize A / 10 = q at *
      generalize A % 10 = r at *
      subst this
      generalize (10 : Int) ^ (xs.length - 1 - (i + 1)) = p
      grind
    have hget : ∀ j, ((xs.set i (B + A / 10)).set (i + 1) (A % 10)).getD j 0 = if i + 1 = j then A % 10 else if i = j then B + A / 10 else xs.getD j 0 := by
      intro j
      rw [getD_set _ _ _ _ (by omega), getD_set _ _ _ _ (by omega)]
    refine Ev.step (f := fun k => spec_DecimalTimes.l2 k ((xs.set i (B + A / 10)).set (i + 1) (A % 10)) i na la ea nb lb eb) (fun k => ?_) ?_
    · simp only [spec_DecimalTimes.l2]
      rw [if_pos (by omega), hw.out, if_pos (by omega), if_pos (by omega), if_pos (by omega), if_pos (by omega)]
      simp only [Option.bind_some, hr, hr', hq, hw2.out, hw3.out, Int.toNat_natCast, hy, hm]
    · refine ih _ hlen (by omega) hval ?_ ?_ ?_
      · intro j hj
        rw [hget, if_neg (by omega), if_neg (by omega)]
        exact hlt j (by omega)
      · rw [hget, if_neg (by omega), if_pos rfl]; omega
      · intro j hj
        rw [hget]
        by_cases h1 : i + 1 = j
        · rw [if_pos h1]; omega
        · rw [if_neg h1, if_neg (by omega)]
          exact hgt j (by omega)

theorem mul_room (n j c lb M : Nat) (h : c + (n + 1) * lb ≤ M) : c + n * lb + lb ≤ M := by rw [Nat.succ_mul] at h; omega

/-- A product's rows: from place `i` of the first number on, `n` of its digits to come. -/
theorem times_l0 (na nb : Bool) (la lb : List Int) (ea eb : Int) (M : Nat) (hM : M ≤ 1125899906842624) (ha : Dg la) (hb : Dg lb) (he0 : -4611686018427387904 ≤ ea + eb) (he1 : ea + eb + (la.length + lb.length + 1) ≤ 4611686018427387904)
    (hl : la.length + lb.length + 1 ≤ 17592186044415) (n : Nat) : ∀ (i c : Nat) (xs : List Int), i + n = la.length → c + n * lb.length ≤ M → xs.length = la.length + lb.length + 1 →
    val xs + val (la.drop i) * val lb = val la * val lb → (∀ j, 0 ≤ xs.getD j 0 ∧ xs.getD j 0 ≤ 81 * (c : Int)) →
    Ev (fun k => spec_DecimalTimes.l0 k xs (la.length : Int) i na la ea nb lb eb) (canon (sg (na != nb) (val la * val lb)) (ea + eb)) := by
  have hTlt : val la * val lb < 10 ^ (la.length + lb.length) := by
    rw [Int.pow_add]
    have h1 := val_lt la ha
    have h2 := val_lt lb hb
    have h3 := val_nonneg la ha
    have h4 := val_nonneg lb hb
    have hp : (0 : Int) < 10 ^ lb.length := Int.pow_pos (by decide)
    have h5 : val la * val lb ≤ val la * 10 ^ lb.length := Int.mul_le_mul_of_nonneg_left (Int.le_of_lt h2) h3
    have h6 : val la * 10 ^ lb.length < 10 ^ la.length * 10 ^ lb.length := Int.mul_lt_mul_of_pos_right h1 hp
    omega
  induction n with
  | zero =>
    intro i c xs hi hc hx hv hbd
    have hdr : val (la.drop i) = 0 := by rw [List.drop_eq_nil_of_le (by omega), val_nil]
    rw [hdr] at hv
    have hlast : Aside0 (wrap64 ((xs.length : Int) - 1) = ((la.length + lb.length : Nat) : Int)) := ⟨by unfold wrap64; omega⟩
    refine Ev.step (f := fun k => spec_DecimalTimes.l2 k xs ((la.length + lb.length : Nat) : Int) na la ea nb lb eb) (fun k => ?_) ?_
    · simp only [spec_DecimalTimes.l0]
      rw [if_neg (by omega), hlast.out]
    · refine times_l2 na nb la lb ea eb _ hTlt he0 he1 hl (la.length + lb.length) xs hx (by omega) (by omega) ?_ ?_ ?_
      · intro j _; have := hbd j; omega
      · have := hbd (la.length + lb.length); omega
      · intro j hj
        rw [List.getD_eq_getElem?_getD, List.getElem?_eq_none (by omega)]; simp
  | succ n ih =>
    intro i c xs hi hc hx hv hbd
    have hil : i < la.length := by omega
    have hroom := mul_room n 0 c lb.length M hc
    -- the inner loop, `m` digits of the second number to come
    have inner : ∀ (m j d : Nat) (xs : List Int), j + m = lb.length → d + m + n * lb.length ≤ M → xs.length = la.length + lb.length + 1 →
        val xs + la.getD i 0 * val (lb.drop j) * 10 ^ (la.length - 1 - i) + val (la.drop (i + 1)) * val lb = val la * val lb → (∀ j, 0 ≤ xs.getD j 0 ∧ xs.getD j 0 ≤ 81 * (d : Int)) →
        Ev (fun k => spec_DecimalTimes.l1 k xs i (la.length : Int) i (lb.length : Int) j na la ea nb lb eb) (canon (sg (na != nb) (val la * val lb)) (ea + eb)) := by
      intro m
      induction m with
      | zero =>
        intro j d xs hj hd hx hv hbd
        have hdr : val (lb.drop j) = 0 := by rw [List.drop_eq_nil_of_le (by omega), val_nil]
        rw [hdr] at hv
        have hw : Aside0 (wrap64 ((i : Int) + 1) = ((i + 1 : Nat) : Int)) := ⟨by unfold wrap64; omega⟩
        refine Ev.step (f := fun k => spec_DecimalTimes.l0 k xs (la.length : Int) ((i + 1 : Nat) : Int) na la ea nb lb eb) (fun k => ?_) ?_
        · simp only [spec_DecimalTimes.l1]
          rw [if_neg (by omega), hw.out]
        · exact ih (i + 1) d xs (by omega) (by omega) hx (by simpa using hv) hbd
      | succ m ihm =>
        intro j d xs hj hd hx hv hbd
        have hjl : j < lb.length := by omega
        have hw : Aside0 (wrap64 ((wrap64 ((i : Int) + (j : Int))) + 2) = ((i + j + 2 : Nat) : Int)) := ⟨by rw [Small.w64 ((i : Int) + (j : Int)) (by omega) (by omega), Small.w64 _ (by omega) (by omega)]; omega⟩
        have hw1 : Aside0 (wrap64 ((j : Int) + 1) = ((j + 1 : Nat) : Int)) := ⟨by unfold wrap64; omega⟩
        have hpr := dd (getD_dg ha i) (getD_dg hb j)
        have hr : rd xs ((i + j + 2 : Nat) : Int) = xs.getD (i + j + 2) 0 := by unfold rd; rw [Int.toNat_natCast]
        have hra : rd la (i : Int) = la.getD i 0 := by unfold rd; simp
        have hrb : rd lb (j : Int) = lb.getD j 0 := by unfold rd; simp
        have hbx := hbd (i + j + 2)
        have hw2 : Aside0 (wrap64 (la.getD i 0 * lb.getD j 0) = la.getD i 0 * lb.getD j 0) := Aside0.mk <| by
          generalize la.getD i 0 * lb.getD j 0 = z at *; unfold wrap64; omega
        have hw3 : Aside0 (wrap64 (xs.getD (i + j + 2) 0 + la.getD i 0 * lb.getD j 0) = xs.getD (i + j + 2) 0 + la.getD i 0 * lb.getD j 0) := Aside0.mk <| by
          generalize la.getD i 0 * lb.getD j 0 = z at *; generalize xs.getD (i + j + 2) 0 = y at *; unfold wrap64; omega
        refine Ev.step (f := fun k => spec_DecimalTimes.l1 k (xs.set (i + j + 2) (xs.getD (i + j + 2) 0 + la.getD i 0 * lb.getD j 0)) i (la.length : Int) i (lb.length : Int) ((j + 1 : Nat) : Int) na la ea nb lb eb) (fun k => ?_) ?_
        · simp only [spec_DecimalTimes.l1]
          rw [if_pos (by omega), hw.out, if_pos (by omega), if_pos (by omega), if_pos (by omega), if_pos (by omega), if_pos (by omega), if_pos (by omega), hr, hra, hrb, hw2.out, hw3.out, hw1.out, Int.toNat_natCast]
        · refine ihm (j + 1) (d + 1) _ (by omega) (by omega) (by simp [hx]) ?_ ?_
          · rw [val_set _ _ _ (by omega)]
            rw [val_drop lb j hjl] at hv
            rw [show xs.length - 1 - (i + j + 2) = (lb.length - 1 - j) + (la.length - 1 - i) from by omega, Int.pow_add]
            rw [← hv]
            generalize (10 : Int) ^ (lb.length - 1 - j) = p
            generalize (10 : Int) ^ (la.length - 1 - i) = q
            grind
          · intro t
            rw [getD_set _ _ _ _ (by omega)]
            have h1 := hbd t
            by_cases e : i + j + 2 = t
            · rw [if_pos e]; omega
            · rw [if_neg e]; omega
    refine Ev.step (f := fun k => spec_DecimalTimes.l1 k xs i (la.length : Int) i (lb.length : Int) ((0 : Nat) : Int) na la ea nb lb eb) (fun k => ?_) ?_
    · simp only [spec_DecimalTimes.l0]
      rw [if_pos (by omega)]; rfl
    · refine inner lb.length 0 c xs (by omega) (by omega) hx ?_ hbd
      rw [val_drop la i hil] at hv
      rw [List.drop_zero, ← hv]
      generalize (10 : Int) ^ (la.length - 1 - i) = q
      grind

/-- A product of two numbers as digits. -/
theorem times_ev (na nb : Bool) (la lb : List Int) (ea eb : Int) (ha : Dg la) (hb : Dg lb) (hM : la.length * lb.length ≤ 1125899906842624) (hl : la.length + lb.length ≤ 17592186044000)
    (he0 : -4611686018427387904 ≤ ea + eb) (he1 : ea + eb ≤ 4611000000000000000) :
    Ev (fun k => spec_DecimalTimes.f k na la ea nb lb eb) (canon (sg (na != nb) (val la * val lb)) (ea + eb)) := by
  have hw : Aside0 (wrap64 ((wrap64 ((la.length : Int) + (lb.length : Int))) + 1) = ((la.length + lb.length + 1 : Nat) : Int)) := ⟨by rw [Small.w64 ((la.length : Int) + (lb.length : Int)) (by omega) (by omega), Small.w64 _ (by omega) (by omega)]; omega⟩
  refine Ev.congr (f := fun k => spec_DecimalTimes.l0 k (List.replicate (la.length + lb.length + 1) 0) (la.length : Int) ((0 : Nat) : Int) na la ea nb lb eb) (fun k => ?_) ?_
  · unfold spec_DecimalTimes.f
    rw [hw.out, if_pos (by omega), Int.toNat_natCast, if_pos (by omega)]; rfl
  · refine times_l0 na nb la lb ea eb (la.length * lb.length) hM ha hb he0 (by omega) (by omega) la.length 0 0 _ (by omega) (by omega) (by simp) ?_ ?_
    · rw [List.drop_zero, val_zeros]; omega
    · intro j
      have := getD_dg (Dg.zeros (la.length + lb.length + 1)) j
      rw [List.getD_eq_getElem?_getD, List.getElem?_replicate]
      split <;> simp

/-- A product of two numbers in their shortest forms. -/
theorem times_canon (m n e f : Int) (hM : (canon m e).2.1.length * (canon n f).2.1.length ≤ 1125899906842624) (hl : (canon m e).2.1.length + (canon n f).2.1.length ≤ 17592186044000)
    (he0 : -4611686018427387904 ≤ e + f) (he : -4611686018427387904 ≤ e) (hf : -4611686018427387904 ≤ f) (he1 : (canon m e).2.2 + (canon n f).2.2 ≤ 4611000000000000000) (he2 : (canon m e).2.2 ≤ 4611000000000000000) (he3 : (canon n f).2.2 ≤ 4611000000000000000) :
    Ev (fun k => spec_DecimalTimes.f k (canon m e).1 (canon m e).2.1 (canon m e).2.2 (canon n f).1 (canon n f).2.1 (canon n f).2.2) (canon (m * n) (e + f)) := by
  rcases canon_split m e with ⟨rfl, hc⟩ | ⟨na, A, Ea, hA, hc, _, h1, h2, _⟩ <;> rcases canon_split n f with ⟨rfl, hc'⟩ | ⟨nb, B, Eb, hB, hc', _, h1', h2', _⟩ <;> simp only [hc, hc'] at hM hl he1 he2 he3 ⊢
  · have := times_ev false false [] [] 0 0 Dg.nil Dg.nil (by simp) (by simp) (by decide) (by decide)
    simpa [val_nil, sg_zero, canon_zero] using this
  · have := times_ev false nb [] (digs B) 0 Eb Dg.nil (digs_dg B) (by simp) (by simpa using hl) (by omega) (by omega)
    simpa [val_nil, sg_zero, canon_zero] using this
  · have := times_ev na false (digs A) [] Ea 0 (digs_dg A) Dg.nil (by simp) (by simpa using hl) (by omega) (by omega)
    simpa [val_nil, sg_zero, canon_zero] using this
  · have := times_ev na nb (digs A) (digs B) Ea Eb (digs_dg A) (digs_dg B) hM hl (by omega) he1
    rw [val_digs, val_digs] at this
    have e1 : canon (m * n) (e + f) = canon (sg (na != nb) ((A : Int) * B)) (Ea + Eb) := by
      have : m * n = sg (na != nb) ((A : Int) * B) * 10 ^ ((Ea - e).toNat + (Eb - f).toNat) := by
        rw [h2, h2', Int.pow_add]
        generalize (10 : Int) ^ (Ea - e).toNat = p
        generalize (10 : Int) ^ (Eb - f).toNat = q
        cases na <;> cases nb <;> simp [sg] <;> grind
      rw [this, canon_pow]
      congr 1; omega
    rw [e1]; exact this
/-- A product that was wrapped is told by a division. -/
theorem mul_back (a b : Int) (ha : -9223372036854775808 < a ∧ a ≤ 9223372036854775807) (hb : -9223372036854775808 < b ∧ b ≤ 9223372036854775807) (h0 : b ≠ 0) :
    (wrap64 (Int.tdiv (wrap64 (a * b)) b) = a ↔ -9223372036854775808 ≤ a * b ∧ a * b ≤ 9223372036854775807) ∧ (-9223372036854775808 ≤ a * b ∧ a * b ≤ 9223372036854775807 → wrap64 (a * b) = a * b) := by
  have hid : -9223372036854775808 ≤ a * b ∧ a * b ≤ 9223372036854775807 → wrap64 (a * b) = a * b := by intro h; unfold wrap64; omega
  refine ⟨⟨fun h => ?_, fun h => ?_⟩, hid⟩
  · have hc : -9223372036854775808 ≤ wrap64 (a * b) ∧ wrap64 (a * b) ≤ 9223372036854775807 := by unfold wrap64; omega
    have hm : ∃ t, wrap64 (a * b) = a * b + 18446744073709551616 * t := ⟨-((a * b + 9223372036854775808) / 18446744073709551616), by unfold wrap64; omega⟩
    obtain ⟨t, ht⟩ := hm
    generalize wrap64 (a * b) = c at *
    have h1 := Int.mul_tdiv_add_tmod c b
    have h2 : (Int.tmod c b).natAbs < b.natAbs := by rw [Int.natAbs_tmod]; exact Nat.mod_lt _ (by omega)
    have h3 : (Int.tdiv c b).natAbs ≤ c.natAbs := by rw [Int.natAbs_tdiv]; exact Nat.div_le_self _ _
    have h4 : Int.tdiv c b = a := by
      generalize Int.tdiv c b = q at *
      by_cases e : q = 9223372036854775808
      · subst e; exfalso; revert h; unfold wrap64; omega
      · revert h; unfold wrap64; omega
    rw [h4, Int.mul_comm b a] at h1
    omega
  · rw [hid h, Int.mul_tdiv_cancel _ h0]; unfold wrap64; omega
/-- A number by a power of ten, away from 0; whether it is exact. -/
def negS (a : Int) (s : Nat) : Int × Bool := (sg (decide (a < 0)) (((a.natAbs / 10 ^ s : Nat) : Int) + if a.natAbs % 10 ^ s = 0 then 0 else 1), decide (a.natAbs % 10 ^ s = 0))

theorem negS_lt (A s : Nat) (h : A % 10 ^ s ≠ 0) : A / 10 ^ s + 1 ≤ A := by
  have h1 := Nat.div_add_mod A (10 ^ s)
  have h2 : A / 10 ^ s * 1 ≤ 10 ^ s * (A / 10 ^ s) := by rw [Nat.mul_comm (10 ^ s)]; exact Nat.mul_le_mul_left _ (Nat.pow_pos (by decide))
  omega

theorem negS_range (a : Int) (ha : -9223372036854775808 ≤ a ∧ a ≤ 9223372036854775807) (s : Nat) : -9223372036854775808 ≤ (negS a s).1 ∧ (negS a s).1 ≤ 9223372036854775807 := by
  have h := negS_lt a.natAbs s
  have h1 := Nat.div_le_self a.natAbs (10 ^ s)
  unfold negS sg
  simp only [decide_eq_true_eq]
  generalize a.natAbs / 10 ^ s = q at *
  by_cases h0 : a.natAbs % 10 ^ s = 0
  · rw [if_pos h0]; split <;> omega
  · rw [if_neg h0]; have := h h0; split <;> omega

theorem neg_l0 (a : Int) (ha : -9223372036854775808 ≤ a ∧ a ≤ 9223372036854775807) (s : Nat) (hs : s ≤ 2147483647) (n : Nat) : ∀ i : Nat, i + n = s →
    Ev (fun k => resource_negativeScaleInt64.l0 k a s (sg (decide (a < 0)) ((a.natAbs / 10 ^ i : Nat) : Int)) (decide (a.natAbs % 10 ^ i ≠ 0)) i) (negS a s) := by
  induction n with
  | zero =>
    intro i hi
    obtain rfl : i = s := by omega
    refine ⟨1, fun k hk => ?_⟩
    obtain ⟨k, rfl⟩ : ∃ m, k = m + 1 := ⟨k - 1, by omega⟩
    simp only [resource_negativeScaleInt64.l0]
    rw [if_neg (by omega)]
    have hlt := negS_lt a.natAbs i
    have hle := Nat.div_le_self a.natAbs (10 ^ i)
    unfold negS
    by_cases h : a.natAbs % 10 ^ i = 0
    · rw [if_neg (by simpa using h), if_pos h]; simp [h]
    · have hlt := hlt h
      rw [if_pos (by simpa using h), if_neg h]
      generalize a.natAbs / 10 ^ i = q at *
      by_cases hp : a > 0
      · rw [if_pos hp]
        have hw : Aside0 (wrap64 (sg (decide (a < 0)) (q : Int) + 1) = sg (decide (a < 0)) ((q : Int) + 1)) := ⟨by unfold sg wrap64; simp only [decide_eq_true_eq]; split <;> omega⟩
        rw [hw.out]; simp [h]
      · rw [if_neg hp]
        have hw : Aside0 (wrap64 (sg (decide (a < 0)) (q : Int) - 1) = sg (decide (a < 0)) ((q : Int) + 1)) := ⟨by unfold sg wrap64; simp only [decide_eq_true_eq]; split <;> omega⟩
        rw [hw.out]; simp [h]
  | succ n ih =>
    intro i hi
    have hle := Nat.div_le_self a.natAbs (10 ^ i)
    have hdd : a.natAbs / 10 ^ (i + 1) = a.natAbs / 10 ^ i / 10 := by rw [Nat.pow_succ, Nat.div_div_eq_div_mul]
    have hmm : a.natAbs % 10 ^ (i + 1) = a.natAbs % 10 ^ i + 10 ^ i * (a.natAbs / 10 ^ i % 10) := Nat.mod_pow_succ
    have hpp : 0 < 10 ^ i := Nat.pow_pos (by decide)
    have hfr : decide (a.natAbs % 10 ^ (i + 1) ≠ 0) = (decide (a.natAbs % 10 ^ i ≠ 0) || decide (a.natAbs / 10 ^ i % 10 ≠ 0)) := by
      rw [hmm, Bool.eq_iff_iff]
      simp only [decide_eq_true_eq, Bool.or_eq_true]
      constructor
      · intro h
        by_cases g : a.natAbs / 10 ^ i % 10 = 0
        · rw [g] at h; exact Or.inl (by simpa using h)
        · exact Or.inr g
      · rintro (h | h)
        · omega
        · have : 0 < 10 ^ i * (a.natAbs / 10 ^ i % 10) := Nat.mul_pos hpp (by omega)
          omega
    have htd : Aside0 (wrap64 (Int.tdiv (sg (decide (a < 0)) ((a.natAbs / 10 ^ i : Nat) : Int)) 10) = sg (decide (a < 0)) ((a.natAbs / 10 ^ (i + 1) : Nat) : Int)) := Aside0.mk <| by
      rw [hdd]
      generalize a.natAbs / 10 ^ i = q at *
      have h1 : Int.tdiv (q : Int) 10 = ((q / 10 : Nat) : Int) := by rw [Int.tdiv_eq_ediv_of_nonneg (by omega)]; omega
      have h2 : Int.tdiv (-(q : Int)) 10 = -((q / 10 : Nat) : Int) := by rw [Int.neg_tdiv, h1]
      unfold sg
      by_cases g : a < 0
      · simp only [g, decide_true, if_true, h2]; unfold wrap64; omega
      · simp only [g, decide_false, Bool.false_eq_true, if_false, h1]; unfold wrap64; omega
    have htm : (Int.tmod (sg (decide (a < 0)) ((a.natAbs / 10 ^ i : Nat) : Int)) 10 != 0) = decide (a.natAbs / 10 ^ i % 10 ≠ 0) := by
      generalize a.natAbs / 10 ^ i = q at *
      have h1 : Int.tmod (q : Int) 10 = ((q % 10 : Nat) : Int) := by rw [Int.tmod_eq_emod_of_nonneg (by omega)]; omega
      have h2 : Int.tmod (-(q : Int)) 10 = -((q % 10 : Nat) : Int) := by rw [Int.neg_tmod, h1]
      unfold sg
      rw [Bool.eq_iff_iff]
      simp only [bne_iff_ne, decide_eq_true_eq]
      split
      · rw [h2]; omega
      · rw [h1]; omega
    have hw32 : Aside0 (wrap32 ((i : Int) + 1) = ((i + 1 : Nat) : Int)) := ⟨by unfold wrap32; omega⟩
    have j2 : Ev (fun k => resource_negativeScaleInt64.j2 k a s (sg (decide (a < 0)) ((a.natAbs / 10 ^ i : Nat) : Int)) (decide (a.natAbs % 10 ^ (i + 1) ≠ 0)) i) (negS a s) := by
      by_cases hz : a.natAbs / 10 ^ (i + 1) = 0
      · have hA : a.natAbs < 10 ^ (i + 1) := by
          rcases Nat.div_eq_zero_iff.1 hz with h | h
          · exact absurd h (Nat.ne_of_gt (Nat.pow_pos (by decide)))
          · exact h
        have hA2 : a.natAbs < 10 ^ s := Nat.lt_of_lt_of_le hA (Nat.pow_le_pow_right (by decide) (by omega))
        refine ⟨1, fun k hk => ?_⟩
        obtain ⟨k, rfl⟩ : ∃ m, k = m + 1 := ⟨k - 1, by omega⟩
        simp only [resource_negativeScaleInt64.j2]
        rw [htd.out, hz, Nat.mod_eq_of_lt hA]
        unfold negS
        rw [Nat.mod_eq_of_lt hA2, Nat.div_eq_of_lt hA2]
        rw [if_pos (by unfold sg; split <;> rfl)]
        by_cases h0 : a.natAbs = 0
        · have : a = 0 := by omega
          subst this; simp [sg]
        · rw [if_pos (by simpa using h0), if_neg h0]
          unfold sg
          by_cases hp : a > 0
          · rw [if_pos hp]; simp [h0]; omega
          · rw [if_neg hp]; simp [h0]; omega
      · refine Ev.step (f := fun k => resource_negativeScaleInt64.l0 k a s (sg (decide (a < 0)) ((a.natAbs / 10 ^ (i + 1) : Nat) : Int)) (decide (a.natAbs % 10 ^ (i + 1) ≠ 0)) ((i + 1 : Nat) : Int)) (fun k => ?_) (ih (i + 1) (by omega))
        simp only [resource_negativeScaleInt64.j2]
        rw [htd.out, hw32.out, if_neg (by unfold sg; split <;> omega)]
    have j1 : ∀ fr x24, (x24 || fr) = decide (a.natAbs % 10 ^ (i + 1) ≠ 0) → Ev (fun k => resource_negativeScaleInt64.j1 k a s (sg (decide (a < 0)) ((a.natAbs / 10 ^ i : Nat) : Int)) fr i x24) (negS a s) := by
      intro fr x24 h
      refine Ev.step (f := fun k => resource_negativeScaleInt64.j2 k a s (sg (decide (a < 0)) ((a.natAbs / 10 ^ i : Nat) : Int)) (decide (a.natAbs % 10 ^ (i + 1) ≠ 0)) i) (fun k => ?_) j2
      simp only [resource_negativeScaleInt64.j1]
      rw [← h]
      cases x24
      · rw [if_neg (by simp)]; rfl
      · rw [if_pos rfl]; rfl
    by_cases hf : decide (a.natAbs % 10 ^ i ≠ 0) = true
    · refine Ev.step (f := fun k => resource_negativeScaleInt64.j1 k a s (sg (decide (a < 0)) ((a.natAbs / 10 ^ i : Nat) : Int)) (decide (a.natAbs % 10 ^ i ≠ 0)) i false) (fun k => ?_) (j1 _ _ ?_)
      · simp only [resource_negativeScaleInt64.l0]
        rw [if_pos (by omega), if_pos hf]
      · rw [hfr, hf]; simp
    · refine Ev.step (f := fun k => resource_negativeScaleInt64.j1 k a s (sg (decide (a < 0)) ((a.natAbs / 10 ^ i : Nat) : Int)) (decide (a.natAbs % 10 ^ i ≠ 0)) i (decide (a.natAbs / 10 ^ i % 10 ≠ 0))) (fun k => ?_) (j1 _ _ ?_)
      · simp only [resource_negativeScaleInt64.l0]
        rw [if_pos (by omega), if_neg hf, htm]
      · rw [hfr, Bool.or_comm]

theorem neg_scale (a : Int) (ha : -9223372036854775808 ≤ a ∧ a ≤ 9223372036854775807) (s : Nat) (hs : s ≤ 2147483647) : Ev (fun k => resource_negativeScaleInt64.f k a s) (negS a s) := by
  by_cases h : s = 0
  · subst h
    refine ⟨0, fun k _ => ?_⟩
    show resource_negativeScaleInt64.f k a ((0 : Nat) : Int) = _
    unfold resource_negativeScaleInt64.f
    rw [if_pos (by decide)]
    unfold negS
    simp [Nat.mod_one, sg]
    omega
  · refine Ev.congr (f := fun k => resource_negativeScaleInt64.l0 k a s a false 0) (fun k => ?_) ?_
    · unfold resource_negativeScaleInt64.f
      rw [if_neg (by omega)]
    · have := neg_l0 a ha s hs s 0 (by omega)
      simp only [Nat.pow_zero, Nat.div_one, Nat.mod_one] at this
      have e : sg (decide (a < 0)) ((a.natAbs : Nat) : Int) = a := by unfold sg; simp only [decide_eq_true_eq]; split <;> omega
      rw [e] at this
      exact this
/-- A number beside itself. -/
theorem larger_self (n m : Bool) (l : List Int) (e : Int) (hl : l.length ≤ 17592186044415) (j : Nat) : ∀ i : Nat, i + j = l.length →
    Ev (fun k => spec_larger.l0 k i n l e m l e) 0 := by
  induction j with
  | zero =>
    intro i hi
    refine ⟨2, fun k hk => ?_⟩
    obtain ⟨k, rfl⟩ : ∃ m, k = m + 2 := ⟨k - 2, by omega⟩
    simp only [spec_larger.l0]
    rw [if_neg (by omega), decide_eq_false (by omega)]
    simp only [spec_larger.j1]
    rw [if_neg (by simp)]
  | succ j ih =>
    intro i hi
    have hw : Aside0 (wrap64 ((i : Int) + 1) = ((i + 1 : Nat) : Int)) := ⟨Small.w64s i (by omega)⟩
    refine Ev.step (f := fun k => spec_larger.j1 k i true n l e m l e) (fun k => ?_) (Ev.step (f := fun k => spec_larger.j2 k i (rd l i) 0 n l e m l e) (fun k => ?_) (Ev.step (f := fun k => spec_larger.j3 k i (rd l i) (rd l i) n l e m l e) (fun k => ?_) (Ev.step (fun k => ?_) (ih (i + 1) (by omega)))))
    · simp only [spec_larger.l0]; rw [if_pos (by omega)]
    · simp only [spec_larger.j1]; rw [if_pos trivial, if_pos (by omega), if_pos (by omega)]
    · simp only [spec_larger.j2]; rw [if_pos (by omega), if_pos (by omega)]
    · simp only [spec_larger.j3]; rw [if_pos trivial, hw.out]

theorem cmp_self (n : Bool) (l : List Int) (e : Int) (hl : l.length ≤ 17592186044415) : Ev (fun k => spec_DecimalCmp.f k n l e n l e) 0 := by
  have hlg : Ev (fun k => spec_larger.f k n l e n l e) 0 := by
    refine Ev.congr (fun k => ?_) (larger_self n n l e hl l.length 0 (by omega))
    unfold spec_larger.f; rw [if_pos rfl]; rfl
  have hw0 : wrap64 (-0) = 0 := Small.w64 _ (by decide) (by decide)
  unfold spec_DecimalCmp.f spec_DecimalSign.f
  by_cases h : (l.length : Int) = 0
  · refine ⟨1, fun k hk => ?_⟩
    obtain ⟨k, rfl⟩ : ∃ m, k = m + 1 := ⟨k - 1, by omega⟩
    simp only [if_pos h, Option.bind_some, if_true]
    simp only [spec_DecimalCmp.j0]
    rw [if_neg (by simp), if_pos trivial, if_neg (by decide), if_neg (by decide)]
  · cases n
    · simp only [if_neg h, Bool.false_eq_true, if_false, Option.bind_some, if_true]
      refine Ev.step (f := fun k => (spec_larger.f k false l e false l e).bind fun t180 => some t180) (fun k => ?_) (Ev.bind hlg (Ev.now _))
      simp only [spec_DecimalCmp.j0]
      rw [if_neg (by simp), if_pos trivial, if_neg (by decide), if_pos (by decide)]
    · simp only [if_neg h, if_true, Option.bind_some]
      refine Ev.step (f := fun k => (spec_larger.f k true l e true l e).bind fun t179 => some (wrap64 (-t179))) (fun k => ?_) (Ev.bind hlg ?_)
      · simp only [spec_DecimalCmp.j0]
        rw [if_neg (by simp), if_pos trivial, if_pos (by decide)]
      · rw [hw0]; exact Ev.now _

/-- Whatever the power is: something is told. -/
theorem decimal_l1_total (neg : Bool) : ∀ l, ∀ (k : Nat) (e : Int), l.length < k → l.length ≤ 17592186044415 → ∃ r, spec_decimal.l1 k neg l e = some r := by
  refine snoc_ind ?_ ?_
  · intro k e hk _
    obtain ⟨k, rfl⟩ : ∃ m, k = m + 1 := ⟨k - 1, by omega⟩
    simp only [spec_decimal.l1]
    rw [if_neg (by simp), if_pos (by simp)]
    exact ⟨_, rfl⟩
  · intro l d ih k e hk hl
    obtain ⟨k, rfl⟩ : ∃ m, k = m + 1 := ⟨k - 1, by omega⟩
    have hlen : ((l ++ [d]).length : Int) = l.length + 1 := by simp
    have hlen' : (l ++ [d]).length = l.length + 1 := by simp
    have hw : Aside0 (wrap64 (((l ++ [d]).length : Int) - 1) = l.length) := ⟨by rw [hlen]; unfold wrap64; omega⟩
    have hr : rd (l ++ [d]) (l.length : Int) = d := by unfold rd; simp
    simp only [spec_decimal.l1]
    rw [hw.out, hr, if_pos (by omega), if_pos (by omega), if_pos (by omega)]
    by_cases h1 : d = 0
    · rw [if_pos h1, if_pos (by omega), show ((l.length : Int)).toNat = l.length from by omega, List.take_left']
      · exact ih k _ (by omega) (by omega)
      · rfl
    · rw [if_neg h1, if_neg (by omega)]
      simp only [Option.bind_some, List.length_nil, Nat.zero_add, List.nil_append]
      rw [if_pos (by omega)]
      exact ⟨_, rfl⟩

theorem decimal_total (neg : Bool) (e : Int) : ∀ (l : List Int) (k : Nat), 2 * l.length + 2 < k → l.length ≤ 17592186044415 → ∃ r, spec_decimal.f k neg l e = some r := by
  have stop : ∀ (l : List Int) (k : Nat), l.length + 1 < k → l.length ≤ 17592186044415 → ∃ r, spec_decimal.j1 k neg l e = some r := by
    intro l k hk hl
    obtain ⟨k, rfl⟩ : ∃ m, k = m + 1 := ⟨k - 1, by omega⟩
    simp only [spec_decimal.j1]
    exact decimal_l1_total neg l k e (by omega) hl
  unfold spec_decimal.f
  intro l
  induction l with
  | nil =>
    intro k hk hl
    obtain ⟨k, rfl⟩ : ∃ m, k = m + 1 := ⟨k - 1, by omega⟩
    simp only [spec_decimal.l0]
    rw [if_neg (by simp)]
    exact stop [] k (by simpa using by omega) hl
  | cons x l ih =>
    intro k hk hl
    simp only [List.length_cons] at hk hl
    obtain ⟨k, rfl⟩ : ∃ m, k = m + 1 := ⟨k - 1, by omega⟩
    have hr : rd (x :: l) 0 = x := by unfold rd; simp
    have hlen : ((x :: l).length : Int) = l.length + 1 := by simp
    simp only [spec_decimal.l0]
    rw [hr, if_pos (by omega), if_pos (by omega)]
    by_cases h : x = 0
    · rw [if_pos h, if_pos (by omega), List.drop_one, List.tail_cons]
      exact ih k (by omega) (by omega)
    · rw [if_neg h]
      exact stop (x :: l) k (by simp only [List.length_cons]; omega) (by simp only [List.length_cons]; omega)

theorem of_total_l0 (x e : Int) (n : Nat) : ∀ (acc : List Int) (k : Nat), (n : Int) ≤ 18446744073709551615 →
    (digs n).length + acc.length ≤ 400 → 2 * ((digs n).length + acc.length) + (digs n).length + 4 < k → ∃ r, spec_DecimalOf.l0 k x e n acc = some r := by
  induction n using Nat.strongRecOn with
  | _ n ih =>
    intro acc k hn hl hk
    obtain ⟨k, rfl⟩ : ∃ m, k = m + 1 := ⟨k - 1, by omega⟩
    by_cases h : n = 0
    · subst h
      simp only [digs_zero, List.length_nil, Nat.zero_add] at *
      simp only [spec_DecimalOf.l0]
      obtain ⟨r, hr⟩ := decimal_total (decide (x < 0)) e acc k (by omega) (by omega)
      rw [if_neg (by simp), hr]
      exact ⟨_, rfl⟩
    · have hs := digs_step n h
      have hlen : (digs n).length = (digs (n / 10)).length + 1 := by rw [hs]; simp
      have hq : Aside0 (IntKind.u64.wrap (Int.tdiv (n : Int) 10) = ((n / 10 : Nat) : Int)) := Aside0.mk <| by
        rw [IntWalk.u64_quo _ _ (by omega)]; simp
      simp only [spec_DecimalOf.l0]
      rw [if_pos (by omega)]
      simp only [Option.bind_some, hq.out]
      rw [if_pos (by simp only [List.length_cons, List.length_nil]; omega)]
      exact ih (n / 10) (by omega) _ k (by omega) (by simp; omega) (by simp; omega)

theorem of_total (x e : Int) (hx : -9223372036854775808 ≤ x ∧ x ≤ 9223372036854775807) : ∃ r, Ev (fun k => spec_DecimalOf.f k x e) r := by
  have hl := digs_len20 x.natAbs (by omega)
  have h : ∃ r, spec_DecimalOf.f 80 x e = some r := by
    unfold spec_DecimalOf.f
    by_cases h : x < 0
    · have hw : IntKind.u64.wrap (-(IntKind.u64.wrap x)) = (x.natAbs : Int) := by rw [IntKind.wrap_u64, IntKind.wrap_u64]; omega
      rw [if_pos h, hw]
      simp only [spec_DecimalOf.j0]
      exact of_total_l0 x e x.natAbs [] 79 (by omega) (by simp; omega) (by simp; omega)
    · have hw : IntKind.u64.wrap x = (x.natAbs : Int) := by rw [IntKind.wrap_u64]; omega
      rw [if_neg h, hw]
      simp only [spec_DecimalOf.j0]
      exact of_total_l0 x e x.natAbs [] 79 (by omega) (by simp; omega) (by simp; omega)
  obtain ⟨r, hr⟩ := h
  exact ⟨r, Ev.of (spec_DecimalOf.mono x e) hr⟩
/-- A product, held against the number: told just if it is an int64, and then it is that. -/
def Tells (p : Int) (r : Int × Bool) : Prop := (r.2 = true ↔ -9223372036854775808 ≤ p ∧ p ≤ 9223372036854775807) ∧ (r.2 = true → r.1 = p)

theorem ms_tells (a b : Int) (ha : -9223372036854775808 ≤ a ∧ a ≤ 9223372036854775807) (hb : 2 ≤ b ∧ b ≤ 9223372036854775807) :
    ∃ r, Tells (a * b) r ∧ Ev (fun k => resource_int64MultiplyScale.f k a b) r := by
  by_cases h : a = 0 ∨ a = 1
  · have hr : -9223372036854775808 ≤ a * b ∧ a * b ≤ 9223372036854775807 := by rcases h with rfl | rfl <;> simp <;> omega
    refine ⟨(wrap64 (a * b), true), ⟨⟨fun _ => hr, fun _ => rfl⟩, fun _ => Small.w64 _ hr.1 hr.2⟩, ⟨1, fun k hk => ?_⟩⟩
    obtain ⟨k, rfl⟩ : ∃ m, k = m + 1 := ⟨k - 1, by omega⟩
    show resource_int64MultiplyScale.f (k + 1) a b = _
    unfold resource_int64MultiplyScale.f
    have e : resource_int64MultiplyScale.j0 (k + 1) a b true = some (wrap64 (a * b), true) := by simp only [resource_int64MultiplyScale.j0]; rw [if_pos trivial]
    by_cases h1 : a = 0
    · rw [if_pos h1, e]
    · rw [if_neg h1, show (a == 1) = true from beq_iff_eq.2 (by omega), e]
  · have hb0 : b ≠ 0 := by omega
    by_cases hm : a = -9223372036854775808
    · have hlt : a * b < -9223372036854775808 := by
        have : a * b ≤ a * 2 := Int.mul_le_mul_of_nonpos_left (by omega) hb.1
        omega
      refine ⟨(0, false), ⟨⟨fun h => by simp at h, fun h => by omega⟩, fun h => by simp at h⟩, ⟨1, fun k hk => ?_⟩⟩
      obtain ⟨k, rfl⟩ : ∃ m, k = m + 1 := ⟨k - 1, by omega⟩
      show resource_int64MultiplyScale.f (k + 1) a b = _
      unfold resource_int64MultiplyScale.f
      rw [if_neg (by omega), show (a == 1) = false from beq_eq_false_iff_ne.2 (by omega)]
      simp only [resource_int64MultiplyScale.j0]
      rw [if_neg (by simp), if_pos hm, if_neg (by omega)]
    · have hback := mul_back a b ⟨by omega, ha.2⟩ ⟨by omega, hb.2⟩ hb0
      refine ⟨(wrap64 (a * b), (wrap64 (Int.tdiv (wrap64 (a * b)) b)) == a), ?_, ⟨1, fun k hk => ?_⟩⟩
      · refine ⟨by simp only [beq_iff_eq]; exact hback.1, fun h => ?_⟩
        simp only [beq_iff_eq] at h
        exact hback.2 (hback.1.1 h)
      · obtain ⟨k, rfl⟩ : ∃ m, k = m + 1 := ⟨k - 1, by omega⟩
        show resource_int64MultiplyScale.f (k + 1) a b = _
        unfold resource_int64MultiplyScale.f
        rw [if_neg (by omega), show (a == 1) = false from beq_eq_false_iff_ne.2 (by omega)]
        simp only [resource_int64MultiplyScale.j0]
        rw [if_neg (by simp), if_neg (by omega), if_neg hb0]

theorem ms10 (k : Nat) (a : Int) : resource_int64MultiplyScale10.f k a = resource_int64MultiplyScale.f k a 10 := by
  unfold resource_int64MultiplyScale10.f resource_int64MultiplyScale.f
  cases k <;> simp [resource_int64MultiplyScale10.j0, resource_int64MultiplyScale.j0]
theorem ms100 (k : Nat) (a : Int) : resource_int64MultiplyScale100.f k a = resource_int64MultiplyScale.f k a 100 := by
  unfold resource_int64MultiplyScale100.f resource_int64MultiplyScale.f
  cases k <;> simp [resource_int64MultiplyScale100.j0, resource_int64MultiplyScale.j0]
theorem ms1000 (k : Nat) (a : Int) : resource_int64MultiplyScale1000.f k a = resource_int64MultiplyScale.f k a 1000 := by
  unfold resource_int64MultiplyScale1000.f resource_int64MultiplyScale.f
  cases k <;> simp [resource_int64MultiplyScale1000.j0, resource_int64MultiplyScale.j0]

theorem tens_out (a : Int) (n : Nat) (h : ¬ (-9223372036854775808 ≤ a ∧ a ≤ 9223372036854775807)) : ¬ (-9223372036854775808 ≤ a * 10 ^ n ∧ a * 10 ^ n ≤ 9223372036854775807) := by
  have hp : (1 : Int) ≤ 10 ^ n := Int.pow_pos (by decide)
  by_cases h0 : 0 ≤ a
  · have : a * 1 ≤ a * 10 ^ n := Int.mul_le_mul_of_nonneg_left hp h0
    omega
  · have : a * 10 ^ n ≤ a * 1 := Int.mul_le_mul_of_nonpos_left (by omega) hp
    omega

theorem ps_l0 (s : Int) (hs : s ≤ 2147483647) (n : Nat) : ∀ (i : Nat) (a : Int), (i : Int) + n = s → (-9223372036854775808 ≤ a ∧ a ≤ 9223372036854775807) →
    ∃ r, Tells (a * 10 ^ n) r ∧ Ev (fun k => resource_positiveScaleInt64.l0 k s a i) r := by
  induction n with
  | zero =>
    intro i a hi ha
    refine ⟨(a, true), ⟨⟨fun _ => by simpa using ha, fun _ => rfl⟩, fun _ => by simp⟩, ⟨1, fun k hk => ?_⟩⟩
    obtain ⟨k, rfl⟩ : ∃ m, k = m + 1 := ⟨k - 1, by omega⟩
    simp only [resource_positiveScaleInt64.l0]; rw [if_neg (by omega)]
  | succ n ih =>
    intro i a hi ha
    obtain ⟨m, hm, em⟩ := ms_tells a 10 ha (by decide)
    have hw : Aside0 (wrap32 ((i : Int) + 1) = ((i + 1 : Nat) : Int)) := ⟨Small.w32s i (by omega)⟩
    have hpw : a * 10 ^ (n + 1) = a * 10 * 10 ^ n := by rw [Int.pow_succ, Int.mul_assoc, Int.mul_comm (10 ^ n)]
    rw [hpw]
    by_cases h : m.2 = true
    · have h1 := hm.1.1 h
      have h2 := hm.2 h
      obtain ⟨r, hr, er⟩ := ih (i + 1) (a * 10) (by omega) h1
      refine ⟨r, hr, Ev.step (f := fun k => (resource_int64MultiplyScale.f k a 10).bind fun bt156 => (if bt156.2 = true then (resource_positiveScaleInt64.l0 k s bt156.1 ((i + 1 : Nat) : Int)) else (some (0, false)))) (fun k => ?_) (Ev.bind em ?_)⟩
      · simp only [resource_positiveScaleInt64.l0]; rw [if_pos (by omega), hw.out]
      · simp only [if_pos h, h2]; exact er
    · refine ⟨(0, false), ⟨⟨fun h => by simp at h, fun h' => absurd h' (tens_out _ n (fun z => h (hm.1.2 z)))⟩, fun h => by simp at h⟩, Ev.step (f := fun k => (resource_int64MultiplyScale.f k a 10).bind fun bt156 => (if bt156.2 = true then (resource_positiveScaleInt64.l0 k s bt156.1 ((i + 1 : Nat) : Int)) else (some (0, false)))) (fun k => ?_) (Ev.bind em ?_)⟩
      · simp only [resource_positiveScaleInt64.l0]; rw [if_pos (by omega), hw.out]
      · simp only [if_neg h]; exact Ev.now _

/-- A number by a power of ten: told just if it is an int64. -/
theorem pos_scale (a : Int) (ha : -9223372036854775808 ≤ a ∧ a ≤ 9223372036854775807) (n : Nat) (hn : n ≤ 2147483647) :
    ∃ r, Tells (a * 10 ^ n) r ∧ Ev (fun k => resource_positiveScaleInt64.f k a n) r := by
  have fin : ∀ b : Int, 2 ≤ b ∧ b ≤ 9223372036854775807 → ∃ r, Tells (a * b) r ∧ Ev (fun k => (resource_int64MultiplyScale.f k a b).bind fun bt => some (bt.1, bt.2)) r := by
    intro b hb
    obtain ⟨r, h, e⟩ := ms_tells a b ha hb
    exact ⟨r, h, Ev.bind e (Ev.now _)⟩
  unfold resource_positiveScaleInt64.f
  by_cases h0 : n = 0
  · subst h0
    refine ⟨(a, true), ⟨⟨fun _ => by simpa using ha, fun _ => rfl⟩, fun _ => by simp⟩, ⟨0, fun k _ => ?_⟩⟩
    show (if ((0 : Nat) : Int) = 0 then _ else _) = _
    rw [if_pos (by decide)]
  simp only [if_neg (show ¬ (n : Int) = 0 by omega), ms10, ms100, ms1000]
  by_cases h1 : n = 1
  · subst h1; simp only [if_pos (show ((1 : Nat) : Int) = 1 by decide)]; exact fin 10 (by decide)
  simp only [if_neg (show ¬ (n : Int) = 1 by omega)]
  by_cases h2 : n = 2
  · subst h2; simp only [if_pos (show ((2 : Nat) : Int) = 2 by decide)]; exact fin 100 (by decide)
  simp only [if_neg (show ¬ (n : Int) = 2 by omega)]
  by_cases h3 : n = 3
  · subst h3; simp only [if_pos (show ((3 : Nat) : Int) = 3 by decide)]; exact fin 1000 (by decide)
  simp only [if_neg (show ¬ (n : Int) = 3 by omega)]
  by_cases h6 : n = 6
  · subst h6; simp only [if_pos (show ((6 : Nat) : Int) = 6 by decide)]; exact fin 1000000 (by decide)
  simp only [if_neg (show ¬ (n : Int) = 6 by omega)]
  by_cases h9 : n = 9
  · subst h9; simp only [if_pos (show ((9 : Nat) : Int) = 9 by decide)]; exact fin 1000000000 (by decide)
  simp only [if_neg (show ¬ (n : Int) = 9 by omega)]
  exact ps_l0 n (by omega) n 0 a (by omega) ha
theorem im_tells (a b : Int) (ha : -9223372036854775808 < a ∧ a ≤ 9223372036854775807) (hb : -9223372036854775808 < b ∧ b ≤ 9223372036854775807) :
    ∃ r, Tells (a * b) r ∧ Ev (fun k => resource_int64Multiply.f k a b) r := by
  have hw : ∀ (a b : Int), (-9223372036854775808 < a ∧ a ≤ 9223372036854775807) → (-9223372036854775808 < b ∧ b ≤ 9223372036854775807) → (a = 0 ∨ a = 1 ∨ b = 0 ∨ b = 1) → Tells (a * b) (wrap64 (a * b), true) := by
    intro a b ha hb h
    have hr : -9223372036854775808 ≤ a * b ∧ a * b ≤ 9223372036854775807 := by rcases h with rfl | rfl | rfl | rfl <;> simp <;> omega
    exact ⟨⟨fun _ => hr, fun _ => rfl⟩, fun _ => Small.w64 _ hr.1 hr.2⟩
  by_cases h : a = 0 ∨ b = 0 ∨ a = 1 ∨ b = 1
  · refine ⟨(wrap64 (a * b), true), hw a b ha hb (by omega), ⟨1, fun k hk => ?_⟩⟩
    obtain ⟨k, rfl⟩ : ∃ m, k = m + 1 := ⟨k - 1, by omega⟩
    show resource_int64Multiply.f (k + 1) a b = _
    unfold resource_int64Multiply.f
    have e : resource_int64Multiply.j0 (k + 1) a b true = some (wrap64 (a * b), true) := by simp only [resource_int64Multiply.j0]; rw [if_pos trivial]
    by_cases h1 : a = 0
    · rw [if_pos h1, e]
    · rw [if_neg h1]
      by_cases h2 : b = 0
      · rw [if_pos h2, e]
      · rw [if_neg h2]
        by_cases h3 : a = 1
        · rw [if_pos h3, e]
        · rw [if_neg h3, show (b == 1) = true from beq_iff_eq.2 (by omega), e]
  · have hb0 : b ≠ 0 := by omega
    refine ⟨(wrap64 (a * b), (wrap64 (Int.tdiv (wrap64 (a * b)) b)) == a), ?_, ⟨1, fun k hk => ?_⟩⟩
    · have := mul_back a b ha hb hb0
      refine ⟨by simp only [beq_iff_eq]; exact this.1, fun h => ?_⟩
      simp only [beq_iff_eq] at h
      exact this.2 (this.1.1 h)
    · obtain ⟨k, rfl⟩ : ∃ m, k = m + 1 := ⟨k - 1, by omega⟩
      show resource_int64Multiply.f (k + 1) a b = _
      unfold resource_int64Multiply.f
      rw [if_neg (by omega), if_neg (by omega), if_neg (by omega), show (b == 1) = false from beq_eq_false_iff_ne.2 (by omega)]
      simp only [resource_int64Multiply.j0]
      rw [if_neg (by simp), if_neg (by omega), if_neg (by omega), if_neg hb0]
theorem canon_injE {a b e : Int} (h : canon a e = canon b e) : a = b := by
  rcases canon_split a e with ⟨ha, ca⟩ | ⟨na, A, Ea, hA, ca, _, h1, h2, _⟩ <;> rcases canon_split b e with ⟨hb, cb⟩ | ⟨nb, B, Eb, hB, cb, _, h1', h2', _⟩ <;> rw [ca, cb] at h <;> simp only [Prod.mk.injEq] at h
  · rw [ha, hb]
  · exact absurd h.2.1.symm (digs_ne B (by omega))
  · exact absurd h.2.1 (digs_ne A (by omega))
  · obtain ⟨rfl, h3, rfl⟩ := h
    have : (A : Int) = B := by rw [← val_digs A, ← val_digs B, h3]
    rw [h2, h2', this]

theorem awake : Ev (fun k => laws_amountAwake.f k) true := Ev.of laws_amountAwake.mono (k := 90) (by decide +kernel)

/-- An amount is a number. -/
theorem is_ev (v s : Int) (hv : -9223372036854775808 ≤ v ∧ v ≤ 9223372036854775807) (hs : -500 ≤ s ∧ s ≤ 500) (c : Bool × List Int × Int) (hc : c = canon v s) : Ev (fun k => laws_amountIs.f k v s c.1 c.2.1 c.2.2) true := by
  subst hc
  unfold laws_amountIs.f laws_amountOf.f
  refine Ev.bind (a := ((canon v s).1, (canon v s).2.1, (canon v s).2.2, true)) (Ev.bind (of_ev v s (by omega) (by omega) hv) ?_) ?_
  · refine Evs.yes (by omega) ?_
    rw [decide_eq_true hs.2]; exact Ev.now _
  · exact Evs.yes rfl (Ev.bind (cmp_self _ _ _ (show (canon v s).2.1.length ≤ 17592186044415 by have := (canon_room v s 20 (by omega)).1; omega)) (Ev.now _))

/-- What the package makes of an amount and a number. -/
theorem am_ev (v s n : Int) (hv : -9223372036854775808 < v ∧ v ≤ 9223372036854775807) (hs : -500 ≤ s ∧ s ≤ 500) (hn : -9223372036854775808 < n ∧ n ≤ 9223372036854775807) :
    ∃ (b : Bool) (g t : Int), Ev (fun k => impl_AmountMul.f k v s n) (g, t, b) ∧
      (b = true → -9223372036854775808 ≤ g ∧ g ≤ 9223372036854775807 ∧ -500 ≤ t ∧ t ≤ 500 ∧ canon g t = canon (v * n) s) ∧
      (b = false → (-9223372036854775808 ≤ v * n ∧ v * n ≤ 9223372036854775807) → ∀ z, -9223372036854775808 ≤ z → z ≤ 9223372036854775807 → canon (v * n) s ≠ canon z 0) := by
  have hw1 : Aside0 (wrap32 s = s) := ⟨Small.w32 _ (by omega) (by omega)⟩
  have hw2 : Aside0 (wrap64 s = s) := ⟨Small.w64 _ (by omega) (by omega)⟩
  have lift : ∀ (b : Bool) (g t : Int), wrap64 t = t → Ev (fun k => resource_int64Amount_Mul.f k v s n) (b, g, t) → Ev (fun k => impl_AmountMul.f k v s n) (g, t, b) := by
    intro b g t ht hg
    unfold impl_AmountMul.f
    rw [hw1.out]
    have := Ev.bind (f := fun _ t => some (t.2.1, wrap64 t.2.2, t.1)) hg (Ev.now _)
    simp only [ht] at this
    exact this
  obtain ⟨r, rt, re⟩ := im_tells v n hv hn
  have false_ev : ∀ (f : Nat → Int × Bool → Option (Bool × Int × Int)), r.2 = false → (∀ k p, p.2 = false → f k p = some (false, v, s)) → Ev (fun k => (resource_int64Multiply.f k v n).bind (f k)) (false, v, s) := by
    intro f h hf
    refine Ev.bind re ?_
    simp only [hf _ r h]; exact Ev.now _
  by_cases h0 : v = 0
  · refine ⟨true, v, s, lift _ _ _ hw2.out ?_, fun _ => ⟨by omega, by omega, hs.1, hs.2, by rw [h0, Int.zero_mul]⟩, fun z => by simp at z⟩
    unfold resource_int64Amount_Mul.f
    exact Evs.yes h0 (Ev.now _)
  by_cases h1 : n = 0
  · refine ⟨true, 0, 0, lift _ _ _ (Small.w64 _ (by omega) (by omega)) ?_, fun _ => ⟨by omega, by omega, by omega, by omega, by rw [h1, Int.mul_zero, canon_zero, canon_zero]⟩, fun z => by simp at z⟩
    unfold resource_int64Amount_Mul.f
    exact Evs.no h0 (Evs.yes h1 (Ev.now _))
  cases hr : r.2 with
  | false =>
    refine ⟨false, v, s, lift _ _ _ hw2.out ?_, fun z => by simp at z, fun _ z => ?_⟩
    · unfold resource_int64Amount_Mul.f
      refine Evs.no h0 (Evs.no h1 ?_)
      by_cases h2 : s = 0
      · refine Evs.yes h2 (Ev.bind re ?_)
        exact Evs.no (by simp [hr]) (Ev.now _)
      · refine Evs.no h2 ?_
        by_cases h3 : s > 0
        · refine Evs.yes h3 (Ev.bind re ?_)
          exact Evs.no (by simp [hr]) (Ev.now _)
        · refine Evs.no h3 (Ev.bind re ?_)
          exact Evs.no (by simp [hr]) (Ev.now _)
    · exact absurd (rt.1.2 z) (by simp [hr])
  | true =>
    have hrange := rt.1.1 hr
    have hval := rt.2 hr
    by_cases h2 : s = 0
    · refine ⟨true, r.1, s, lift _ _ _ hw2.out ?_, fun _ => ⟨by omega, by omega, hs.1, hs.2, by rw [hval]⟩, fun z => by simp at z⟩
      unfold resource_int64Amount_Mul.f
      refine Evs.no h0 (Evs.no h1 (Evs.yes h2 (Ev.bind re ?_)))
      exact Evs.yes hr (Ev.now _)
    · by_cases h3 : s > 0
      · obtain ⟨m, hm⟩ := Int.eq_ofNat_of_zero_le (show 0 ≤ s by omega)
        obtain ⟨p, pt, pe⟩ := pos_scale r.1 (by omega) m (by omega)
        cases hp : p.2 with
        | true =>
          refine ⟨true, r.1, s, lift _ _ _ hw2.out ?_, fun _ => ⟨by omega, by omega, hs.1, hs.2, by rw [hval]⟩, fun z => by simp at z⟩
          unfold resource_int64Amount_Mul.f
          refine Evs.no h0 (Evs.no h1 (Evs.no h2 (Evs.yes h3 (Ev.bind re (Evs.yes hr ?_)))))
          rw [hm]
          exact Ev.bind pe (Evs.yes hp (Ev.now _))
        | false =>
          refine ⟨false, v, s, lift _ _ _ hw2.out ?_, fun z => by simp at z, fun _ _ z hz1 hz2 hz => ?_⟩
          · unfold resource_int64Amount_Mul.f
            refine Evs.no h0 (Evs.no h1 (Evs.no h2 (Evs.yes h3 (Ev.bind re (Evs.yes hr ?_)))))
            rw [hm]
            exact Ev.bind pe (Evs.no (by simp [hp]) (Ev.now _))
          · have e1 : canon (v * n) s = canon (v * n * 10 ^ m) 0 := by rw [canon_pow, hm]; simp
            rw [e1] at hz
            have := canon_inj hz
            rw [hval, this] at pt
            exact absurd (pt.1.2 ⟨hz1, hz2⟩) (by simp [hp])
      · obtain ⟨m, hm⟩ := Int.eq_ofNat_of_zero_le (show 0 ≤ -s by omega)
        have hw3 : Aside0 (wrap32 (-s) = (m : Int)) := ⟨by rw [Small.w32 _ (by omega) (by omega)]; exact hm⟩
        have pe := neg_scale r.1 (by omega) m (by omega)
        cases hp : (negS r.1 m).2 with
        | true =>
          refine ⟨true, r.1, s, lift _ _ _ hw2.out ?_, fun _ => ⟨by omega, by omega, hs.1, hs.2, by rw [hval]⟩, fun z => by simp at z⟩
          unfold resource_int64Amount_Mul.f
          refine Evs.no h0 (Evs.no h1 (Evs.no h2 (Evs.no h3 (Ev.bind re (Evs.yes hr ?_)))))
          rw [hw3.out]
          exact Ev.bind pe (Evs.yes hp (Ev.now _))
        | false =>
          refine ⟨false, v, s, lift _ _ _ hw2.out ?_, fun z => by simp at z, fun _ _ z hz1 hz2 hz => ?_⟩
          · unfold resource_int64Amount_Mul.f
            refine Evs.no h0 (Evs.no h1 (Evs.no h2 (Evs.no h3 (Ev.bind re (Evs.yes hr ?_)))))
            rw [hw3.out]
            exact Ev.bind pe (Evs.no (by simp [hp]) (Ev.now _))
          · have e1 : canon z 0 = canon (z * 10 ^ m) s := by rw [canon_pow, show s + (m : Int) = 0 by omega]
            rw [e1] at hz
            have := canon_injE hz
            unfold negS at hp
            rw [hval, this] at hp
            simp only [decide_eq_false_iff_not] at hp
            exact hp (by rw [Int.natAbs_mul, Int.natAbs_pow]; exact Nat.mul_mod_left _ _)

theorem mul_true (a v s : Int) (n : Bool) (l : List Int) (e : Int) : Ev (fun k => laws_FnAmountMul.j0 k a true v s n l e) true :=
  Evs.at1 fun k => by simp only [laws_FnAmountMul.j0]; rw [if_pos trivial]

theorem mul_j0 (v s n : Int) (hv : -9223372036854775808 < v ∧ v ≤ 9223372036854775807) (hs : -500 ≤ s ∧ s ≤ 500) (hn : -9223372036854775808 < n ∧ n ≤ 9223372036854775807) :
    Ev (fun k => laws_FnAmountMul.j0 k n false v s (canon v s).1 (canon v s).2.1 (canon v s).2.2) true := by
  obtain ⟨b, g, t, e1, e2, e3⟩ := am_ev v s n hv hs hn
  have rv := canon_room v s 20 (by omega)
  have rv0 := canon_room v 0 20 (by omega)
  have rn := canon_room n 0 20 (by omega)
  have m20 : ∀ a b : Nat, a ≤ 20 → b ≤ 20 → a * b ≤ 1125899906842624 := fun a b ha hb => Nat.le_trans (Nat.mul_le_mul ha hb) (by decide)
  have t1 := times_canon v n s 0 (m20 _ _ rv.1 rn.1) (by omega) (by omega) (by omega) (by omega) (by omega) (by omega) (by omega)
  have t2 := times_canon v n 0 0 (m20 _ _ rv0.1 rn.1) (by omega) (by omega) (by omega) (by omega) (by omega) (by omega) (by omega)
  rw [Int.add_zero] at t1 t2
  have hb40 : (v * n).natAbs < 10 ^ 40 := by
    rw [Int.natAbs_mul]
    have h1 : v.natAbs < 10 ^ 20 := by omega
    have h2 : n.natAbs < 10 ^ 20 := by omega
    calc v.natAbs * n.natAbs < 10 ^ 20 * 10 ^ 20 := Nat.mul_lt_mul'' h1 h2
      _ = 10 ^ 40 := by decide
  have room : ∀ e : Int, -500 ≤ e ∧ e ≤ 500 → ∀ neg D E, canon (v * n) e = (neg, digs D, E) → E + (digs D).length ≤ 4611686018427387904 ∧ (digs D).length ≤ 17592186044000 := by
    intro e he neg D E h
    have := canon_len (v * n) e 40 hb40 neg D E h
    omega
  obtain ⟨q, q1, q2, q3⟩ := int_ev (v * n) 0 (by omega) (room 0 (by omega))
  obtain ⟨u, u1, u2, u3⟩ := int_ev (v * n) s (by omega) (room s hs)
  refine Ev.step (fun k => by rw [laws_FnAmountMul.j0, if_neg (by simp)]) (Ev.bind e1 (Ev.bind (of_ev n 0 (by omega) (by omega) (by omega)) (Ev.bind t1 (Ev.bind (of_ev v 0 (by omega) (by omega) (by omega)) (Ev.bind (of_ev n 0 (by omega) (by omega) (by omega)) (Ev.bind t2 (Ev.bind q1 ?_)))))))
  cases b with
  | true =>
    obtain ⟨g1, g2, g3, g4, g5⟩ := e2 rfl
    refine Evs.yes rfl (Ev.bind (is_ev g t ⟨g1, g2⟩ ⟨g3, g4⟩ _ g5.symm) (Evs.yes rfl (Ev.bind awake (Ev.now _))))
  | false =>
    have fin : ∀ x : Bool, x = true → Ev (fun k => laws_FnAmountMul.j1 k x) true := by
      intro x hx; subst hx
      exact Evs.at1 fun k => by simp only [laws_FnAmountMul.j1]
    refine Evs.no (by simp) (Ev.bind u1 ?_)
    by_cases hq : q.2 = true
    · refine Evs.yes hq ?_
      have hq2 := q2 hq
      have hin := canon_inj hq2.2.2
      have hu : ¬ u.2 = true := fun hu => by
        have hu2 := u2 hu
        exact e3 rfl (by omega) u.1 hu2.1 hu2.2.1 hu2.2.2
      exact Evs.no hu (Ev.bind awake (fin _ rfl))
    · exact Evs.no hq (Ev.bind awake (fin _ rfl))

theorem FnAmountMul : laws_FnAmountMul.Pure := by
  intro v s n hv hs hn
  have hv := Small.wf64 hv
  have hs := Small.wf64 hs
  have hn := Small.wf64 hn
  obtain ⟨q, hq⟩ := of_total v s hv
  unfold laws_FnAmountMul.f
  refine (Ev.bind (a := (q.1, q.2.1, q.2.2, decide (-500 ≤ s ∧ s ≤ 500))) ?_ ?_).rounds
  · unfold laws_amountOf.f
    refine Ev.bind hq ?_
    by_cases h1 : s ≥ -500
    · have : decide (s ≤ 500) = decide (-500 ≤ s ∧ s ≤ 500) := by rw [Bool.eq_iff_iff]; simp only [decide_eq_true_eq]; omega
      rw [if_pos h1, this]; exact Ev.now _
    · rw [if_neg h1, decide_eq_false (show ¬ (-500 ≤ s ∧ s ≤ 500) by omega)]; exact Ev.now _
  · by_cases h1 : -500 ≤ s ∧ s ≤ 500
    · rw [decide_eq_true h1]
      refine Evs.yes rfl ?_
      by_cases h2 : v = -9223372036854775808
      · exact Evs.yes h2 (mul_true ..)
      · refine Evs.no h2 ?_
        by_cases h4 : n = -9223372036854775808
        · rw [beq_iff_eq.2 h4]; exact mul_true ..
        · rw [beq_eq_false_iff_ne.2 h4]
          have hq' : q = canon v s := Evs.uniq hq (of_ev v s (by omega) (by omega) hv)
          rw [hq']
          exact mul_j0 v s n ⟨by omega, hv.2⟩ h1 ⟨by omega, hn.2⟩
    · rw [decide_eq_false h1]; exact Evs.no (by simp) (mul_true ..)

end Go.Proofs.Ytdhooibmibkbeaa.Pure
