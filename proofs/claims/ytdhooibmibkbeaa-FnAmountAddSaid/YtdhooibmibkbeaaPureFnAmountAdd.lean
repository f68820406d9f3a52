/- A sum of two amounts that is told is the sum, whatever the scales; it is told where both scales are the same and the values' sum is an int64, and where one is 0: of every pair of amounts (that the statement lets by). -/
import Derived.Test.YtdhooibmibkbeaaPFnAmountAddx10
import Derived.Test.YtdhooibmibkbeaaSmall
import Derived.Test.YtdhooibmibkbeaaDec
import Derived.Test.YtdhooibmibkbeaaEvs
set_option linter.unusedVariables false
set_option linter.unusedSimpArgs false
namespace Go.Proofs.Ytdhooibmibkbeaa.Pure
open Go.RowKit Go.Proofs.Ytdhooibmibkbeaa.PFnAmountAdd Go.Proofs.YtdhooibmibkbeaaW.PrintWords Go.Proofs.YtdhooibmibkbeaaW.PrintLast Go.Proofs.Ytdhooibmibkbeaa.Dec

theorem sg_neg_zero (neg : Bool) : canon (sg neg 0) = canon 0 := by rw [sg_zero]

theorem decimal_l1 (neg : Bool) : ∀ l, Dg l → l.head? ≠ some 0 → ∀ (k : Nat) (e : Int), l.length < k → l.length ≤ 17592186044415 →
    -4611686018427387904 ≤ e → e + l.length ≤ 4611686018427387904 → spec_decimal.l1 k neg l e = some (canon (sg neg (val l)) e) := by
  refine snoc_ind ?_ ?_
  · intro _ _ k e hk _ _ _
    obtain ⟨k, rfl⟩ : ∃ m, k = m + 1 := ⟨k - 1, by omega⟩
    simp only [spec_decimal.l1]
    rw [if_neg (by simp), if_pos (by simp), val_nil, sg_zero, canon_zero]
  · intro l d ih hd h0 k e hk hl e0 e1
    obtain ⟨k, rfl⟩ : ∃ m, k = m + 1 := ⟨k - 1, by omega⟩
    have hlen : ((l ++ [d]).length : Int) = l.length + 1 := by simp
    have hlen' : (l ++ [d]).length = l.length + 1 := by simp
    have hw : Aside0 (wrap64 (((l ++ [d]).length : Int) - 1) = l.length) := ⟨by rw [hlen]; unfold wrap64; omega⟩
    have hr : rd (l ++ [d]) (l.length : Int) = d := by unfold rd; simp
    simp only [spec_decimal.l1]
    rw [hw.out, hr, if_pos (by omega), if_pos (by omega), if_pos (by omega)]
    by_cases h1 : d = 0
    · subst h1
      have h0' : l.head? ≠ some 0 := by
        cases l with
        | nil => simp
        | cons x l => simpa using h0
      have hw2 : Aside0 (wrap64 (e + 1) = e + 1) := ⟨by unfold wrap64; omega⟩
      rw [if_pos rfl, if_pos (by omega), hw2.out, show ((l.length : Int)).toNat = l.length from by omega, List.take_left', ih hd.left h0' k (e + 1) (by omega) (by omega) (by omega) (by omega), val_snoc, Int.add_zero, sg_ten, canon_ten]
      rfl
    · rw [if_neg h1, if_neg (by omega), canon_trim neg l d e hd h0 h1]
      simp only [Option.bind_some, List.length_nil, Nat.zero_add, List.nil_append]
      rw [if_pos (by omega)]

theorem decimal_l0 (neg : Bool) (e : Int) (e0 : -4611686018427387904 ≤ e) : ∀ (l : List Int) (k : Nat), Dg l → 2 * l.length + 2 < k → l.length ≤ 17592186044415 →
    e + l.length ≤ 4611686018427387904 → spec_decimal.l0 k neg l e = some (canon (sg neg (val l)) e) := by
  have stop : ∀ (l : List Int) (k : Nat), Dg l → l.head? ≠ some 0 → l.length + 1 < k → l.length ≤ 17592186044415 → e + l.length ≤ 4611686018427387904 →
      spec_decimal.j1 k neg l e = some (canon (sg neg (val l)) e) := by
    intro l k hd h0 hk hl e1
    obtain ⟨k, rfl⟩ : ∃ m, k = m + 1 := ⟨k - 1, by omega⟩
    simp only [spec_decimal.j1]
    exact decimal_l1 neg l hd h0 k e (by omega) hl e0 e1
  intro l
  induction l with
  | nil =>
    intro k hd hk hl e1
    obtain ⟨k, rfl⟩ : ∃ m, k = m + 1 := ⟨k - 1, by omega⟩
    simp only [spec_decimal.l0]
    rw [if_neg (by simp)]
    exact stop [] k hd (by simp) (by simpa using by omega) hl e1
  | cons x l ih =>
    intro k hd hk hl e1
    simp only [List.length_cons] at hk hl e1
    obtain ⟨k, rfl⟩ : ∃ m, k = m + 1 := ⟨k - 1, by omega⟩
    have hr : rd (x :: l) 0 = x := by unfold rd; simp
    have hlen : ((x :: l).length : Int) = l.length + 1 := by simp
    simp only [spec_decimal.l0]
    rw [hr, if_pos (by omega), if_pos (by omega)]
    by_cases h : x = 0
    · subst h
      rw [if_pos rfl, if_pos (by omega), List.drop_one, List.tail_cons, ih k hd.cons.2 (by omega) (by omega) (by omega), val_cons]
      simp
    · rw [if_neg h]
      exact stop (x :: l) k hd (by simpa using h) (by simp only [List.length_cons]; omega) (by simp only [List.length_cons]; omega) (by simp only [List.length_cons]; omega)

theorem decimal_f (neg : Bool) (l : List Int) (e : Int) (k : Nat) (hd : Dg l) (hk : 2 * l.length + 2 < k) (hl : l.length ≤ 17592186044415) (e0 : -4611686018427387904 ≤ e) (e1 : e + l.length ≤ 4611686018427387904) :
    spec_decimal.f k neg l e = some (canon (sg neg (val l)) e) := by
  unfold spec_decimal.f
  exact decimal_l0 neg e e0 l k hd hk hl e1

/-- Of a number's digits that are still to be read, and those that are. -/
theorem of_l0 (x e : Int) (e0 : -4611686018427387904 ≤ e) (e1 : e ≤ 4611686018427380000) (n : Nat) : ∀ (acc : List Int) (k : Nat), (n : Int) ≤ 18446744073709551615 → Dg acc →
    (digs n).length + acc.length ≤ 400 → 2 * ((digs n).length + acc.length) + (digs n).length + 4 < k →
    spec_DecimalOf.l0 k x e n acc = some (canon (sg (decide (x < 0)) (val (digs n ++ acc))) e) := by
  induction n using Nat.strongRecOn with
  | _ n ih =>
    intro acc k hn ha hl hk
    obtain ⟨k, rfl⟩ : ∃ m, k = m + 1 := ⟨k - 1, by omega⟩
    by_cases h : n = 0
    · subst h
      simp only [digs_zero, List.length_nil, Nat.zero_add, List.nil_append] at *
      simp only [spec_DecimalOf.l0]
      rw [if_neg (by simp), decimal_f _ acc e k ha (by omega) (by omega) e0 (by omega)]
      simp
    · have hs := digs_step n h
      have hlen : (digs n).length = (digs (n / 10)).length + 1 := by rw [hs]; simp
      have hq : Aside0 (IntKind.u64.wrap (Int.tdiv (n : Int) 10) = ((n / 10 : Nat) : Int)) := Aside0.mk <| by
        rw [IntWalk.u64_quo _ _ (by omega)]; simp
      have hr : Aside0 (wrap64 (Int.tmod (n : Int) 10) = ((n % 10 : Nat) : Int)) := Aside0.mk <| by
        rw [Int.tmod_eq_emod_of_nonneg (by omega)]
        unfold wrap64; omega
      simp only [spec_DecimalOf.l0]
      rw [if_pos (by omega)]
      simp only [Option.bind_some, hq.out, hr.out]
      rw [if_pos (by simp only [List.length_cons, List.length_nil]; omega)]
      rw [show [((n % 10 : Nat) : Int)] ++ acc = ((n % 10 : Nat) : Int) :: acc from rfl]
      rw [ih (n / 10) (by omega) (((n % 10 : Nat) : Int) :: acc) k (by omega) (fun d hd => (List.mem_cons.1 hd).elim (fun z => by omega) (ha d)) (by simp only [List.length_cons]; omega) (by simp only [List.length_cons]; omega), hs]
      simp

theorem digs_len20 (n : Nat) (h : (n : Int) ≤ 18446744073709551615) : (digs n).length ≤ 20 := (digs_len 20 n).2 (by omega)

theorem of_f (x e : Int) (e0 : -4611686018427387904 ≤ e) (e1 : e ≤ 4611686018427380000) (hx : -9223372036854775808 ≤ x ∧ x ≤ 9223372036854775807) (k : Nat) (hk : 70 ≤ k) :
    spec_DecimalOf.f k x e = some (canon x e) := by
  obtain ⟨k, rfl⟩ : ∃ m, k = m + 1 := ⟨k - 1, by omega⟩
  have hl := digs_len20 x.natAbs (by omega)
  unfold spec_DecimalOf.f
  by_cases h : x < 0
  · have hw : IntKind.u64.wrap (-(IntKind.u64.wrap x)) = (x.natAbs : Int) := by
      rw [IntKind.wrap_u64, IntKind.wrap_u64]; omega
    rw [if_pos h, hw]
    simp only [spec_DecimalOf.j0]
    rw [of_l0 x e e0 e1 x.natAbs [] k (by omega) Dg.nil (by simp; omega) (by simp; omega), List.append_nil, val_digs]
    congr 2; unfold sg; simp [h]; omega
  · have hw : IntKind.u64.wrap x = (x.natAbs : Int) := by
      rw [IntKind.wrap_u64]; omega
    rw [if_neg h, hw]
    simp only [spec_DecimalOf.j0]
    rw [of_l0 x e e0 e1 x.natAbs [] k (by omega) Dg.nil (by simp; omega) (by simp; omega), List.append_nil, val_digs]
    congr 2; unfold sg; simp [h]; omega

theorem of_ev (x e : Int) (e0 : -4611686018427387904 ≤ e) (e1 : e ≤ 4611686018427380000) (hx : -9223372036854775808 ≤ x ∧ x ≤ 9223372036854775807) :
    Ev (fun k => spec_DecimalOf.f k x e) (canon x e) := ⟨70, fun k hk => of_f x e e0 e1 hx k hk⟩
theorem wide_l0 (n : Nat) : ∀ (exp e : Int) (l : List Int) (k : Nat), l ≠ [] → e - exp = n → n < k → l.length + n < 17592186044416 → -4611686018427387904 ≤ exp → e ≤ 4611686018427387904 →
    spec_wide.l0 k exp l e = some (l ++ List.replicate n 0) := by
  induction n with
  | zero =>
    intro exp e l k hl he hk _ _ _
    obtain ⟨k, rfl⟩ : ∃ m, k = m + 1 := ⟨k - 1, by omega⟩
    simp only [spec_wide.l0]
    rw [if_neg (by omega)]; simp
  | succ n ih =>
    intro exp e l k hl he hk hlen h0 h1
    obtain ⟨k, rfl⟩ : ∃ m, k = m + 1 := ⟨k - 1, by omega⟩
    have hp : 0 < l.length := List.length_pos_iff.2 hl
    have hw : Aside0 (wrap64 (e - 1) = e - 1) := ⟨by unfold wrap64; omega⟩
    simp only [spec_wide.l0]
    rw [if_pos (by omega), if_pos (by omega), if_pos (by omega), hw.out, ih exp (e - 1) (l ++ [0]) k (by simp) (by omega) (by omega) (by simp; omega) h0 (by omega), List.append_assoc]
    rfl

theorem wide_nil (exp e : Int) (k : Nat) (neg : Bool) (hk : 0 < k) : spec_wide.f k neg [] e exp = some [] := by
  obtain ⟨k, rfl⟩ : ∃ m, k = m + 1 := ⟨k - 1, by omega⟩
  unfold spec_wide.f
  simp only [Option.bind_some, List.length_nil, List.append_nil, spec_wide.l0]
  rw [if_pos (by decide)]
  split
  · rw [if_neg (by simp)]
  · rfl

theorem wide_f (neg : Bool) (l : List Int) (exp e : Int) (n k : Nat) (hl : l ≠ []) (he : e - exp = n) (hk : n < k) (hlen : l.length + n < 17592186044416) (h0 : -4611686018427387904 ≤ exp) (h1 : e ≤ 4611686018427387904) :
    spec_wide.f k neg l e exp = some (l ++ List.replicate n 0) := by
  unfold spec_wide.f
  simp only [Option.bind_some, List.length_nil, Nat.zero_add, List.nil_append]
  rw [if_pos (by omega)]
  exact wide_l0 n exp e l k hl he hk hlen h0 h1

theorem u64_acc {a d : Int} (h0 : 0 ≤ a) (hd : 0 ≤ d ∧ d ≤ 9) (h1 : 10 * a + d ≤ 18446744073709551615) : IntKind.u64.wrap ((IntKind.u64.wrap (10 * a)) + (IntKind.u64.wrap d)) = 10 * a + d := by
  rw [IntWalk.u64_in (10 * a) (by omega), IntWalk.u64_in d (by omega), IntWalk.u64_in _ (by omega)]

/-- The digits' number, step by step. -/
theorem int_l0 (l : List Int) (hd : Dg l) (hl : l.length ≤ 19) (neg : Bool) (ds : List Int) (e : Int) (n : Nat) : ∀ (i k : Nat), i + n = l.length → n < k →
    spec_DecimalInt.l0 k (val (l.take i)) l (l.length : Int) i neg ds e = (if neg = true then (some (wrap64 (IntKind.u64.wrap (-(val l))), decide (val l ≤ 9223372036854775808))) else (some (wrap64 (val l), decide (val l < 9223372036854775808)))) := by
  induction n with
  | zero =>
    intro i k hi hk
    obtain ⟨k, rfl⟩ : ∃ m, k = m + 1 := ⟨k - 1, by omega⟩
    simp only [spec_DecimalInt.l0]
    rw [if_neg (by omega), List.take_of_length_le (by omega)]
  | succ n ih =>
    intro i k hi hk
    obtain ⟨k, rfl⟩ : ∃ m, k = m + 1 := ⟨k - 1, by omega⟩
    have hlt : i < l.length := by omega
    have hi1 : Aside0 (wrap64 ((i : Int) + 1) = ((i + 1 : Nat) : Int)) := ⟨by unfold wrap64; omega⟩
    have hr : rd l (i : Int) = l[i] := by unfold rd; simp [hlt]
    have hdt : Dg (l.take i) := fun d h => hd d (List.mem_of_mem_take h)
    have hdt1 : Dg (l.take (i + 1)) := fun d h => hd d (List.mem_of_mem_take h)
    have hs : l.take (i + 1) = l.take i ++ [l[i]] := by rw [List.take_succ_eq_append_getElem hlt]
    have hv : val (l.take (i + 1)) = 10 * val (l.take i) + l[i] := by rw [hs, val_snoc]
    have h19 : val (l.take (i + 1)) < 10 ^ 19 := by
      have h1 := val_lt _ hdt1
      have h2 : (10 : Int) ^ (l.take (i + 1)).length ≤ 10 ^ 19 := Small.pow10_le (by simp; omega)
      omega
    have e19 : (10 : Int) ^ 19 = 10000000000000000000 := by decide
    have hb := hd l[i] (List.getElem_mem hlt)
    have h0 := val_nonneg _ hdt
    simp only [spec_DecimalInt.l0]
    rw [if_pos (by omega), if_pos (by omega), if_pos (by omega), hr, u64_acc h0 hb (by omega), hi1.out, ← hv]
    exact ih (i + 1) k (by omega) (by omega)

/-- A number as an int64: told just if it is one. -/
theorem int_ev (m e : Int) (he : -4611686018427380000 ≤ e) (hE : ∀ neg D E, canon m e = (neg, digs D, E) → E + (digs D).length ≤ 4611686018427387904 ∧ (digs D).length ≤ 17592186044000) :
    ∃ g : Int × Bool, Ev (fun k => spec_DecimalInt.f k (canon m e).1 (canon m e).2.1 (canon m e).2.2) g ∧
      (g.2 = true → -9223372036854775808 ≤ g.1 ∧ g.1 ≤ 9223372036854775807 ∧ canon m e = canon g.1 0) ∧
      (∀ v, -9223372036854775808 ≤ v → v ≤ 9223372036854775807 → canon m e = canon v 0 → g = (v, true)) := by
  rcases canon_split m e with ⟨rfl, hc⟩ | ⟨neg, D, E, hD, hc, hc', heE, _, _⟩
  · rw [hc]
    refine ⟨(0, true), ⟨3, fun k hk => ?_⟩, fun _ => ⟨by decide, by decide, by rw [canon_zero]⟩, fun v _ _ hv => ?_⟩
    · obtain ⟨k, rfl⟩ : ∃ m, k = m + 2 := ⟨k - 2, by omega⟩
      simp only [spec_DecimalInt.f]
      rw [if_neg (by simp)]
      simp only [spec_DecimalInt.j0]
      rw [if_neg (by simp), wide_nil 0 0 (k + 1) false (by omega)]
      simp only [Option.bind_some, spec_DecimalInt.l0]
      rw [if_neg (by simp), if_neg (by simp), Small.w64 0 (by decide) (by decide)]
      rfl
    · have : canon 0 0 = canon v 0 := by rw [canon_zero]; exact hv
      have := canon_inj this
      rw [← this]
  · obtain ⟨hE1, hE2⟩ := hE neg D E hc
    have hDn : digs D ≠ [] := digs_ne D (by omega)
    have hlp : 0 < (digs D).length := List.length_pos_iff.2 hDn
    have hw : Aside0 (wrap64 (((digs D).length : Int) + E) = (digs D).length + E) := ⟨by unfold wrap64; omega⟩
    rw [hc]
    simp only
    by_cases h0 : E < 0
    · refine ⟨(0, false), ⟨2, fun k hk => ?_⟩, fun h => by simp at h, fun v _ _ hv => ?_⟩
      · obtain ⟨k, rfl⟩ : ∃ m, k = m + 1 := ⟨k - 1, by omega⟩
        simp only [spec_DecimalInt.f]
        rw [if_pos (by omega), if_pos h0]
        simp only [spec_DecimalInt.j0]
        rw [if_pos trivial]
      · exfalso
        rcases canon_split v 0 with ⟨_, hz⟩ | ⟨n2, D2, E2, _, hz, _, h2, _, _⟩
        · rw [hz] at hv; simp only [Prod.mk.injEq] at hv; exact hDn hv.2.1
        · rw [hz] at hv; simp only [Prod.mk.injEq] at hv; omega
    · obtain ⟨n, rfl⟩ := Int.eq_ofNat_of_zero_le (show 0 ≤ E by omega)
      have hval : val (digs D ++ List.replicate n 0) = (D : Int) * 10 ^ n := by rw [val_append, val_digs, val_zeros]; simp
      have hcv : canon m e = canon (sg neg (D * 10 ^ n)) 0 := by
        rw [hc']
        have : sg neg ((D : Int) * 10 ^ n) = sg neg D * 10 ^ n := by unfold sg; split <;> grind
        rw [this, canon_pow]; simp
      have huniq : ∀ v, (neg, digs D, (n : Int)) = canon v 0 → v = sg neg (D * 10 ^ n) := by
        intro v hv
        rw [← hc, hcv] at hv
        exact (canon_inj hv).symm
      have hge : (10 : Int) ^ ((digs D).length - 1) ≤ D := by
        have := (digs_len ((digs D).length - 1) D)
        have h1 : ¬ D < 10 ^ ((digs D).length - 1) := fun h => by have := this.2 h; omega
        have h2 : 10 ^ ((digs D).length - 1) ≤ D := by omega
        exact_mod_cast h2
      by_cases h19 : ((digs D).length : Int) + n > 19
      · refine ⟨(0, false), ⟨2, fun k hk => ?_⟩, fun h => by simp at h, fun v v0 v1 hv => ?_⟩
        · obtain ⟨k, rfl⟩ : ∃ m, k = m + 1 := ⟨k - 1, by omega⟩
          simp only [spec_DecimalInt.f]
          rw [if_pos (by omega), if_neg h0, hw.out, decide_eq_true h19]
          simp only [spec_DecimalInt.j0]
          rw [if_pos trivial]
        · exfalso
          have hv := huniq v hv
          have hbig : (10 : Int) ^ 19 ≤ D * 10 ^ n := by
            have h1 : (10 : Int) ^ 19 ≤ 10 ^ ((digs D).length - 1 + n) := Small.pow10_le (by omega)
            have h2 : (10 : Int) ^ ((digs D).length - 1 + n) ≤ D * 10 ^ n := by
              rw [Int.pow_add]
              exact Int.mul_le_mul_of_nonneg_right hge (Int.le_of_lt (Int.pow_pos (by decide)))
            omega
          have e19 : (10 : Int) ^ 19 = 10000000000000000000 := by decide
          unfold sg at hv; split at hv <;> omega
      · have hdz : Dg (digs D ++ List.replicate n 0) := (digs_dg D).append (Dg.zeros n)
        have hl19 : (digs D ++ List.replicate n 0).length ≤ 19 := by simp; omega
        have hb := val_lt _ hdz
        have hb0 := val_nonneg _ hdz
        have hb19 : (10 : Int) ^ (digs D ++ List.replicate n 0).length ≤ 10 ^ 19 := Small.pow10_le hl19
        have e19 : (10 : Int) ^ 19 = 10000000000000000000 := by decide
        have hD0 : (1 : Int) ≤ D := by omega
        have hp1 : (1 : Int) ≤ 10 ^ n := Int.pow_pos (by decide)
        have hv1 : (1 : Int) ≤ D * 10 ^ n := by
          have := Int.mul_le_mul_of_nonneg_right hD0 (Int.le_of_lt (Int.lt_of_lt_of_le (by decide) hp1))
          omega
        refine ⟨(if neg = true then (wrap64 (IntKind.u64.wrap (-(val (digs D ++ List.replicate n 0)))), decide (val (digs D ++ List.replicate n 0) ≤ 9223372036854775808)) else (wrap64 (val (digs D ++ List.replicate n 0)), decide (val (digs D ++ List.replicate n 0) < 9223372036854775808))), ⟨n + 30, fun k hk => ?_⟩, ?_, ?_⟩
        · obtain ⟨k, rfl⟩ : ∃ m, k = m + 1 := ⟨k - 1, by omega⟩
          simp only [spec_DecimalInt.f]
          rw [if_pos (by omega), if_neg h0, hw.out, decide_eq_false h19]
          simp only [spec_DecimalInt.j0]
          rw [if_neg (by simp), wide_f neg (digs D) 0 n n k hDn (by omega) (by omega) (by omega) (by omega) (by omega)]
          simp only [Option.bind_some]
          have := int_l0 (digs D ++ List.replicate n 0) hdz hl19 neg (digs D) n (digs D ++ List.replicate n 0).length 0 k (by omega) (by omega)
          rw [List.take_zero, val_nil] at this
          rw [show ((0 : Nat) : Int) = 0 from rfl] at this
          rw [this]
          split <;> rfl
        · rw [hval]
          intro h
          cases neg with
          | true =>
            simp only [if_true, decide_eq_true_eq] at h ⊢
            have hw : Aside0 (wrap64 (IntKind.u64.wrap (-((D : Int) * 10 ^ n))) = -(D * 10 ^ n)) := ⟨by rw [IntKind.wrap_u64]; unfold wrap64; omega⟩
            rw [hw.out]
            refine ⟨by omega, by omega, ?_⟩
            rw [← hc, hcv]; rfl
          | false =>
            simp only [Bool.false_eq_true, if_false, decide_eq_true_eq] at h ⊢
            have hw : Aside0 (wrap64 ((D : Int) * 10 ^ n) = D * 10 ^ n) := ⟨by unfold wrap64; omega⟩
            rw [hw.out]
            refine ⟨by omega, by omega, ?_⟩
            rw [← hc, hcv]; rfl
        · intro v v0 v1 hv
          have hv := huniq v hv
          rw [hval]
          subst hv
          cases neg with
          | true =>
            simp only [sg, if_true] at *
            have hw : Aside0 (wrap64 (IntKind.u64.wrap (-((D : Int) * 10 ^ n))) = -(D * 10 ^ n)) := ⟨by rw [IntKind.wrap_u64]; unfold wrap64; omega⟩
            rw [hw.out, decide_eq_true (by omega)]
          | false =>
            simp only [sg, Bool.false_eq_true, if_false] at *
            have hw : Aside0 (wrap64 ((D : Int) * 10 ^ n) = D * 10 ^ n) := ⟨by unfold wrap64; omega⟩
            rw [hw.out, decide_eq_true (by omega)]

/-- The carrying of a product. -/
theorem times_l2 (na nb : Bool) (la lb : List Int) (ea eb : Int) (T : Int) (hT0 : T < 10 ^ (la.length + lb.length)) (he0 : -4611686018427387904 ≤ ea + eb) (he1 : ea + eb + (la.length + lb.length + 1) ≤ 4611686018427387904)
    (hl : la.length + lb.length + 1 ≤ 17592186044415) (i : Nat) : ∀ (xs : List Int), xs.length = la.length + lb.length + 1 → i < xs.length → val xs = T →
    (∀ j, j < i → 0 ≤ xs.getD j 0 ∧ xs.getD j 0 ≤ 2305843009213693952) → (0 ≤ xs.getD i 0 ∧ xs.getD i 0 ≤ 4611686018427387904) → (∀ j, i < j → 0 ≤ xs.getD j 0 ∧ xs.getD j 0 ≤ 9) →
    Ev (fun k => spec_DecimalTimes.l2 k xs i na la ea nb lb eb) (canon (sg (na != nb) T) (ea + eb)) := by
  induction i with
  | zero =>
    intro xs hx hi hv _ h0 hgt
    have hdg : Dg xs := by
      refine dg_getD (fun j => ?_)
      cases j with
      | zero =>
        refine ⟨h0.1, ?_⟩
        cases xs with
        | nil => simp at hx
        | cons x l =>
          simp only [List.getD_cons_zero] at h0 ⊢
          simp only [List.length_cons] at hx
          rw [val_cons] at hv
          have hl0 : 0 ≤ val l := val_nonneg l (dg_getD fun j => by have := hgt (j + 1) (by omega); simpa using this)
          rw [show l.length = la.length + lb.length from by omega] at hv
          by_cases h9 : x ≤ 9
          · exact h9
          · exfalso
            have hp : (0 : Int) < 10 ^ (la.length + lb.length) := Int.pow_pos (by decide)
            have : 1 * 10 ^ (la.length + lb.length) ≤ x * 10 ^ (la.length + lb.length) := Int.mul_le_mul_of_nonneg_right (by omega) (Int.le_of_lt hp)
            omega
      | succ j => exact hgt (j + 1) (by omega)
    have hw : Aside0 (wrap64 (ea + eb) = ea + eb) := ⟨by unfold wrap64; omega⟩
    refine ⟨2 * xs.length + 5, fun k hk => ?_⟩
    obtain ⟨k, rfl⟩ : ∃ m, k = m + 1 := ⟨k - 1, by omega⟩
    simp only [spec_DecimalTimes.l2]
    rw [if_neg (by simp), hw.out, decimal_f _ xs _ k hdg (by omega) (by omega) he0 (by omega), hv]
    rfl
  | succ i ih =>
    intro xs hx hi hv hlt hat hgt
    have hw : Aside0 (wrap64 (((i + 1 : Nat) : Int) - 1) = i) := ⟨by unfold wrap64; omega⟩
    have hr : rd xs ((i + 1 : Nat) : Int) = xs.getD (i + 1) 0 := by unfold rd; simp
    have hr' : rd xs (i : Int) = xs.getD i 0 := by unfold rd; simp
    have hq : Int.tdiv (xs.getD (i + 1) 0) 10 = xs.getD (i + 1) 0 / 10 := Int.tdiv_eq_ediv_of_nonneg hat.1
    have hm : Int.tmod (xs.getD (i + 1) 0) 10 = xs.getD (i + 1) 0 % 10 := Int.tmod_eq_emod_of_nonneg hat.1
    have hb := hlt i (by omega)
    generalize hA : xs.getD (i + 1) 0 = A at *
    generalize hB : xs.getD i 0 = B at *
    have hw2 : Aside0 (wrap64 (A / 10) = A / 10) := ⟨by unfold wrap64; omega⟩
    have hw3 : Aside0 (wrap64 (B + A / 10) = B + A / 10) := ⟨by unfold wrap64; omega⟩
    have hy : rd (xs.set i (B + A / 10)) ((i + 1 : Nat) : Int) = A := by
      have : rd (xs.set i (B + A / 10)) ((i + 1 : Nat) : Int) = (xs.set i (B + A / 10)).getD (i + 1) 0 := by unfold rd; simp
      rw [this, getD_set _ _ _ _ (by omega), if_neg (by omega), hA]
    have hlen1 : (xs.set i (B + A / 10)).length = xs.length := List.length_set
    have hlen : ((xs.set i (B + A / 10)).set (i + 1) (A % 10)).length = la.length + lb.length + 1 := by simp [hx]
    have hval : val ((xs.set i (B + A / 10)).set (i + 1) (A % 10)) = T := by
      rw [val_set _ _ _ (by omega), val_set _ _ _ (by omega), getD_set _ _ _ _ (by omega), if_neg (by omega), hA, hB, hlen1, hv]
      rw [show xs.length - 1 - i = (xs.length - 1 - (i + 1)) + 1 from by omega, Int.pow_succ]
      have : A = 10 * (A / 10) + A % 10 := by omega
      generalize A / 10 = q at *
      generalize A % 10 = r at *
      subst this
      generalize (10 : Int) ^ (xs.length - 1 - (i + 1)) = p
      grind
    have hget : ∀ j, ((xs.set i (B + A / 10)).set (i + 1) (A % 10)).getD j 0 = if i + 1 = j then A % 10 else if i = j then B + A / 10 else xs.getD j 0 := by
      intro j
      rw [getD_set _ _ _ _ (by omega), getD_set _ _ _ _ (by omega)]
    refine Ev.step (f := fun k => spec_DecimalTimes.l2 k ((xs.set i (B + A / 10)).set (i + 1) (A % 10)) i na la ea nb lb eb) (fun k => ?_) ?_
    · simp only [spec_DecimalTimes.l2]
      rw [if_pos (by omega), hw.out, if_pos (by omega), if_pos (by omega), if_pos (by omega), if_pos (by omega)]
      simp only [Option.bind_some, hr, hr', hq, hw2.out, hw3.out, Int.toNat_natCast, hy, hm]
    · refine ih _ hlen (by omega) hval ?_ ?_ ?_
      · intro j hj
        rw [hget, if_neg (by omega), if_neg (by omega)]
        exact hlt j (by omega)
      · rw [hget, if_neg (by omega), if_pos rfl]; omega
      · intro j hj
        rw [hget]
        by_cases h1 : i + 1 = j
        · rw [if_pos h1]; omega
        · rw [if_neg h1, if_neg (by omega)]
          exact hgt j (by omega)

theorem mul_room (n j c lb M : Nat) (h : c + (n + 1) * lb ≤ M) : c + n * lb + lb ≤ M := by rw [Nat.succ_mul] at h; omega

/-- A product's rows: from place `i` of the first number on, `n` of its digits to come. -/
theorem times_l0 (na nb : Bool) (la lb : List Int) (ea eb : Int) (M : Nat) (hM : M ≤ 1125899906842624) (ha : Dg la) (hb : Dg lb) (he0 : -4611686018427387904 ≤ ea + eb) (he1 : ea + eb + (la.length + lb.length + 1) ≤ 4611686018427387904)
    (hl : la.length + lb.length + 1 ≤ 17592186044415) (n : Nat) : ∀ (i c : Nat) (xs : List Int), i + n = la.length → c + n * lb.length ≤ M → xs.length = la.length + lb.length + 1 →
    val xs + val (la.drop i) * val lb = val la * val lb → (∀ j, 0 ≤ xs.getD j 0 ∧ xs.getD j 0 ≤ 81 * (c : Int)) →
    Ev (fun k => spec_DecimalTimes.l0 k xs (la.length : Int) i na la ea nb lb eb) (canon (sg (na != nb) (val la * val lb)) (ea + eb)) := by
  have hTlt : val la * val lb < 10 ^ (la.length + lb.length) := by
    rw [Int.pow_add]
    have h1 := val_lt la ha
    have h2 := val_lt lb hb
    have h3 := val_nonneg la ha
    have h4 := val_nonneg lb hb
    have hp : (0 : Int) < 10 ^ lb.length := Int.pow_pos (by decide)
    have h5 : val la * val lb ≤ val la * 10 ^ lb.length := Int.mul_le_mul_of_nonneg_left (Int.le_of_lt h2) h3
    have h6 : val la * 10 ^ lb.length < 10 ^ la.length * 10 ^ lb.length := Int.mul_lt_mul_of_pos_right h1 hp
    omega
  induction n with
  | zero =>
    intro i c xs hi hc hx hv hbd
    have hdr : val (la.drop i) = 0 := by rw [List.drop_eq_nil_of_le (by omega), val_nil]
    rw [hdr] at hv
    have hlast : Aside0 (wrap64 ((xs.length : Int) - 1) = ((la.length + lb.length : Nat) : Int)) := ⟨by unfold wrap64; omega⟩
    refine Ev.step (f := fun k => spec_DecimalTimes.l2 k xs ((la.length + lb.length : Nat) : Int) na la ea nb lb eb) (fun k => ?_) ?_
    · simp only [spec_DecimalTimes.l0]
      rw [if_neg (by omega), hlast.out]
    · refine times_l2 na nb la lb ea eb _ hTlt he0 he1 hl (la.length + lb.length) xs hx (by omega) (by omega) ?_ ?_ ?_
      · intro j _; have := hbd j; omega
      · have := hbd (la.length + lb.length); omega
      · intro j hj
        rw [List.getD_eq_getElem?_getD, List.getElem?_eq_none (by omega)]; simp
  | succ n ih =>
    intro i c xs hi hc hx hv hbd
    have hil : i < la.length := by omega
    have hroom := mul_room n 0 c lb.length M hc
    -- the inner loop, `m` digits of the second number to come
    have inner : ∀ (m j d : Nat) (xs : List Int), j + m = lb.length → d + m + n * lb.length ≤ M → xs.length = la.length + lb.length + 1 →
        val xs + la.getD i 0 * val (lb.drop j) * 10 ^ (la.length - 1 - i) + val (la.drop (i + 1)) * val lb = val la * val lb → (∀ j, 0 ≤ xs.getD j 0 ∧ xs.getD j 0 ≤ 81 * (d : Int)) →
        Ev (fun k => spec_DecimalTimes.l1 k xs i (la.length : Int) i (lb.length : Int) j na la ea nb lb eb) (canon (sg (na != nb) (val la * val lb)) (ea + eb)) := by
      intro m
      induction m with
      | zero =>
        intro j d xs hj hd hx hv hbd
        have hdr : val (lb.drop j) = 0 := by rw [List.drop_eq_nil_of_le (by omega), val_nil]
        rw [hdr] at hv
        have hw : Aside0 (wrap64 ((i : Int) + 1) = ((i + 1 : Nat) : Int)) := ⟨by unfold wrap64; omega⟩
        refine Ev.step (f := fun k => spec_DecimalTimes.l0 k xs (la.length : Int) ((i + 1 : Nat) : Int) na la ea nb lb eb) (fun k => ?_) ?_
        · simp only [spec_DecimalTimes.l1]
          rw [if_neg (by omega), hw.out]
        · exact ih (i + 1) d xs (by omega) (by omega) hx (by simpa using hv) hbd
      | succ m ihm =>
        intro j d xs hj hd hx hv hbd
        have hjl : j < lb.length := by omega
        have hw : Aside0 (wrap64 ((wrap64 ((i : Int) + (j : Int))) + 2) = ((i + j + 2 : Nat) : Int)) := ⟨by rw [Small.w64 ((i : Int) + (j : Int)) (by omega) (by omega), Small.w64 _ (by omega) (by omega)]; omega⟩
        have hw1 : Aside0 (wrap64 ((j : Int) + 1) = ((j + 1 : Nat) : Int)) := ⟨by unfold wrap64; omega⟩
        have hpr := dd (getD_dg ha i) (getD_dg hb j)
        have hr : rd xs ((i + j + 2 : Nat) : Int) = xs.getD (i + j + 2) 0 := by unfold rd; rw [Int.toNat_natCast]
        have hra : rd la (i : Int) = la.getD i 0 := by unfold rd; simp
        have hrb : rd lb (j : Int) = lb.getD j 0 := by unfold rd; simp
        have hbx := hbd (i + j + 2)
        have hw2 : Aside0 (wrap64 (la.getD i 0 * lb.getD j 0) = la.getD i 0 * lb.getD j 0) := Aside0.mk <| by
          generalize la.getD i 0 * lb.getD j 0 = z at *; unfold wrap64; omega
        have hw3 : Aside0 (wrap64 (xs.getD (i + j + 2) 0 + la.getD i 0 * lb.getD j 0) = xs.getD (i + j + 2) 0 + la.getD i 0 * lb.getD j 0) := Aside0.mk <| by
          generalize la.getD i 0 * lb.getD j 0 = z at *; generalize xs.getD (i + j + 2) 0 = y at *; unfold wrap64; omega
        refine Ev.step (f := fun k => spec_DecimalTimes.l1 k (xs.set (i + j + 2) (xs.getD (i + j + 2) 0 + la.getD i 0 * lb.getD j 0)) i (la.length : Int) i (lb.length : Int) ((j + 1 : Nat) : Int) na la ea nb lb eb) (fun k => ?_) ?_
        · simp only [spec_DecimalTimes.l1]
          rw [if_pos (by omega), hw.out, if_pos (by omega), if_pos (by omega), if_pos (by omega), if_pos (by omega), if_pos (by omega), if_pos (by omega), hr, hra, hrb, hw2.out, hw3.out, hw1.out, Int.toNat_natCast]
        · refine ihm (j + 1) (d + 1) _ (by omega) (by omega) (by simp [hx]) ?_ ?_
          · rw [val_set _ _ _ (by omega)]
            rw [val_drop lb j hjl] at hv
            rw [show xs.length - 1 - (i + j + 2) = (lb.length - 1 - j) + (la.length - 1 - i) from by omega, Int.pow_add]
            rw [← hv]
            generalize (10 : Int) ^ (lb.length - 1 - j) = p
            generalize (10 : Int) ^ (la.length - 1 - i) = q
            grind
          · intro t
            rw [getD_set _ _ _ _ (by omega)]
            have h1 := hbd t
            by_cases e : i + j + 2 = t
            · rw [if_pos e]; omega
            · rw [if_neg e]; omega
    refine Ev.step (f := fun k => spec_DecimalTimes.l1 k xs i (la.length : Int) i (lb.length : Int) ((0 : Nat) : Int) na la ea nb lb eb) (fun k => ?_) ?_
    · simp only [spec_DecimalTimes.l0]
      rw [if_pos (by omega)]; rfl
    · refine inner lb.length 0 c xs (by omega) (by omega) hx ?_ hbd
      rw [val_drop la i hil] at hv
      rw [List.drop_zero, ← hv]
      generalize (10 : Int) ^ (la.length - 1 - i) = q
      grind

/-- A product of two numbers as digits. -/
theorem times_ev (na nb : Bool) (la lb : List Int) (ea eb : Int) (ha : Dg la) (hb : Dg lb) (hM : la.length * lb.length ≤ 1125899906842624) (hl : la.length + lb.length ≤ 17592186044000)
    (he0 : -4611686018427387904 ≤ ea + eb) (he1 : ea + eb ≤ 4611000000000000000) :
    Ev (fun k => spec_DecimalTimes.f k na la ea nb lb eb) (canon (sg (na != nb) (val la * val lb)) (ea + eb)) := by
  have hw : Aside0 (wrap64 ((wrap64 ((la.length : Int) + (lb.length : Int))) + 1) = ((la.length + lb.length + 1 : Nat) : Int)) := ⟨by rw [Small.w64 ((la.length : Int) + (lb.length : Int)) (by omega) (by omega), Small.w64 _ (by omega) (by omega)]; omega⟩
  refine Ev.congr (f := fun k => spec_DecimalTimes.l0 k (List.replicate (la.length + lb.length + 1) 0) (la.length : Int) ((0 : Nat) : Int) na la ea nb lb eb) (fun k => ?_) ?_
  · unfold spec_DecimalTimes.f
    rw [hw.out, if_pos (by omega), Int.toNat_natCast, if_pos (by omega)]; rfl
  · refine times_l0 na nb la lb ea eb (la.length * lb.length) hM ha hb he0 (by omega) (by omega) la.length 0 0 _ (by omega) (by omega) (by simp) ?_ ?_
    · rw [List.drop_zero, val_zeros]; omega
    · intro j
      have := getD_dg (Dg.zeros (la.length + lb.length + 1)) j
      rw [List.getD_eq_getElem?_getD, List.getElem?_replicate]
      split <;> simp

/-- A product of two numbers in their shortest forms. -/
theorem times_canon (m n e f : Int) (hM : (canon m e).2.1.length * (canon n f).2.1.length ≤ 1125899906842624) (hl : (canon m e).2.1.length + (canon n f).2.1.length ≤ 17592186044000)
    (he0 : -4611686018427387904 ≤ e + f) (he : -4611686018427387904 ≤ e) (hf : -4611686018427387904 ≤ f) (he1 : (canon m e).2.2 + (canon n f).2.2 ≤ 4611000000000000000) (he2 : (canon m e).2.2 ≤ 4611000000000000000) (he3 : (canon n f).2.2 ≤ 4611000000000000000) :
    Ev (fun k => spec_DecimalTimes.f k (canon m e).1 (canon m e).2.1 (canon m e).2.2 (canon n f).1 (canon n f).2.1 (canon n f).2.2) (canon (m * n) (e + f)) := by
  rcases canon_split m e with ⟨rfl, hc⟩ | ⟨na, A, Ea, hA, hc, _, h1, h2, _⟩ <;> rcases canon_split n f with ⟨rfl, hc'⟩ | ⟨nb, B, Eb, hB, hc', _, h1', h2', _⟩ <;> simp only [hc, hc'] at hM hl he1 he2 he3 ⊢
  · have := times_ev false false [] [] 0 0 Dg.nil Dg.nil (by simp) (by simp) (by decide) (by decide)
    simpa [val_nil, sg_zero, canon_zero] using this
  · have := times_ev false nb [] (digs B) 0 Eb Dg.nil (digs_dg B) (by simp) (by simpa using hl) (by omega) (by omega)
    simpa [val_nil, sg_zero, canon_zero] using this
  · have := times_ev na false (digs A) [] Ea 0 (digs_dg A) Dg.nil (by simp) (by simpa using hl) (by omega) (by omega)
    simpa [val_nil, sg_zero, canon_zero] using this
  · have := times_ev na nb (digs A) (digs B) Ea Eb (digs_dg A) (digs_dg B) hM hl (by omega) he1
    rw [val_digs, val_digs] at this
    have e1 : canon (m * n) (e + f) = canon (sg (na != nb) ((A : Int) * B)) (Ea + Eb) := by
      have : m * n = sg (na != nb) ((A : Int) * B) * 10 ^ ((Ea - e).toNat + (Eb - f).toNat) := by
        rw [h2, h2', Int.pow_add]
        generalize (10 : Int) ^ (Ea - e).toNat = p
        generalize (10 : Int) ^ (Eb - f).toNat = q
        cases na <;> cases nb <;> simp [sg] <;> grind
      rw [this, canon_pow]
      congr 1; omega
    rw [e1]; exact this
/-- Less, the same, more. -/
def cmpI (a b : Int) : Int := if a < b then -1 else if a = b then 0 else 1

theorem padD (l : List Int) (M : Nat) (h : l.length ≤ M) (i : Nat) : (l ++ List.replicate (M - l.length) 0).getD i 0 = l.getD i 0 := by
  rw [List.getD_eq_getElem?_getD, List.getD_eq_getElem?_getD]
  by_cases hi : i < l.length
  · rw [List.getElem?_append_left hi]
  · rw [List.getElem?_append_right (by omega), List.getElem?_eq_none (Nat.le_of_not_lt hi), List.getElem?_replicate]
    split <;> rfl
theorem rdD (l : List Int) (i : Nat) : rd l (i : Int) = l.getD i 0 := by unfold rd; rw [Int.toNat_natCast]

theorem larger_l0 (na nb : Bool) (la lb : List Int) (ea eb : Int) (ha : Dg la) (hb : Dg lb) (M : Nat) (hM : M ≤ 17592186044415) (h1 : la.length ≤ M) (h2 : lb.length ≤ M) (h3 : M ≤ la.length ∨ M ≤ lb.length) (n : Nat) : ∀ i : Nat, i + n = M →
    Ev (fun k => spec_larger.l0 k (i : Int) na la ea nb lb eb) (cmpI (val ((la ++ List.replicate (M - la.length) 0).drop i)) (val ((lb ++ List.replicate (M - lb.length) 0).drop i))) := by
  have la' : (la ++ List.replicate (M - la.length) 0).length = M := by rw [List.length_append, List.length_replicate]; omega
  have lb' : (lb ++ List.replicate (M - lb.length) 0).length = M := by rw [List.length_append, List.length_replicate]; omega
  have da := Dg.append ha (Dg.zeros (M - la.length))
  have db := Dg.append hb (Dg.zeros (M - lb.length))
  have j3 : ∀ (k : Nat) (i : Nat) (x y : Int), spec_larger.j3 (k + 1) (i : Int) x y na la ea nb lb eb = (if x = y then (spec_larger.l0 k (wrap64 ((i : Int) + 1)) na la ea nb lb eb) else (if x < y then (some (-1)) else (some 1))) := by
    intro k i x y; simp only [spec_larger.j3]
  have j2 : ∀ (k : Nat) (i : Nat) (x : Int), spec_larger.j2 (k + 1) (i : Int) x 0 na la ea nb lb eb = spec_larger.j3 k (i : Int) x (lb.getD i 0) na la ea nb lb eb := by
    intro k i x
    simp only [spec_larger.j2]
    by_cases hi : (i : Int) < (lb.length : Int)
    · rw [if_pos hi, if_pos (by omega), rdD]
    · rw [if_neg hi, List.getD_eq_getElem?_getD, List.getElem?_eq_none (by omega)]; rfl
  have j1 : ∀ (k : Nat) (i : Nat), spec_larger.j1 (k + 1) (i : Int) true na la ea nb lb eb = spec_larger.j2 k (i : Int) (la.getD i 0) 0 na la ea nb lb eb := by
    intro k i
    simp only [spec_larger.j1]
    rw [if_pos trivial]
    by_cases hi : (i : Int) < (la.length : Int)
    · rw [if_pos hi, if_pos (by omega), rdD]
    · rw [if_neg hi, List.getD_eq_getElem?_getD, List.getElem?_eq_none (by omega)]; rfl
  induction n with
  | zero =>
    intro i hi
    rw [List.drop_eq_nil_of_le (by omega), List.drop_eq_nil_of_le (by omega)]
    refine ⟨2, fun k hk => ?_⟩
    obtain ⟨k, rfl⟩ : ∃ m, k = m + 2 := ⟨k - 2, by omega⟩
    show spec_larger.l0 (k + 1 + 1) _ _ _ _ _ _ _ = _
    simp only [spec_larger.l0]
    rw [if_neg (by omega), decide_eq_false (by omega)]
    simp only [spec_larger.j1]
    rw [if_neg (by simp)]; rfl
  | succ n ih =>
    intro i hi
    have hw : Aside0 (wrap64 ((i : Int) + 1) = ((i + 1 : Nat) : Int)) := ⟨by rw [Small.w64 _ (by omega) (by omega)]; omega⟩
    have hl : ∀ k, spec_larger.l0 (k + 1) (i : Int) na la ea nb lb eb = spec_larger.j1 k (i : Int) true na la ea nb lb eb := by
      intro k
      simp only [spec_larger.l0]
      by_cases hi : (i : Int) < (la.length : Int)
      · rw [if_pos hi]
      · rw [if_neg hi, decide_eq_true (by omega)]
    rw [val_drop _ i (by omega), val_drop _ i (by omega), padD la M h1, padD lb M h2, la', lb']
    have xa := val_lt _ (fun d h => da d (List.mem_of_mem_drop h) : Dg ((la ++ List.replicate (M - la.length) 0).drop (i + 1)))
    have xb := val_lt _ (fun d h => db d (List.mem_of_mem_drop h) : Dg ((lb ++ List.replicate (M - lb.length) 0).drop (i + 1)))
    have ya := val_nonneg _ (fun d h => da d (List.mem_of_mem_drop h) : Dg ((la ++ List.replicate (M - la.length) 0).drop (i + 1)))
    have yb := val_nonneg _ (fun d h => db d (List.mem_of_mem_drop h) : Dg ((lb ++ List.replicate (M - lb.length) 0).drop (i + 1)))
    rw [List.length_drop, la'] at xa
    rw [List.length_drop, lb'] at xb
    have ih := ih (i + 1) (by omega)
    generalize val ((la ++ List.replicate (M - la.length) 0).drop (i + 1)) = A at *
    generalize val ((lb ++ List.replicate (M - lb.length) 0).drop (i + 1)) = B at *
    rw [show M - 1 - i = M - (i + 1) by omega]
    generalize (10 : Int) ^ (M - (i + 1)) = T at *
    refine Ev.step (fun k => hl k) (Ev.step (fun k => j1 k i) (Ev.step (fun k => j2 k i _) (Ev.step (fun k => j3 k i _ _) ?_)))
    generalize la.getD i 0 = x
    generalize lb.getD i 0 = y
    by_cases e : x = y
    · subst e
      refine Evs.yes rfl ?_
      rw [hw.out]
      have : cmpI (x * T + A) (x * T + B) = cmpI A B := by
        unfold cmpI
        by_cases h : A < B
        · rw [if_pos h, if_pos (by omega)]
        · rw [if_neg h, if_neg (by omega)]
          by_cases h' : A = B
          · rw [if_pos h', if_pos (by omega)]
          · rw [if_neg h', if_neg (by omega)]
      rw [this]; exact ih
    · refine Evs.no e ?_
      have key : ∀ x y : Int, x < y → ∀ A B : Int, A < T → 0 ≤ B → x * T + A < y * T + B := by
        intro x y h A B hA hB
        have : (x + 1) * T ≤ y * T := Int.mul_le_mul_of_nonneg_right (by omega) (by omega)
        rw [Int.add_mul, Int.one_mul] at this
        omega
      by_cases h : x < y
      · refine Evs.yes h ?_
        have := key x y h A B xa yb
        unfold cmpI; rw [if_pos this]; exact Ev.now _
      · refine Evs.no h ?_
        have := key y x (by omega) B A xb ya
        unfold cmpI; rw [if_neg (by omega), if_neg (by omega)]; exact Ev.now _

theorem val_pad (l : List Int) (n : Nat) : val (l ++ List.replicate n 0) = val l * 10 ^ n := by
  rw [val_append, val_zeros, List.length_replicate, Int.add_zero]

theorem val_ge (l : List Int) (hd : Dg l) (hn : l ≠ []) (h0 : l.head? ≠ some 0) : (10 : Int) ^ (l.length - 1) ≤ val l := by
  cases l with
  | nil => exact absurd rfl hn
  | cons x l =>
    have hx := hd.cons
    have : x ≠ 0 := fun z => h0 (by rw [z]; rfl)
    rw [val_cons]
    have h1 := val_nonneg l hx.2
    have : 1 * 10 ^ l.length ≤ x * 10 ^ l.length := Int.mul_le_mul_of_nonneg_right (by omega) (Int.le_of_lt (Int.pow_pos (by decide)))
    simp only [List.length_cons, Nat.add_sub_cancel]
    omega

/-- Which of two numbers, without their signs, is the greater one. -/
theorem larger_ev (na nb : Bool) (la lb : List Int) (ea eb x : Int) (ha : Dg la) (hb : Dg lb) (ha1 : la ≠ []) (hb1 : lb ≠ []) (ha0 : la.head? ≠ some 0) (hb0 : lb.head? ≠ some 0) (hla : la.length ≤ 10000000000) (hlb : lb.length ≤ 10000000000)
    (hea : -4611686018427387904 ≤ ea ∧ ea ≤ 4611686018427387904) (heb : -4611686018427387904 ≤ eb ∧ eb ≤ 4611686018427387904) (hx : x ≤ ea) (hx2 : x ≤ eb) :
    Ev (fun k => spec_larger.f k na la ea nb lb eb) (cmpI (val la * 10 ^ (ea - x).toNat) (val lb * 10 ^ (eb - x).toNat)) := by
  have w1 : Aside0 (wrap64 ((la.length : Int) + ea) = (la.length : Int) + ea) := ⟨Small.w64 _ (by omega) (by omega)⟩
  have w2 : Aside0 (wrap64 ((lb.length : Int) + eb) = (lb.length : Int) + eb) := ⟨Small.w64 _ (by omega) (by omega)⟩
  have pa : 0 < la.length := List.length_pos_iff.2 ha1
  have pb : 0 < lb.length := List.length_pos_iff.2 hb1
  have ga := val_ge la ha ha1 ha0
  have gb := val_ge lb hb hb1 hb0
  have ta := val_lt la ha
  have tb := val_lt lb hb
  unfold spec_larger.f
  simp only [w1.out, w2.out]
  by_cases h : (la.length : Int) + ea = (lb.length : Int) + eb
  · refine Evs.yes h ?_
    have key : ∀ t : Nat, cmpI (val la * 10 ^ (ea - x).toNat) (val lb * 10 ^ (eb - x).toNat) = cmpI (val (la ++ List.replicate (max la.length lb.length - la.length) 0)) (val (lb ++ List.replicate (max la.length lb.length - lb.length) 0)) := by
      intro _
      rw [val_pad, val_pad]
      obtain ⟨t, ht1, ht2⟩ : ∃ t : Nat, (ea - x).toNat = (max la.length lb.length - la.length) + t ∧ (eb - x).toNat = (max la.length lb.length - lb.length) + t := ⟨(min (ea - x) (eb - x)).toNat, by omega, by omega⟩
      rw [ht1, ht2, Int.pow_add, Int.pow_add, ← Int.mul_assoc, ← Int.mul_assoc]
      have hT : (0 : Int) < 10 ^ t := Int.pow_pos (by decide)
      generalize (10 : Int) ^ t = T at *
      generalize val la * 10 ^ (max la.length lb.length - la.length) = A
      generalize val lb * 10 ^ (max la.length lb.length - lb.length) = B
      unfold cmpI
      by_cases h : A < B
      · rw [if_pos h, if_pos (Int.mul_lt_mul_of_pos_right h hT)]
      · rw [if_neg h]
        by_cases h' : A = B
        · subst h'; simp
        · have : B * T < A * T := Int.mul_lt_mul_of_pos_right (by omega) hT
          rw [if_neg (by omega), if_neg h', if_neg (by omega)]
    rw [key 0]
    exact larger_l0 na nb la lb ea eb ha hb (max la.length lb.length) (by omega) (by omega) (by omega) (by omega) (max la.length lb.length) 0 (by omega)
  · have key : ∀ (la lb : List Int) (ea eb : Int), la ≠ [] → lb ≠ [] → 0 < la.length → 0 < lb.length → val la < 10 ^ la.length → (10 : Int) ^ (lb.length - 1) ≤ val lb → x ≤ ea → x ≤ eb → (la.length : Int) + ea < (lb.length : Int) + eb → val la * 10 ^ (ea - x).toNat < val lb * 10 ^ (eb - x).toNat := by
      intro la lb ea eb _ _ pa pb ta gb hx hx2 h
      have h1 : val la * 10 ^ (ea - x).toNat < 10 ^ (la.length + (ea - x).toNat) := by
        rw [Int.pow_add]; exact Int.mul_lt_mul_of_pos_right ta (Int.pow_pos (by decide))
      have h2 : (10 : Int) ^ (lb.length - 1 + (eb - x).toNat) ≤ val lb * 10 ^ (eb - x).toNat := by
        rw [Int.pow_add]; exact Int.mul_le_mul_of_nonneg_right gb (Int.le_of_lt (Int.pow_pos (by decide)))
      have h3 : (10 : Int) ^ (la.length + (ea - x).toNat) ≤ 10 ^ (lb.length - 1 + (eb - x).toNat) := Small.pow10_le (by omega)
      omega
    refine Evs.no h ?_
    by_cases h' : (la.length : Int) + ea < (lb.length : Int) + eb
    · refine Evs.yes h' ?_
      have := key la lb ea eb ha1 hb1 pa pb ta gb hx hx2 h'
      unfold cmpI; rw [if_pos this]; exact Ev.now _
    · refine Evs.no h' ?_
      have := key lb la eb ea hb1 ha1 pb pa tb ga hx2 hx (by omega)
      unfold cmpI; rw [if_neg (by omega), if_neg (by omega)]; exact Ev.now _

/-- A digit from behind, 0 where there is none. -/
def atD (l : List Int) (i : Nat) : Int := if i < l.length then l.getD (l.length - 1 - i) 0 else 0
theorem at_f (l : List Int) (i : Nat) (hl : l.length ≤ 17592186044415) (hi : i ≤ 17592186044416) : spec_at.f l (i : Int) = some (atD l i) := by
  unfold spec_at.f atD
  by_cases h : i < l.length
  · have w : Aside0 (wrap64 ((wrap64 ((l.length : Int) - 1)) - (i : Int)) = ((l.length - 1 - i : Nat) : Int)) := ⟨by rw [Small.w64 ((l.length : Int) - 1) (by omega) (by omega), Small.w64 _ (by omega) (by omega)]; omega⟩
    rw [if_pos (by omega), w.out, if_pos (by omega), if_pos (by omega), if_pos h, rdD]
  · rw [if_neg (by omega), if_neg h]
/-- A number without its last digits. -/
def hiV (l : List Int) (i : Nat) : Int := val (l.take (l.length - i))
theorem hiV_step (l : List Int) (i : Nat) : hiV l i = 10 * hiV l (i + 1) + atD l i := by
  unfold hiV atD
  by_cases h : i < l.length
  · have hs : l.take (l.length - i) = l.take (l.length - (i + 1)) ++ [l.getD (l.length - 1 - i) 0] := by
      rw [show l.length - i = (l.length - (i + 1)) + 1 by omega, List.take_succ_eq_append_getElem (by omega)]
      congr 2
      rw [List.getD_eq_getElem?_getD, List.getElem?_eq_getElem (by omega)]
      simp only [show l.length - 1 - i = l.length - (i + 1) by omega]
      rfl
    rw [hs, val_snoc, if_pos h]
  · rw [if_neg h, show l.length - i = 0 by omega, show l.length - (i + 1) = 0 by omega]
    simp [val_nil]
theorem hiV_zero (l : List Int) : hiV l 0 = val l := by unfold hiV; rw [Nat.sub_zero, List.take_length]
theorem hiV_end (l : List Int) (i : Nat) (h : l.length ≤ i) : hiV l i = 0 := by
  unfold hiV; rw [show l.length - i = 0 by omega, List.take_zero, val_nil]
theorem atD_dg {l : List Int} (h : Dg l) (i : Nat) : 0 ≤ atD l i ∧ atD l i ≤ 9 := by
  unfold atD; split
  · exact getD_dg h _
  · omega
def pm (minus : Bool) (a b : Int) : Int := if minus = true then a - b else a + b

/-- A round's digit and what is carried on. -/
theorem sum_norm (neg minus : Bool) (la lb : List Int) (exp : Int) (out : List Int) (i : Nat) (hi : i ≤ 17592186044414) (d : Int) (hd : -10 ≤ d ∧ d ≤ 19) (ho : out.length < 17592186044415) :
    ∃ c e : Int, d = 10 * c + e ∧ 0 ≤ e ∧ e ≤ 9 ∧ -1 ≤ c ∧ c ≤ 1 ∧ ∀ r, Ev (fun k => spec_sum.l0 k neg la lb minus exp (e :: out) c ((i + 1 : Nat) : Int)) r → Ev (fun k => spec_sum.l1 k neg la lb minus exp out 0 (i : Int) d) r := by
  have hw : Aside0 (wrap64 ((i : Int) + 1) = ((i + 1 : Nat) : Int)) := ⟨by rw [Small.w64 _ (by omega) (by omega)]; omega⟩
  have l2 : ∀ (c e : Int) (k : Nat), 0 ≤ e → e ≤ 9 → spec_sum.l2 (k + 1) neg la lb minus exp out c (i : Int) e = spec_sum.l0 k neg la lb minus exp (e :: out) c ((i + 1 : Nat) : Int) := by
    intro c e k h0 h9
    simp only [spec_sum.l2]
    rw [if_neg (by omega)]
    simp only [Option.bind_some, List.length_singleton, List.singleton_append]
    rw [if_pos (by omega), hw.out]
  have l1 : ∀ (c e : Int) (k : Nat), 0 ≤ e → spec_sum.l1 (k + 1) neg la lb minus exp out c (i : Int) e = spec_sum.l2 k neg la lb minus exp out c (i : Int) e := by
    intro c e k h0
    simp only [spec_sum.l1]
    rw [if_neg (by omega)]
  by_cases h : d < 0
  · have w1 : Aside0 (wrap64 (0 - 1) = -1) := ⟨by rw [Small.w64 _ (by omega) (by omega)]; rfl⟩
    have w2 : Aside0 (wrap64 (d + 10) = d + 10) := ⟨Small.w64 _ (by omega) (by omega)⟩
    refine ⟨-1, d + 10, by omega, by omega, by omega, by omega, by omega, fun r e => ?_⟩
    refine Ev.step (f := fun k => spec_sum.l1 k neg la lb minus exp out (-1) (i : Int) (d + 10)) (fun k => ?_) (Ev.step (fun k => l1 (-1) (d + 10) k (by omega)) (Ev.step (fun k => l2 (-1) (d + 10) k (by omega) (by omega)) e))
    simp only [spec_sum.l1]
    rw [if_pos h, w1.out, w2.out]
  · by_cases h' : d > 9
    · have w1 : Aside0 (wrap64 (0 + 1) = 1) := ⟨by rw [Small.w64 _ (by omega) (by omega)]; rfl⟩
      have w2 : Aside0 (wrap64 (d - 10) = d - 10) := ⟨Small.w64 _ (by omega) (by omega)⟩
      refine ⟨1, d - 10, by omega, by omega, by omega, by omega, by omega, fun r e => ?_⟩
      refine Ev.step (fun k => l1 0 d k (by omega)) (Ev.step (f := fun k => spec_sum.l2 k neg la lb minus exp out 1 (i : Int) (d - 10)) (fun k => ?_) (Ev.step (fun k => l2 1 (d - 10) k (by omega) (by omega)) e))
      simp only [spec_sum.l2]
      rw [if_pos h', w1.out, w2.out]
    · exact ⟨0, d, by omega, by omega, by omega, by omega, by omega, fun r e => Ev.step (fun k => l1 0 d k (by omega)) (Ev.step (fun k => l2 0 d k (by omega) (by omega)) e)⟩

theorem sum_l0 (neg minus : Bool) (la lb : List Int) (exp T : Int) (ha : Dg la) (hb : Dg lb) (hla : la.length ≤ 10000000000) (hlb : lb.length ≤ 10000000000) (hT : 0 ≤ T)
    (he : -4611686018427387904 ≤ exp ∧ exp ≤ 4611686000000000000) (n : Nat) : ∀ (i : Nat) (out : List Int) (c : Int), i + n = max la.length lb.length + 2 → Dg out → out.length = i → -1 ≤ c ∧ c ≤ 1 → (max la.length lb.length < i → c = 0) →
    val out + 10 ^ i * (pm minus (hiV la i) (hiV lb i) + c) = T →
    Ev (fun k => spec_sum.l0 k neg la lb minus exp out c (i : Int)) (canon (sg neg T) exp) := by
  induction n with
  | zero =>
    intro i out c hi hd ho hc hz hv
    have hc0 := hz (by omega)
    subst hc0
    have hT' : val out = T := by
      rw [hiV_end la i (by omega), hiV_end lb i (by omega)] at hv
      have : pm minus 0 0 = 0 := by unfold pm; split <;> rfl
      rw [this] at hv; simpa using hv
    have := decimal_f neg out exp
    refine Ev.step (f := fun k => spec_sum.j1 k neg la lb minus exp out 0 (i : Int) false) (fun k => ?_) (Ev.step (f := fun k => (spec_decimal.f k neg out exp).bind fun bt176 => (some (bt176.1, bt176.2.1, bt176.2.2))) (fun k => ?_) (Ev.bind (a := canon (sg neg T) exp) ⟨2 * out.length + 3, fun k hk => ?_⟩ (Ev.now _)))
    · simp only [spec_sum.l0]
      rw [if_neg (by omega), if_neg (by omega)]; rfl
    · simp only [spec_sum.j1]
      rw [if_neg (by simp)]
    · rw [← hT']; exact decimal_f neg out exp k hd (by omega) (by omega) he.1 (by omega)
  | succ n ih =>
    intro i out c hi hd ho hc hz hv
    by_cases hgo : i < la.length ∨ i < lb.length ∨ c ≠ 0
    · have dA := atD_dg ha i
      have dB := atD_dg hb i
      have hbd : -10 ≤ pm minus (atD la i + c) (atD lb i) ∧ pm minus (atD la i + c) (atD lb i) ≤ 19 := by unfold pm; split <;> omega
      obtain ⟨c', e, h1, h2, h3, h4, h5, h6⟩ := sum_norm neg minus la lb exp out i (by omega) (pm minus (atD la i + c) (atD lb i)) hbd (by omega)
      have hi' : i ≤ max la.length lb.length := by
        rcases hgo with h | h | h
        · omega
        · omega
        · exact Nat.le_of_not_lt fun z => h (hz z)
      have hP : (10 : Int) ^ (i + 1) = 10 ^ i * 10 := Int.pow_succ ..
      have hv' : val (e :: out) + 10 ^ (i + 1) * (pm minus (hiV la (i + 1)) (hiV lb (i + 1)) + c') = T := by
        rw [← hv, val_cons, ho, hP, hiV_step la i, hiV_step lb i]
        generalize (10 : Int) ^ i = P
        have : pm minus (10 * hiV la (i + 1) + atD la i) (10 * hiV lb (i + 1) + atD lb i) + c = 10 * (pm minus (hiV la (i + 1)) (hiV lb (i + 1)) + c') + e := by
          unfold pm at h1 ⊢
          cases minus
          · simp only [Bool.false_eq_true, if_false] at h1 ⊢; omega
          · simp only [if_true] at h1 ⊢; omega
        rw [this]
        grind
      have hc'' : max la.length lb.length < i + 1 → c' = 0 := by
        intro hlt
        have hV := val_lt out hd
        have hV0 := val_nonneg out hd
        rw [ho] at hV
        rw [hiV_end la (i + 1) (by omega), hiV_end lb (i + 1) (by omega)] at hv'
        have hp0 : pm minus 0 0 = 0 := by unfold pm; split <;> rfl
        rw [hp0, Int.zero_add, val_cons, ho] at hv'
        by_cases hp : i < max la.length lb.length
        · omega
        · have e0 : atD la i = 0 := by unfold atD; rw [if_neg (by omega)]
          have e1 : atD lb i = 0 := by unfold atD; rw [if_neg (by omega)]
          rw [e0, e1] at h1
          have : pm minus (0 + c) 0 = c := by unfold pm; split <;> omega
          rw [this] at h1
          have hP0 : (0 : Int) < 10 ^ i := Int.pow_pos (by decide)
          rw [hP] at hv'
          generalize (10 : Int) ^ i = P at *
          by_cases hneg : c = -1
          · exfalso
            have hc1 : c' = -1 := by omega
            have he9 : e = 9 := by omega
            rw [hc1, he9] at hv'
            omega
          · omega
      have := ih (i + 1) (e :: out) c' (by omega) (fun d h => by
        rcases List.mem_cons.1 h with rfl | h
        · exact ⟨h2, h3⟩
        · exact hd d h) (by simp [ho]) ⟨h4, h5⟩ hc'' hv'
      have w1 : Aside0 (wrap64 (atD la i + c) = atD la i + c) := ⟨Small.w64 _ (by omega) (by omega)⟩
      refine Ev.step (f := fun k => spec_sum.j1 k neg la lb minus exp out c (i : Int) true) (fun k => ?_) (Ev.step (f := fun k => spec_sum.j2 k neg la lb minus exp out (i : Int) (pm minus (atD la i + c) (atD lb i))) (fun k => ?_) (Ev.step (fun k => ?_) (h6 _ this)))
      · simp only [spec_sum.l0]
        by_cases g1 : (i : Int) < (la.length : Int)
        · rw [if_pos g1]
        · rw [if_neg g1]
          by_cases g2 : (i : Int) < (lb.length : Int)
          · rw [if_pos g2]
          · rw [if_neg g2, bne_iff_ne.2 (by omega)]
      · simp only [spec_sum.j1]
        rw [if_pos trivial, at_f la i (by omega) (by omega), at_f lb i (by omega) (by omega)]
        simp only [Option.bind_some, w1.out]
        unfold pm
        cases minus
        · rw [if_neg (by simp), if_neg (by simp), Small.w64 _ (by omega) (by omega)]
        · rw [if_pos rfl, if_pos rfl, Small.w64 _ (by omega) (by omega)]
      · simp only [spec_sum.j2]
    · have hc0 : c = 0 := by omega
      subst hc0
      have hT' : val out = T := by
        rw [hiV_end la i (by omega), hiV_end lb i (by omega)] at hv
        have : pm minus 0 0 = 0 := by unfold pm; split <;> rfl
        rw [this] at hv; simpa using hv
      refine Ev.step (f := fun k => spec_sum.j1 k neg la lb minus exp out 0 (i : Int) false) (fun k => ?_) (Ev.step (f := fun k => (spec_decimal.f k neg out exp).bind fun bt176 => (some (bt176.1, bt176.2.1, bt176.2.2))) (fun k => ?_) (Ev.bind (a := canon (sg neg T) exp) ⟨2 * out.length + 3, fun k hk => ?_⟩ (Ev.now _)))
      · simp only [spec_sum.l0]
        rw [if_neg (by omega), if_neg (by omega)]; rfl
      · simp only [spec_sum.j1]
        rw [if_neg (by simp)]
      · rw [← hT']; exact decimal_f neg out exp k hd (by omega) (by omega) he.1 (by omega)

theorem sum_ev (neg minus : Bool) (la lb : List Int) (exp : Int) (ha : Dg la) (hb : Dg lb) (hla : la.length ≤ 10000000000) (hlb : lb.length ≤ 10000000000) (hT : 0 ≤ pm minus (val la) (val lb))
    (he : -4611686018427387904 ≤ exp ∧ exp ≤ 4611686000000000000) : Ev (fun k => spec_sum.f k neg la lb minus exp) (canon (sg neg (pm minus (val la) (val lb))) exp) := by
  unfold spec_sum.f
  refine sum_l0 neg minus la lb exp _ ha hb hla hlb hT he (max la.length lb.length + 2) 0 [] 0 (by omega) Dg.nil rfl (by omega) (by omega) ?_
  rw [hiV_zero, hiV_zero, val_nil]; simp

/-- A sum of two numbers that are not 0, in their shortest forms. -/
theorem add_raw (na nb : Bool) (A B : Nat) (ea eb : Int) (hA : A % 10 ≠ 0) (hB : B % 10 ≠ 0) (hla : (digs A).length ≤ 1000000000) (hlb : (digs B).length ≤ 1000000000)
    (hea : -1000000000 ≤ ea ∧ ea ≤ 1000000000) (heb : -1000000000 ≤ eb ∧ eb ≤ 1000000000) (h1 : ea - eb ≤ 2000) (h2 : eb - ea ≤ 2000) :
    Ev (fun k => spec_DecimalAdd.f k na (digs A) ea nb (digs B) eb) ((canon (sg na A * 10 ^ (ea - min ea eb).toNat + sg nb B * 10 ^ (eb - min ea eb).toNat) (min ea eb)).1, (canon (sg na A * 10 ^ (ea - min ea eb).toNat + sg nb B * 10 ^ (eb - min ea eb).toNat) (min ea eb)).2.1, (canon (sg na A * 10 ^ (ea - min ea eb).toNat + sg nb B * 10 ^ (eb - min ea eb).toNat) (min ea eb)).2.2, true) := by
  have n1 := digs_ne A (by omega)
  have n2 := digs_ne B (by omega)
  have p1 := List.length_pos_iff.2 n1
  have p2 := List.length_pos_iff.2 n2
  have hmn : mn ea eb = min ea eb := by unfold mn; omega
  obtain ⟨x, hx⟩ : ∃ x, x = min ea eb := ⟨_, rfl⟩
  have w1 : Aside0 (wrap64 (ea - x) = ea - x) := ⟨Small.w64 _ (by omega) (by omega)⟩
  have w2 : Aside0 (wrap64 (eb - x) = eb - x) := ⟨Small.w64 _ (by omega) (by omega)⟩
  unfold spec_DecimalAdd.f
  rw [hmn, ← hx, w1.out, w2.out]
  refine Evs.no (by omega) (Evs.no (by omega) (Evs.no (by omega) ?_))
  rw [decide_eq_false (by omega)]
  obtain ⟨s, hs⟩ := Int.eq_ofNat_of_zero_le (show 0 ≤ ea - x by omega)
  obtain ⟨t, ht⟩ := Int.eq_ofNat_of_zero_le (show 0 ≤ eb - x by omega)
  have wa : ∀ k, s < k → spec_wide.f k na (digs A) ea x = some (digs A ++ List.replicate s 0) := fun k hk => wide_f na _ x ea s k n1 hs hk (by omega) (by omega) (by omega)
  have wb : ∀ k, t < k → spec_wide.f k nb (digs B) eb x = some (digs B ++ List.replicate t 0) := fun k hk => wide_f nb _ x eb t k n2 ht hk (by omega) (by omega) (by omega)
  have da := Dg.append (digs_dg A) (Dg.zeros s)
  have db := Dg.append (digs_dg B) (Dg.zeros t)
  have va : val (digs A ++ List.replicate s 0) = (A : Int) * 10 ^ s := by rw [val_pad, val_digs]
  have vb : val (digs B ++ List.replicate t 0) = (B : Int) * 10 ^ t := by rw [val_pad, val_digs]
  have qa : 0 ≤ (A : Int) * 10 ^ s := Int.mul_nonneg (by omega) (Int.le_of_lt (Int.pow_pos (by decide)))
  have qb : 0 ≤ (B : Int) * 10 ^ t := Int.mul_nonneg (by omega) (Int.le_of_lt (Int.pow_pos (by decide)))
  have la : (digs A ++ List.replicate s 0).length ≤ 10000000000 := by rw [List.length_append, List.length_replicate]; omega
  have lb : (digs B ++ List.replicate t 0).length ≤ 10000000000 := by rw [List.length_append, List.length_replicate]; omega
  rw [show (ea - x).toNat = s by omega, show (eb - x).toNat = t by omega]
  have lg := larger_ev na nb (digs A) (digs B) ea eb x (digs_dg A) (digs_dg B) n1 n2 (digs_head A) (digs_head B) (by omega) (by omega) (by omega) (by omega) (by omega) (by omega)
  rw [val_digs, val_digs, show (ea - x).toNat = s by omega, show (eb - x).toNat = t by omega] at lg
  -- the two ways
  have way1 : pm (na != nb) ((A : Int) * 10 ^ s) ((B : Int) * 10 ^ t) ≥ 0 → Ev (fun k => spec_DecimalAdd.j1 k x false na (digs A) ea nb (digs B) eb) ((canon (sg na A * 10 ^ s + sg nb B * 10 ^ t) x).1, (canon (sg na A * 10 ^ s + sg nb B * 10 ^ t) x).2.1, (canon (sg na A * 10 ^ s + sg nb B * 10 ^ t) x).2.2, true) := by
    intro h
    have hs := sum_ev na (na != nb) _ _ x da db la lb (by rw [va, vb]; omega) (by omega)
    rw [va, vb] at hs
    have e : sg na (pm (na != nb) ((A : Int) * 10 ^ s) ((B : Int) * 10 ^ t)) = sg na A * 10 ^ s + sg nb B * 10 ^ t := by
      unfold sg pm; cases na <;> cases nb <;> simp <;> grind
    rw [e] at hs
    refine Ev.step (fun k => by rw [spec_DecimalAdd.j1, if_neg (by simp)]) (Ev.bind ⟨s + 1, fun k hk => wa k (by omega)⟩ (Ev.bind ⟨t + 1, fun k hk => wb k (by omega)⟩ (Ev.bind (a := canon (sg na A * 10 ^ s + sg nb B * 10 ^ t) x) hs ?_)))
    exact Ev.now _
  have way2 : na ≠ nb → (A : Int) * 10 ^ s < (B : Int) * 10 ^ t → Ev (fun k => spec_DecimalAdd.j1 k x true na (digs A) ea nb (digs B) eb) ((canon (sg na A * 10 ^ s + sg nb B * 10 ^ t) x).1, (canon (sg na A * 10 ^ s + sg nb B * 10 ^ t) x).2.1, (canon (sg na A * 10 ^ s + sg nb B * 10 ^ t) x).2.2, true) := by
    intro hne h
    have hpm : ∀ a b, pm (nb != na) a b = a - b := by intro a b; unfold pm; rw [if_pos (bne_iff_ne.2 (Ne.symm hne))]
    have hs := sum_ev nb (nb != na) _ _ x db da lb la (by rw [va, vb, hpm]; omega) (by omega)
    rw [va, vb, hpm] at hs
    have e : sg nb ((B : Int) * 10 ^ t - (A : Int) * 10 ^ s) = sg na A * 10 ^ s + sg nb B * 10 ^ t := by
      unfold sg; cases na <;> cases nb <;> simp at hne ⊢ <;> grind
    rw [e] at hs
    refine Ev.step (fun k => by rw [spec_DecimalAdd.j1, if_pos rfl]) (Ev.bind ⟨t + 1, fun k hk => wb k (by omega)⟩ (Ev.bind ⟨s + 1, fun k hk => wa k (by omega)⟩ (Ev.bind (a := canon (sg na A * 10 ^ s + sg nb B * 10 ^ t) x) hs ?_)))
    exact Ev.now _
  by_cases hne : na = nb
  · refine Ev.step (fun k => by rw [spec_DecimalAdd.j0, if_neg (by simp), if_neg (by simp [hne])]) (way1 ?_)
    unfold pm; rw [if_neg (by simp [hne])]; omega
  · refine Ev.step (fun k => by rw [spec_DecimalAdd.j0, if_neg (by simp), if_pos (bne_iff_ne.2 hne)]) (Ev.bind lg ?_)
    by_cases hl : (A : Int) * 10 ^ s < (B : Int) * 10 ^ t
    · have : cmpI ((A : Int) * 10 ^ s) ((B : Int) * 10 ^ t) = -1 := if_pos hl
      rw [this]; exact way2 hne hl
    · have : decide (cmpI ((A : Int) * 10 ^ s) ((B : Int) * 10 ^ t) < 0) = false := by
        unfold cmpI; rw [if_neg hl]; split <;> decide
      rw [this]
      refine way1 ?_
      unfold pm; rw [if_pos (bne_iff_ne.2 hne)]; omega

/-- A sum of two numbers in their shortest forms. -/
theorem add_canon (m n e f : Int) (hm : (canon m e).2.1.length ≤ 1000000000) (hn : (canon n f).2.1.length ≤ 1000000000)
    (he : -1000000000 ≤ e) (hf : -1000000000 ≤ f) (he1 : (canon m e).2.2 ≤ 1000000000) (hf1 : (canon n f).2.2 ≤ 1000000000) (h1 : m ≠ 0 → n ≠ 0 → (canon m e).2.2 - f ≤ 2000) (h2 : m ≠ 0 → n ≠ 0 → (canon n f).2.2 - e ≤ 2000) (y : Int) (hy1 : y ≤ e) (hy2 : y ≤ f) :
    Ev (fun k => spec_DecimalAdd.f k (canon m e).1 (canon m e).2.1 (canon m e).2.2 (canon n f).1 (canon n f).2.1 (canon n f).2.2) ((canon (m * 10 ^ (e - y).toNat + n * 10 ^ (f - y).toNat) y).1, (canon (m * 10 ^ (e - y).toNat + n * 10 ^ (f - y).toNat) y).2.1, (canon (m * 10 ^ (e - y).toNat + n * 10 ^ (f - y).toNat) y).2.2, true) := by
  rcases canon_split m e with ⟨rfl, hc⟩ | ⟨na, A, Ea, hA, hc, _, i1, i2, _⟩
  · rw [hc, Int.zero_mul, Int.zero_add, canon_pow, show y + ((f - y).toNat : Int) = f by omega]
    unfold spec_DecimalAdd.f
    exact Evs.yes rfl (Ev.now _)
  · rcases canon_split n f with ⟨rfl, hc'⟩ | ⟨nb, B, Eb, hB, hc', _, i1', i2', _⟩
    · rw [hc, hc', Int.zero_mul, Int.add_zero, canon_pow, show y + ((e - y).toNat : Int) = e by omega, hc]
      unfold spec_DecimalAdd.f
      have : 0 < (digs A).length := List.length_pos_iff.2 (digs_ne A (by omega))
      exact Evs.no (show ¬ ((digs A).length : Int) = 0 by omega) (Evs.yes rfl (Ev.now _))
    · have m0 : m ≠ 0 := by
        intro z; rw [z, canon_zero] at hc
        simp only [Prod.mk.injEq] at hc
        exact digs_ne A (by omega) hc.2.1.symm
      have n0 : n ≠ 0 := by
        intro z; rw [z, canon_zero] at hc'
        simp only [Prod.mk.injEq] at hc'
        exact digs_ne B (by omega) hc'.2.1.symm
      have g1 := h1 m0 n0
      have g2 := h2 m0 n0
      simp only [hc, hc'] at hm hn he1 hf1 g1 g2 ⊢
      have := add_raw na nb A B Ea Eb hA hB hm hn (by omega) (by omega) (by omega) (by omega)
      have e1 : canon (m * 10 ^ (e - y).toNat + n * 10 ^ (f - y).toNat) y = canon (sg na A * 10 ^ (Ea - min Ea Eb).toNat + sg nb B * 10 ^ (Eb - min Ea Eb).toNat) (min Ea Eb) := by
        have s1 : m * 10 ^ (e - y).toNat = sg na A * 10 ^ (Ea - min Ea Eb).toNat * 10 ^ (min Ea Eb - y).toNat := by
          rw [i2, Int.mul_assoc, Int.mul_assoc, ← Int.pow_add, ← Int.pow_add]; congr 2; omega
        have s2 : n * 10 ^ (f - y).toNat = sg nb B * 10 ^ (Eb - min Ea Eb).toNat * 10 ^ (min Ea Eb - y).toNat := by
          rw [i2', Int.mul_assoc, Int.mul_assoc, ← Int.pow_add, ← Int.pow_add]; congr 2; omega
        rw [s1, s2, ← Int.add_mul, canon_pow]
        congr 1; omega
      rw [e1]; exact this
/-- A product that was wrapped is told by a division. -/
theorem mul_back (a b : Int) (ha : -9223372036854775808 < a ∧ a ≤ 9223372036854775807) (hb : -9223372036854775808 < b ∧ b ≤ 9223372036854775807) (h0 : b ≠ 0) :
    (wrap64 (Int.tdiv (wrap64 (a * b)) b) = a ↔ -9223372036854775808 ≤ a * b ∧ a * b ≤ 9223372036854775807) ∧ (-9223372036854775808 ≤ a * b ∧ a * b ≤ 9223372036854775807 → wrap64 (a * b) = a * b) := by
  have hid : -9223372036854775808 ≤ a * b ∧ a * b ≤ 9223372036854775807 → wrap64 (a * b) = a * b := by intro h; unfold wrap64; omega
  refine ⟨⟨fun h => ?_, fun h => ?_⟩, hid⟩
  · have hc : -9223372036854775808 ≤ wrap64 (a * b) ∧ wrap64 (a * b) ≤ 9223372036854775807 := by unfold wrap64; omega
    have hm : ∃ t, wrap64 (a * b) = a * b + 18446744073709551616 * t := ⟨-((a * b + 9223372036854775808) / 18446744073709551616), by unfold wrap64; omega⟩
    obtain ⟨t, ht⟩ := hm
    generalize wrap64 (a * b) = c at *
    have h1 := Int.mul_tdiv_add_tmod c b
    have h2 : (Int.tmod c b).natAbs < b.natAbs := by rw [Int.natAbs_tmod]; exact Nat.mod_lt _ (by omega)
    have h3 : (Int.tdiv c b).natAbs ≤ c.natAbs := by rw [Int.natAbs_tdiv]; exact Nat.div_le_self _ _
    have h4 : Int.tdiv c b = a := by
      generalize Int.tdiv c b = q at *
      by_cases e : q = 9223372036854775808
      · subst e; exfalso; revert h; unfold wrap64; omega
      · revert h; unfold wrap64; omega
    rw [h4, Int.mul_comm b a] at h1
    omega
  · rw [hid h, Int.mul_tdiv_cancel _ h0]; unfold wrap64; omega
/-- A number beside itself. -/
theorem larger_self (n m : Bool) (l : List Int) (e : Int) (hl : l.length ≤ 17592186044415) (j : Nat) : ∀ i : Nat, i + j = l.length →
    Ev (fun k => spec_larger.l0 k i n l e m l e) 0 := by
  induction j with
  | zero =>
    intro i hi
    refine ⟨2, fun k hk => ?_⟩
    obtain ⟨k, rfl⟩ : ∃ m, k = m + 2 := ⟨k - 2, by omega⟩
    simp only [spec_larger.l0]
    rw [if_neg (by omega), decide_eq_false (by omega)]
    simp only [spec_larger.j1]
    rw [if_neg (by simp)]
  | succ j ih =>
    intro i hi
    have hw : Aside0 (wrap64 ((i : Int) + 1) = ((i + 1 : Nat) : Int)) := ⟨Small.w64s i (by omega)⟩
    refine Ev.step (f := fun k => spec_larger.j1 k i true n l e m l e) (fun k => ?_) (Ev.step (f := fun k => spec_larger.j2 k i (rd l i) 0 n l e m l e) (fun k => ?_) (Ev.step (f := fun k => spec_larger.j3 k i (rd l i) (rd l i) n l e m l e) (fun k => ?_) (Ev.step (fun k => ?_) (ih (i + 1) (by omega)))))
    · simp only [spec_larger.l0]; rw [if_pos (by omega)]
    · simp only [spec_larger.j1]; rw [if_pos trivial, if_pos (by omega), if_pos (by omega)]
    · simp only [spec_larger.j2]; rw [if_pos (by omega), if_pos (by omega)]
    · simp only [spec_larger.j3]; rw [if_pos trivial, hw.out]

theorem cmp_self (n : Bool) (l : List Int) (e : Int) (hl : l.length ≤ 17592186044415) : Ev (fun k => spec_DecimalCmp.f k n l e n l e) 0 := by
  have hlg : Ev (fun k => spec_larger.f k n l e n l e) 0 := by
    refine Ev.congr (fun k => ?_) (larger_self n n l e hl l.length 0 (by omega))
    unfold spec_larger.f; rw [if_pos rfl]; rfl
  have hw0 : wrap64 (-0) = 0 := Small.w64 _ (by decide) (by decide)
  unfold spec_DecimalCmp.f spec_DecimalSign.f
  by_cases h : (l.length : Int) = 0
  · refine ⟨1, fun k hk => ?_⟩
    obtain ⟨k, rfl⟩ : ∃ m, k = m + 1 := ⟨k - 1, by omega⟩
    simp only [if_pos h, Option.bind_some, if_true]
    simp only [spec_DecimalCmp.j0]
    rw [if_neg (by simp), if_pos trivial, if_neg (by decide), if_neg (by decide)]
  · cases n
    · simp only [if_neg h, Bool.false_eq_true, if_false, Option.bind_some, if_true]
      refine Ev.step (f := fun k => (spec_larger.f k false l e false l e).bind fun t180 => some t180) (fun k => ?_) (Ev.bind hlg (Ev.now _))
      simp only [spec_DecimalCmp.j0]
      rw [if_neg (by simp), if_pos trivial, if_neg (by decide), if_pos (by decide)]
    · simp only [if_neg h, if_true, Option.bind_some]
      refine Ev.step (f := fun k => (spec_larger.f k true l e true l e).bind fun t179 => some (wrap64 (-t179))) (fun k => ?_) (Ev.bind hlg ?_)
      · simp only [spec_DecimalCmp.j0]
        rw [if_neg (by simp), if_pos trivial, if_pos (by decide)]
      · rw [hw0]; exact Ev.now _

/-- Whatever the power is: something is told. -/
theorem decimal_l1_total (neg : Bool) : ∀ l, ∀ (k : Nat) (e : Int), l.length < k → l.length ≤ 17592186044415 → ∃ r, spec_decimal.l1 k neg l e = some r := by
  refine snoc_ind ?_ ?_
  · intro k e hk _
    obtain ⟨k, rfl⟩ : ∃ m, k = m + 1 := ⟨k - 1, by omega⟩
    simp only [spec_decimal.l1]
    rw [if_neg (by simp), if_pos (by simp)]
    exact ⟨_, rfl⟩
  · intro l d ih k e hk hl
    obtain ⟨k, rfl⟩ : ∃ m, k = m + 1 := ⟨k - 1, by omega⟩
    have hlen : ((l ++ [d]).length : Int) = l.length + 1 := by simp
    have hlen' : (l ++ [d]).length = l.length + 1 := by simp
    have hw : Aside0 (wrap64 (((l ++ [d]).length : Int) - 1) = l.length) := ⟨by rw [hlen]; unfold wrap64; omega⟩
    have hr : rd (l ++ [d]) (l.length : Int) = d := by unfold rd; simp
    simp only [spec_decimal.l1]
    rw [hw.out, hr, if_pos (by omega), if_pos (by omega), if_pos (by omega)]
    by_cases h1 : d = 0
    · rw [if_pos h1, if_pos (by omega), show ((l.length : Int)).toNat = l.length from by omega, List.take_left']
      · exact ih k _ (by omega) (by omega)
      · rfl
    · rw [if_neg h1, if_neg (by omega)]
      simp only [Option.bind_some, List.length_nil, Nat.zero_add, List.nil_append]
      rw [if_pos (by omega)]
      exact ⟨_, rfl⟩

theorem decimal_total (neg : Bool) (e : Int) : ∀ (l : List Int) (k : Nat), 2 * l.length + 2 < k → l.length ≤ 17592186044415 → ∃ r, spec_decimal.f k neg l e = some r := by
  have stop : ∀ (l : List Int) (k : Nat), l.length + 1 < k → l.length ≤ 17592186044415 → ∃ r, spec_decimal.j1 k neg l e = some r := by
    intro l k hk hl
    obtain ⟨k, rfl⟩ : ∃ m, k = m + 1 := ⟨k - 1, by omega⟩
    simp only [spec_decimal.j1]
    exact decimal_l1_total neg l k e (by omega) hl
  unfold spec_decimal.f
  intro l
  induction l with
  | nil =>
    intro k hk hl
    obtain ⟨k, rfl⟩ : ∃ m, k = m + 1 := ⟨k - 1, by omega⟩
    simp only [spec_decimal.l0]
    rw [if_neg (by simp)]
    exact stop [] k (by simpa using by omega) hl
  | cons x l ih =>
    intro k hk hl
    simp only [List.length_cons] at hk hl
    obtain ⟨k, rfl⟩ : ∃ m, k = m + 1 := ⟨k - 1, by omega⟩
    have hr : rd (x :: l) 0 = x := by unfold rd; simp
    have hlen : ((x :: l).length : Int) = l.length + 1 := by simp
    simp only [spec_decimal.l0]
    rw [hr, if_pos (by omega), if_pos (by omega)]
    by_cases h : x = 0
    · rw [if_pos h, if_pos (by omega), List.drop_one, List.tail_cons]
      exact ih k (by omega) (by omega)
    · rw [if_neg h]
      exact stop (x :: l) k (by simp only [List.length_cons]; omega) (by simp only [List.length_cons]; omega)

theorem of_total_l0 (x e : Int) (n : Nat) : ∀ (acc : List Int) (k : Nat), (n : Int) ≤ 18446744073709551615 →
    (digs n).length + acc.length ≤ 400 → 2 * ((digs n).length + acc.length) + (digs n).length + 4 < k → ∃ r, spec_DecimalOf.l0 k x e n acc = some r := by
  induction n using Nat.strongRecOn with
  | _ n ih =>
    intro acc k hn hl hk
    obtain ⟨k, rfl⟩ : ∃ m, k = m + 1 := ⟨k - 1, by omega⟩
    by_cases h : n = 0
    · subst h
      simp only [digs_zero, List.length_nil, Nat.zero_add] at *
      simp only [spec_DecimalOf.l0]
      obtain ⟨r, hr⟩ := decimal_total (decide (x < 0)) e acc k (by omega) (by omega)
      rw [if_neg (by simp), hr]
      exact ⟨_, rfl⟩
    · have hs := digs_step n h
      have hlen : (digs n).length = (digs (n / 10)).length + 1 := by rw [hs]; simp
      have hq : Aside0 (IntKind.u64.wrap (Int.tdiv (n : Int) 10) = ((n / 10 : Nat) : Int)) := Aside0.mk <| by
        rw [IntWalk.u64_quo _ _ (by omega)]; simp
      simp only [spec_DecimalOf.l0]
      rw [if_pos (by omega)]
      simp only [Option.bind_some, hq.out]
      rw [if_pos (by simp only [List.length_cons, List.length_nil]; omega)]
      exact ih (n / 10) (by omega) _ k (by omega) (by simp; omega) (by simp; omega)

theorem of_total (x e : Int) (hx : -9223372036854775808 ≤ x ∧ x ≤ 9223372036854775807) : ∃ r, Ev (fun k => spec_DecimalOf.f k x e) r := by
  have hl := digs_len20 x.natAbs (by omega)
  have h : ∃ r, spec_DecimalOf.f 80 x e = some r := by
    unfold spec_DecimalOf.f
    by_cases h : x < 0
    · have hw : IntKind.u64.wrap (-(IntKind.u64.wrap x)) = (x.natAbs : Int) := by rw [IntKind.wrap_u64, IntKind.wrap_u64]; omega
      rw [if_pos h, hw]
      simp only [spec_DecimalOf.j0]
      exact of_total_l0 x e x.natAbs [] 79 (by omega) (by simp; omega) (by simp; omega)
    · have hw : IntKind.u64.wrap x = (x.natAbs : Int) := by rw [IntKind.wrap_u64]; omega
      rw [if_neg h, hw]
      simp only [spec_DecimalOf.j0]
      exact of_total_l0 x e x.natAbs [] 79 (by omega) (by simp; omega) (by simp; omega)
  obtain ⟨r, hr⟩ := h
  exact ⟨r, Ev.of (spec_DecimalOf.mono x e) hr⟩
/-- A product, held against the number: told just if it is an int64, and then it is that. -/
def Tells (p : Int) (r : Int × Bool) : Prop := (r.2 = true ↔ -9223372036854775808 ≤ p ∧ p ≤ 9223372036854775807) ∧ (r.2 = true → r.1 = p)

theorem ms_tells (a b : Int) (ha : -9223372036854775808 ≤ a ∧ a ≤ 9223372036854775807) (hb : 2 ≤ b ∧ b ≤ 9223372036854775807) :
    ∃ r, Tells (a * b) r ∧ Ev (fun k => resource_int64MultiplyScale.f k a b) r := by
  by_cases h : a = 0 ∨ a = 1
  · have hr : -9223372036854775808 ≤ a * b ∧ a * b ≤ 9223372036854775807 := by rcases h with rfl | rfl <;> simp <;> omega
    refine ⟨(wrap64 (a * b), true), ⟨⟨fun _ => hr, fun _ => rfl⟩, fun _ => Small.w64 _ hr.1 hr.2⟩, ⟨1, fun k hk => ?_⟩⟩
    obtain ⟨k, rfl⟩ : ∃ m, k = m + 1 := ⟨k - 1, by omega⟩
    show resource_int64MultiplyScale.f (k + 1) a b = _
    unfold resource_int64MultiplyScale.f
    have e : resource_int64MultiplyScale.j0 (k + 1) a b true = some (wrap64 (a * b), true) := by simp only [resource_int64MultiplyScale.j0]; rw [if_pos trivial]
    by_cases h1 : a = 0
    · rw [if_pos h1, e]
    · rw [if_neg h1, show (a == 1) = true from beq_iff_eq.2 (by omega), e]
  · have hb0 : b ≠ 0 := by omega
    by_cases hm : a = -9223372036854775808
    · have hlt : a * b < -9223372036854775808 := by
        have : a * b ≤ a * 2 := Int.mul_le_mul_of_nonpos_left (by omega) hb.1
        omega
      refine ⟨(0, false), ⟨⟨fun h => by simp at h, fun h => by omega⟩, fun h => by simp at h⟩, ⟨1, fun k hk => ?_⟩⟩
      obtain ⟨k, rfl⟩ : ∃ m, k = m + 1 := ⟨k - 1, by omega⟩
      show resource_int64MultiplyScale.f (k + 1) a b = _
      unfold resource_int64MultiplyScale.f
      rw [if_neg (by omega), show (a == 1) = false from beq_eq_false_iff_ne.2 (by omega)]
      simp only [resource_int64MultiplyScale.j0]
      rw [if_neg (by simp), if_pos hm, if_neg (by omega)]
    · have hback := mul_back a b ⟨by omega, ha.2⟩ ⟨by omega, hb.2⟩ hb0
      refine ⟨(wrap64 (a * b), (wrap64 (Int.tdiv (wrap64 (a * b)) b)) == a), ?_, ⟨1, fun k hk => ?_⟩⟩
      · refine ⟨by simp only [beq_iff_eq]; exact hback.1, fun h => ?_⟩
        simp only [beq_iff_eq] at h
        exact hback.2 (hback.1.1 h)
      · obtain ⟨k, rfl⟩ : ∃ m, k = m + 1 := ⟨k - 1, by omega⟩
        show resource_int64MultiplyScale.f (k + 1) a b = _
        unfold resource_int64MultiplyScale.f
        rw [if_neg (by omega), show (a == 1) = false from beq_eq_false_iff_ne.2 (by omega)]
        simp only [resource_int64MultiplyScale.j0]
        rw [if_neg (by simp), if_neg (by omega), if_neg hb0]

theorem ms10 (k : Nat) (a : Int) : resource_int64MultiplyScale10.f k a = resource_int64MultiplyScale.f k a 10 := by
  unfold resource_int64MultiplyScale10.f resource_int64MultiplyScale.f
  cases k <;> simp [resource_int64MultiplyScale10.j0, resource_int64MultiplyScale.j0]
theorem ms100 (k : Nat) (a : Int) : resource_int64MultiplyScale100.f k a = resource_int64MultiplyScale.f k a 100 := by
  unfold resource_int64MultiplyScale100.f resource_int64MultiplyScale.f
  cases k <;> simp [resource_int64MultiplyScale100.j0, resource_int64MultiplyScale.j0]
theorem ms1000 (k : Nat) (a : Int) : resource_int64MultiplyScale1000.f k a = resource_int64MultiplyScale.f k a 1000 := by
  unfold resource_int64MultiplyScale1000.f resource_int64MultiplyScale.f
  cases k <;> simp [resource_int64MultiplyScale1000.j0, resource_int64MultiplyScale.j0]

theorem tens_out (a : Int) (n : Nat) (h : ¬ (-9223372036854775808 ≤ a ∧ a ≤ 9223372036854775807)) : ¬ (-9223372036854775808 ≤ a * 10 ^ n ∧ a * 10 ^ n ≤ 9223372036854775807) := by
  have hp : (1 : Int) ≤ 10 ^ n := Int.pow_pos (by decide)
  by_cases h0 : 0 ≤ a
  · have : a * 1 ≤ a * 10 ^ n := Int.mul_le_mul_of_nonneg_left hp h0
    omega
  · have : a * 10 ^ n ≤ a * 1 := Int.mul_le_mul_of_nonpos_left (by omega) hp
    omega

theorem ps_l0 (s : Int) (hs : s ≤ 2147483647) (n : Nat) : ∀ (i : Nat) (a : Int), (i : Int) + n = s → (-9223372036854775808 ≤ a ∧ a ≤ 9223372036854775807) →
    ∃ r, Tells (a * 10 ^ n) r ∧ Ev (fun k => resource_positiveScaleInt64.l0 k s a i) r := by
  induction n with
  | zero =>
    intro i a hi ha
    refine ⟨(a, true), ⟨⟨fun _ => by simpa using ha, fun _ => rfl⟩, fun _ => by simp⟩, ⟨1, fun k hk => ?_⟩⟩
    obtain ⟨k, rfl⟩ : ∃ m, k = m + 1 := ⟨k - 1, by omega⟩
    simp only [resource_positiveScaleInt64.l0]; rw [if_neg (by omega)]
  | succ n ih =>
    intro i a hi ha
    obtain ⟨m, hm, em⟩ := ms_tells a 10 ha (by decide)
    have hw : Aside0 (wrap32 ((i : Int) + 1) = ((i + 1 : Nat) : Int)) := ⟨Small.w32s i (by omega)⟩
    have hpw : a * 10 ^ (n + 1) = a * 10 * 10 ^ n := by rw [Int.pow_succ, Int.mul_assoc, Int.mul_comm (10 ^ n)]
    rw [hpw]
    by_cases h : m.2 = true
    · have h1 := hm.1.1 h
      have h2 := hm.2 h
      obtain ⟨r, hr, er⟩ := ih (i + 1) (a * 10) (by omega) h1
      refine ⟨r, hr, Ev.step (f := fun k => (resource_int64MultiplyScale.f k a 10).bind fun bt156 => (if bt156.2 = true then (resource_positiveScaleInt64.l0 k s bt156.1 ((i + 1 : Nat) : Int)) else (some (0, false)))) (fun k => ?_) (Ev.bind em ?_)⟩
      · simp only [resource_positiveScaleInt64.l0]; rw [if_pos (by omega), hw.out]
      · simp only [if_pos h, h2]; exact er
    · refine ⟨(0, false), ⟨⟨fun h => by simp at h, fun h' => absurd h' (tens_out _ n (fun z => h (hm.1.2 z)))⟩, fun h => by simp at h⟩, Ev.step (f := fun k => (resource_int64MultiplyScale.f k a 10).bind fun bt156 => (if bt156.2 = true then (resource_positiveScaleInt64.l0 k s bt156.1 ((i + 1 : Nat) : Int)) else (some (0, false)))) (fun k => ?_) (Ev.bind em ?_)⟩
      · simp only [resource_positiveScaleInt64.l0]; rw [if_pos (by omega), hw.out]
      · simp only [if_neg h]; exact Ev.now _

/-- A number by a power of ten: told just if it is an int64. -/
theorem pos_scale (a : Int) (ha : -9223372036854775808 ≤ a ∧ a ≤ 9223372036854775807) (n : Nat) (hn : n ≤ 2147483647) :
    ∃ r, Tells (a * 10 ^ n) r ∧ Ev (fun k => resource_positiveScaleInt64.f k a n) r := by
  have fin : ∀ b : Int, 2 ≤ b ∧ b ≤ 9223372036854775807 → ∃ r, Tells (a * b) r ∧ Ev (fun k => (resource_int64MultiplyScale.f k a b).bind fun bt => some (bt.1, bt.2)) r := by
    intro b hb
    obtain ⟨r, h, e⟩ := ms_tells a b ha hb
    exact ⟨r, h, Ev.bind e (Ev.now _)⟩
  unfold resource_positiveScaleInt64.f
  by_cases h0 : n = 0
  · subst h0
    refine ⟨(a, true), ⟨⟨fun _ => by simpa using ha, fun _ => rfl⟩, fun _ => by simp⟩, ⟨0, fun k _ => ?_⟩⟩
    show (if ((0 : Nat) : Int) = 0 then _ else _) = _
    rw [if_pos (by decide)]
  simp only [if_neg (show ¬ (n : Int) = 0 by omega), ms10, ms100, ms1000]
  by_cases h1 : n = 1
  · subst h1; simp only [if_pos (show ((1 : Nat) : Int) = 1 by decide)]; exact fin 10 (by decide)
  simp only [if_neg (show ¬ (n : Int) = 1 by omega)]
  by_cases h2 : n = 2
  · subst h2; simp only [if_pos (show ((2 : Nat) : Int) = 2 by decide)]; exact fin 100 (by decide)
  simp only [if_neg (show ¬ (n : Int) = 2 by omega)]
  by_cases h3 : n = 3
  · subst h3; simp only [if_pos (show ((3 : Nat) : Int) = 3 by decide)]; exact fin 1000 (by decide)
  simp only [if_neg (show ¬ (n : Int) = 3 by omega)]
  by_cases h6 : n = 6
  · subst h6; simp only [if_pos (show ((6 : Nat) : Int) = 6 by decide)]; exact fin 1000000 (by decide)
  simp only [if_neg (show ¬ (n : Int) = 6 by omega)]
  by_cases h9 : n = 9
  · subst h9; simp only [if_pos (show ((9 : Nat) : Int) = 9 by decide)]; exact fin 1000000000 (by decide)
  simp only [if_neg (show ¬ (n : Int) = 9 by omega)]
  exact ps_l0 n (by omega) n 0 a (by omega) ha
theorem canon_injE {a b e : Int} (h : canon a e = canon b e) : a = b := by
  rcases canon_split a e with ⟨ha, ca⟩ | ⟨na, A, Ea, hA, ca, _, h1, h2, _⟩ <;> rcases canon_split b e with ⟨hb, cb⟩ | ⟨nb, B, Eb, hB, cb, _, h1', h2', _⟩ <;> rw [ca, cb] at h <;> simp only [Prod.mk.injEq] at h
  · rw [ha, hb]
  · exact absurd h.2.1.symm (digs_ne B (by omega))
  · exact absurd h.2.1 (digs_ne A (by omega))
  · obtain ⟨rfl, h3, rfl⟩ := h
    have : (A : Int) = B := by rw [← val_digs A, ← val_digs B, h3]
    rw [h2, h2', this]

theorem awake : Ev (fun k => laws_amountAwake.f k) true := Ev.of laws_amountAwake.mono (k := 90) (by decide +kernel)

/-- An amount is a number. -/
theorem is_ev (v s : Int) (hv : -9223372036854775808 ≤ v ∧ v ≤ 9223372036854775807) (hs : -500 ≤ s ∧ s ≤ 500) (c : Bool × List Int × Int) (hc : c = canon v s) : Ev (fun k => laws_amountIs.f k v s c.1 c.2.1 c.2.2) true := by
  subst hc
  unfold laws_amountIs.f laws_amountOf.f
  refine Ev.bind (a := ((canon v s).1, (canon v s).2.1, (canon v s).2.2, true)) (Ev.bind (of_ev v s (by omega) (by omega) hv) ?_) ?_
  · refine Evs.yes (by omega) ?_
    rw [decide_eq_true hs.2]; exact Ev.now _
  · exact Evs.yes rfl (Ev.bind (cmp_self _ _ _ (show (canon v s).2.1.length ≤ 17592186044415 by have := (canon_room v s 20 (by omega)).1; omega)) (Ev.now _))

/-- The package's sum of two numbers. -/
theorem ia_tells (a b : Int) (ha : -9223372036854775808 ≤ a ∧ a ≤ 9223372036854775807) (hb : -9223372036854775808 ≤ b ∧ b ≤ 9223372036854775807) :
    ∃ r, Tells (a + b) r ∧ Ev (fun k => resource_int64Add.f k a b) r := by
  have hw : ∃ q, wrap64 (a + b) = q ∧ (q = a + b ∨ q = a + b - 18446744073709551616 ∧ a + b > 9223372036854775807 ∨ q = a + b + 18446744073709551616 ∧ a + b < -9223372036854775808) ∧ -9223372036854775808 ≤ q ∧ q ≤ 9223372036854775807 := ⟨_, rfl, by unfold wrap64; omega, by unfold wrap64; omega, by unfold wrap64; omega⟩
  obtain ⟨q, hq, hq2, hq3, hq4⟩ := hw
  have yes : q = a + b → Tells (a + b) (q, true) := fun e => ⟨⟨fun _ => by omega, fun _ => rfl⟩, fun _ => e⟩
  have no : ¬ q = a + b → Tells (a + b) (0, false) := fun e => ⟨⟨fun h => by simp at h, fun h => by omega⟩, fun h => by simp at h⟩
  have j1 : ∀ x : Bool, ∀ k, resource_int64Add.j1 (k + 1) a b q x = (if x = true then (if q > 0 then (some (0, false)) else (if a = (-9223372036854775808) then (if b = (-9223372036854775808) then (some (0, false)) else (some (q, true))) else (some (q, true)))) else (some (q, true))) := by
    intro x k; simp only [resource_int64Add.j1]
  have j0 : ∀ x : Bool, ∀ k, resource_int64Add.j0 (k + 1) a b q x = (if x = true then (if q < 0 then (some (0, false)) else (some (q, true))) else (if a < 0 then (resource_int64Add.j1 k a b q (decide (b < 0))) else (resource_int64Add.j1 k a b q false))) := by
    intro x k; simp only [resource_int64Add.j0]
  unfold resource_int64Add.f
  rw [hq]
  by_cases h1 : a > 0
  · by_cases h2 : b > 0
    · by_cases h3 : q < 0
      · exact ⟨(0, false), no (by omega), Evs.yes h1 (Evs.at1 fun k => by rw [j0, decide_eq_true h2, if_pos rfl, if_pos h3])⟩
      · exact ⟨(q, true), yes (by omega), Evs.yes h1 (Evs.at1 fun k => by rw [j0, decide_eq_true h2, if_pos rfl, if_neg h3])⟩
    · refine ⟨(q, true), yes (by omega), Evs.yes h1 (Ev.step (fun k => by rw [j0, decide_eq_false h2, if_neg (by simp), if_neg (by omega)]) (Evs.at1 fun k => by rw [j1, if_neg (by simp)]))⟩
  · by_cases h2 : a < 0
    · by_cases h3 : b < 0
      · by_cases h4 : q > 0
        · exact ⟨(0, false), no (by omega), Evs.no h1 (Ev.step (fun k => by rw [j0, if_neg (by simp), if_pos h2, decide_eq_true h3]) (Evs.at1 fun k => by rw [j1, if_pos rfl, if_pos h4]))⟩
        · by_cases h5 : a = -9223372036854775808 ∧ b = -9223372036854775808
          · exact ⟨(0, false), no (by omega), Evs.no h1 (Ev.step (fun k => by rw [j0, if_neg (by simp), if_pos h2, decide_eq_true h3]) (Evs.at1 fun k => by rw [j1, if_pos rfl, if_neg h4, if_pos h5.1, if_pos h5.2]))⟩
          · refine ⟨(q, true), yes (by omega), Evs.no h1 (Ev.step (fun k => by rw [j0, if_neg (by simp), if_pos h2, decide_eq_true h3]) (Evs.at1 fun k => ?_))⟩
            rw [j1, if_pos rfl, if_neg h4]
            by_cases h6 : a = -9223372036854775808
            · rw [if_pos h6, if_neg (fun z => h5 ⟨h6, z⟩)]
            · rw [if_neg h6]
      · exact ⟨(q, true), yes (by omega), Evs.no h1 (Ev.step (fun k => by rw [j0, if_neg (by simp), if_pos h2, decide_eq_false h3]) (Evs.at1 fun k => by rw [j1, if_neg (by simp)]))⟩
    · exact ⟨(q, true), yes (by omega), Evs.no h1 (Ev.step (fun k => by rw [j0, if_neg (by simp), if_neg h2]) (Evs.at1 fun k => by rw [j1, if_neg (by simp)]))⟩

/-- What the package makes of two amounts. -/
theorem aa_ev (v s w t : Int) (hv : -9223372036854775808 ≤ v ∧ v ≤ 9223372036854775807) (hs : -500 ≤ s ∧ s ≤ 500) (hw : -9223372036854775808 ≤ w ∧ w ≤ 9223372036854775807) (ht : -500 ≤ t ∧ t ≤ 500) (y : Int) (hy : y = min s t) :
    ∃ (b : Bool) (g u : Int), Ev (fun k => impl_AmountAdd.f k v s w t) (g, u, b) ∧
      (b = true → -9223372036854775808 ≤ g ∧ g ≤ 9223372036854775807 ∧ -500 ≤ u ∧ u ≤ 500 ∧ canon g u = canon (v * 10 ^ (s - y).toNat + w * 10 ^ (t - y).toNat) y) ∧
      (s = t → -9223372036854775808 ≤ v + w → v + w ≤ 9223372036854775807 → b = true) ∧ (v = 0 ∨ w = 0 → b = true) := by
  have w1 : Aside0 (wrap32 s = s) := ⟨Small.w32 _ (by omega) (by omega)⟩
  have w2 : Aside0 (wrap32 t = t) := ⟨Small.w32 _ (by omega) (by omega)⟩
  have lift : ∀ (b : Bool) (g u : Int), -500 ≤ u ∧ u ≤ 500 → Ev (fun k => resource_int64Amount_Add.f k v s w t) (b, g, u) → Ev (fun k => impl_AmountAdd.f k v s w t) (g, u, b) := by
    intro b g u hu hg
    unfold impl_AmountAdd.f
    rw [w1.out, w2.out]
    have := Ev.bind (f := fun _ t => some (t.2.1, wrap64 t.2.2, t.1)) hg (Ev.now _)
    have hu' : wrap64 u = u := Small.w64 _ (by omega) (by omega)
    simp only [hu'] at this
    exact this
  by_cases h0 : w = 0
  · refine ⟨true, v, s, lift _ _ _ hs ?_, fun _ => ⟨hv.1, hv.2, hs.1, hs.2, ?_⟩, fun _ _ _ => rfl, fun _ => rfl⟩
    · unfold resource_int64Amount_Add.f; exact Evs.yes h0 (Ev.now _)
    · rw [h0, Int.zero_mul, Int.add_zero, canon_pow]; congr 1; omega
  by_cases h1 : v = 0
  · refine ⟨true, w, t, lift _ _ _ ht ?_, fun _ => ⟨hw.1, hw.2, ht.1, ht.2, ?_⟩, fun _ _ _ => rfl, fun _ => rfl⟩
    · unfold resource_int64Amount_Add.f; exact Evs.no h0 (Evs.yes h1 (Ev.now _))
    · rw [h1, Int.zero_mul, Int.zero_add, canon_pow]; congr 1; omega
  by_cases h2 : s = t
  · obtain ⟨r, rt, re⟩ := ia_tells v w hv hw
    have hy0 : (s - y).toNat = 0 := by omega
    have hy1 : (t - y).toNat = 0 := by omega
    cases hr : r.2 with
    | true =>
      have := rt.1.1 hr
      refine ⟨true, r.1, s, lift _ _ _ hs ?_, fun _ => ⟨by rw [rt.2 hr]; omega, by rw [rt.2 hr]; omega, hs.1, hs.2, ?_⟩, fun _ _ _ => rfl, fun _ => rfl⟩
      · unfold resource_int64Amount_Add.f
        exact Evs.no h0 (Evs.no h1 (Evs.yes h2 (Ev.bind re (Evs.yes hr (Ev.now _)))))
      · rw [hy0, hy1, rt.2 hr, Int.pow_zero, Int.mul_one, Int.mul_one]; congr 1; omega
    | false =>
      refine ⟨false, v, s, lift _ _ _ hs ?_, fun z => by simp at z, fun _ z1 z2 => ?_, fun z => z.elim (fun z => absurd z h1) (fun z => absurd z h0)⟩
      · unfold resource_int64Amount_Add.f
        exact Evs.no h0 (Evs.no h1 (Evs.yes h2 (Ev.bind re (Evs.no (by simp [hr]) (Ev.now _)))))
      · exact absurd (rt.1.2 ⟨z1, z2⟩) (by simp [hr])
  · by_cases h3 : s > t
    · obtain ⟨m, hm⟩ := Int.eq_ofNat_of_zero_le (show 0 ≤ s - t by omega)
      obtain ⟨p, pt, pe⟩ := pos_scale v hv m (by omega)
      have w3 : Aside0 (wrap32 (s - t) = (m : Int)) := ⟨by rw [Small.w32 _ (by omega) (by omega)]; exact hm⟩
      cases hp : p.2 with
      | false =>
        refine ⟨false, v, s, lift _ _ _ hs ?_, fun z => by simp at z, fun z => absurd z h2, fun z => z.elim (fun z => absurd z h1) (fun z => absurd z h0)⟩
        unfold resource_int64Amount_Add.f
        refine Evs.no h0 (Evs.no h1 (Evs.no h2 (Evs.yes h3 ?_)))
        rw [w3.out]
        exact Ev.bind pe (Evs.no (by simp [hp]) (Ev.now _))
      | true =>
        obtain ⟨r, rt, re⟩ := ia_tells p.1 w (by rw [pt.2 hp]; exact pt.1.1 hp) hw
        cases hr : r.2 with
        | false =>
          refine ⟨false, v, s, lift _ _ _ hs ?_, fun z => by simp at z, fun z => absurd z h2, fun z => z.elim (fun z => absurd z h1) (fun z => absurd z h0)⟩
          unfold resource_int64Amount_Add.f
          refine Evs.no h0 (Evs.no h1 (Evs.no h2 (Evs.yes h3 ?_)))
          rw [w3.out]
          exact Ev.bind pe (Evs.yes hp (Ev.bind re (Evs.no (by simp [hr]) (Ev.now _))))
        | true =>
          have := rt.1.1 hr
          refine ⟨true, r.1, t, lift _ _ _ ht ?_, fun _ => ⟨by rw [rt.2 hr]; omega, by rw [rt.2 hr]; omega, ht.1, ht.2, ?_⟩, fun _ _ _ => rfl, fun _ => rfl⟩
          · unfold resource_int64Amount_Add.f
            refine Evs.no h0 (Evs.no h1 (Evs.no h2 (Evs.yes h3 ?_)))
            rw [w3.out]
            exact Ev.bind pe (Evs.yes hp (Ev.bind re (Evs.yes hr (Ev.now _))))
          · rw [rt.2 hr, pt.2 hp, show (s - y).toNat = m by omega, show (t - y).toNat = 0 by omega, Int.pow_zero, Int.mul_one]; congr 1; omega
    · obtain ⟨m, hm⟩ := Int.eq_ofNat_of_zero_le (show 0 ≤ t - s by omega)
      obtain ⟨p, pt, pe⟩ := pos_scale w hw m (by omega)
      have w3 : Aside0 (wrap32 (t - s) = (m : Int)) := ⟨by rw [Small.w32 _ (by omega) (by omega)]; exact hm⟩
      cases hp : p.2 with
      | false =>
        refine ⟨false, v, s, lift _ _ _ hs ?_, fun z => by simp at z, fun z => absurd z h2, fun z => z.elim (fun z => absurd z h1) (fun z => absurd z h0)⟩
        unfold resource_int64Amount_Add.f
        refine Evs.no h0 (Evs.no h1 (Evs.no h2 (Evs.no h3 ?_)))
        rw [w3.out]
        exact Ev.bind pe (Evs.no (by simp [hp]) (Ev.now _))
      | true =>
        obtain ⟨r, rt, re⟩ := ia_tells v p.1 hv (by rw [pt.2 hp]; exact pt.1.1 hp)
        cases hr : r.2 with
        | false =>
          refine ⟨false, v, s, lift _ _ _ hs ?_, fun z => by simp at z, fun z => absurd z h2, fun z => z.elim (fun z => absurd z h1) (fun z => absurd z h0)⟩
          unfold resource_int64Amount_Add.f
          refine Evs.no h0 (Evs.no h1 (Evs.no h2 (Evs.no h3 ?_)))
          rw [w3.out]
          exact Ev.bind pe (Evs.yes hp (Ev.bind re (Evs.no (by simp [hr]) (Ev.now _))))
        | true =>
          have := rt.1.1 hr
          refine ⟨true, r.1, s, lift _ _ _ hs ?_, fun _ => ⟨by rw [rt.2 hr]; omega, by rw [rt.2 hr]; omega, hs.1, hs.2, ?_⟩, fun _ _ _ => rfl, fun _ => rfl⟩
          · unfold resource_int64Amount_Add.f
            refine Evs.no h0 (Evs.no h1 (Evs.no h2 (Evs.no h3 ?_)))
            rw [w3.out]
            exact Ev.bind pe (Evs.yes hp (Ev.bind re (Evs.yes hr (Ev.now _))))
          · rw [rt.2 hr, pt.2 hp, show (t - y).toNat = m by omega, show (s - y).toNat = 0 by omega, Int.pow_zero, Int.mul_one]; congr 1; omega

theorem add_true (v s w t : Int) (n : Bool) (l : List Int) (e : Int) (n' : Bool) (l' : List Int) (e' : Int) : Ev (fun k => laws_FnAmountAdd.j0 k true v s w t n l e n' l' e') true :=
  Evs.at1 fun k => by simp only [laws_FnAmountAdd.j0]; rw [if_pos trivial]

theorem add_j2 (b d : Bool) (h : d = true → b = true) : Ev (fun k => laws_FnAmountAdd.j2 k b d) true := by
  cases b with
  | true => exact Ev.step (fun k => by rw [laws_FnAmountAdd.j2, if_pos rfl]) (Ev.bind awake (Ev.now _))
  | false =>
    have : d = false := by cases d with | false => rfl | true => exact absurd (h rfl) (by simp)
    subst this
    exact Ev.step (fun k => by rw [laws_FnAmountAdd.j2, if_neg (by simp), if_neg (by simp)]) (Ev.bind awake (Ev.now _))

theorem add_j1 (v s w t S y : Int) (b : Bool) (L : Nat) (hL : L ≤ 2000) (hs : -500 ≤ s ∧ s ≤ 500) (hy : -500 ≤ y ∧ y ≤ 500) (hS : S.natAbs < 10 ^ L) (hb : v = 0 ∨ w = 0 → b = true) (hb2 : s = t → y = s ∧ (-9223372036854775808 ≤ S → S ≤ 9223372036854775807 → b = true)) :
    Ev (fun k => laws_FnAmountAdd.j1 k b false v s w t (canon S y).1 (canon S y).2.1 (canon S y).2.2) true := by
  have rS := canon_room S y L hS
  have r1 := canon_room 1 (-s) 20 (by decide)
  have hw : Aside0 (wrap64 (-s) = -s) := ⟨Small.w64 _ (by omega) (by omega)⟩
  have m20 : (canon S y).2.1.length * (canon 1 (-s)).2.1.length ≤ 1125899906842624 := Nat.le_trans (Nat.mul_le_mul (Nat.le_trans rS.1 hL) r1.1) (by decide)
  have t1 := times_canon S 1 y (-s) m20 (by omega) (by omega) (by omega) (by omega) (by omega) (by omega) (by omega)
  rw [Int.mul_one] at t1
  have room : ∀ neg D E, canon S (y + -s) = (neg, digs D, E) → E + (digs D).length ≤ 4611686018427387904 ∧ (digs D).length ≤ 17592186044000 := by
    intro neg D E h
    have := canon_len S (y + -s) L hS neg D E h
    omega
  obtain ⟨q, q1, q2, q3⟩ := int_ev S (y + -s) (by omega) room
  refine Ev.step (fun k => by rw [laws_FnAmountAdd.j1, if_neg (by simp), hw.out]) (Ev.bind (of_ev 1 (-s) (by omega) (by omega) (by omega)) (Ev.bind t1 (Ev.bind q1 ?_)))
  have last : Ev (fun k => if v = 0 then (laws_FnAmountAdd.j2 k b true) else (laws_FnAmountAdd.j2 k b (w == 0))) true := by
    by_cases h0 : v = 0
    · exact Evs.yes h0 (add_j2 _ _ fun _ => hb (Or.inl h0))
    · exact Evs.no h0 (add_j2 _ _ fun h => hb (Or.inr (by simpa using h)))
  by_cases h : s = t
  · refine Evs.yes h ?_
    by_cases hq : q.2 = true
    · refine Evs.yes hq (add_j2 _ _ fun _ => ?_)
      obtain ⟨g1, g2, g3⟩ := q2 hq
      obtain ⟨h1, h2⟩ := hb2 h
      rw [show y + -s = 0 by omega] at g3
      have := canon_inj g3
      exact h2 (by omega) (by omega)
    · exact Evs.no hq last
  · exact Evs.no h last

set_option maxHeartbeats 2000000 in
theorem add_j0 (v s w t : Int) (hv : -9223372036854775808 ≤ v ∧ v ≤ 9223372036854775807) (hs : -500 ≤ s ∧ s ≤ 500) (hw : -9223372036854775808 ≤ w ∧ w ≤ 9223372036854775807) (ht : -500 ≤ t ∧ t ≤ 500) :
    Ev (fun k => laws_FnAmountAdd.j0 k false v s w t (canon v s).1 (canon v s).2.1 (canon v s).2.2 (canon w t).1 (canon w t).2.1 (canon w t).2.2) true := by
  obtain ⟨y, hy⟩ : ∃ y, y = min s t := ⟨_, rfl⟩
  obtain ⟨b, g, u, e1, e2, e3, e4⟩ := aa_ev v s w t hv hs hw ht y hy
  have rv := canon_room v s 20 (by omega)
  have rw_ := canon_room w t 20 (by omega)
  have ad := add_canon v w s t (by omega) (by omega) (by omega) (by omega) (by omega) (by omega) (fun _ _ => by omega) (fun _ _ => by omega) y (by omega) (by omega)
  have hS2 : s = t → y = s ∧ (-9223372036854775808 ≤ v * 10 ^ (s - y).toNat + w * 10 ^ (t - y).toNat → v * 10 ^ (s - y).toNat + w * 10 ^ (t - y).toNat ≤ 9223372036854775807 → b = true) := by
    intro h
    refine ⟨by omega, fun z1 z2 => ?_⟩
    rw [show (s - y).toNat = 0 by omega, show (t - y).toNat = 0 by omega, Int.pow_zero, Int.mul_one, Int.mul_one] at z1 z2
    exact e3 h z1 z2
  obtain ⟨M, hM⟩ : ∃ M, M = 1020 := ⟨_, rfl⟩
  have hS : (v * 10 ^ (s - y).toNat + w * 10 ^ (t - y).toNat).natAbs < 10 ^ (10 + M) := by
    have p : ∀ x : Int, x.natAbs < 10 ^ 20 → ∀ n : Nat, n ≤ 1000 → (x * 10 ^ n).natAbs < 10 ^ M := by
      intro x hx n hn
      rw [Int.natAbs_mul, Int.natAbs_pow]
      have h1 : x.natAbs * 10 ^ n < 10 ^ 20 * 10 ^ n := Nat.mul_lt_mul_of_pos_right hx (Nat.pow_pos (by decide))
      have h2 : (10 : Nat) ^ 20 * 10 ^ n ≤ 10 ^ M := by rw [← Nat.pow_add]; exact Nat.pow_le_pow_right (by decide) (by omega)
      exact Nat.lt_of_lt_of_le h1 h2
    have a1 := p v (by omega) (s - y).toNat (by omega)
    have a2 := p w (by omega) (t - y).toNat (by omega)
    have a3 := Int.natAbs_add_le (v * 10 ^ (s - y).toNat) (w * 10 ^ (t - y).toNat)
    have a4 : (10 : Nat) ^ (10 + M) = 10 ^ 10 * 10 ^ M := Nat.pow_add ..
    rw [a4]
    generalize (10 : Nat) ^ M = P at *
    omega
  have hM2 : 10 + M ≤ 2000 := by omega
  clear hM
  have nx := add_j1 v s w t _ y b (10 + M) hM2 hs (by omega) hS e4 hS2
  refine Ev.step (fun k => by rw [laws_FnAmountAdd.j0, if_neg (by simp)]) (Ev.bind e1 (Ev.bind ad ?_))
  cases b with
  | true =>
    obtain ⟨g1, g2, g3, g4, g5⟩ := e2 rfl
    exact Evs.yes rfl (Evs.yes rfl (Ev.bind (is_ev g u ⟨g1, g2⟩ ⟨g3, g4⟩ _ g5.symm) nx))
  | false => exact Evs.no (by simp) nx

theorem of_amount (v s : Int) (hv : -9223372036854775808 ≤ v ∧ v ≤ 9223372036854775807) : ∃ q : Bool × List Int × Int, Ev (fun k => spec_DecimalOf.f k v s) q ∧ Ev (fun k => laws_amountOf.f k v s) (q.1, q.2.1, q.2.2, decide (-500 ≤ s ∧ s ≤ 500)) := by
  obtain ⟨q, hq⟩ := of_total v s hv
  refine ⟨q, hq, ?_⟩
  unfold laws_amountOf.f
  refine Ev.bind hq ?_
  by_cases h1 : s ≥ -500
  · have : decide (s ≤ 500) = decide (-500 ≤ s ∧ s ≤ 500) := by rw [Bool.eq_iff_iff]; simp only [decide_eq_true_eq]; omega
    rw [if_pos h1, this]; exact Ev.now _
  · rw [if_neg h1, decide_eq_false (show ¬ (-500 ≤ s ∧ s ≤ 500) by omega)]; exact Ev.now _

theorem FnAmountAdd : laws_FnAmountAdd.Pure := by
  intro v s w t hv hs hw ht
  have hv := Small.wf64 hv
  have hs := Small.wf64 hs
  have hw := Small.wf64 hw
  have ht := Small.wf64 ht
  obtain ⟨q, hq, hq2⟩ := of_amount v s hv
  obtain ⟨p, hp, hp2⟩ := of_amount w t hw
  unfold laws_FnAmountAdd.f
  refine (Ev.bind hq2 (Ev.bind hp2 ?_)).rounds
  by_cases h1 : -500 ≤ s ∧ s ≤ 500
  · rw [decide_eq_true h1]
    refine Evs.yes rfl ?_
    by_cases h2 : -500 ≤ t ∧ t ≤ 500
    · rw [decide_eq_true h2]
      have hq' : q = canon v s := Evs.uniq hq (of_ev v s (by omega) (by omega) hv)
      have hp' : p = canon w t := Evs.uniq hp (of_ev w t (by omega) (by omega) hw)
      rw [hq', hp']
      exact add_j0 v s w t hv h1 hw h2
    · rw [decide_eq_false h2]; exact add_true ..
  · rw [decide_eq_false h1]; exact Evs.no (by simp) (add_true ..)

end Go.Proofs.Ytdhooibmibkbeaa.Pure
