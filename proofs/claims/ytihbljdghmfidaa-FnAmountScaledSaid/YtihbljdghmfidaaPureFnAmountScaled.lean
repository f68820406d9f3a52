/- An amount at a scale, where it is told, is its number away from 0 to a multiple of that power of ten: of every amount and scale (that the statement lets by). -/
import Derived.Test.YtihbljdghmfidaaPFnAmountScaledx7
import Derived.Test.YtihbljdghmfidaaSmall
import Derived.Test.YtihbljdghmfidaaDec
import Derived.Test.YtihbljdghmfidaaEvs
set_option linter.unusedVariables false
set_option linter.unusedSimpArgs false
namespace Go.Proofs.Ytihbljdghmfidaa.Pure
open Go.RowKit Go.Proofs.Ytihbljdghmfidaa.PFnAmountScaled Go.Proofs.YtihbljdghmfidaaW.PrintWords Go.Proofs.YtihbljdghmfidaaW.PrintLast Go.Proofs.Ytihbljdghmfidaa.Dec

theorem sg_neg_zero (neg : Bool) : canon (sg neg 0) = canon 0 := by rw [sg_zero]

theorem decimal_l1 (neg : Bool) : ∀ l, Dg l → l.head? ≠ some 0 → ∀ (k : Nat) (e : Int), l.length < k → l.length ≤ 17592186044415 →
    -4611686018427387904 ≤ e → e + l.length ≤ 4611686018427387904 → spec_decimal.l1 k neg l e = some (canon (sg neg (val l)) e) := by
  refine snoc_ind ?_ ?_
  · intro _ _ k e hk _ _ _
    obtain ⟨k, rfl⟩ : ∃ m, k = m + 1 := ⟨k - 1, by omega⟩
    simp only [spec_decimal.l1]
    rw [if_neg (by simp), if_pos (by simp), val_nil, sg_zero, canon_zero]
  · intro l d ih hd h0 k e hk hl e0 e1
    obtain ⟨k, rfl⟩ : ∃ m, k = m + 1 := ⟨k - 1, by omega⟩
    have hlen : ((l ++ [d]).length : Int) = l.length + 1 := by simp
    have hlen' : (l ++ [d]).length = l.length + 1 := by simp
    have hw : Aside0 (wrap64 (((l ++ [d]).length : Int) - 1) = l.length) := ⟨by rw [hlen]; unfold wrap64; omega⟩
    have hr : rd (l ++ [d]) (l.length : Int) = d := by unfold rd; simp
    simp only [spec_decimal.l1]
    rw [hw.out, hr, if_pos (by omega), if_pos (by omega), if_pos (by omega)]
    by_cases h1 : d = 0
    · subst h1
      have h0' : l.head? ≠ some 0 := by
        cases l with
        | nil => simp
        | cons x l => simpa using h0
      have hw2 : Aside0 (wrap64 (e + 1) = e + 1) := ⟨by unfold wrap64; omega⟩
      rw [if_pos rfl, if_pos (by omega), hw2.out, show ((l.length : Int)).toNat = l.length from by omega, List.take_left', ih hd.left h0' k (e + 1) (by omega) (by omega) (by omega) (by omega), val_snoc, Int.add_zero, sg_ten, canon_ten]
      rfl
    · rw [if_neg h1, if_neg (by omega), canon_trim neg l d e hd h0 h1]
      simp only [Option.bind_some, List.length_nil, Nat.zero_add, List.nil_append]
      rw [if_pos (by omega)]

theorem decimal_l0 (neg : Bool) (e : Int) (e0 : -4611686018427387904 ≤ e) : ∀ (l : List Int) (k : Nat), Dg l → 2 * l.length + 2 < k → l.length ≤ 17592186044415 →
    e + l.length ≤ 4611686018427387904 → spec_decimal.l0 k neg l e = some (canon (sg neg (val l)) e) := by
  have stop : ∀ (l : List Int) (k : Nat), Dg l → l.head? ≠ some 0 → l.length + 1 < k → l.length ≤ 17592186044415 → e + l.length ≤ 4611686018427387904 →
      spec_decimal.j1 k neg l e = some (canon (sg neg (val l)) e) := by
    intro l k hd h0 hk hl e1
    obtain ⟨k, rfl⟩ : ∃ m, k = m + 1 := ⟨k - 1, by omega⟩
    simp only [spec_decimal.j1]
    exact decimal_l1 neg l hd h0 k e (by omega) hl e0 e1
  intro l
  induction l with
  | nil =>
    intro k hd hk hl e1
    obtain ⟨k, rfl⟩ : ∃ m, k = m + 1 := ⟨k - 1, by omega⟩
    simp only [spec_decimal.l0]
    rw [if_neg (by simp)]
    exact stop [] k hd (by simp) (by simpa using by omega) hl e1
  | cons x l ih =>
    intro k hd hk hl e1
    simp only [List.length_cons] at hk hl e1
    obtain ⟨k, rfl⟩ : ∃ m, k = m + 1 := ⟨k - 1, by omega⟩
    have hr : rd (x :: l) 0 = x := by unfold rd; simp
    have hlen : ((x :: l).length : Int) = l.length + 1 := by simp
    simp only [spec_decimal.l0]
    rw [hr, if_pos (by omega), if_pos (by omega)]
    by_cases h : x = 0
    · subst h
      rw [if_pos rfl, if_pos (by omega), List.drop_one, List.tail_cons, ih k hd.cons.2 (by omega) (by omega) (by omega), val_cons]
      simp
    · rw [if_neg h]
      exact stop (x :: l) k hd (by simpa using h) (by simp only [List.length_cons]; omega) (by simp only [List.length_cons]; omega) (by simp only [List.length_cons]; omega)

theorem decimal_f (neg : Bool) (l : List Int) (e : Int) (k : Nat) (hd : Dg l) (hk : 2 * l.length + 2 < k) (hl : l.length ≤ 17592186044415) (e0 : -4611686018427387904 ≤ e) (e1 : e + l.length ≤ 4611686018427387904) :
    spec_decimal.f k neg l e = some (canon (sg neg (val l)) e) := by
  unfold spec_decimal.f
  exact decimal_l0 neg e e0 l k hd hk hl e1

/-- Of a number's digits that are still to be read, and those that are. -/
theorem of_l0 (x e : Int) (e0 : -4611686018427387904 ≤ e) (e1 : e ≤ 4611686018427380000) (n : Nat) : ∀ (acc : List Int) (k : Nat), (n : Int) ≤ 18446744073709551615 → Dg acc →
    (digs n).length + acc.length ≤ 400 → 2 * ((digs n).length + acc.length) + (digs n).length + 4 < k →
    spec_DecimalOf.l0 k x e n acc = some (canon (sg (decide (x < 0)) (val (digs n ++ acc))) e) := by
  induction n using Nat.strongRecOn with
  | _ n ih =>
    intro acc k hn ha hl hk
    obtain ⟨k, rfl⟩ : ∃ m, k = m + 1 := ⟨k - 1, by omega⟩
    by_cases h : n = 0
    · subst h
      simp only [digs_zero, List.length_nil, Nat.zero_add, List.nil_append] at *
      simp only [spec_DecimalOf.l0]
      rw [if_neg (by simp), decimal_f _ acc e k ha (by omega) (by omega) e0 (by omega)]
      simp
    · have hs := digs_step n h
      have hlen : (digs n).length = (digs (n / 10)).length + 1 := by rw [hs]; simp
      have hq : Aside0 (IntKind.u64.wrap (Int.tdiv (n : Int) 10) = ((n / 10 : Nat) : Int)) := Aside0.mk <| by
        rw [IntWalk.u64_quo _ _ (by omega)]; simp
      have hr : Aside0 (wrap64 (Int.tmod (n : Int) 10) = ((n % 10 : Nat) : Int)) := Aside0.mk <| by
        rw [Int.tmod_eq_emod_of_nonneg (by omega)]
        unfold wrap64; omega
      simp only [spec_DecimalOf.l0]
      rw [if_pos (by omega)]
      simp only [Option.bind_some, hq.out, hr.out]
      rw [if_pos (by simp only [List.length_cons, List.length_nil]; omega)]
      rw [show [((n % 10 : Nat) : Int)] ++ acc = ((n % 10 : Nat) : Int) :: acc from rfl]
      rw [ih (n / 10) (by omega) (((n % 10 : Nat) : Int) :: acc) k (by omega) (fun d hd => (List.mem_cons.1 hd).elim (fun z => by omega) (ha d)) (by simp only [List.length_cons]; omega) (by simp only [List.length_cons]; omega), hs]
      simp

theorem digs_len20 (n : Nat) (h : (n : Int) ≤ 18446744073709551615) : (digs n).length ≤ 20 := (digs_len 20 n).2 (by omega)

theorem of_f (x e : Int) (e0 : -4611686018427387904 ≤ e) (e1 : e ≤ 4611686018427380000) (hx : -9223372036854775808 ≤ x ∧ x ≤ 9223372036854775807) (k : Nat) (hk : 70 ≤ k) :
    spec_DecimalOf.f k x e = some (canon x e) := by
  obtain ⟨k, rfl⟩ : ∃ m, k = m + 1 := ⟨k - 1, by omega⟩
  have hl := digs_len20 x.natAbs (by omega)
  unfold spec_DecimalOf.f
  by_cases h : x < 0
  · have hw : IntKind.u64.wrap (-(IntKind.u64.wrap x)) = (x.natAbs : Int) := by
      rw [IntKind.wrap_u64, IntKind.wrap_u64]; omega
    rw [if_pos h, hw]
    simp only [spec_DecimalOf.j0]
    rw [of_l0 x e e0 e1 x.natAbs [] k (by omega) Dg.nil (by simp; omega) (by simp; omega), List.append_nil, val_digs]
    congr 2; unfold sg; simp [h]; omega
  · have hw : IntKind.u64.wrap x = (x.natAbs : Int) := by
      rw [IntKind.wrap_u64]; omega
    rw [if_neg h, hw]
    simp only [spec_DecimalOf.j0]
    rw [of_l0 x e e0 e1 x.natAbs [] k (by omega) Dg.nil (by simp; omega) (by simp; omega), List.append_nil, val_digs]
    congr 2; unfold sg; simp [h]; omega

theorem of_ev (x e : Int) (e0 : -4611686018427387904 ≤ e) (e1 : e ≤ 4611686018427380000) (hx : -9223372036854775808 ≤ x ∧ x ≤ 9223372036854775807) :
    Ev (fun k => spec_DecimalOf.f k x e) (canon x e) := ⟨70, fun k hk => of_f x e e0 e1 hx k hk⟩
theorem val_take (l : List Int) (hd : Dg l) (j : Nat) : val (l.take (l.length - j)) = val l / 10 ^ j := by
  have hs : l = l.take (l.length - j) ++ l.drop (l.length - j) := (List.take_append_drop _ _).symm
  have hr : Dg (l.drop (l.length - j)) := fun d h => hd d (List.mem_of_mem_drop h)
  have h0 := val_nonneg _ hr
  have h1 := val_lt _ hr
  by_cases hj : j ≤ l.length
  · have hlen : (l.drop (l.length - j)).length = j := by simp; omega
    have hv : val l = val (l.take (l.length - j)) * 10 ^ j + val (l.drop (l.length - j)) := by
      conv => lhs; rw [hs]
      rw [val_append, hlen]
    rw [hlen] at h1
    rw [hv, Int.add_comm, Int.add_mul_ediv_right _ _ (Int.ne_of_gt (Int.pow_pos (by decide))), Int.ediv_eq_zero_of_lt h0 h1]
    omega
  · rw [show l.length - j = 0 from by omega, List.take_zero, val_nil]
    have h2 := val_lt l hd
    have h3 := val_nonneg l hd
    have h4 : (10 : Int) ^ l.length ≤ 10 ^ j := Small.pow10_le (by omega)
    rw [Int.ediv_eq_zero_of_lt h3 (by omega)]

/-- One is added at place `i`. -/
theorem up_l0 (neg : Bool) (ds : List Int) (e exp T : Int) (he0 : -4611686018427387904 ≤ exp) (i : Nat) : ∀ (xs : List Int), Dg xs → xs.getD 0 0 = 0 → i < xs.length → xs.length ≤ 17592186044415 → exp + xs.length ≤ 4611686018427387904 →
    val xs + 10 ^ (xs.length - 1 - i) = T → Ev (fun k => spec_DecimalUp.l0 k exp xs i neg ds e) ((canon (sg neg T) exp).1, (canon (sg neg T) exp).2.1, (canon (sg neg T) exp).2.2, false) := by
  induction i with
  | zero =>
    intro xs hd h0 hi hl he hv
    have hr : rd xs ((0 : Nat) : Int) = 0 := by unfold rd; simpa using h0
    have hr' : rd (xs.set 0 1) ((0 : Nat) : Int) = 1 := by
      have : rd (xs.set 0 1) ((0 : Nat) : Int) = (xs.set 0 1).getD 0 0 := by unfold rd; simp
      rw [this, getD_set _ _ _ _ hi, if_pos rfl]
    have hd' : Dg (xs.set 0 1) := dg_getD fun j => by
      rw [getD_set _ _ _ _ hi]; have := getD_dg hd j; split <;> omega
    have hval : val (xs.set 0 1) = T := by rw [val_set _ _ _ hi, h0, ← hv]; omega
    refine ⟨2 * xs.length + 10, fun k hk => ?_⟩
    obtain ⟨k, rfl⟩ : ∃ m, k = m + 1 := ⟨k - 1, by omega⟩
    simp only [spec_DecimalUp.l0]
    rw [if_pos (by omega), if_pos (by omega), hr]
    simp only [Option.bind_some, Int.toNat_natCast, show wrap64 (0 + 1) = 1 from Small.w64 1 (by decide) (by decide)]
    rw [hr', if_pos (by decide), decimal_f neg _ exp k hd' (by simp; omega) (by simp; omega) he0 (by simp; omega), hval]
    rfl
  | succ i ih =>
    intro xs hd h0 hi hl he hv
    have hr : rd xs ((i + 1 : Nat) : Int) = xs.getD (i + 1) 0 := by unfold rd; simp
    have hb := getD_dg hd (i + 1)
    have hw : Aside0 (wrap64 (xs.getD (i + 1) 0 + 1) = xs.getD (i + 1) 0 + 1) := ⟨by unfold wrap64; omega⟩
    have hw1 : Aside0 (wrap64 (((i + 1 : Nat) : Int) - 1) = (i : Int)) := ⟨by unfold wrap64; omega⟩
    have hr' : ∀ v, rd (xs.set (i + 1) v) ((i + 1 : Nat) : Int) = v := by
      intro v
      have : rd (xs.set (i + 1) v) ((i + 1 : Nat) : Int) = (xs.set (i + 1) v).getD (i + 1) 0 := by unfold rd; simp
      rw [this, getD_set _ _ _ _ hi, if_pos rfl]
    by_cases h9 : xs.getD (i + 1) 0 + 1 < 10
    · have hd' : Dg (xs.set (i + 1) (xs.getD (i + 1) 0 + 1)) := dg_getD fun j => by
        rw [getD_set _ _ _ _ hi]; have := getD_dg hd j; split <;> omega
      have hval : val (xs.set (i + 1) (xs.getD (i + 1) 0 + 1)) = T := by
        rw [val_set _ _ _ hi, ← hv]; generalize (10 : Int) ^ (xs.length - 1 - (i + 1)) = p; grind
      refine ⟨2 * xs.length + 10, fun k hk => ?_⟩
      obtain ⟨k, rfl⟩ : ∃ m, k = m + 1 := ⟨k - 1, by omega⟩
      simp only [spec_DecimalUp.l0]
      rw [if_pos (by omega), if_pos (by omega), hr, hw.out]
      simp only [Option.bind_some, Int.toNat_natCast]
      rw [hr', if_pos h9, decimal_f neg _ exp k hd' (by simp; omega) (by simp; omega) he0 (by simp; omega), hval]
      rfl
    · have e9 : xs.getD (i + 1) 0 = 9 := by omega
      refine Ev.step (f := fun k => spec_DecimalUp.l0 k exp ((xs.set (i + 1) 10).set (i + 1) 0) i neg ds e) (fun k => ?_) ?_
      · simp only [spec_DecimalUp.l0]
        rw [if_pos (by omega), if_pos (by omega), hr, hw.out, e9]
        simp only [Option.bind_some, Int.toNat_natCast]
        rw [show (9 : Int) + 1 = 10 from rfl, hr', if_neg (by decide), hw1.out]
      · rw [List.set_set]
        refine ih (xs.set (i + 1) 0) ?_ ?_ (by simp; omega) (by simpa using hl) (by simpa using he) ?_
        · exact dg_getD fun j => by rw [getD_set _ _ _ _ hi]; have := getD_dg hd j; split <;> omega
        · rw [getD_set _ _ _ _ hi, if_neg (by omega), h0]
        · rw [val_set _ _ _ hi, List.length_set, e9, ← hv, show xs.length - 1 - i = xs.length - 1 - (i + 1) + 1 from by omega, Int.pow_succ]
          generalize (10 : Int) ^ (xs.length - 1 - (i + 1)) = p; grind

/-- Rounding away from 0: of a number that is not a multiple. -/
theorem up_raw (neg : Bool) (D : Nat) (E exp : Int) (hD : D % 10 ≠ 0) (hlt : E < exp) (hE : -4611686018427380000 ≤ E) (hexp : exp ≤ 4611686018420000000) (hl : (digs D).length ≤ 1000000) :
    Ev (fun k => spec_DecimalUp.f k neg (digs D) E exp) ((canon (sg neg ((D : Int) / 10 ^ (exp - E).toNat + 1)) exp).1, (canon (sg neg ((D : Int) / 10 ^ (exp - E).toNat + 1)) exp).2.1, (canon (sg neg ((D : Int) / 10 ^ (exp - E).toNat + 1)) exp).2.2, false) := by
  have hDn : digs D ≠ [] := digs_ne D (by omega)
  have hlp : 0 < (digs D).length := List.length_pos_iff.2 hDn
  have hw : Aside0 (wrap64 ((wrap64 (((digs D).length : Int) + E)) - exp) = (digs D).length + E - exp) := ⟨by rw [Small.w64 (((digs D).length : Int) + E) (by omega) (by omega), Small.w64 _ (by omega) (by omega)]⟩
  have hmx : mx 0 (((digs D).length : Int) + E - exp) = (((digs D).length - (exp - E).toNat : Nat) : Int) := by unfold mx; omega
  obtain ⟨n, hn⟩ : ∃ n, (exp - E).toNat = n := ⟨_, rfl⟩
  rw [hn] at hmx ⊢
  have hv := val_take (digs D) (digs_dg D) n
  rw [val_digs] at hv
  have htl : ((digs D).take ((digs D).length - n)).length = (digs D).length - n := by simp
  have hgoal : ∀ xs, xs = (0 : Int) :: (digs D).take ((digs D).length - n) → Ev (fun k => spec_DecimalUp.l0 k exp xs (wrap64 ((xs.length : Int) - 1)) neg (digs D) E)
      ((canon (sg neg ((D : Int) / 10 ^ n + 1)) exp).1, (canon (sg neg ((D : Int) / 10 ^ n + 1)) exp).2.1, (canon (sg neg ((D : Int) / 10 ^ n + 1)) exp).2.2, false) := by
    intro xs hxs
    have hlen : xs.length = (digs D).length - n + 1 := by rw [hxs]; simp
    have hw2 : Aside0 (wrap64 ((xs.length : Int) - 1) = (((digs D).length - n : Nat) : Int)) := ⟨by unfold wrap64; omega⟩
    rw [hw2.out]
    refine up_l0 neg (digs D) E exp _ (by omega) ((digs D).length - n) xs ?_ (by rw [hxs]; simp) (by omega) (by omega) (by omega) ?_
    · rw [hxs]
      intro d hd
      simp only [List.mem_cons] at hd
      rcases hd with rfl | hd
      · omega
      · exact digs_dg D d (List.mem_of_mem_take hd)
    · rw [show xs.length - 1 - ((digs D).length - n) = 0 from by omega, hxs, val_cons, hv]; simp
  refine Ev.congr (f := fun k => spec_DecimalUp.j0 k exp false neg (digs D) E) (fun k => ?_) ?_
  · unfold spec_DecimalUp.f
    rw [if_neg (by omega), decide_eq_false (by omega)]
  · refine Ev.step (f := fun k => spec_DecimalUp.l0 k exp ((0 : Int) :: (digs D).take ((digs D).length - n)) (wrap64 ((((0 : Int) :: (digs D).take ((digs D).length - n)).length : Int) - 1)) neg (digs D) E) (fun k => ?_) (hgoal _ rfl)
    simp only [spec_DecimalUp.j0]
    rw [if_neg (by simp), hw.out, hmx]
    simp only [Option.bind_some, Int.toNat_natCast]
    rw [if_pos (by omega), if_pos (by omega), if_pos (by simp only [List.length_cons, List.length_nil]; omega)]
    rfl

/-- Rounding away from 0: of a multiple, and of 0. -/
theorem up_exact (m e exp : Int) (h : m = 0 ∨ exp ≤ (canon m e).2.2) : Ev (fun k => spec_DecimalUp.f k (canon m e).1 (canon m e).2.1 (canon m e).2.2 exp) ((canon m e).1, (canon m e).2.1, (canon m e).2.2, true) := by
  refine ⟨1, fun k hk => ?_⟩
  obtain ⟨k, rfl⟩ : ∃ m, k = m + 1 := ⟨k - 1, by omega⟩
  have hj : ∀ neg ds e, spec_DecimalUp.j0 (k + 1) exp true neg ds e = some (neg, ds, e, true) := by
    intro neg ds e; simp only [spec_DecimalUp.j0]; rw [if_pos trivial]
  show spec_DecimalUp.f (k + 1) (canon m e).1 (canon m e).2.1 (canon m e).2.2 exp = _
  unfold spec_DecimalUp.f
  by_cases h0 : ((canon m e).2.1.length : Int) = 0
  · rw [if_pos h0, hj]
  · rw [if_neg h0]
    rcases h with rfl | h
    · rw [canon_zero] at h0; simp at h0
    · rw [decide_eq_true (show (canon m e).2.2 ≥ exp from h), hj]
/-- A product that was wrapped is told by a division. -/
theorem mul_back (a b : Int) (ha : -9223372036854775808 < a ∧ a ≤ 9223372036854775807) (hb : -9223372036854775808 < b ∧ b ≤ 9223372036854775807) (h0 : b ≠ 0) :
    (wrap64 (Int.tdiv (wrap64 (a * b)) b) = a ↔ -9223372036854775808 ≤ a * b ∧ a * b ≤ 9223372036854775807) ∧ (-9223372036854775808 ≤ a * b ∧ a * b ≤ 9223372036854775807 → wrap64 (a * b) = a * b) := by
  have hid : -9223372036854775808 ≤ a * b ∧ a * b ≤ 9223372036854775807 → wrap64 (a * b) = a * b := by intro h; unfold wrap64; omega
  refine ⟨⟨fun h => ?_, fun h => ?_⟩, hid⟩
  · have hc : -9223372036854775808 ≤ wrap64 (a * b) ∧ wrap64 (a * b) ≤ 9223372036854775807 := by unfold wrap64; omega
    have hm : ∃ t, wrap64 (a * b) = a * b + 18446744073709551616 * t := ⟨-((a * b + 9223372036854775808) / 18446744073709551616), by unfold wrap64; omega⟩
    obtain ⟨t, ht⟩ := hm
    generalize wrap64 (a * b) = c at *
    have h1 := Int.mul_tdiv_add_tmod c b
    have h2 : (Int.tmod c b).natAbs < b.natAbs := by rw [Int.natAbs_tmod]; exact Nat.mod_lt _ (by omega)
    have h3 : (Int.tdiv c b).natAbs ≤ c.natAbs := by rw [Int.natAbs_tdiv]; exact Nat.div_le_self _ _
    have h4 : Int.tdiv c b = a := by
      generalize Int.tdiv c b = q at *
      by_cases e : q = 9223372036854775808
      · subst e; exfalso; revert h; unfold wrap64; omega
      · revert h; unfold wrap64; omega
    rw [h4, Int.mul_comm b a] at h1
    omega
  · rw [hid h, Int.mul_tdiv_cancel _ h0]; unfold wrap64; omega
/-- A number by a power of ten, away from 0; whether it is exact. -/
def negS (a : Int) (s : Nat) : Int × Bool := (sg (decide (a < 0)) (((a.natAbs / 10 ^ s : Nat) : Int) + if a.natAbs % 10 ^ s = 0 then 0 else 1), decide (a.natAbs % 10 ^ s = 0))

theorem negS_lt (A s : Nat) (h : A % 10 ^ s ≠ 0) : A / 10 ^ s + 1 ≤ A := by
  have h1 := Nat.div_add_mod A (10 ^ s)
  have h2 : A / 10 ^ s * 1 ≤ 10 ^ s * (A / 10 ^ s) := by rw [Nat.mul_comm (10 ^ s)]; exact Nat.mul_le_mul_left _ (Nat.pow_pos (by decide))
  omega

theorem negS_range (a : Int) (ha : -9223372036854775808 ≤ a ∧ a ≤ 9223372036854775807) (s : Nat) : -9223372036854775808 ≤ (negS a s).1 ∧ (negS a s).1 ≤ 9223372036854775807 := by
  have h := negS_lt a.natAbs s
  have h1 := Nat.div_le_self a.natAbs (10 ^ s)
  unfold negS sg
  simp only [decide_eq_true_eq]
  generalize a.natAbs / 10 ^ s = q at *
  by_cases h0 : a.natAbs % 10 ^ s = 0
  · rw [if_pos h0]; split <;> omega
  · rw [if_neg h0]; have := h h0; split <;> omega

theorem neg_l0 (a : Int) (ha : -9223372036854775808 ≤ a ∧ a ≤ 9223372036854775807) (s : Nat) (hs : s ≤ 2147483647) (n : Nat) : ∀ i : Nat, i + n = s →
    Ev (fun k => resource_negativeScaleInt64.l0 k a s (sg (decide (a < 0)) ((a.natAbs / 10 ^ i : Nat) : Int)) (decide (a.natAbs % 10 ^ i ≠ 0)) i) (negS a s) := by
  induction n with
  | zero =>
    intro i hi
    obtain rfl : i = s := by omega
    refine ⟨1, fun k hk => ?_⟩
    obtain ⟨k, rfl⟩ : ∃ m, k = m + 1 := ⟨k - 1, by omega⟩
    simp only [resource_negativeScaleInt64.l0]
    rw [if_neg (by omega)]
    have hlt := negS_lt a.natAbs i
    have hle := Nat.div_le_self a.natAbs (10 ^ i)
    unfold negS
    by_cases h : a.natAbs % 10 ^ i = 0
    · rw [if_neg (by simpa using h), if_pos h]; simp [h]
    · have hlt := hlt h
      rw [if_pos (by simpa using h), if_neg h]
      generalize a.natAbs / 10 ^ i = q at *
      by_cases hp : a > 0
      · rw [if_pos hp]
        have hw : Aside0 (wrap64 (sg (decide (a < 0)) (q : Int) + 1) = sg (decide (a < 0)) ((q : Int) + 1)) := ⟨by unfold sg wrap64; simp only [decide_eq_true_eq]; split <;> omega⟩
        rw [hw.out]; simp [h]
      · rw [if_neg hp]
        have hw : Aside0 (wrap64 (sg (decide (a < 0)) (q : Int) - 1) = sg (decide (a < 0)) ((q : Int) + 1)) := ⟨by unfold sg wrap64; simp only [decide_eq_true_eq]; split <;> omega⟩
        rw [hw.out]; simp [h]
  | succ n ih =>
    intro i hi
    have hle := Nat.div_le_self a.natAbs (10 ^ i)
    have hdd : a.natAbs / 10 ^ (i + 1) = a.natAbs / 10 ^ i / 10 := by rw [Nat.pow_succ, Nat.div_div_eq_div_mul]
    have hmm : a.natAbs % 10 ^ (i + 1) = a.natAbs % 10 ^ i + 10 ^ i * (a.natAbs / 10 ^ i % 10) := Nat.mod_pow_succ
    have hpp : 0 < 10 ^ i := Nat.pow_pos (by decide)
    have hfr : decide (a.natAbs % 10 ^ (i + 1) ≠ 0) = (decide (a.natAbs % 10 ^ i ≠ 0) || decide (a.natAbs / 10 ^ i % 10 ≠ 0)) := by
      rw [hmm, Bool.eq_iff_iff]
      simp only [decide_eq_true_eq, Bool.or_eq_true]
      constructor
      · intro h
        by_cases g : a.natAbs / 10 ^ i % 10 = 0
        · rw [g] at h; exact Or.inl (by simpa using h)
        · exact Or.inr g
      · rintro (h | h)
        · omega
        · have : 0 < 10 ^ i * (a.natAbs / 10 ^ i % 10) := Nat.mul_pos hpp (by omega)
          omega
    have htd : Aside0 (wrap64 (Int.tdiv (sg (decide (a < 0)) ((a.natAbs / 10 ^ i : Nat) : Int)) 10) = sg (decide (a < 0)) ((a.natAbs / 10 ^ (i + 1) : Nat) : Int)) := Aside0.mk <| by
      rw [hdd]
      generalize a.natAbs / 10 ^ i = q at *
      have h1 : Int.tdiv (q : Int) 10 = ((q / 10 : Nat) : Int) := by rw [Int.tdiv_eq_ediv_of_nonneg (by omega)]; omega
      have h2 : Int.tdiv (-(q : Int)) 10 = -((q / 10 : Nat) : Int) := by rw [Int.neg_tdiv, h1]
      unfold sg
      by_cases g : a < 0
      · simp only [g, decide_true, if_true, h2]; unfold wrap64; omega
      · simp only [g, decide_false, Bool.false_eq_true, if_false, h1]; unfold wrap64; omega
    have htm : (Int.tmod (sg (decide (a < 0)) ((a.natAbs / 10 ^ i : Nat) : Int)) 10 != 0) = decide (a.natAbs / 10 ^ i % 10 ≠ 0) := by
      generalize a.natAbs / 10 ^ i = q at *
      have h1 : Int.tmod (q : Int) 10 = ((q % 10 : Nat) : Int) := by rw [Int.tmod_eq_emod_of_nonneg (by omega)]; omega
      have h2 : Int.tmod (-(q : Int)) 10 = -((q % 10 : Nat) : Int) := by rw [Int.neg_tmod, h1]
      unfold sg
      rw [Bool.eq_iff_iff]
      simp only [bne_iff_ne, decide_eq_true_eq]
      split
      · rw [h2]; omega
      · rw [h1]; omega
    have hw32 : Aside0 (wrap32 ((i : Int) + 1) = ((i + 1 : Nat) : Int)) := ⟨by unfold wrap32; omega⟩
    have j2 : Ev (fun k => resource_negativeScaleInt64.j2 k a s (sg (decide (a < 0)) ((a.natAbs / 10 ^ i : Nat) : Int)) (decide (a.natAbs % 10 ^ (i + 1) ≠ 0)) i) (negS a s) := by
      by_cases hz : a.natAbs / 10 ^ (i + 1) = 0
      · have hA : a.natAbs < 10 ^ (i + 1) := by
          rcases Nat.div_eq_zero_iff.1 hz with h | h
          · exact absurd h (Nat.ne_of_gt (Nat.pow_pos (by decide)))
          · exact h
        have hA2 : a.natAbs < 10 ^ s := Nat.lt_of_lt_of_le hA (Nat.pow_le_pow_right (by decide) (by omega))
        refine ⟨1, fun k hk => ?_⟩
        obtain ⟨k, rfl⟩ : ∃ m, k = m + 1 := ⟨k - 1, by omega⟩
        simp only [resource_negativeScaleInt64.j2]
        rw [htd.out, hz, Nat.mod_eq_of_lt hA]
        unfold negS
        rw [Nat.mod_eq_of_lt hA2, Nat.div_eq_of_lt hA2]
        rw [if_pos (by unfold sg; split <;> rfl)]
        by_cases h0 : a.natAbs = 0
        · have : a = 0 := by omega
          subst this; simp [sg]
        · rw [if_pos (by simpa using h0), if_neg h0]
          unfold sg
          by_cases hp : a > 0
          · rw [if_pos hp]; simp [h0]; omega
          · rw [if_neg hp]; simp [h0]; omega
      · refine Ev.step (f := fun k => resource_negativeScaleInt64.l0 k a s (sg (decide (a < 0)) ((a.natAbs / 10 ^ (i + 1) : Nat) : Int)) (decide (a.natAbs % 10 ^ (i + 1) ≠ 0)) ((i + 1 : Nat) : Int)) (fun k => ?_) (ih (i + 1) (by omega))
        simp only [resource_negativeScaleInt64.j2]
        rw [htd.out, hw32.out, if_neg (by unfold sg; split <;> omega)]
    have j1 : ∀ fr x24, (x24 || fr) = decide (a.natAbs % 10 ^ (i + 1) ≠ 0) → Ev (fun k => resource_negativeScaleInt64.j1 k a s (sg (decide (a < 0)) ((a.natAbs / 10 ^ i : Nat) : Int)) fr i x24) (negS a s) := by
      intro fr x24 h
      refine Ev.step (f := fun k => resource_negativeScaleInt64.j2 k a s (sg (decide (a < 0)) ((a.natAbs / 10 ^ i : Nat) : Int)) (decide (a.natAbs % 10 ^ (i + 1) ≠ 0)) i) (fun k => ?_) j2
      simp only [resource_negativeScaleInt64.j1]
      rw [← h]
      cases x24
      · rw [if_neg (by simp)]; rfl
      · rw [if_pos rfl]; rfl
    by_cases hf : decide (a.natAbs % 10 ^ i ≠ 0) = true
    · refine Ev.step (f := fun k => resource_negativeScaleInt64.j1 k a s (sg (decide (a < 0)) ((a.natAbs / 10 ^ i : Nat) : Int)) (decide (a.natAbs % 10 ^ i ≠ 0)) i false) (fun k => ?_) (j1 _ _ ?_)
      · simp only [resource_negativeScaleInt64.l0]
        rw [if_pos (by omega), if_pos hf]
      · rw [hfr, hf]; simp
    · refine Ev.step (f := fun k => resource_negativeScaleInt64.j1 k a s (sg (decide (a < 0)) ((a.natAbs / 10 ^ i : Nat) : Int)) (decide (a.natAbs % 10 ^ i ≠ 0)) i (decide (a.natAbs / 10 ^ i % 10 ≠ 0))) (fun k => ?_) (j1 _ _ ?_)
      · simp only [resource_negativeScaleInt64.l0]
        rw [if_pos (by omega), if_neg hf, htm]
      · rw [hfr, Bool.or_comm]

theorem neg_scale (a : Int) (ha : -9223372036854775808 ≤ a ∧ a ≤ 9223372036854775807) (s : Nat) (hs : s ≤ 2147483647) : Ev (fun k => resource_negativeScaleInt64.f k a s) (negS a s) := by
  by_cases h : s = 0
  · subst h
    refine ⟨0, fun k _ => ?_⟩
    show resource_negativeScaleInt64.f k a ((0 : Nat) : Int) = _
    unfold resource_negativeScaleInt64.f
    rw [if_pos (by decide)]
    unfold negS
    simp [Nat.mod_one, sg]
    omega
  · refine Ev.congr (f := fun k => resource_negativeScaleInt64.l0 k a s a false 0) (fun k => ?_) ?_
    · unfold resource_negativeScaleInt64.f
      rw [if_neg (by omega)]
    · have := neg_l0 a ha s hs s 0 (by omega)
      simp only [Nat.pow_zero, Nat.div_one, Nat.mod_one] at this
      have e : sg (decide (a < 0)) ((a.natAbs : Nat) : Int) = a := by unfold sg; simp only [decide_eq_true_eq]; split <;> omega
      rw [e] at this
      exact this
/-- Rounding away from 0: of a number in its shortest form, to a power of ten not below its own. -/
theorem up_neg (a e : Int) (ha : -9223372036854775808 ≤ a ∧ a ≤ 9223372036854775807) (s : Nat) (hs : s ≤ 1000) (he : -1000 ≤ e ∧ e ≤ 1000) :
    Ev (fun k => spec_DecimalUp.f k (canon a e).1 (canon a e).2.1 (canon a e).2.2 (e + s)) ((canon (negS a s).1 (e + s)).1, (canon (negS a s).1 (e + s)).2.1, (canon (negS a s).1 (e + s)).2.2, (negS a s).2) := by
  rcases canon_split a e with ⟨rfl, hc⟩ | ⟨neg, D, E, hD, hc, hc2, h0, hx, hneg⟩
  · have := up_exact 0 e (e + s) (Or.inl rfl)
    have h1 : (negS 0 s).1 = 0 := by unfold negS; simp [sg]
    have h2 : (negS 0 s).2 = true := by unfold negS; simp
    rw [h1, h2, canon_zero]
    rw [canon_zero] at this
    exact this
  · obtain ⟨n, hn⟩ := Int.eq_ofNat_of_zero_le (show 0 ≤ E - e by omega)
    obtain rfl : E = e + n := by omega
    rw [hn, Int.toNat_natCast] at hx
    have hA : a.natAbs = D * 10 ^ n := by
      rw [hx, Int.natAbs_mul, Int.natAbs_pow]
      have : (sg neg (D : Int)).natAbs = D := by unfold sg; split <;> omega
      rw [this]; rfl
    by_cases hge : s ≤ n
    · have h1 : (negS a s) = (sg neg ((D * 10 ^ (n - s) : Nat) : Int), true) := by
        have hp : D * 10 ^ n = D * 10 ^ (n - s) * 10 ^ s := by rw [Nat.mul_assoc, ← Nat.pow_add, Nat.sub_add_cancel hge]
        unfold negS
        rw [hA, hp, Nat.mul_mod_left, Nat.mul_div_cancel _ (Nat.pow_pos (by decide)), ← hneg]
        simp
      have h2 : canon (negS a s).1 (e + s) = canon a e := by
        rw [h1, hc2]
        have : sg neg ((D * 10 ^ (n - s) : Nat) : Int) = sg neg D * 10 ^ (n - s) := by
          unfold sg; split <;> simp <;> grind
        simp only [this, canon_pow]
        congr 1; omega
      have := up_exact a e (e + s) (Or.inr (by rw [hc]; simp only; omega))
      rw [h2, h1]; exact this
    · have hp : 10 ^ s = 10 ^ (s - n) * 10 ^ n := by rw [← Nat.pow_add, Nat.sub_add_cancel (by omega)]
      have hne : D * 10 ^ n % 10 ^ s ≠ 0 := by
        rw [hp, Nat.mul_mod_mul_right]
        intro z
        have h3 : D % 10 ^ (s - n) = 0 := by
          rcases Nat.mul_eq_zero.1 z with h | h
          · exact h
          · exact absurd h (Nat.ne_of_gt (Nat.pow_pos (by decide)))
        have h4 : 10 ∣ 10 ^ (s - n) := by rw [show s - n = (s - n - 1) + 1 from by omega, Nat.pow_succ]; exact Nat.dvd_mul_left _ _
        exact hD (Nat.mod_eq_zero_of_dvd (Nat.dvd_trans h4 (Nat.dvd_of_mod_eq_zero h3)))
      have h1 : negS a s = (sg neg ((D : Int) / 10 ^ (s - n) + 1), false) := by
        unfold negS
        rw [hA, ← hneg, if_neg hne, decide_eq_false hne, hp, Nat.mul_div_mul_right _ _ (Nat.pow_pos (by decide))]
        congr 2
      have := up_raw neg D (e + n) (e + s) hD (by omega) (by omega) (by omega) (by
        have := (canon_len a e 20 (by omega) neg D (e + n) hc).2; omega)
      rw [hc, h1]
      rw [show (e + (s : Int) - (e + (n : Int))).toNat = s - n from by omega] at this
      exact this

/-- A number beside itself. -/
theorem larger_self (n m : Bool) (l : List Int) (e : Int) (hl : l.length ≤ 17592186044415) (j : Nat) : ∀ i : Nat, i + j = l.length →
    Ev (fun k => spec_larger.l0 k i n l e m l e) 0 := by
  induction j with
  | zero =>
    intro i hi
    refine ⟨2, fun k hk => ?_⟩
    obtain ⟨k, rfl⟩ : ∃ m, k = m + 2 := ⟨k - 2, by omega⟩
    simp only [spec_larger.l0]
    rw [if_neg (by omega), decide_eq_false (by omega)]
    simp only [spec_larger.j1]
    rw [if_neg (by simp)]
  | succ j ih =>
    intro i hi
    have hw : Aside0 (wrap64 ((i : Int) + 1) = ((i + 1 : Nat) : Int)) := ⟨Small.w64s i (by omega)⟩
    refine Ev.step (f := fun k => spec_larger.j1 k i true n l e m l e) (fun k => ?_) (Ev.step (f := fun k => spec_larger.j2 k i (rd l i) 0 n l e m l e) (fun k => ?_) (Ev.step (f := fun k => spec_larger.j3 k i (rd l i) (rd l i) n l e m l e) (fun k => ?_) (Ev.step (fun k => ?_) (ih (i + 1) (by omega)))))
    · simp only [spec_larger.l0]; rw [if_pos (by omega)]
    · simp only [spec_larger.j1]; rw [if_pos trivial, if_pos (by omega), if_pos (by omega)]
    · simp only [spec_larger.j2]; rw [if_pos (by omega), if_pos (by omega)]
    · simp only [spec_larger.j3]; rw [if_pos trivial, hw.out]

theorem cmp_self (n : Bool) (l : List Int) (e : Int) (hl : l.length ≤ 17592186044415) : Ev (fun k => spec_DecimalCmp.f k n l e n l e) 0 := by
  have hlg : Ev (fun k => spec_larger.f k n l e n l e) 0 := by
    refine Ev.congr (fun k => ?_) (larger_self n n l e hl l.length 0 (by omega))
    unfold spec_larger.f; rw [if_pos rfl]; rfl
  have hw0 : wrap64 (-0) = 0 := Small.w64 _ (by decide) (by decide)
  unfold spec_DecimalCmp.f spec_DecimalSign.f
  by_cases h : (l.length : Int) = 0
  · refine ⟨1, fun k hk => ?_⟩
    obtain ⟨k, rfl⟩ : ∃ m, k = m + 1 := ⟨k - 1, by omega⟩
    simp only [if_pos h, Option.bind_some, if_true]
    simp only [spec_DecimalCmp.j0]
    rw [if_neg (by simp), if_pos trivial, if_neg (by decide), if_neg (by decide)]
  · cases n
    · simp only [if_neg h, Bool.false_eq_true, if_false, Option.bind_some, if_true]
      refine Ev.step (f := fun k => (spec_larger.f k false l e false l e).bind fun t180 => some t180) (fun k => ?_) (Ev.bind hlg (Ev.now _))
      simp only [spec_DecimalCmp.j0]
      rw [if_neg (by simp), if_pos trivial, if_neg (by decide), if_pos (by decide)]
    · simp only [if_neg h, if_true, Option.bind_some]
      refine Ev.step (f := fun k => (spec_larger.f k true l e true l e).bind fun t179 => some (wrap64 (-t179))) (fun k => ?_) (Ev.bind hlg ?_)
      · simp only [spec_DecimalCmp.j0]
        rw [if_neg (by simp), if_pos trivial, if_pos (by decide)]
      · rw [hw0]; exact Ev.now _

/-- Whatever the power is: something is told. -/
theorem decimal_l1_total (neg : Bool) : ∀ l, ∀ (k : Nat) (e : Int), l.length < k → l.length ≤ 17592186044415 → ∃ r, spec_decimal.l1 k neg l e = some r := by
  refine snoc_ind ?_ ?_
  · intro k e hk _
    obtain ⟨k, rfl⟩ : ∃ m, k = m + 1 := ⟨k - 1, by omega⟩
    simp only [spec_decimal.l1]
    rw [if_neg (by simp), if_pos (by simp)]
    exact ⟨_, rfl⟩
  · intro l d ih k e hk hl
    obtain ⟨k, rfl⟩ : ∃ m, k = m + 1 := ⟨k - 1, by omega⟩
    have hlen : ((l ++ [d]).length : Int) = l.length + 1 := by simp
    have hlen' : (l ++ [d]).length = l.length + 1 := by simp
    have hw : Aside0 (wrap64 (((l ++ [d]).length : Int) - 1) = l.length) := ⟨by rw [hlen]; unfold wrap64; omega⟩
    have hr : rd (l ++ [d]) (l.length : Int) = d := by unfold rd; simp
    simp only [spec_decimal.l1]
    rw [hw.out, hr, if_pos (by omega), if_pos (by omega), if_pos (by omega)]
    by_cases h1 : d = 0
    · rw [if_pos h1, if_pos (by omega), show ((l.length : Int)).toNat = l.length from by omega, List.take_left']
      · exact ih k _ (by omega) (by omega)
      · rfl
    · rw [if_neg h1, if_neg (by omega)]
      simp only [Option.bind_some, List.length_nil, Nat.zero_add, List.nil_append]
      rw [if_pos (by omega)]
      exact ⟨_, rfl⟩

theorem decimal_total (neg : Bool) (e : Int) : ∀ (l : List Int) (k : Nat), 2 * l.length + 2 < k → l.length ≤ 17592186044415 → ∃ r, spec_decimal.f k neg l e = some r := by
  have stop : ∀ (l : List Int) (k : Nat), l.length + 1 < k → l.length ≤ 17592186044415 → ∃ r, spec_decimal.j1 k neg l e = some r := by
    intro l k hk hl
    obtain ⟨k, rfl⟩ : ∃ m, k = m + 1 := ⟨k - 1, by omega⟩
    simp only [spec_decimal.j1]
    exact decimal_l1_total neg l k e (by omega) hl
  unfold spec_decimal.f
  intro l
  induction l with
  | nil =>
    intro k hk hl
    obtain ⟨k, rfl⟩ : ∃ m, k = m + 1 := ⟨k - 1, by omega⟩
    simp only [spec_decimal.l0]
    rw [if_neg (by simp)]
    exact stop [] k (by simpa using by omega) hl
  | cons x l ih =>
    intro k hk hl
    simp only [List.length_cons] at hk hl
    obtain ⟨k, rfl⟩ : ∃ m, k = m + 1 := ⟨k - 1, by omega⟩
    have hr : rd (x :: l) 0 = x := by unfold rd; simp
    have hlen : ((x :: l).length : Int) = l.length + 1 := by simp
    simp only [spec_decimal.l0]
    rw [hr, if_pos (by omega), if_pos (by omega)]
    by_cases h : x = 0
    · rw [if_pos h, if_pos (by omega), List.drop_one, List.tail_cons]
      exact ih k (by omega) (by omega)
    · rw [if_neg h]
      exact stop (x :: l) k (by simp only [List.length_cons]; omega) (by simp only [List.length_cons]; omega)

theorem of_total_l0 (x e : Int) (n : Nat) : ∀ (acc : List Int) (k : Nat), (n : Int) ≤ 18446744073709551615 →
    (digs n).length + acc.length ≤ 400 → 2 * ((digs n).length + acc.length) + (digs n).length + 4 < k → ∃ r, spec_DecimalOf.l0 k x e n acc = some r := by
  induction n using Nat.strongRecOn with
  | _ n ih =>
    intro acc k hn hl hk
    obtain ⟨k, rfl⟩ : ∃ m, k = m + 1 := ⟨k - 1, by omega⟩
    by_cases h : n = 0
    · subst h
      simp only [digs_zero, List.length_nil, Nat.zero_add] at *
      simp only [spec_DecimalOf.l0]
      obtain ⟨r, hr⟩ := decimal_total (decide (x < 0)) e acc k (by omega) (by omega)
      rw [if_neg (by simp), hr]
      exact ⟨_, rfl⟩
    · have hs := digs_step n h
      have hlen : (digs n).length = (digs (n / 10)).length + 1 := by rw [hs]; simp
      have hq : Aside0 (IntKind.u64.wrap (Int.tdiv (n : Int) 10) = ((n / 10 : Nat) : Int)) := Aside0.mk <| by
        rw [IntWalk.u64_quo _ _ (by omega)]; simp
      simp only [spec_DecimalOf.l0]
      rw [if_pos (by omega)]
      simp only [Option.bind_some, hq.out]
      rw [if_pos (by simp only [List.length_cons, List.length_nil]; omega)]
      exact ih (n / 10) (by omega) _ k (by omega) (by simp; omega) (by simp; omega)

theorem of_total (x e : Int) (hx : -9223372036854775808 ≤ x ∧ x ≤ 9223372036854775807) : ∃ r, Ev (fun k => spec_DecimalOf.f k x e) r := by
  have hl := digs_len20 x.natAbs (by omega)
  have h : ∃ r, spec_DecimalOf.f 80 x e = some r := by
    unfold spec_DecimalOf.f
    by_cases h : x < 0
    · have hw : IntKind.u64.wrap (-(IntKind.u64.wrap x)) = (x.natAbs : Int) := by rw [IntKind.wrap_u64, IntKind.wrap_u64]; omega
      rw [if_pos h, hw]
      simp only [spec_DecimalOf.j0]
      exact of_total_l0 x e x.natAbs [] 79 (by omega) (by simp; omega) (by simp; omega)
    · have hw : IntKind.u64.wrap x = (x.natAbs : Int) := by rw [IntKind.wrap_u64]; omega
      rw [if_neg h, hw]
      simp only [spec_DecimalOf.j0]
      exact of_total_l0 x e x.natAbs [] 79 (by omega) (by simp; omega) (by simp; omega)
  obtain ⟨r, hr⟩ := h
  exact ⟨r, Ev.of (spec_DecimalOf.mono x e) hr⟩
/-- A product, held against the number: told just if it is an int64, and then it is that. -/
def Tells (p : Int) (r : Int × Bool) : Prop := (r.2 = true ↔ -9223372036854775808 ≤ p ∧ p ≤ 9223372036854775807) ∧ (r.2 = true → r.1 = p)

theorem ms_tells (a b : Int) (ha : -9223372036854775808 ≤ a ∧ a ≤ 9223372036854775807) (hb : 2 ≤ b ∧ b ≤ 9223372036854775807) :
    ∃ r, Tells (a * b) r ∧ Ev (fun k => resource_int64MultiplyScale.f k a b) r := by
  by_cases h : a = 0 ∨ a = 1
  · have hr : -9223372036854775808 ≤ a * b ∧ a * b ≤ 9223372036854775807 := by rcases h with rfl | rfl <;> simp <;> omega
    refine ⟨(wrap64 (a * b), true), ⟨⟨fun _ => hr, fun _ => rfl⟩, fun _ => Small.w64 _ hr.1 hr.2⟩, ⟨1, fun k hk => ?_⟩⟩
    obtain ⟨k, rfl⟩ : ∃ m, k = m + 1 := ⟨k - 1, by omega⟩
    show resource_int64MultiplyScale.f (k + 1) a b = _
    unfold resource_int64MultiplyScale.f
    have e : resource_int64MultiplyScale.j0 (k + 1) a b true = some (wrap64 (a * b), true) := by simp only [resource_int64MultiplyScale.j0]; rw [if_pos trivial]
    by_cases h1 : a = 0
    · rw [if_pos h1, e]
    · rw [if_neg h1, show (a == 1) = true from beq_iff_eq.2 (by omega), e]
  · have hb0 : b ≠ 0 := by omega
    by_cases hm : a = -9223372036854775808
    · have hlt : a * b < -9223372036854775808 := by
        have : a * b ≤ a * 2 := Int.mul_le_mul_of_nonpos_left (by omega) hb.1
        omega
      refine ⟨(0, false), ⟨⟨fun h => by simp at h, fun h => by omega⟩, fun h => by simp at h⟩, ⟨1, fun k hk => ?_⟩⟩
      obtain ⟨k, rfl⟩ : ∃ m, k = m + 1 := ⟨k - 1, by omega⟩
      show resource_int64MultiplyScale.f (k + 1) a b = _
      unfold resource_int64MultiplyScale.f
      rw [if_neg (by omega), show (a == 1) = false from beq_eq_false_iff_ne.2 (by omega)]
      simp only [resource_int64MultiplyScale.j0]
      rw [if_neg (by simp), if_pos hm, if_neg (by omega)]
    · have hback := mul_back a b ⟨by omega, ha.2⟩ ⟨by omega, hb.2⟩ hb0
      refine ⟨(wrap64 (a * b), (wrap64 (Int.tdiv (wrap64 (a * b)) b)) == a), ?_, ⟨1, fun k hk => ?_⟩⟩
      · refine ⟨by simp only [beq_iff_eq]; exact hback.1, fun h => ?_⟩
        simp only [beq_iff_eq] at h
        exact hback.2 (hback.1.1 h)
      · obtain ⟨k, rfl⟩ : ∃ m, k = m + 1 := ⟨k - 1, by omega⟩
        show resource_int64MultiplyScale.f (k + 1) a b = _
        unfold resource_int64MultiplyScale.f
        rw [if_neg (by omega), show (a == 1) = false from beq_eq_false_iff_ne.2 (by omega)]
        simp only [resource_int64MultiplyScale.j0]
        rw [if_neg (by simp), if_neg (by omega), if_neg hb0]

theorem ms10 (k : Nat) (a : Int) : resource_int64MultiplyScale10.f k a = resource_int64MultiplyScale.f k a 10 := by
  unfold resource_int64MultiplyScale10.f resource_int64MultiplyScale.f
  cases k <;> simp [resource_int64MultiplyScale10.j0, resource_int64MultiplyScale.j0]
theorem ms100 (k : Nat) (a : Int) : resource_int64MultiplyScale100.f k a = resource_int64MultiplyScale.f k a 100 := by
  unfold resource_int64MultiplyScale100.f resource_int64MultiplyScale.f
  cases k <;> simp [resource_int64MultiplyScale100.j0, resource_int64MultiplyScale.j0]
theorem ms1000 (k : Nat) (a : Int) : resource_int64MultiplyScale1000.f k a = resource_int64MultiplyScale.f k a 1000 := by
  unfold resource_int64MultiplyScale1000.f resource_int64MultiplyScale.f
  cases k <;> simp [resource_int64MultiplyScale1000.j0, resource_int64MultiplyScale.j0]

theorem tens_out (a : Int) (n : Nat) (h : ¬ (-9223372036854775808 ≤ a ∧ a ≤ 9223372036854775807)) : ¬ (-9223372036854775808 ≤ a * 10 ^ n ∧ a * 10 ^ n ≤ 9223372036854775807) := by
  have hp : (1 : Int) ≤ 10 ^ n := Int.pow_pos (by decide)
  by_cases h0 : 0 ≤ a
  · have : a * 1 ≤ a * 10 ^ n := Int.mul_le_mul_of_nonneg_left hp h0
    omega
  · have : a * 10 ^ n ≤ a * 1 := Int.mul_le_mul_of_nonpos_left (by omega) hp
    omega

theorem ps_l0 (s : Int) (hs : s ≤ 2147483647) (n : Nat) : ∀ (i : Nat) (a : Int), (i : Int) + n = s → (-9223372036854775808 ≤ a ∧ a ≤ 9223372036854775807) →
    ∃ r, Tells (a * 10 ^ n) r ∧ Ev (fun k => resource_positiveScaleInt64.l0 k s a i) r := by
  induction n with
  | zero =>
    intro i a hi ha
    refine ⟨(a, true), ⟨⟨fun _ => by simpa using ha, fun _ => rfl⟩, fun _ => by simp⟩, ⟨1, fun k hk => ?_⟩⟩
    obtain ⟨k, rfl⟩ : ∃ m, k = m + 1 := ⟨k - 1, by omega⟩
    simp only [resource_positiveScaleInt64.l0]; rw [if_neg (by omega)]
  | succ n ih =>
    intro i a hi ha
    obtain ⟨m, hm, em⟩ := ms_tells a 10 ha (by decide)
    have hw : Aside0 (wrap32 ((i : Int) + 1) = ((i + 1 : Nat) : Int)) := ⟨Small.w32s i (by omega)⟩
    have hpw : a * 10 ^ (n + 1) = a * 10 * 10 ^ n := by rw [Int.pow_succ, Int.mul_assoc, Int.mul_comm (10 ^ n)]
    rw [hpw]
    by_cases h : m.2 = true
    · have h1 := hm.1.1 h
      have h2 := hm.2 h
      obtain ⟨r, hr, er⟩ := ih (i + 1) (a * 10) (by omega) h1
      refine ⟨r, hr, Ev.step (f := fun k => (resource_int64MultiplyScale.f k a 10).bind fun bt156 => (if bt156.2 = true then (resource_positiveScaleInt64.l0 k s bt156.1 ((i + 1 : Nat) : Int)) else (some (0, false)))) (fun k => ?_) (Ev.bind em ?_)⟩
      · simp only [resource_positiveScaleInt64.l0]; rw [if_pos (by omega), hw.out]
      · simp only [if_pos h, h2]; exact er
    · refine ⟨(0, false), ⟨⟨fun h => by simp at h, fun h' => absurd h' (tens_out _ n (fun z => h (hm.1.2 z)))⟩, fun h => by simp at h⟩, Ev.step (f := fun k => (resource_int64MultiplyScale.f k a 10).bind fun bt156 => (if bt156.2 = true then (resource_positiveScaleInt64.l0 k s bt156.1 ((i + 1 : Nat) : Int)) else (some (0, false)))) (fun k => ?_) (Ev.bind em ?_)⟩
      · simp only [resource_positiveScaleInt64.l0]; rw [if_pos (by omega), hw.out]
      · simp only [if_neg h]; exact Ev.now _

/-- A number by a power of ten: told just if it is an int64. -/
theorem pos_scale (a : Int) (ha : -9223372036854775808 ≤ a ∧ a ≤ 9223372036854775807) (n : Nat) (hn : n ≤ 2147483647) :
    ∃ r, Tells (a * 10 ^ n) r ∧ Ev (fun k => resource_positiveScaleInt64.f k a n) r := by
  have fin : ∀ b : Int, 2 ≤ b ∧ b ≤ 9223372036854775807 → ∃ r, Tells (a * b) r ∧ Ev (fun k => (resource_int64MultiplyScale.f k a b).bind fun bt => some (bt.1, bt.2)) r := by
    intro b hb
    obtain ⟨r, h, e⟩ := ms_tells a b ha hb
    exact ⟨r, h, Ev.bind e (Ev.now _)⟩
  unfold resource_positiveScaleInt64.f
  by_cases h0 : n = 0
  · subst h0
    refine ⟨(a, true), ⟨⟨fun _ => by simpa using ha, fun _ => rfl⟩, fun _ => by simp⟩, ⟨0, fun k _ => ?_⟩⟩
    show (if ((0 : Nat) : Int) = 0 then _ else _) = _
    rw [if_pos (by decide)]
  simp only [if_neg (show ¬ (n : Int) = 0 by omega), ms10, ms100, ms1000]
  by_cases h1 : n = 1
  · subst h1; simp only [if_pos (show ((1 : Nat) : Int) = 1 by decide)]; exact fin 10 (by decide)
  simp only [if_neg (show ¬ (n : Int) = 1 by omega)]
  by_cases h2 : n = 2
  · subst h2; simp only [if_pos (show ((2 : Nat) : Int) = 2 by decide)]; exact fin 100 (by decide)
  simp only [if_neg (show ¬ (n : Int) = 2 by omega)]
  by_cases h3 : n = 3
  · subst h3; simp only [if_pos (show ((3 : Nat) : Int) = 3 by decide)]; exact fin 1000 (by decide)
  simp only [if_neg (show ¬ (n : Int) = 3 by omega)]
  by_cases h6 : n = 6
  · subst h6; simp only [if_pos (show ((6 : Nat) : Int) = 6 by decide)]; exact fin 1000000 (by decide)
  simp only [if_neg (show ¬ (n : Int) = 6 by omega)]
  by_cases h9 : n = 9
  · subst h9; simp only [if_pos (show ((9 : Nat) : Int) = 9 by decide)]; exact fin 1000000000 (by decide)
  simp only [if_neg (show ¬ (n : Int) = 9 by omega)]
  exact ps_l0 n (by omega) n 0 a (by omega) ha

theorem awake : Ev (fun k => laws_amountAwake.f k) true := Ev.of laws_amountAwake.mono (k := 90) (by decide +kernel)

/-- What is told of an amount at a scale. -/
theorem scaled_ev (v s c : Int) (hv : -9223372036854775808 < v ∧ v ≤ 9223372036854775807) (hs : -500 ≤ s ∧ s ≤ 500) (hc : -500 ≤ c ∧ c ≤ 500) :
    ∃ r : Int × Bool, Ev (fun k => impl_AmountScaled.f k v s c) r ∧ (-9223372036854775808 ≤ r.1 ∧ r.1 ≤ 9223372036854775807 ∨ r.2 = false) ∧ (c = s → r = (v, true)) ∧
      (r.2 = true → ∃ b, Ev (fun k => spec_DecimalUp.f k (canon v s).1 (canon v s).2.1 (canon v s).2.2 c) ((canon r.1 c).1, (canon r.1 c).2.1, (canon r.1 c).2.2, b)) ∧
      (∃ u, Ev (fun k => spec_DecimalUp.f k (canon v s).1 (canon v s).2.1 (canon v s).2.2 c) u) := by
  have hw1 : Aside0 (wrap32 s = s) := ⟨Small.w32 _ (by omega) (by omega)⟩
  have hw2 : Aside0 (wrap32 c = c) := ⟨Small.w32 _ (by omega) (by omega)⟩
  have lift : ∀ g : Int × Bool, Ev (fun k => resource_int64Amount_AsScaledInt64.f k v s c) g → Ev (fun k => impl_AmountScaled.f k v s c) g := by
    intro g hg
    refine Ev.congr (f := fun k => (resource_int64Amount_AsScaledInt64.f k v s c).bind fun bt209 => (some (bt209.1, bt209.2))) (fun k => ?_) (Ev.bind hg (Ev.now _))
    unfold impl_AmountScaled.f resource_ZzAmount.f
    rw [hw1.out, hw2.out]; rfl
  by_cases h : s < c
  · obtain ⟨n, hn⟩ := Int.eq_ofNat_of_zero_le (show 0 ≤ c - s by omega)
    obtain rfl : c = s + n := by omega
    have hr := negS_range v ⟨by omega, hv.2⟩ n
    have hu := up_neg v s ⟨by omega, hv.2⟩ n (by omega) (by omega)
    have hw3 : Aside0 (wrap32 (s + (n : Int) - s) = n) := ⟨by rw [show s + (n : Int) - s = n from by omega]; exact Small.w32 _ (by omega) (by omega)⟩
    refine ⟨((negS v n).1, true), lift _ ?_, Or.inl hr, fun z => by omega, fun _ => ⟨_, hu⟩, ⟨_, hu⟩⟩
    refine Ev.congr (f := fun k => (resource_negativeScaleInt64.f k v n).bind fun bt202 => some (bt202.1, true)) (fun k => ?_) (Ev.bind (neg_scale v ⟨by omega, hv.2⟩ n (by omega)) (Ev.now _))
    unfold resource_int64Amount_AsScaledInt64.f
    rw [if_pos h, hw3.out]
  · obtain ⟨n, hn⟩ := Int.eq_ofNat_of_zero_le (show 0 ≤ s - c by omega)
    obtain rfl : s = c + n := by omega
    obtain ⟨r, ht, er⟩ := pos_scale v ⟨by omega, hv.2⟩ n (by omega)
    have hw3 : Aside0 (wrap32 (c + (n : Int) - c) = n) := ⟨by rw [show c + (n : Int) - c = n from by omega]; exact Small.w32 _ (by omega) (by omega)⟩
    have hu := up_exact v (c + n) c (by
      by_cases z : v = 0
      · exact Or.inl z
      · refine Or.inr ?_
        rcases canon_split v (c + n) with ⟨z', _⟩ | ⟨neg, D, E, _, hcs, _, h0, _⟩
        · exact absurd z' z
        · rw [hcs]; simp only; omega)
    refine ⟨r, lift _ ?_, ?_, fun z => ?_, fun hr => ⟨true, ?_⟩, ⟨_, hu⟩⟩
    · refine Ev.congr (f := fun k => (resource_positiveScaleInt64.f k v n).bind fun bt204 => some (bt204.1, bt204.2)) (fun k => ?_) (Ev.bind er (Ev.now _))
      unfold resource_int64Amount_AsScaledInt64.f
      rw [if_neg h, hw3.out]
    · cases hr : r.2
      · exact Or.inr rfl
      · exact Or.inl (by rw [ht.2 hr]; exact ht.1.1 hr)
    · obtain rfl : n = 0 := by omega
      have h2 : r.2 = true := ht.1.2 (by simp; omega)
      have h1 := ht.2 h2
      rw [Int.pow_zero, Int.mul_one] at h1
      exact Prod.ext h1 h2
    · have : canon r.1 c = canon v (c + n) := by rw [ht.2 hr, canon_pow]
      rw [this]; exact hu

theorem as_j1 (v s : Int) (hv : -9223372036854775808 < v ∧ v ≤ 9223372036854775807) (hs : -500 ≤ s ∧ s ≤ 500) : Ev (fun k => laws_FnAmountScaled.j1 k false v s) true := by
  obtain ⟨r, h1, _, h3, _⟩ := scaled_ev v s s hv hs hs
  have h3 := h3 rfl
  subst h3
  refine Ev.step (f := fun k => (impl_AmountScaled.f k v s s).bind fun bt255 => (if bt255.2 = true then (if bt255.1 = v then ((laws_amountAwake.f k).bind fun t257 => (some t257)) else (some false)) else (some false))) (fun k => ?_) (Ev.bind h1 ?_)
  · simp only [laws_FnAmountScaled.j1]; rw [if_neg (by simp)]
  · simp only [if_true]
    exact Ev.bind awake (Ev.now _)

theorem as_j0 (v s c : Int) (hv : -9223372036854775808 < v ∧ v ≤ 9223372036854775807) (hs : -500 ≤ s ∧ s ≤ 500) (hc : -500 ≤ c ∧ c ≤ 500) :
    Ev (fun k => laws_FnAmountScaled.j0 k c false v s (canon v s).1 (canon v s).2.1 (canon v s).2.2) true := by
  obtain ⟨r, h1, h2, _, h4, u, hu⟩ := scaled_ev v s c hv hs hc
  refine Ev.step (f := fun k => (impl_AmountScaled.f k v s c).bind fun bt240 => ((spec_DecimalUp.f k (canon v s).1 (canon v s).2.1 (canon v s).2.2 c).bind fun bt242 => (if bt240.2 = true then ((spec_DecimalOf.f k bt240.1 c).bind fun bt249 => ((spec_DecimalCmp.f k bt249.1 bt249.2.1 bt249.2.2 bt242.1 bt242.2.1 bt242.2.2.1).bind fun t254 => (laws_FnAmountScaled.j1 k (t254 != 0) v s))) else (laws_FnAmountScaled.j1 k false v s))))
    (fun k => ?_) (Ev.bind h1 ?_)
  · simp only [laws_FnAmountScaled.j0]; rw [if_neg (by simp)]
  · by_cases hr : r.2 = true
    · obtain ⟨b, hb⟩ := h4 hr
      have hrng : -9223372036854775808 ≤ r.1 ∧ r.1 ≤ 9223372036854775807 := h2.elim id (fun h => by rw [h] at hr; simp at hr)
      refine Ev.bind hb ?_
      simp only [hr, if_true]
      refine Ev.bind (of_ev r.1 c (by omega) (by omega) hrng) ?_
      have hl := (canon_room r.1 c 20 (by omega)).1
      refine Ev.bind (cmp_self _ _ _ (by omega)) ?_
      exact as_j1 v s hv hs
    · refine Ev.bind hu ?_
      simp only [hr]
      exact as_j1 v s hv hs

theorem as_true (v s c : Int) (n : Bool) (l : List Int) (e : Int) : laws_FnAmountScaled.j0 1 c true v s n l e = some true := by simp only [laws_FnAmountScaled.j0]; rw [if_pos trivial]
theorem as_true_ev (v s c : Int) (n : Bool) (l : List Int) (e : Int) : Ev (fun k => laws_FnAmountScaled.j0 k c true v s n l e) true :=
  ⟨1, fun k hk => by obtain ⟨k, rfl⟩ : ∃ m, k = m + 1 := ⟨k - 1, by omega⟩; simp only [laws_FnAmountScaled.j0]; rw [if_pos trivial]⟩

theorem FnAmountScaled : laws_FnAmountScaled.Pure := by
  intro v s c hv hs hc
  have hv := Small.wf64 hv
  have hs := Small.wf64 hs
  have hc := Small.wf64 hc
  have fin : ∀ r, Ev (fun k => laws_FnAmountScaled.f k v s c) r → r = true → ∃ k, laws_FnAmountScaled.f k v s c = some true := by
    intro r h e; subst e; exact h.rounds
  obtain ⟨q, hq⟩ := of_total v s hv
  refine (Ev.bind (f := fun k bt233 => (if bt233.2.2.2 = true then (if c < (-500) then (laws_FnAmountScaled.j0 k c true v s bt233.1 bt233.2.1 bt233.2.2.1) else (if c > 500 then (laws_FnAmountScaled.j0 k c true v s bt233.1 bt233.2.1 bt233.2.2.1) else (laws_FnAmountScaled.j0 k c (v == (-9223372036854775808)) v s bt233.1 bt233.2.1 bt233.2.2.1))) else (laws_FnAmountScaled.j0 k c true v s bt233.1 bt233.2.1 bt233.2.2.1))) (a := (q.1, q.2.1, q.2.2, decide (-500 ≤ s ∧ s ≤ 500))) (g := fun k => laws_amountOf.f k v s) ?_ ?_).rounds
  · refine Ev.bind hq ?_
    by_cases h1 : s ≥ -500
    · rw [if_pos h1]
      have : decide (s ≤ 500) = decide (-500 ≤ s ∧ s ≤ 500) := by rw [Bool.eq_iff_iff]; simp only [decide_eq_true_eq]; omega
      rw [this]; exact Ev.now _
    · rw [if_neg h1, decide_eq_false (show ¬ (-500 ≤ s ∧ s ≤ 500) by omega)]; exact Ev.now _
  · by_cases h1 : -500 ≤ s ∧ s ≤ 500
    · rw [decide_eq_true h1]
      refine Evs.yes rfl ?_
      by_cases h2 : c < -500
      · exact Evs.yes h2 (as_true_ev ..)
      · refine Evs.no h2 ?_
        by_cases h3 : c > 500
        · exact Evs.yes h3 (as_true_ev ..)
        · refine Evs.no h3 ?_
          by_cases h4 : v = -9223372036854775808
          · rw [beq_iff_eq.2 h4]; exact as_true_ev ..
          · rw [beq_eq_false_iff_ne.2 h4]
            have hq' : q = canon v s := Evs.uniq hq (of_ev v s (by omega) (by omega) hv)
            rw [hq']
            exact as_j0 v s c ⟨by omega, hv.2⟩ h1 (by omega)
    · rw [decide_eq_false h1]; exact Evs.no (by simp) (as_true_ev ..)

end Go.Proofs.Ytihbljdghmfidaa.Pure
