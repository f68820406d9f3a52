/- Numbers by a hundred: what the two-word arithmetic makes of a product divided by one hundred, rounded down or up. -/
import Derived.Laws.FloatArith
set_option linter.unusedVariables false
set_option linter.unusedSimpArgs false
namespace Go.Proofs.YtihlmkgffifknaaDoor.Fl
open Go Ieee

theorem shl1 (d : Nat) : (1 : Nat) <<< d = 2 ^ d := by rw [Nat.shiftLeft_eq, Nat.one_mul]
theorem log_lo {n : Nat} (h : n ≠ 0) : 2 ^ n.log2 ≤ n := Nat.log2_self_le h
theorem log_hi (n : Nat) : n < 2 ^ (n.log2 + 1) := Nat.lt_log2_self
theorem log_eq {n e : Nat} (h0 : 2 ^ e ≤ n) (h1 : n < 2 ^ (e + 1)) : n.log2 = e := by
  have hn : n ≠ 0 := by
    intro h; subst h
    have := Nat.two_pow_pos e
    omega
  exact (Nat.log2_eq_iff hn).2 ⟨h0, h1⟩

/-- Cut at no digit. -/
theorem cut0 (w : Toward) (s : Bool) (n : Nat) : w.cut s n 0 = n := by
  unfold Toward.cut
  simp only [Nat.zero_min, Nat.shiftLeft_zero, Nat.div_one, Nat.mod_one]
  cases w <;> simp
/-- Cut where nothing is left over. -/
theorem cut_exact (w : Toward) (s : Bool) (k d : Nat) (hk : k ≠ 0) : w.cut s (k * 2 ^ d) d = k := by
  have hp := Nat.two_pow_pos d
  have hl : d ≤ (k * 2 ^ d).log2 := by
    rcases Nat.lt_or_ge (k * 2 ^ d).log2 d with h | h
    · have h2 := log_hi (k * 2 ^ d)
      have h3 : 2 ^ ((k * 2 ^ d).log2 + 1) ≤ 2 ^ d := Nat.pow_le_pow_right (by omega) h
      have h4 : 2 ^ d ≤ k * 2 ^ d := Nat.le_mul_of_pos_left _ (by omega)
      omega
    · exact h
  unfold Toward.cut
  simp only
  rw [Nat.min_eq_left (by omega), shl1, Nat.mul_mod_left, Nat.mul_div_cancel _ hp]
  cases w <;> simp
/-- Cut to the nearest: within half a unit. -/
theorem cut_even (s : Bool) (n d : Nat) (hd : d ≤ n.log2 + 2) : ∃ k, Toward.even.cut s n d = k ∧ 2 * n ≤ 2 * (k * 2 ^ d) + 2 ^ d ∧ 2 * (k * 2 ^ d) ≤ 2 * n + 2 ^ d := by
  refine ⟨_, rfl, ?_⟩
  unfold Toward.cut
  simp only
  rw [Nat.min_eq_left hd, shl1]
  have hp := Nat.two_pow_pos d
  have hm := Nat.mod_lt n hp
  have he := Nat.div_add_mod n (2 ^ d)
  rw [Nat.mul_comm] at he
  generalize n / 2 ^ d = q at he ⊢
  generalize n % 2 ^ d = r at he hm ⊢
  generalize 2 ^ d = g at *
  by_cases h1 : g < 2 * r
  · rw [decide_eq_true h1]
    simp only [Bool.true_or, Bool.toNat_true, Nat.add_mul, Nat.one_mul]
    omega
  · rw [decide_eq_false h1]
    by_cases h2 : g = 2 * r
    · have : (g == 2 * r) = true := by simp [h2]
      rw [this]
      simp only [Bool.false_or, Bool.true_and]
      by_cases h3 : q % 2 = 1
      · simp only [h3, beq_self_eq_true, Bool.toNat_true, Nat.add_mul, Nat.one_mul]
        omega
      · have : (q % 2 == 1) = false := by simp [h3]
        rw [this]
        simp only [Bool.toNat_false, Nat.add_zero]
        omega
    · have : (g == 2 * r) = false := by simp [h2]
      rw [this]
      simp only [Bool.false_or, Bool.false_and, Bool.toNat_false, Nat.add_zero]
      omega
/-- Cut down and up, however many digits. -/
theorem cut_way (s : Bool) (n d : Nat) : Toward.down.cut s n d = n / 2 ^ d + (s && n % 2 ^ d != 0).toNat ∧ Toward.up.cut s n d = n / 2 ^ d + (!s && n % 2 ^ d != 0).toNat ∧ Toward.zero.cut s n d = n / 2 ^ d := by
  have key : n / 1 <<< min d (n.log2 + 2) = n / 2 ^ d ∧ n % 1 <<< min d (n.log2 + 2) = n % 2 ^ d := by
    rcases Nat.lt_or_ge (n.log2 + 2) d with h | h
    · have h2 := log_hi n
      have h3 : 2 ^ (n.log2 + 1) ≤ 2 ^ d := Nat.pow_le_pow_right (by omega) (by omega)
      have h4 : 2 ^ (n.log2 + 1) ≤ 2 ^ (n.log2 + 2) := Nat.pow_le_pow_right (by omega) (by omega)
      rw [Nat.min_eq_right (by omega), shl1, Nat.div_eq_of_lt (by omega), Nat.mod_eq_of_lt (by omega), Nat.div_eq_of_lt (by omega), Nat.mod_eq_of_lt (by omega)]
      exact ⟨rfl, rfl⟩
    · rw [Nat.min_eq_left h, shl1]
      exact ⟨rfl, rfl⟩
  unfold Toward.cut
  simp only
  rw [key.1, key.2]
  refine ⟨rfl, rfl, ?_⟩
  simp

/-! ### words -/
theorem weight : double.signWeight = 9223372036854775808 := by rfl
theorem inf_r : double.infRung = 9218868437227405312 := by rfl
theorem bin : double.binade = 4503599627370496 := by rfl
theorem least : double.leastPlace = -1074 := by rfl

theorem sign_back (s : Bool) (r : Nat) (h : r < double.signWeight) : double.word s r / double.signWeight % 2 = s.toNat ∧ double.word s r % double.signWeight = r := by
  rw [weight] at *
  unfold Format.word
  rw [weight]
  cases s
  · simp only [Bool.false_eq_true, if_false, Bool.toNat_false]; omega
  · simp only [if_true, Bool.toNat_true]; omega
theorem read_zero (s : Bool) : double.read (double.word s 0) = .number s 0 (-1074) := by
  obtain ⟨h1, h2⟩ := sign_back s 0 (by rw [weight]; omega)
  unfold Format.read
  simp only
  rw [h1, h2, if_pos (by rw [bin]; omega), least]
  cases s <;> rfl
/-- A normal number, read back. -/
theorem read_norm (s : Bool) (e k : Nat) (h0 : 4503599627370496 ≤ k) (h1 : k < 9007199254740992) (he : e ≤ 2000) : double.read (double.word s (e * 4503599627370496 + k)) = .number s k (-1074 + (e : Int)) := by
  obtain ⟨g1, g2⟩ := sign_back s (e * 4503599627370496 + k) (by rw [weight]; omega)
  unfold Format.read
  simp only
  rw [g1, g2, bin, inf_r, if_neg (by omega), if_pos (by omega), least]
  have e1 : (e * 4503599627370496 + k) % 4503599627370496 = k - 4503599627370496 := by omega
  have e2 : (e * 4503599627370496 + k) / 4503599627370496 = e + 1 := by omega
  rw [e1, e2]
  have e3 : 4503599627370496 + (k - 4503599627370496) = k := by omega
  rw [e3]
  have e4 : (-1074 : Int) + ((e + 1 - 1 : Nat) : Int) = -1074 + (e : Int) := by omega
  rw [e4]
  cases s <;> rfl
/-- The word nearest to a number is never a NaN. -/
theorem read_near (s : Bool) (m : Nat) (p : Int) : ∃ s', (∃ m' p', double.read (double.nearest s m p) = .number s' m' p') ∨ double.read (double.nearest s m p) = .infinity s' := by
  have key : ∀ r, r ≤ double.infRung → ∃ s', (∃ m' p', double.read (double.word s r) = .number s' m' p') ∨ double.read (double.word s r) = .infinity s' := by
    intro r hr
    have hr' := hr
    rw [inf_r] at hr'
    obtain ⟨g1, g2⟩ := sign_back s r (by rw [weight]; omega)
    unfold Format.read
    simp only
    rw [g1, g2]
    by_cases h1 : r < double.binade
    · rw [if_pos h1]; exact ⟨_, Or.inl ⟨_, _, rfl⟩⟩
    · rw [if_neg h1]
      by_cases h2 : r < double.infRung
      · rw [if_pos h2]; exact ⟨_, Or.inl ⟨_, _, rfl⟩⟩
      · rw [if_neg h2, if_pos (by omega)]; exact ⟨_, Or.inr rfl⟩
  unfold Format.nearest
  simp only
  split
  · exact key _ (Nat.zero_le _)
  · exact key _ (Nat.min_le_right ..)

/-- A whole number of at most 53 digits, as it is kept. -/
def canon (s : Bool) (P : Nat) : Datum := .number s (P * 2 ^ (52 - P.log2)) ((P.log2 : Int) - 52)
theorem canon_lo {P : Nat} (h : P ≠ 0) (h1 : P < 9007199254740992) : P.log2 ≤ 52 ∧ 4503599627370496 ≤ P * 2 ^ (52 - P.log2) ∧ P * 2 ^ (52 - P.log2) < 9007199254740992 := by
  have hl : P.log2 ≤ 52 := by
    rcases Nat.lt_or_ge 52 P.log2 with h2 | h2
    · have := log_lo h
      have h3 : 2 ^ 53 ≤ 2 ^ P.log2 := Nat.pow_le_pow_right (by omega) h2
      omega
    · exact h2
  have a1 := log_lo h
  have a2 := log_hi P
  have e1 : 2 ^ P.log2 * 2 ^ (52 - P.log2) = 4503599627370496 := by rw [← Nat.pow_add, show P.log2 + (52 - P.log2) = 52 by omega]
  have e2 : 2 ^ (P.log2 + 1) * 2 ^ (52 - P.log2) = 9007199254740992 := by rw [← Nat.pow_add, show P.log2 + 1 + (52 - P.log2) = 53 by omega]
  have b1 := Nat.mul_le_mul_right (2 ^ (52 - P.log2)) a1
  have b2 := Nat.mul_lt_mul_of_pos_right a2 (Nat.two_pow_pos (52 - P.log2))
  exact ⟨hl, by omega, by omega⟩
theorem log_shift {P : Nat} (h : P ≠ 0) (c : Nat) : (P * 2 ^ c).log2 = P.log2 + c := by
  refine log_eq ?_ ?_
  · rw [Nat.pow_add]; exact Nat.mul_le_mul_right _ (log_lo h)
  · rw [show P.log2 + c + 1 = P.log2 + 1 + c by omega, Nat.pow_add]
    exact Nat.mul_lt_mul_of_pos_right (log_hi P) (Nat.two_pow_pos c)
/-- Such a number, written in whatever way, is read as it is kept. -/
theorem read_whole (s : Bool) (P c : Nat) (h : P ≠ 0) (h1 : P < 9007199254740992) : double.read (double.nearest s (P * 2 ^ c) (-(c : Int))) = canon s P := by
  obtain ⟨hl, h2, h3⟩ := canon_lo h h1
  have hz : P * 2 ^ c ≠ 0 := Nat.mul_ne_zero h (Nat.ne_of_gt (Nat.two_pow_pos c))
  unfold Format.nearest
  simp only
  rw [if_neg hz, log_shift h, least]
  have el : max (-(c : Int) + ((P.log2 + c : Nat) : Int) - (double.fractionBits : Nat)) (-1074) = (P.log2 : Int) - 52 := by
    show max (-(c : Int) + ((P.log2 + c : Nat) : Int) - ((52 : Nat) : Int)) (-1074) = _
    omega
  rw [el]
  have kept : Toward.even.cut s ((P * 2 ^ c) <<< (-(c : Int) - ((P.log2 : Int) - 52)).toNat) ((P.log2 : Int) - 52 - -(c : Int)).toNat = P * 2 ^ (52 - P.log2) := by
    rcases Nat.lt_or_ge (52 - P.log2) c with hc | hc
    · have a1 : (-(c : Int) - ((P.log2 : Int) - 52)).toNat = 0 := by omega
      have a2 : ((P.log2 : Int) - 52 - -(c : Int)).toNat = c - (52 - P.log2) := by omega
      have a3 : P * 2 ^ c = P * 2 ^ (52 - P.log2) * 2 ^ (c - (52 - P.log2)) := by
        rw [Nat.mul_assoc, ← Nat.pow_add, show 52 - P.log2 + (c - (52 - P.log2)) = c by omega]
      rw [a1, a2, Nat.shiftLeft_zero, a3]
      exact cut_exact _ _ _ _ (by omega)
    · have a1 : (-(c : Int) - ((P.log2 : Int) - 52)).toNat = 52 - P.log2 - c := by omega
      have a2 : ((P.log2 : Int) - 52 - -(c : Int)).toNat = 0 := by omega
      rw [a1, a2, cut0, Nat.shiftLeft_eq, Nat.mul_assoc, ← Nat.pow_add, show c + (52 - P.log2 - c) = 52 - P.log2 by omega]
  rw [kept, bin, inf_r]
  have e1 : ((P.log2 : Int) - 52 - -1074).toNat = P.log2 + 1022 := by omega
  rw [e1, Nat.min_eq_left (by omega), read_norm s _ _ h2 h3 (by omega)]
  rw [show (-1074 : Int) + ((P.log2 + 1022 : Nat) : Int) = (P.log2 : Int) - 52 by omega]
  rfl

/-! ### by a hundred -/
theorem rung_small (e : Nat) (h : e ≤ 2000) : e * 4503599627370496 + 4503599627370496 ≤ 9218868437227405312 := by omega
theorem log_100 : (100 * 2 ^ (52 - Nat.log2 100) : Nat).log2 = 52 := by decide +kernel
theorem canon_100 : canon false 100 = .number false 7036874417766400 (-46) := by decide +kernel
theorem read_div (s : Bool) (P : Nat) (h : P ≠ 0) (h1 : P < 9007199254740992) : ∃ K E : Nat, (Datum.quotient 54 (canon s P) (canon false 100)).map double.write ≠ none ∧
    (∀ r, (Datum.quotient 54 (canon s P) (canon false 100)).map double.write = some r → double.read r = .number s K (-(E : Int))) ∧
    (P % 100 = 0 → K = (P / 100) * 2 ^ E) ∧ (P % 100 ≠ 0 → (P / 100) * 2 ^ E < K ∧ K < (P / 100 + 1) * 2 ^ E) := by
  obtain ⟨hl, h2, h3⟩ := canon_lo h h1
  rw [canon_100]
  unfold canon
  have lm : (P * 2 ^ (52 - P.log2)).log2 = 52 := log_eq (e := 52) h2 h3
  have ln : (7036874417766400 : Nat).log2 = 52 := by decide +kernel
  simp only [Datum.quotient]
  rw [if_neg (by omega), lm, ln]
  generalize hU : 2 ^ (52 - P.log2) = U at *
  have hU1 : 1 ≤ U := hU ▸ Nat.two_pow_pos _
  -- P in hundreds
  have hP := Nat.div_add_mod P 100
  have hb := Nat.mod_lt P (show 0 < 100 by omega)
  generalize P / 100 = a at *
  generalize P % 100 = b at *
  have hm : P * U = 100 * (a * U) + b * U := by rw [← hP, Nat.add_mul, Nat.mul_assoc]
  have hB0 : b = 0 → b * U = 0 := fun e => by rw [e, Nat.zero_mul]
  have hB1 : b ≠ 0 → U ≤ b * U := fun e => Nat.le_mul_of_pos_left _ (by omega)
  have hB2 : b * U ≤ 99 * U := Nat.mul_le_mul_right _ (by omega)
  rw [Nat.shiftLeft_eq, show 54 + 52 - 52 = 54 by rfl, show (2 : Nat) ^ 54 = 18014398509481984 by rfl]
  generalize hA : a * U = A at *
  generalize b * U = B at *
  rw [hm]
  have hq : (100 * A + B) * 18014398509481984 / 7036874417766400 = (100 * A + B) * 256 / 100 := by omega
  have hr : ((100 * A + B) * 18014398509481984 % 7036874417766400 != 0) = ((100 * A + B) * 256 % 100 != 0) := by
    rw [Bool.eq_iff_iff]
    simp only [bne_iff_ne]
    omega
  rw [hq, hr]
  have hf : ((100 * A + B) * 256 % 100 = 0 ∧ ((100 * A + B) * 256 % 100 != 0).toNat = 0) ∨ ((100 * A + B) * 256 % 100 ≠ 0 ∧ ((100 * A + B) * 256 % 100 != 0).toNat = 1) := by
    by_cases e : (100 * A + B) * 256 % 100 = 0
    · exact Or.inl ⟨e, by simp [e]⟩
    · exact Or.inr ⟨e, by simp [e]⟩
  generalize ((100 * A + B) * 256 % 100 != 0).toNat = f at hf ⊢
  generalize hM : 2 * ((100 * A + B) * 256 / 100) + f = M
  -- the word
  have hb1 : 18014398509481984 ≤ M := by omega
  have hb2 : M < 72057594037927936 := by omega
  have hMz : M ≠ 0 := by omega
  have key : ∃ K E : Nat, double.read (double.nearest s M ((P.log2 : Int) - 52 - -46 - ((54 : Nat) : Int) - 1)) = .number s K (-(E : Int)) ∧
      ∃ g : Nat, 2 ^ E = g * U ∧ (b = 0 → K = g * A) ∧ (b ≠ 0 → g * A < K ∧ K < g * A + g * U) := by
    unfold Format.nearest
    simp only
    rw [if_neg hMz, least]
    rcases Nat.lt_or_ge M 36028797018963968 with hc | hc
    · have lM : M.log2 = 54 := log_eq (e := 54) hb1 hc
      rw [lM]
      have el : max ((P.log2 : Int) - 52 - -46 - ((54 : Nat) : Int) - 1 + ((54 : Nat) : Int) - ((double.fractionBits : Nat) : Int)) (-1074) = (P.log2 : Int) - 59 := by
        show max ((P.log2 : Int) - 52 - -46 - ((54 : Nat) : Int) - 1 + ((54 : Nat) : Int) - ((52 : Nat) : Int)) (-1074) = _
        omega
      rw [el]
      have a1 : ((P.log2 : Int) - 52 - -46 - ((54 : Nat) : Int) - 1 - ((P.log2 : Int) - 59)).toNat = 0 := by omega
      have a2 : ((P.log2 : Int) - 59 - ((P.log2 : Int) - 52 - -46 - ((54 : Nat) : Int) - 1)).toNat = 2 := by omega
      rw [a1, a2, Nat.shiftLeft_zero, bin, inf_r]
      obtain ⟨k, hk, k1, k2⟩ := cut_even s M 2 (by omega)
      rw [hk]
      have e1 : ((P.log2 : Int) - 59 - -1074).toNat = P.log2 + 1015 := by omega
      rw [e1]
      rw [show (2 : Nat) ^ 2 = 4 by rfl] at k1 k2
      by_cases hkk : k < 9007199254740992
      · rw [Nat.min_eq_left (by omega), read_norm s _ k (by omega) hkk (by omega)]
        refine ⟨k, 59 - P.log2, by rw [show (-1074 : Int) + ((P.log2 + 1015 : Nat) : Int) = -((59 - P.log2 : Nat) : Int) by omega], 128, ?_, ?_, ?_⟩
        · rw [← hU, show 59 - P.log2 = 7 + (52 - P.log2) by omega, Nat.pow_add]
        · intro e; have := hB0 e; omega
        · intro e; have := hB1 e; omega
      · have hke : k = 9007199254740992 := by omega
        subst hke
        have hbig := read_norm s (P.log2 + 1016) 4503599627370496 (Nat.le_refl _) (by decide) (by omega)
        have hsum : (P.log2 + 1015) * 4503599627370496 + 9007199254740992 = (P.log2 + 1016) * 4503599627370496 + 4503599627370496 := by omega
        have hle : (P.log2 + 1016) * 4503599627370496 + 4503599627370496 ≤ 9218868437227405312 := rung_small _ (by omega)
        rw [hsum, Nat.min_eq_left hle, hbig]
        refine ⟨_, 58 - P.log2, by rw [show (-1074 : Int) + ((P.log2 + 1016 : Nat) : Int) = -((58 - P.log2 : Nat) : Int) by omega], 64, ?_, ?_, ?_⟩
        · rw [← hU, show 58 - P.log2 = 6 + (52 - P.log2) by omega, Nat.pow_add]
        · intro e; have := hB0 e; omega
        · intro e; have := hB1 e; omega
    · have lM : M.log2 = 55 := log_eq (e := 55) hc hb2
      rw [lM]
      have el : max ((P.log2 : Int) - 52 - -46 - ((54 : Nat) : Int) - 1 + ((55 : Nat) : Int) - ((double.fractionBits : Nat) : Int)) (-1074) = (P.log2 : Int) - 58 := by
        show max ((P.log2 : Int) - 52 - -46 - ((54 : Nat) : Int) - 1 + ((55 : Nat) : Int) - ((52 : Nat) : Int)) (-1074) = _
        omega
      rw [el]
      have a1 : ((P.log2 : Int) - 52 - -46 - ((54 : Nat) : Int) - 1 - ((P.log2 : Int) - 58)).toNat = 0 := by omega
      have a2 : ((P.log2 : Int) - 58 - ((P.log2 : Int) - 52 - -46 - ((54 : Nat) : Int) - 1)).toNat = 3 := by omega
      rw [a1, a2, Nat.shiftLeft_zero, bin, inf_r]
      obtain ⟨k, hk, k1, k2⟩ := cut_even s M 3 (by omega)
      rw [hk]
      have e1 : ((P.log2 : Int) - 58 - -1074).toNat = P.log2 + 1016 := by omega
      rw [e1]
      rw [show (2 : Nat) ^ 3 = 8 by rfl] at k1 k2
      by_cases hkk : k < 9007199254740992
      · rw [Nat.min_eq_left (by omega), read_norm s _ k (by omega) hkk (by omega)]
        refine ⟨k, 58 - P.log2, by rw [show (-1074 : Int) + ((P.log2 + 1016 : Nat) : Int) = -((58 - P.log2 : Nat) : Int) by omega], 64, ?_, ?_, ?_⟩
        · rw [← hU, show 58 - P.log2 = 6 + (52 - P.log2) by omega, Nat.pow_add]
        · intro e; have := hB0 e; omega
        · intro e; have := hB1 e; omega
      · have hke : k = 9007199254740992 := by omega
        subst hke
        have hbig := read_norm s (P.log2 + 1017) 4503599627370496 (Nat.le_refl _) (by decide) (by omega)
        have hsum : (P.log2 + 1016) * 4503599627370496 + 9007199254740992 = (P.log2 + 1017) * 4503599627370496 + 4503599627370496 := by omega
        have hle : (P.log2 + 1017) * 4503599627370496 + 4503599627370496 ≤ 9218868437227405312 := rung_small _ (by omega)
        rw [hsum, Nat.min_eq_left hle, hbig]
        refine ⟨_, 57 - P.log2, by rw [show (-1074 : Int) + ((P.log2 + 1017 : Nat) : Int) = -((57 - P.log2 : Nat) : Int) by omega], 32, ?_, ?_, ?_⟩
        · rw [← hU, show 57 - P.log2 = 5 + (52 - P.log2) by omega, Nat.pow_add]
        · intro e; have := hB0 e; omega
        · intro e; have := hB1 e; omega
  obtain ⟨K, E, hR, g, hg, g0, g1⟩ := key
  have hs : (s ^^ false) = s := by cases s <;> rfl
  refine ⟨K, E, by simp, fun r hr => ?_, fun e => ?_, fun e => ?_⟩
  · simp only [Option.map_some, Option.some.injEq] at hr
    rw [← hr, hs]
    exact hR
  · rw [hg, g0 e, ← hA, Nat.mul_left_comm]
  · have := g1 e
    rw [hg, Nat.add_mul, Nat.one_mul, Nat.mul_left_comm, hA]
    exact this

/-- The whole number that is told in the end. -/
theorem toInt_whole (s : Bool) (W : Nat) (h : W < 9007199254740992) : (double.read (double.nearest s W 0)).toInt .zero = some (if s then -(W : Int) else (W : Int)) := by
  by_cases hz : W = 0
  · subst hz
    have : double.nearest s 0 0 = double.word s 0 := by unfold Format.nearest; simp only [if_true]
    rw [this, read_zero]
    simp only [Datum.toInt, Datum.integral, signed, (cut_way s _ _).2.2, Nat.zero_shiftLeft, Nat.zero_div]
  · have := read_whole s W 0 hz h
    rw [show W * 2 ^ 0 = W by simp, show (-((0 : Nat) : Int)) = 0 by rfl] at this
    obtain ⟨hl, _, _⟩ := canon_lo hz h
    rw [this]
    unfold canon
    simp only [Datum.toInt, Datum.integral, signed, (cut_way s _ _).2.2, Nat.shiftLeft_zero]
    have a1 : ((W.log2 : Int) - 52).toNat = 0 := by omega
    have a2 : (-((W.log2 : Int) - 52)).toNat = 52 - W.log2 := by omega
    rw [a1, a2, Nat.shiftLeft_zero, Nat.mul_div_cancel _ (Nat.two_pow_pos _)]

theorem mul_read (v t : Int) (h : v.natAbs * t.natAbs < 9007199254740992) (hv : v.natAbs < 9007199254740992) (ht : t.natAbs < 9007199254740992) :
    ∃ s r, floatBits .mul .f64 (FloatKind.f64.nearest v) (FloatKind.f64.nearest t) = some r ∧
      ((v * t = 0 ∧ ∃ e, double.read r = .number s 0 e) ∨ (v * t ≠ 0 ∧ double.read r = canon s (v * t).natAbs ∧ s = decide (v * t < 0))) := by
  have rd : ∀ x : Int, x.natAbs < 9007199254740992 → (x = 0 ∧ double.read (FloatKind.f64.nearest x) = .number false 0 (-1074)) ∨ (x ≠ 0 ∧ double.read (FloatKind.f64.nearest x) = canon (decide (x < 0)) x.natAbs) := by
    intro x hx
    by_cases hz : x = 0
    · subst hz; exact Or.inl ⟨rfl, by decide +kernel⟩
    · refine Or.inr ⟨hz, ?_⟩
      have := read_whole (decide (x < 0)) x.natAbs 0 (by omega) hx
      rw [show x.natAbs * 2 ^ 0 = x.natAbs by simp] at this
      exact this
  have near0 : ∀ s e, double.nearest s 0 e = double.word s 0 := fun s e => by unfold Format.nearest; simp only [if_true]
  unfold floatBits
  simp only
  show ∃ s r, double.mul _ _ = some r ∧ _
  unfold Format.mul
  rcases rd v hv with ⟨hz, e1⟩ | ⟨hz, e1⟩
  · rcases rd t ht with ⟨hy, e2⟩ | ⟨hy, e2⟩
    · rw [e1, e2]
      refine ⟨(false ^^ false), _, rfl, Or.inl ⟨by rw [hz, Int.zero_mul], -1074, ?_⟩⟩
      show double.read (double.nearest _ (0 * _) _) = _
      rw [Nat.zero_mul, near0]
      exact read_zero _
    · rw [e1, e2]
      refine ⟨(false ^^ decide (t < 0)), _, rfl, Or.inl ⟨by rw [hz, Int.zero_mul], -1074, ?_⟩⟩
      show double.read (double.nearest _ (0 * _) _) = _
      rw [Nat.zero_mul, near0]
      exact read_zero _
  · rcases rd t ht with ⟨hy, e2⟩ | ⟨hy, e2⟩
    · rw [e1, e2]
      refine ⟨(decide (v < 0) ^^ false), _, rfl, Or.inl ⟨by rw [hy, Int.mul_zero], -1074, ?_⟩⟩
      show double.read (double.nearest _ (_ * 0) _) = _
      rw [Nat.mul_zero, near0]
      exact read_zero _
    · rw [e1, e2]
      have hne : v * t ≠ 0 := Int.mul_ne_zero hz hy
      have hsg : (decide (v < 0) ^^ decide (t < 0)) = decide (v * t < 0) := by
        by_cases a : v < 0 <;> by_cases b : t < 0
        · have : 0 < v * t := Int.mul_pos_of_neg_of_neg a b
          simp [a, b]; omega
        · have : v * t < 0 := Int.mul_neg_of_neg_of_pos a (by omega)
          simp [a, b]; omega
        · have : v * t < 0 := Int.mul_neg_of_pos_of_neg (by omega) b
          simp [a, b]; omega
        · have : 0 < v * t := Int.mul_pos (by omega) (by omega)
          simp [a, b]; omega
      refine ⟨(decide (v < 0) ^^ decide (t < 0)), _, rfl, Or.inr ⟨hne, ?_, hsg⟩⟩
      show double.read (double.nearest _ (v.natAbs * 2 ^ (52 - v.natAbs.log2) * (t.natAbs * 2 ^ (52 - t.natAbs.log2))) ((v.natAbs.log2 : Int) - 52 + ((t.natAbs.log2 : Int) - 52))) = _
      have l1 := (canon_lo (P := v.natAbs) (by omega) hv).1
      have l2 := (canon_lo (P := t.natAbs) (by omega) ht).1
      have m1 : v.natAbs * 2 ^ (52 - v.natAbs.log2) * (t.natAbs * 2 ^ (52 - t.natAbs.log2)) = (v * t).natAbs * 2 ^ ((52 - v.natAbs.log2) + (52 - t.natAbs.log2)) := by
        rw [Int.natAbs_mul, Nat.pow_add, Nat.mul_mul_mul_comm]
      have m2 : (v.natAbs.log2 : Int) - 52 + ((t.natAbs.log2 : Int) - 52) = -(((52 - v.natAbs.log2) + (52 - t.natAbs.log2) : Nat) : Int) := by omega
      rw [m1, m2]
      exact read_whole _ _ _ (by omega) (by rw [Int.natAbs_mul]; exact h)

theorem bits_100 : double.read 4636737291354636288 = canon false 100 := by decide +kernel
theorem near_zero (s : Bool) (e : Int) : double.nearest s 0 e = double.word s 0 := by unfold Format.nearest; simp only [if_true]
theorem toInt_val (s : Bool) (W : Nat) (h : W < 9007199254740992) : floatToIntVal .f64 (FloatKind.f64.encode (.number s W 0)) .i64 = some (if s then -(W : Int) else (W : Int)) := by
  have := toInt_whole s W h
  unfold floatToIntVal
  show (match (double.read (double.nearest s W 0)).toInt .zero with | some n => _ | none => _) = _
  rw [this]
  have hb : IntKind.i64.min ≤ (if s then -(W : Int) else (W : Int)) ∧ (if s then -(W : Int) else (W : Int)) ≤ IntKind.i64.max := by
    show (-9223372036854775808 : Int) ≤ _ ∧ _ ≤ (9223372036854775807 : Int)
    cases s
    · simp only [Bool.false_eq_true, if_false]; omega
    · simp only [if_true]; omega
  simp only
  rw [if_pos hb]
theorem part_small (v t : Int) (h : (v * t).natAbs < 9007199254740992) (hv : v.natAbs < 9007199254740992) (ht : t.natAbs < 9007199254740992) (r q : Nat)
    (hm : floatBits .mul .f64 (floatOfInt .f64 v) (floatOfInt .f64 t) = some r) (hq : floatBits .quo .f64 r 4636737291354636288 = some q) :
    floatToIntVal .f64 (FloatKind.f64.encode ((FloatKind.f64.decode q).integral .down)) .i64 = some ((v * t) / 100) ∧
    floatToIntVal .f64 (FloatKind.f64.encode ((FloatKind.f64.decode q).integral .up)) .i64 = some (-((-(v * t)) / 100)) := by
  rw [Int.natAbs_mul] at h
  obtain ⟨s, r', hm', hc⟩ := mul_read v t h hv ht
  have hr : r' = r := by
    have e := hm'.symm.trans hm
    exact Option.some.inj e
  subst hr
  have hq' : ((double.read r').quotient 54 (double.read 4636737291354636288)).map double.write = some q := hq
  rw [bits_100] at hq'
  rcases hc with ⟨hz, e, he⟩ | ⟨hz, he, hs⟩
  · rw [he, canon_100] at hq'
    simp only [Datum.quotient] at hq'
    rw [if_neg (by omega), Nat.zero_shiftLeft, Nat.zero_div, Nat.zero_mod] at hq'
    simp only [Option.map_some, Option.some.injEq] at hq'
    have hd : FloatKind.f64.decode q = .number (s ^^ false) 0 (-1074) := by
      show double.read q = _
      rw [← hq']
      show double.read (double.nearest _ 0 _) = _
      rw [near_zero, read_zero]
    have iz : ∀ way : Toward, way.cut (s ^^ false) 0 1074 = 0 := fun way => by cases way <;> cases s <;> decide +kernel
    rw [hd, hz]
    constructor
    · show floatToIntVal .f64 (FloatKind.f64.encode (.number (s ^^ false) (Toward.down.cut (s ^^ false) 0 1074) 0)) .i64 = _
      rw [iz, toInt_val _ 0 (by omega)]
      cases s <;> rfl
    · show floatToIntVal .f64 (FloatKind.f64.encode (.number (s ^^ false) (Toward.up.cut (s ^^ false) 0 1074) 0)) .i64 = _
      rw [iz, toInt_val _ 0 (by omega)]
      cases s <;> rfl
  · have hP : (v * t).natAbs ≠ 0 := by omega
    have hP2 : (v * t).natAbs < 9007199254740992 := by rw [Int.natAbs_mul]; exact h
    rw [he] at hq'
    obtain ⟨K, E, _, h2, h3, h4⟩ := read_div s _ hP hP2
    have hd : FloatKind.f64.decode q = .number s K (-(E : Int)) := h2 q hq'
    clear h2 hq' he hm hq hm'
    generalize v * t = x at *
    have hw : ∀ way : Toward, (FloatKind.f64.decode q).integral way = .number s (way.cut s K E) 0 := fun way => by
      rw [hd]
      simp only [Datum.integral]
      have a1 : (-(E : Int)).toNat = 0 := by omega
      have a2 : (- -(E : Int)).toNat = E := by omega
      rw [a1, a2, Nat.shiftLeft_zero]
    obtain ⟨w1, w2, _⟩ := cut_way s K E
    have hpos := Nat.two_pow_pos E
    have hKd : K / 2 ^ E = x.natAbs / 100 ∧ ((K % 2 ^ E != 0) = (x.natAbs % 100 != 0)) := by
      by_cases hm0 : x.natAbs % 100 = 0
      · rw [h3 hm0, Nat.mul_div_cancel _ hpos, Nat.mul_mod_left, hm0]
        exact ⟨rfl, rfl⟩
      · obtain ⟨l1, l2⟩ := h4 hm0
        have hdiv : K / 2 ^ E = x.natAbs / 100 := by
          refine Nat.div_eq_of_lt_le (Nat.le_of_lt l1) l2
        refine ⟨hdiv, ?_⟩
        have hmod : K % 2 ^ E ≠ 0 := by
          intro e0
          have := Nat.div_add_mod K (2 ^ E)
          rw [e0, hdiv, Nat.add_zero, Nat.mul_comm] at this
          omega
        rw [bne_iff_ne.2 hmod, bne_iff_ne.2 hm0]
    rw [hw, hw, w1, w2, hKd.1, hKd.2]
    have b1 : (s && x.natAbs % 100 != 0).toNat ≤ 1 := Bool.toNat_le _
    have b2 : (!s && x.natAbs % 100 != 0).toNat ≤ 1 := Bool.toNat_le _
    rw [toInt_val _ _ (by omega), toInt_val _ _ (by omega), hs]
    by_cases hx : x < 0
    · rw [decide_eq_true hx]
      simp only [if_true, Bool.true_and, Bool.not_true, Bool.false_and, Bool.toNat_false, Nat.add_zero]
      by_cases hm0 : x.natAbs % 100 = 0
      · have : (x.natAbs % 100 != 0) = false := by simp [hm0]
        rw [this]
        simp only [Bool.toNat_false]
        constructor <;> congr 1 <;> omega
      · rw [bne_iff_ne.2 hm0]
        simp only [Bool.toNat_true]
        constructor <;> congr 1 <;> omega
    · rw [decide_eq_false hx]
      simp only [Bool.false_eq_true, if_false, Bool.true_and, Bool.not_false, Bool.false_and, Bool.toNat_false, Nat.add_zero]
      by_cases hm0 : x.natAbs % 100 = 0
      · have : (x.natAbs % 100 != 0) = false := by simp [hm0]
        rw [this]
        simp only [Bool.toNat_false]
        constructor <;> congr 1 <;> omega
      · rw [bne_iff_ne.2 hm0]
        simp only [Bool.toNat_true]
        constructor <;> congr 1 <;> omega

theorem read_fin (s : Bool) (r : Nat) (hr : r < double.infRung) : ∃ m p, double.read (double.word s r) = .number s m p := by
  have hr' := hr
  rw [inf_r] at hr'
  obtain ⟨g1, g2⟩ := sign_back s r (by rw [weight]; omega)
  unfold Format.read
  simp only
  rw [g1, g2]
  have e : (s.toNat == 1) = s := by cases s <;> rfl
  rw [e]
  by_cases h1 : r < double.binade
  · rw [if_pos h1]; exact ⟨_, _, rfl⟩
  · rw [if_neg h1, if_pos hr]; exact ⟨_, _, rfl⟩
theorem read_int (x : Int) (hx : x.natAbs ≤ 9223372036854775808) : ∃ s m p, double.read (floatOfInt .f64 x) = .number s m p := by
  show ∃ s m p, double.read (double.nearest (decide (x < 0)) x.natAbs 0) = .number s m p
  generalize decide (x < 0) = s
  generalize x.natAbs = n at *
  by_cases hz : n = 0
  · subst hz; rw [near_zero, read_zero]; exact ⟨_, _, _, rfl⟩
  · by_cases hn : n < 9007199254740992
    · have := read_whole s n 0 hz hn
      rw [show n * 2 ^ 0 = n by simp, show (-((0 : Nat) : Int)) = 0 by rfl] at this
      rw [this]; exact ⟨_, _, _, rfl⟩
    · have l0 := log_lo hz
      have l1 := log_hi n
      have k0 : 53 ≤ n.log2 := by
        rcases Nat.lt_or_ge n.log2 53 with h | h
        · have : 2 ^ (n.log2 + 1) ≤ 2 ^ 53 := Nat.pow_le_pow_right (by omega) (by omega)
          omega
        · exact h
      have k1 : n.log2 ≤ 63 := by
        rcases Nat.lt_or_ge 63 n.log2 with h | h
        · have : 2 ^ 64 ≤ 2 ^ n.log2 := Nat.pow_le_pow_right (by omega) (by omega)
          omega
        · exact h
      unfold Format.nearest
      simp only
      rw [if_neg hz, least]
      have el : max ((0 : Int) + (n.log2 : Int) - ((double.fractionBits : Nat) : Int)) (-1074) = (n.log2 : Int) - 52 := by
        show max ((0 : Int) + (n.log2 : Int) - ((52 : Nat) : Int)) (-1074) = _
        omega
      rw [el]
      have a1 : ((0 : Int) - ((n.log2 : Int) - 52)).toNat = 0 := by omega
      have a2 : ((n.log2 : Int) - 52 - 0).toNat = n.log2 - 52 := by omega
      rw [a1, a2, Nat.shiftLeft_zero, bin]
      obtain ⟨k, hk, c1, c2⟩ := cut_even s n (n.log2 - 52) (by omega)
      rw [hk]
      have e1 : ((n.log2 : Int) - 52 - -1074).toNat = n.log2 + 1022 := by omega
      rw [e1]
      have hG := Nat.two_pow_pos (n.log2 - 52)
      have e2 : 2 ^ (n.log2 + 1) = 9007199254740992 * 2 ^ (n.log2 - 52) := by
        rw [show n.log2 + 1 = 53 + (n.log2 - 52) by omega, Nat.pow_add]
      rw [e2] at l1
      have hkk : k ≤ 9007199254740992 := by
        rcases Nat.lt_or_ge 9007199254740992 k with h | h
        · have : 9007199254740993 * 2 ^ (n.log2 - 52) ≤ k * 2 ^ (n.log2 - 52) := Nat.mul_le_mul_right _ h
          omega
        · exact h
      have hs : (n.log2 + 1022) * 4503599627370496 + k < double.infRung := by
        rw [inf_r]
        have : (n.log2 + 1022) * 4503599627370496 ≤ 1085 * 4503599627370496 := Nat.mul_le_mul_right _ (by omega)
        omega
      rw [Nat.min_eq_left (Nat.le_of_lt hs)]
      obtain ⟨m, p, e⟩ := read_fin s _ hs
      exact ⟨_, _, _, e⟩
theorem quot100 (s : Bool) (m : Nat) (p : Int) : ∃ m' p', Datum.quotient 54 (.number s m p) (canon false 100) = some (.number (s ^^ false) m' p') := by
  rw [canon_100]
  simp only [Datum.quotient]
  rw [if_neg (by omega)]
  exact ⟨_, _, rfl⟩
/-- Whatever the numbers are: no step is a NaN. -/
theorem part_any (v t : Int) (hv : v.natAbs ≤ 9223372036854775808) (ht : t.natAbs ≤ 9223372036854775808) : ∃ r q, floatBits .mul .f64 (floatOfInt .f64 v) (floatOfInt .f64 t) = some r ∧ floatBits .quo .f64 r 4636737291354636288 = some q ∧ ∀ s t, FloatKind.f64.decode q ≠ .nan s t := by
  obtain ⟨s1, m1, p1, h1⟩ := read_int v hv
  obtain ⟨s2, m2, p2, h2⟩ := read_int t ht
  have hm : floatBits .mul .f64 (floatOfInt .f64 v) (floatOfInt .f64 t) = some (double.nearest (s1 ^^ s2) (m1 * m2) (p1 + p2)) := by
    show ((double.read (floatOfInt .f64 v)).product (double.read (floatOfInt .f64 t))).map double.write = _
    rw [h1, h2]; rfl
  have hd : ∃ d, (∃ s, (∃ m p, d = Datum.number s m p) ∨ d = .infinity s) ∧ floatBits .quo .f64 (double.nearest (s1 ^^ s2) (m1 * m2) (p1 + p2)) 4636737291354636288 = some (double.write d) := by
    obtain ⟨s, hr⟩ := read_near (s1 ^^ s2) (m1 * m2) (p1 + p2)
    rcases hr with ⟨m, p, hr⟩ | hr
    · obtain ⟨m', p', e⟩ := quot100 s m p
      refine ⟨.number (s ^^ false) m' p', ⟨_, Or.inl ⟨_, _, rfl⟩⟩, ?_⟩
      show ((double.read (double.nearest (s1 ^^ s2) (m1 * m2) (p1 + p2))).quotient 54 (double.read 4636737291354636288)).map double.write = _
      rw [hr, bits_100, e]; rfl
    · refine ⟨.infinity (s ^^ false), ⟨_, Or.inr rfl⟩, ?_⟩
      show ((double.read (double.nearest (s1 ^^ s2) (m1 * m2) (p1 + p2))).quotient 54 (double.read 4636737291354636288)).map double.write = _
      rw [hr, bits_100, canon_100]
      rfl
  obtain ⟨d, hd, hq⟩ := hd
  refine ⟨_, _, hm, hq, fun s t hn => ?_⟩
  have hn : double.read (double.write d) = .nan s t := hn
  obtain ⟨s', ⟨m, p, rfl⟩ | rfl⟩ := hd
  · obtain ⟨s'', ⟨m', p', e⟩ | e⟩ := read_near s' m p
    · have := e.symm.trans hn; cases this
    · have := e.symm.trans hn; cases this
  · have e : double.read (double.word s' double.infRung) = .infinity s' := by cases s' <;> decide +kernel
    have := e.symm.trans hn
    cases this
end Go.Proofs.YtihlmkgffifknaaDoor.Fl
