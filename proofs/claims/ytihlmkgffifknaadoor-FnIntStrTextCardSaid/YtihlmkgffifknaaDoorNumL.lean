/- Whole numbers as texts: what the library's reader lets by, told step by step. -/
import Derived.Lib.ParseIntBCases
import Derived.Lib.ItoaMem
set_option linter.unusedVariables false
set_option linter.unusedSimpArgs false
namespace Go.Proofs.YtihlmkgffifknaaDoor.NumL
open Go.Lib

theorem uint_ge (M : Nat) : ∀ (l : List UInt8) (acc u : Nat), parseUintM M acc l = .ok u → acc ≤ u
  | [], acc, u, h => by
    simp only [parseUintM] at h
    injection h with h
    omega
  | c :: r, acc, u, h => by
    simp only [parseUintM] at h
    split at h
    · split at h
      · cases h
      · split at h
        · cases h
        · have := uint_ge M r _ u h
          omega
    · cases h
/-- One digit more, and the number so far is not above the whole one. -/
theorem uint_step {M acc u : Nat} {c : UInt8} {r : List UInt8} (h : parseUintM M acc (c :: r) = .ok u) : 48 ≤ c.toNat ∧ c.toNat ≤ 57 ∧ acc * 10 + (c.toNat - 48) ≤ u ∧ parseUintM M (acc * 10 + (c.toNat - 48)) r = .ok u := by
  simp only [parseUintM] at h
  split at h
  · rename_i hd
    split at h
    · cases h
    · split at h
      · cases h
      · exact ⟨hd.1, hd.2, uint_ge M r _ u h, h⟩
  · cases h
/-- What is let by: a sign at most, then digits, and the value's size. -/
theorem int_ok {l : List UInt8} {v : Int} (h : parseIntB 32 l = .ok v) :
    (∃ r u, l = 45 :: r ∧ r ≠ [] ∧ parseUintM 4294967295 0 r = .ok u ∧ u ≤ 2147483648 ∧ v = -(u : Int)) ∨
    (∃ r u, (l = 43 :: r ∨ (l = r ∧ ∃ c t, r = c :: t ∧ c ≠ 43 ∧ c ≠ 45)) ∧ r ≠ [] ∧ parseUintM 4294967295 0 r = .ok u ∧ u ≤ 2147483647 ∧ v = (u : Int)) := by
  cases l with
  | nil => simp [parseIntB] at h
  | cons c r =>
    by_cases h45 : c = 45
    · subst h45
      rw [parseIntB_minus] at h
      rcases hu : parseUintB 32 r with u | _ | _
      rotate_left
      · rw [hu] at h; simp [signedC] at h
      · rw [hu] at h; simp [signedC] at h
      ·
        rw [hu] at h
        simp only [signedC] at h
        split at h
        · cases h
        · rename_i hl
          injection h with h
          unfold parseUintB at hu
          split at hu
          · cases hu
          · rename_i hr
            exact Or.inl ⟨r, u, rfl, hr, hu, by omega, h.symm⟩
    · by_cases h43 : c = 43
      · subst h43
        rw [parseIntB_plus] at h
        rcases hu : parseUintB 32 r with u | _ | _
        rotate_left
        · rw [hu] at h; simp [signlessC] at h
        · rw [hu] at h; simp [signlessC] at h
        ·
          rw [hu] at h
          simp only [signlessC] at h
          split at h
          · cases h
          · rename_i hl
            injection h with h
            unfold parseUintB at hu
            split at hu
            · cases hu
            · rename_i hr
              exact Or.inr ⟨r, u, Or.inl rfl, hr, hu, by omega, h.symm⟩
      · have n43 : c.toNat ≠ 43 := fun e => h43 (by apply UInt8.toNat_inj.1; rw [e]; rfl)
        have n45 : c.toNat ≠ 45 := fun e => h45 (by apply UInt8.toNat_inj.1; rw [e]; rfl)
        rw [parseIntB_plain _ _ _ n43 n45] at h
        rcases hu : parseUintB 32 (c :: r) with u | _ | _
        rotate_left
        · rw [hu] at h; simp [signlessC] at h
        · rw [hu] at h; simp [signlessC] at h
        ·
          rw [hu] at h
          simp only [signlessC] at h
          split at h
          · cases h
          · rename_i hl
            injection h with h
            unfold parseUintB at hu
            split at hu
            · cases hu
            · rename_i hr
              exact Or.inr ⟨c :: r, u, Or.inr ⟨rfl, c, r, rfl, h43, h45⟩, hr, hu, by omega, h.symm⟩

theorem uint_snoc (M : Nat) : ∀ (l : List UInt8) (acc n d : Nat) (b : UInt8), parseUintM M acc l = .ok n → 48 ≤ b.toNat → b.toNat ≤ 57 → d = b.toNat - 48 → n < 1844674407370955162 → n * 10 + d ≤ M → parseUintM M acc (l ++ [b]) = .ok (n * 10 + d)
  | [], acc, n, d, b, h, h0, h1, hd, hn, hM => by
    simp only [parseUintM] at h
    injection h with h
    subst h hd
    simp only [List.nil_append, parseUintM]
    rw [if_pos ⟨h0, h1⟩, if_neg (by omega), if_neg (by omega)]
  | c :: r, acc, n, d, b, h, h0, h1, hd, hn, hM => by
    simp only [List.cons_append, parseUintM] at h ⊢
    split at h
    · rename_i hc
      rw [if_pos hc]
      split at h
      · cases h
      · rename_i h2
        rw [if_neg h2]
        split at h
        · cases h
        · rename_i h3
          rw [if_neg h3]
          exact uint_snoc M r _ n d b h h0 h1 hd hn hM
    · cases h
theorem ofNat_val (d : Nat) (h : d < 10) : (UInt8.ofNat (48 + d)).toNat = 48 + d := by rw [UInt8.toNat_ofNat']; omega
theorem uint_dig (u : Nat) (hu : u ≤ 4294967295) : parseUintM 4294967295 0 (decDigits u) = .ok u := by
  induction u using Nat.strongRecOn with
  | ind u ih =>
    rw [decDigits]
    split
    · rename_i h
      have e := ofNat_val u h
      simp only [parseUintM]
      rw [e, if_pos ⟨by omega, by omega⟩, if_neg (by omega), if_neg (by omega)]
      congr 1; omega
    · have e := ofNat_val (u % 10) (by omega)
      have := uint_snoc 4294967295 _ 0 (u / 10) (u % 10) _ (ih (u / 10) (by omega) (by omega)) (by rw [e]; omega) (by rw [e]; omega) (by rw [e]; omega) (by omega) (by omega)
      rw [this]
      congr 1; omega
theorem dig_first (u : Nat) : ∃ c r, decDigits u = c :: r ∧ 48 ≤ c.toNat ∧ c.toNat ≤ 57 := by
  induction u using Nat.strongRecOn with
  | ind u ih =>
    rw [decDigits]
    split
    · rename_i h
      exact ⟨_, [], rfl, by rw [ofNat_val u h]; omega, by rw [ofNat_val u h]; omega⟩
    · obtain ⟨c, r, h1, h2, h3⟩ := ih (u / 10) (by omega)
      exact ⟨c, r ++ [UInt8.ofNat (48 + u % 10)], by rw [h1]; rfl, h2, h3⟩
/-- A number's own text is read as the number. -/
theorem int_itoa (n : Int) (h0 : -2147483648 ≤ n) (h1 : n ≤ 2147483647) : parseIntB 32 (itoa n) = .ok n := by
  unfold itoa
  by_cases hn : n < 0
  · rw [if_pos hn, parseIntB_minus]
    obtain ⟨c, r, hc, _, _⟩ := dig_first n.natAbs
    have hu := uint_dig n.natAbs (by omega)
    have : parseUintB 32 (decDigits n.natAbs) = .ok n.natAbs := by
      unfold parseUintB
      rw [if_neg (by rw [hc]; simp)]; exact hu
    rw [this]
    simp only [signedC]
    rw [if_neg (by omega)]
    congr 1; omega
  · rw [if_neg hn]
    obtain ⟨c, r, hc, hc0, hc1⟩ := dig_first n.toNat
    have hu := uint_dig n.toNat (by omega)
    have : parseUintB 32 (decDigits n.toNat) = .ok n.toNat := by
      unfold parseUintB
      rw [if_neg (by rw [hc]; simp)]; exact hu
    rw [hc] at this ⊢
    rw [parseIntB_plain _ _ _ (by omega) (by omega), this]
    simp only [signlessC]
    rw [if_neg (by omega)]
    congr 1; omega
end Go.Proofs.YtihlmkgffifknaaDoor.NumL
