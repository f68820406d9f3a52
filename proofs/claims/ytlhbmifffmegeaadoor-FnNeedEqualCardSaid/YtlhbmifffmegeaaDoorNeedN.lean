/- Whole numbers of 64 bits as texts: the reference's way of reading, and the library's. -/
import Derived.Lib.ParseIntBCases
set_option linter.unusedVariables false
set_option linter.unusedSimpArgs false
namespace Go.Proofs.YtlhbmifffmegeaaDoor.NeedN
open Go.Lib

def isDig (c : UInt8) : Bool := decide (48 ≤ c.toNat) && decide (c.toNat ≤ 57)
/-- The number of digits, unless it is above 2^63. -/
def magF : List UInt8 → Nat → Option Nat
  | [], m => some m
  | c :: r, m => if 9223372036854775808 < m * 10 + (c.toNat - 48) then none else magF r (m * 10 + (c.toNat - 48))
def body : List UInt8 → List UInt8
  | [] => []
  | c :: r => if c = 45 ∨ c = 43 then r else c :: r
def minus : List UInt8 → Bool
  | [] => false
  | c :: _ => decide (c = 45)
def num (l : List UInt8) : Option Int :=
  if body l = [] then none else if (body l).all isDig = true then
    match magF (body l) 0 with
    | none => none
    | some m => if minus l = true then some (-(m : Int)) else if m < 9223372036854775808 then some (m : Int) else none
  else none

theorem isDig_iff (c : UInt8) : isDig c = true ↔ 48 ≤ c.toNat ∧ c.toNat ≤ 57 := by simp [isDig]
theorem uint_ge (M : Nat) : ∀ (l : List UInt8) (acc u : Nat), parseUintM M acc l = .ok u → acc ≤ u
  | [], acc, u, h => by
    simp only [parseUintM] at h
    injection h with h
    omega
  | c :: r, acc, u, h => by
    simp only [parseUintM] at h
    split at h
    · split at h
      · cases h
      · split at h
        · cases h
        · have := uint_ge M r _ u h
          omega
    · cases h
theorem uint_dig (M : Nat) : ∀ (l : List UInt8) (acc u : Nat), parseUintM M acc l = .ok u → l.all isDig = true
  | [], _, _, _ => rfl
  | c :: r, acc, u, h => by
    simp only [parseUintM] at h
    split at h
    · rename_i hd
      split at h
      · cases h
      · split at h
        · cases h
        · rw [List.all_cons, uint_dig M r _ u h, (isDig_iff c).2 hd]; rfl
    · cases h
theorem mag_le : ∀ (r : List UInt8) (m u : Nat), m ≤ 9223372036854775808 → magF r m = some u → u ≤ 9223372036854775808
  | [], m, u, hm, h => by simp only [magF, Option.some.injEq] at h; omega
  | c :: r, m, u, hm, h => by
    simp only [magF] at h
    split at h
    · cases h
    · exact mag_le r _ u (by omega) h
theorem mag_uint : ∀ (r : List UInt8) (m : Nat), m ≤ 9223372036854775808 → r.all isDig = true →
    (∀ u, magF r m = some u → parseUintM 18446744073709551615 m r = .ok u) ∧ (magF r m = none → ∀ u, parseUintM 18446744073709551615 m r = .ok u → 9223372036854775808 < u)
  | [], m, hm, _ => by simp [magF, parseUintM]
  | c :: r, m, hm, hd => by
    rw [List.all_cons, Bool.and_eq_true] at hd
    have hc := (isDig_iff c).1 hd.1
    by_cases hbig : 9223372036854775808 < m * 10 + (c.toNat - 48)
    · refine ⟨fun u h => ?_, fun _ u h => ?_⟩
      · rw [magF, if_pos hbig] at h; cases h
      · simp only [parseUintM] at h
        rw [if_pos hc] at h
        split at h
        · cases h
        · split at h
          · cases h
          · have := uint_ge _ r _ u h
            omega
    · obtain ⟨h1, h2⟩ := mag_uint r (m * 10 + (c.toNat - 48)) (by omega) hd.2
      have e : parseUintM 18446744073709551615 m (c :: r) = parseUintM 18446744073709551615 (m * 10 + (c.toNat - 48)) r := by
        simp only [parseUintM]
        rw [if_pos hc, if_neg (by omega), if_neg (by omega)]
      rw [e]
      refine ⟨fun u h => h1 u ?_, fun h u hu => h2 ?_ u hu⟩
      · rw [magF, if_neg hbig] at h; exact h
      · rw [magF, if_neg hbig] at h; exact h

def okOf : NumEnd Int → Option Int
  | .ok v => some v
  | _ => none
theorem okOf_ok {e : NumEnd Int} {v : Int} (h : okOf e = some v) : e = .ok v := by
  cases e <;> simp [okOf] at h
  rw [h]
theorem num_parse (l : List UInt8) : okOf (parseIntB 64 l) = num l := by
  cases l with
  | nil => simp [parseIntB, num, body, okOf]
  | cons c r =>
    have hu : ∀ b : List UInt8, b ≠ [] → parseUintB 64 b = parseUintM 18446744073709551615 0 b := fun b hb => by unfold parseUintB; rw [if_neg hb]
    have c45 : c = 45 ↔ c.toNat = 45 := ⟨fun h => by rw [h]; rfl, fun h => UInt8.toNat_inj.1 h⟩
    have c43 : c = 43 ↔ c.toNat = 43 := ⟨fun h => by rw [h]; rfl, fun h => UInt8.toNat_inj.1 h⟩
    have hb : (if c.toNat = 43 ∨ c.toNat = 45 then r else c :: r) = body (c :: r) := by
      by_cases h : c.toNat = 43 ∨ c.toNat = 45
      · have h' : c = 45 ∨ c = 43 := by rw [c45, c43]; omega
        simp only [body, if_pos h, if_pos h']
      · have h' : ¬ (c = 45 ∨ c = 43) := by rw [c45, c43]; omega
        simp only [body, if_neg h, if_neg h']
    unfold parseIntB
    simp only
    rw [hb]
    unfold num
    by_cases hne : body (c :: r) = []
    · rw [if_pos hne, hne]; rfl
    · rw [if_neg hne, hu _ hne]
      by_cases hd : (body (c :: r)).all isDig = true
      · rw [if_pos hd]
        obtain ⟨h1, h2⟩ := mag_uint (body (c :: r)) 0 (by omega) hd
        cases hm : magF (body (c :: r)) 0 with
        | none =>
          have h3 := h2 hm
          rcases hp : parseUintM 18446744073709551615 0 (body (c :: r)) with u | _ | _
          · have := h3 u hp
            simp only
            by_cases hn : c.toNat = 45
            · rw [if_neg (by simp [hn]), if_pos ⟨hn, by omega⟩]; rfl
            · rw [if_pos ⟨hn, by omega⟩]; rfl
          · rfl
          · rfl
        | some m =>
          have hle := mag_le _ _ _ (by omega) hm
          rw [h1 m hm]
          simp only
          by_cases hn : c.toNat = 45
          · have hmi : minus (c :: r) = true := decide_eq_true (c45.2 hn)
            rw [if_neg (by omega), if_neg (by omega), if_pos hn, if_pos hmi]; rfl
          · have hmi : ¬ minus (c :: r) = true := fun h => hn (c45.1 (of_decide_eq_true h))
            rw [if_neg hmi]
            by_cases hm2 : m < 9223372036854775808
            · rw [if_neg (by omega), if_neg (by omega), if_neg hn, if_pos hm2]; rfl
            · rw [if_pos ⟨hn, by omega⟩, if_neg hm2]; rfl
      · rw [if_neg hd]
        rcases hp : parseUintM 18446744073709551615 0 (body (c :: r)) with u | _ | _
        · exact absurd (uint_dig _ _ _ _ hp) hd
        · rfl
        · rfl
end Go.Proofs.YtlhbmifffmegeaaDoor.NeedN
