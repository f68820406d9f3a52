/- Versions: a semantic and a generic version as the reference has them; the digits of numbers. -/
import Derived.Test.YtomoefldmgfaoaaDoorPvX
import Derived.Lib.ItoaNum
set_option linter.unusedVariables false
set_option linter.unusedSimpArgs false
namespace Go.Proofs.YtomoefldmgfaoaaDoor.Pv
open Go

abbrev fieldsOf (l : Bs) : List Bs × Bs := flds l.length (ahead l)
theorem ahead_len (l : Bs) : (ahead l).length ≤ l.length := by
  have h : (l.dropWhile wh).length ≤ l.length := by
    have := congrArg List.length (List.takeWhile_append_dropWhile (p := wh) (l := l))
    rw [List.length_append] at this; omega
  unfold ahead
  generalize l.dropWhile wh = t at h ⊢
  cases t with
  | nil => exact h
  | cons c t =>
    rw [noV]
    split
    · rw [List.length_cons] at h; omega
    · exact h
theorem fields_spec (l : Bs) : (∀ f ∈ (fieldsOf l).1, f ≠ [] ∧ ∀ c ∈ f, dg c = true) ∧ joinP (fieldsOf l).1 ++ (fieldsOf l).2 = ahead l :=
  ⟨(flds_spec _ _ (ahead_len l)).1, (flds_spec _ _ (ahead_len l)).2.1⟩
/-- The generic version that a text is. -/
def sGen (l : Bs) : Option (List Nat) := if (fieldsOf l).1.length < 2 then none else nums false true (fieldsOf l).1
def sSem (l : Bs) : Option (List Nat × Bs × Bs) :=
  if (fieldsOf l).1.length ≠ 3 then none
  else match nums true true (fieldsOf l).1 with
    | none => none
    | some ns => match specX (fieldsOf l).2 with
      | none => none
      | some (p, b) => some (ns, p, b)
theorem pparse_gen {l : Bs} (h : 10 ∉ (fieldsOf l).2) : pparse false l = (sGen l).map fun ns => (ns, [], []) := by
  unfold pparse sGen
  simp only [Bool.false_eq_true, if_false, Bool.false_and]
  by_cases h0 : (fieldsOf l).1 = []
  · rw [if_pos h0, if_pos (by rw [h0]; simp)]; rfl
  · rw [if_neg h0, if_neg h]
    by_cases h2 : (fieldsOf l).1.length < 2
    · rw [if_pos h2, if_pos h2]; rfl
    · rw [if_neg h2, if_neg h2]
      cases nums false true (fieldsOf l).1 <;> rfl
theorem pparse_sem {l : Bs} (h : 10 ∉ (fieldsOf l).2) (hl : long 0 (fieldsOf l).2 = false) : pparse true l = sSem l := by
  unfold pparse sSem
  simp only [if_true, Bool.true_and]
  by_cases h0 : (fieldsOf l).1 = []
  · rw [if_pos h0, if_pos (by rw [h0]; simp)]
  · rw [if_neg h0, if_neg h]
    by_cases h2 : (fieldsOf l).1.length = 3
    · rw [if_neg (show ¬ (fieldsOf l).1.length ≠ 3 by omega), if_neg (show ¬ (fieldsOf l).1.length ≠ 3 by omega)]
      cases nums true true (fieldsOf l).1 with
      | none => rfl
      | some ns =>
        simp only
        have hx := specX_iff (short_vn hl)
        by_cases hr : (fieldsOf l).2 = []
        · rw [if_neg (by rw [hr]; simp), hr]; rfl
        · rw [if_pos (by rw [bne_iff_ne]; exact hr)]
          cases hs : specX (fieldsOf l).2 with
          | none =>
            simp only
            cases he : extra (fieldsOf l).2 with
            | none => rfl
            | some q =>
              obtain ⟨p, b⟩ := q
              simp only
              rw [if_neg]
              intro hok
              have := (hx p b).2 ⟨he, hok⟩
              rw [hs] at this
              cases this
          | some q =>
            obtain ⟨p, b⟩ := q
            obtain ⟨h1, h2⟩ := (hx p b).1 hs
            rw [h1]
            simp only
            rw [if_pos h2]
    · rw [if_pos h2, if_pos h2]
theorem nums_len : ∀ {sem first : Bool} {fs : List Bs} {ns : List Nat}, nums sem first fs = some ns → ns.length = fs.length
  | sem, first, [], ns, h => by injection h with h; rw [← h]; rfl
  | sem, first, f :: fs, ns, h => by
    rw [nums] at h
    split at h
    · cases h
    · split at h
      · cases h
      · cases hq : nums sem false fs with
        | none => rw [hq] at h; cases h
        | some q =>
          rw [hq] at h
          injection h with h
          rw [← h, List.length_cons, List.length_cons, nums_len hq]
theorem nums_lt : ∀ {sem first : Bool} {fs : List Bs} {ns : List Nat}, nums sem first fs = some ns → ∀ n ∈ ns, n < 18446744073709551616
  | sem, first, [], ns, h => by injection h with h; rw [← h]; intro n hn; cases hn
  | sem, first, f :: fs, ns, h => by
    rw [nums] at h
    split at h
    · cases h
    · split at h
      · cases h
      · rename_i n hv
        cases hq : nums sem false fs with
        | none => rw [hq] at h; cases h
        | some q =>
          rw [hq] at h
          injection h with h
          rw [← h]
          intro m hm
          rcases List.mem_cons.1 hm with rfl | hm
          · exact vn_lt hv
          · exact nums_lt hq m hm
theorem joinP_len : ∀ (fs : List Bs), (∀ f ∈ fs, f ≠ []) → fs.length ≤ (joinP fs).length
  | [], _ => Nat.le_refl _
  | [a], h => by
    have : 0 < a.length := List.length_pos_iff.2 (h a (by simp))
    rw [joinP, List.length_cons, List.length_nil]; omega
  | a :: b :: t, h => by
    have h1 : 0 < a.length := List.length_pos_iff.2 (h a (by simp))
    have h2 := joinP_len (b :: t) (fun f hf => h f (List.mem_cons_of_mem _ hf))
    rw [joinP_cons a (by simp), List.length_append]
    simp only [List.length_cons] at h2 ⊢
    omega
theorem fields_len (l : Bs) : (fieldsOf l).1.length ≤ l.length := by
  obtain ⟨h1, h2⟩ := fields_spec l
  have h3 := joinP_len _ (fun f hf => (h1 f hf).1)
  have h4 := congrArg List.length h2
  rw [List.length_append] at h4
  have := ahead_len l
  omega
/-- What the program makes of a text has two numbers at least, and not more than the text has bytes. -/
theorem pparse_some {sem : Bool} {l : Bs} {ns : List Nat} {p b : Bs} (h : pparse sem l = some (ns, p, b)) : 2 ≤ ns.length ∧ ns.length ≤ l.length ∧ (∀ n ∈ ns, n < 18446744073709551616) ∧ (sem = true → ns.length = 3) ∧ (sem = false → p = [] ∧ b = []) := by
  unfold pparse at h
  simp only at h
  by_cases c1 : (fieldsOf l).1 = []
  · rw [if_pos c1] at h; cases h
  rw [if_neg c1] at h
  by_cases c2 : 10 ∈ (fieldsOf l).2
  · rw [if_pos c2] at h; cases h
  rw [if_neg c2] at h
  by_cases c3 : (if sem = true then (fieldsOf l).1.length ≠ 3 else (fieldsOf l).1.length < 2)
  · rw [if_pos c3] at h; cases h
  rw [if_neg c3] at h
  cases hn : nums sem true (fieldsOf l).1 with
  | none => rw [hn] at h; cases h
  | some ns' =>
    rw [hn] at h
    simp only at h
    have hl := nums_len hn
    have hlt := nums_lt hn
    have hfl := fields_len l
    have key : 2 ≤ ns'.length ∧ ns'.length ≤ l.length ∧ (∀ n ∈ ns', n < 18446744073709551616) ∧ (sem = true → ns'.length = 3) := by
      cases sem with
      | true => simp only [if_true, ne_eq, Decidable.not_not] at c3; exact ⟨by omega, by omega, hlt, fun _ => by omega⟩
      | false => simp only [Bool.false_eq_true, if_false] at c3; exact ⟨by omega, by omega, hlt, fun e => by cases e⟩
    by_cases c4 : (sem && (fieldsOf l).2 != []) = true
    · rw [if_pos c4] at h
      have hsem : sem = true := by rw [Bool.and_eq_true] at c4; exact c4.1
      cases he : extra (fieldsOf l).2 with
      | none => rw [he] at h; cases h
      | some q =>
        obtain ⟨p', b'⟩ := q
        rw [he] at h
        simp only at h
        by_cases c5 : (spl p').all okPre = true
        · rw [if_pos c5] at h
          injection h with h; injection h with e1 e2
          subst e1
          exact ⟨key.1, key.2.1, key.2.2.1, key.2.2.2, fun e => by rw [e] at hsem; cases hsem⟩
        · rw [if_neg c5] at h; cases h
    · rw [if_neg c4] at h
      injection h with h; injection h with e1 e2; injection e2 with e2 e3
      subst e1
      exact ⟨key.1, key.2.1, key.2.2.1, key.2.2.2, fun _ => ⟨e2.symm, e3.symm⟩⟩
theorem dec_induct (P : Nat → Prop) (h0 : ∀ u, u < 10 → P u) (h1 : ∀ u, 10 ≤ u → P (u / 10) → P u) (u : Nat) : P u := by
  induction u using Nat.strongRecOn with
  | _ u ih =>
    by_cases h : u < 10
    · exact h0 u h
    · exact h1 u (by omega) (ih (u / 10) (by omega))
theorem dec_last (u : Nat) (h : 10 ≤ u) : Lib.decDigits u = Lib.decDigits (u / 10) ++ [UInt8.ofNat (48 + u % 10)] := by
  rw [Lib.decDigits.eq_1 u, dif_neg (by omega)]
end Go.Proofs.YtomoefldmgfaoaaDoor.Pv
