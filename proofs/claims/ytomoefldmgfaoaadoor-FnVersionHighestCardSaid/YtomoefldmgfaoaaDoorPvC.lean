/- Versions: the order of their numbers is one; in plain Lean. -/
import Derived.Test.YtomoefldmgfaoaaDoorPvK
set_option linter.unusedVariables false
set_option linter.unusedSimpArgs false
namespace Go.Proofs.YtomoefldmgfaoaaDoor.Pv
open Go

/-- The order of two rows of numbers, of which so many count. -/
def cmpN : Nat → (Nat → Nat) → (Nat → Nat) → Int
  | 0, _, _ => 0
  | n + 1, f, g => if g 0 < f 0 then 1 else if f 0 < g 0 then -1 else cmpN n (fun i => f (i + 1)) (fun i => g (i + 1))
theorem pt_cons (x : Nat) (xs : List Nat) : (fun i => pt (x :: xs) (i + 1)) = pt xs := by funext i; rfl
theorem pt_cons0 (x : Nat) (xs : List Nat) : pt (x :: xs) 0 = x := rfl
theorem pt_nil (i : Nat) : pt [] i = 0 := rfl
theorem pt_nils : (fun i => pt [] (i + 1)) = pt [] := rfl
theorem zeros_cons (x : Nat) (xs : List Nat) : zeros (x :: xs) = ((x == 0) && zeros xs) := rfl
theorem vcmp_eq : ∀ (n : Nat) (a b : List Nat), a.length ≤ n → b.length ≤ n → vcmp a b = cmpN n (pt a) (pt b)
  | 0, a, b, ha, hb => by
    obtain rfl : a = [] := List.length_eq_zero_iff.1 (by omega)
    obtain rfl : b = [] := List.length_eq_zero_iff.1 (by omega)
    rfl
  | n + 1, [], [], _, _ => by
    have ih := vcmp_eq n [] [] (Nat.zero_le _) (Nat.zero_le _)
    rw [cmpN, pt_nils, pt_nil, if_neg (by omega), if_neg (by omega), ← ih]
  | n + 1, [], y :: ys, _, hb => by
    have ih := vcmp_eq n [] ys (Nat.zero_le _) (by simp only [List.length_cons] at hb; omega)
    rw [cmpN, pt_nils, pt_nil, pt_cons0, pt_cons, ← ih, vcmp_nil_l, vcmp_nil_l, zeros_cons, if_neg (by omega : ¬ y < 0)]
    by_cases h : y = 0
    · subst h; rw [if_neg (by omega : ¬ 0 < 0)]; rfl
    · rw [beq_eq_false_iff_ne.2 h, Bool.false_and, if_pos (by omega : 0 < y)]; rfl
  | n + 1, x :: xs, [], ha, _ => by
    have ih := vcmp_eq n xs [] (by simp only [List.length_cons] at ha; omega) (Nat.zero_le _)
    rw [cmpN, pt_nils, pt_nil, pt_cons0, pt_cons, ← ih, vcmp_nil_r, vcmp_nil_r, zeros_cons, if_neg (by omega : ¬ x < 0)]
    by_cases h : x = 0
    · subst h; rw [if_neg (by omega : ¬ 0 < 0)]; rfl
    · rw [beq_eq_false_iff_ne.2 h, Bool.false_and, if_pos (by omega : 0 < x)]; rfl
  | n + 1, x :: xs, y :: ys, ha, hb => by
    have ih := vcmp_eq n xs ys (by simp only [List.length_cons] at ha; omega) (by simp only [List.length_cons] at hb; omega)
    rw [cmpN, pt_cons0, pt_cons0, pt_cons, pt_cons, ← ih, vcmp]
theorem cmpN_neg : ∀ (n : Nat) (f g : Nat → Nat), cmpN n g f = - cmpN n f g
  | 0, _, _ => rfl
  | n + 1, f, g => by
    have ih := cmpN_neg n (fun i => f (i + 1)) (fun i => g (i + 1))
    rw [cmpN, cmpN]
    by_cases h1 : g 0 < f 0
    · rw [if_pos h1, if_neg (by omega), if_pos h1]
    · by_cases h2 : f 0 < g 0
      · rw [if_pos h2, if_neg h1, if_pos h2]; rfl
      · rw [if_neg h1, if_neg h2, if_neg h1, if_neg h2, ih]
theorem cmpN_range : ∀ (n : Nat) (f g : Nat → Nat), cmpN n f g = -1 ∨ cmpN n f g = 0 ∨ cmpN n f g = 1
  | 0, _, _ => Or.inr (Or.inl rfl)
  | n + 1, f, g => by
    have ih := cmpN_range n (fun i => f (i + 1)) (fun i => g (i + 1))
    rw [cmpN]
    by_cases h1 : g 0 < f 0
    · rw [if_pos h1]; exact Or.inr (Or.inr rfl)
    · by_cases h2 : f 0 < g 0
      · rw [if_neg h1, if_pos h2]; exact Or.inl rfl
      · rw [if_neg h1, if_neg h2]; exact ih
theorem cmpN_trans : ∀ (n : Nat) (f g h : Nat → Nat), 0 ≤ cmpN n f g → 0 ≤ cmpN n g h → 0 ≤ cmpN n f h
  | 0, _, _, _, _, _ => Int.le_refl _
  | n + 1, f, g, h, h1, h2 => by
    have ih := cmpN_trans n (fun i => f (i + 1)) (fun i => g (i + 1)) (fun i => h (i + 1))
    rw [cmpN] at h1 h2 ⊢
    by_cases a1 : g 0 < f 0
    · by_cases b1 : h 0 < g 0
      · rw [if_pos (by omega)]; omega
      · rw [if_neg b1] at h2
        by_cases b2 : g 0 < h 0
        · rw [if_pos b2] at h2; omega
        · rw [if_pos (by omega)]; omega
    · rw [if_neg a1] at h1
      by_cases a2 : f 0 < g 0
      · rw [if_pos a2] at h1; omega
      · rw [if_neg a2] at h1
        by_cases b1 : h 0 < g 0
        · rw [if_pos (by omega)]; omega
        · rw [if_neg b1] at h2
          by_cases b2 : g 0 < h 0
          · rw [if_pos b2] at h2; omega
          · rw [if_neg b2] at h2
            rw [if_neg (by omega), if_neg (by omega)]
            exact ih h1 h2
theorem vcmp_neg (a b : List Nat) : vcmp b a = - vcmp a b := by
  rw [vcmp_eq (max a.length b.length) a b (by omega) (by omega), vcmp_eq (max a.length b.length) b a (by omega) (by omega)]
  exact cmpN_neg _ _ _
theorem vcmp_range (a b : List Nat) : vcmp a b = -1 ∨ vcmp a b = 0 ∨ vcmp a b = 1 := by
  rw [vcmp_eq (max a.length b.length) a b (by omega) (by omega)]
  exact cmpN_range _ _ _
theorem vcmp_trans (a b c : List Nat) (h1 : 0 ≤ vcmp a b) (h2 : 0 ≤ vcmp b c) : 0 ≤ vcmp a c := by
  have e1 := vcmp_eq (max a.length (max b.length c.length)) a b (by omega) (by omega)
  have e2 := vcmp_eq (max a.length (max b.length c.length)) b c (by omega) (by omega)
  have e3 := vcmp_eq (max a.length (max b.length c.length)) a c (by omega) (by omega)
  rw [e1] at h1
  rw [e2] at h2
  rw [e3]
  exact cmpN_trans _ _ _ _ h1 h2
theorem vcmp_refl (a : List Nat) : vcmp a a = 0 := by have := vcmp_neg a a; omega
theorem cmpN_zero (n : Nat) (f g : Nat → Nat) (h : cmpN (n + 1) f g = 0) : f 0 = g 0 := by
  rw [cmpN] at h
  by_cases h1 : g 0 < f 0
  · rw [if_pos h1] at h; cases h
  · by_cases h2 : f 0 < g 0
    · rw [if_neg h1, if_pos h2] at h; cases h
    · omega
theorem vcmp_zero (a b : List Nat) (h : vcmp a b = 0) : pt a 0 = pt b 0 := by
  rw [vcmp_eq (max a.length b.length + 1) a b (by omega) (by omega)] at h
  exact cmpN_zero _ _ _ h
end Go.Proofs.YtomoefldmgfaoaaDoor.Pv
