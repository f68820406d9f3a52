/- Selectors of fields: a value unescaped, a piece cut at its operator: over lists of bytes; no program in sight. -/
import Derived.Test.YthejejeginnbdaaGreatDoorEscN
set_option linter.unusedVariables false
set_option linter.unusedSimpArgs false
namespace Go.Proofs.YthejejeginnbdaaGreatDoor.FdN
open Go.Lib Go.Proofs.YthejejeginnbdaaGreatDoor.EscN

/-- A value of which a text is the escaped one; none: it is none. -/
def un : List UInt8 → Option (List UInt8)
  | [] => some []
  | [c] => if sign c = true then none else some [c]
  | c :: d :: t => if c = 92 then (if sign d = true then (un t).map (d :: ·) else none) else if sign c = true then none else (un (d :: t)).map (c :: ·)
theorem un_bs {c : UInt8} (r : List UInt8) (h : sign c = true) : un (92 :: c :: r) = (un r).map (c :: ·) := by rw [un, if_pos rfl, if_pos h]
theorem un_bad {c : UInt8} (r : List UInt8) (h : ¬ sign c = true) : un (92 :: c :: r) = none := by rw [un, if_pos rfl, if_neg h]
theorem un_end : un [92] = none := by rw [un, if_pos (by decide)]
theorem un_sign {c : UInt8} (r : List UInt8) (h : sign c = true) (h9 : c ≠ 92) : un (c :: r) = none := by
  cases r with
  | nil => rw [un, if_pos h]
  | cons d t => rw [un, if_neg h9, if_pos h]
theorem un_cons {c : UInt8} (r : List UInt8) (h : ¬ sign c = true) : un (c :: r) = (un r).map (c :: ·) := by
  have h9 : c ≠ 92 := fun e => h (by rw [e]; decide)
  cases r with
  | nil => simp only [un]; rw [if_neg h]; rfl
  | cons d t => rw [un, if_neg h9, if_neg h]
theorem un_app : ∀ (a b : List UInt8), a.any sign = false → un (a ++ b) = (un b).map (a ++ ·)
  | [], b, _ => by simp
  | c :: a, b, h => by
    rw [List.any_cons, Bool.or_eq_false_iff] at h
    rw [List.cons_append, un_cons _ (by rw [h.1]; simp), un_app a b h.2, Option.map_map]; rfl
theorem un_plain {l : List UInt8} (h : l.any sign = false) : un l = some l := by
  have := un_app l [] h
  rw [List.append_nil] at this
  rw [this]; simp [un]
theorem un_len : ∀ (n : Nat) (l r : List UInt8), l.length ≤ n → un l = some r → r.length ≤ l.length := by
  intro n
  induction n with
  | zero =>
    intro l r h hu
    obtain rfl : l = [] := List.length_eq_zero_iff.1 (by omega)
    rw [un] at hu; injection hu with hu; subst hu; exact Nat.le_refl _
  | succ n ih =>
    intro l r h hu
    match l with
    | [] => rw [un] at hu; injection hu with hu; subst hu; exact Nat.le_refl _
    | [c] =>
      rw [un] at hu
      by_cases hc : sign c = true
      · rw [if_pos hc] at hu; cases hu
      · rw [if_neg hc] at hu; injection hu with hu; subst hu; exact Nat.le_refl _
    | c :: d :: t =>
      rw [un] at hu
      by_cases h9 : c = 92
      · rw [if_pos h9] at hu
        by_cases hd : sign d = true
        · rw [if_pos hd] at hu
          obtain ⟨x, hx, rfl⟩ := Option.map_eq_some_iff.1 hu
          have := ih t x (by simp only [List.length_cons] at h; omega) hx
          simp only [List.length_cons]; omega
        · rw [if_neg hd] at hu; cases hu
      · rw [if_neg h9] at hu
        by_cases hc : sign c = true
        · rw [if_pos hc] at hu; cases hu
        · rw [if_neg hc] at hu
          obtain ⟨x, hx, rfl⟩ := Option.map_eq_some_iff.1 hu
          have := ih (d :: t) x (by simp only [List.length_cons] at h ⊢; omega) hx
          simp only [List.length_cons] at this ⊢; omega
/-- Escaped and unescaped, a value is itself. -/
theorem un_esc : ∀ l : List UInt8, un (esc l) = some l
  | [] => by rw [esc, un]
  | c :: r => by
    by_cases h : sign c = true
    · rw [esc_yes h, un_bs _ h, un_esc r]; rfl
    · rw [esc_no h, un_cons _ h, un_esc r]; rfl
/-- One rune of a text. -/
theorem step_val {c : UInt8} {r : List UInt8} (hv : Val (c :: r)) (hs : ¬ sign c = true) : ∃ q n : Nat, decodeL (c :: r) = (q, n) ∧ 1 ≤ n ∧ n ≤ (c :: r).length ∧ q ≠ 92 ∧ q ≠ 44 ∧ q ≠ 61 ∧ q ≤ 2147483647 ∧ encodeRune (q : Int) = (c :: r).take n ∧ Val ((c :: r).drop n) ∧ ((c :: r).take n).any sign = false := by
  obtain ⟨q, n, h1, h2, h3, h4, h5, h6, h7, h8, h9, h10, h11⟩ := step_plain hv hs
  have e := (esc_head (by simp) (hv.head (by simp)).1 hs).1
  exact ⟨q, n, e.symm.trans h1, h2, h3, h4, h5, h6, h7, h8, h10, h11⟩
/-- The operator at a text's beginning. -/
def opAt : List UInt8 → Option (List UInt8)
  | 33 :: 61 :: _ => some [33, 61]
  | 61 :: 61 :: _ => some [61, 61]
  | 61 :: _ => some [61]
  | _ => none
/-- A piece cut at its first operator. -/
def cutOp : List UInt8 → Option (List UInt8 × List UInt8 × List UInt8)
  | [] => none
  | c :: t => match opAt (c :: t) with
    | some op => some ([], op, (c :: t).drop op.length)
    | none => (cutOp t).map fun q => (c :: q.1, q.2)
theorem opAt_cases (l : List UInt8) : (∃ t, l = 33 :: 61 :: t ∧ opAt l = some [33, 61]) ∨ (∃ t, l = 61 :: 61 :: t ∧ opAt l = some [61, 61]) ∨ (∃ t, l = 61 :: t ∧ t.head? ≠ some 61 ∧ opAt l = some [61]) ∨ (opAt l = none ∧ l.take 2 ≠ [33, 61] ∧ l.take 1 ≠ [61]) := by
  unfold opAt
  split
  · exact Or.inl ⟨_, rfl, rfl⟩
  · exact Or.inr (Or.inl ⟨_, rfl, rfl⟩)
  · rename_i t h
    refine Or.inr (Or.inr (Or.inl ⟨_, rfl, fun e => ?_, rfl⟩))
    cases t with
    | nil => cases e
    | cons d t => injection e with e; exact h t (by rw [e])
  · rename_i h1 h2 h3
    refine Or.inr (Or.inr (Or.inr ⟨rfl, fun e => ?_, fun e => ?_⟩))
    · match l, e with
      | [a, b], e => injection e with e1 e2; injection e2 with e2 _; exact h1 [] (by rw [e1, e2])
      | a :: b :: c :: t, e => injection e with e1 e2; injection e2 with e2 _; exact h1 (c :: t) (by rw [e1, e2])
    · match l, e with
      | a :: t, e => injection e with e1 _; exact h3 t (by rw [e1])
theorem opAt_high {c : UInt8} (t : List UInt8) (h : 128 ≤ c.toNat) : opAt (c :: t) = none := by
  rcases opAt_cases (c :: t) with ⟨u, e, _⟩ | ⟨u, e, _⟩ | ⟨u, e, _⟩ | ⟨e, _⟩
  · injection e with e _; subst e; exact absurd h (by decide)
  · injection e with e _; subst e; exact absurd h (by decide)
  · injection e with e _; subst e; exact absurd h (by decide)
  · exact e
theorem cut_skip {c : UInt8} {t : List UInt8} (h : opAt (c :: t) = none) : cutOp (c :: t) = (cutOp t).map fun q => (c :: q.1, q.2) := by rw [cutOp, h]
theorem cut_high : ∀ (a b : List UInt8), (∀ c ∈ a, 128 ≤ c.toNat) → cutOp (a ++ b) = (cutOp b).map fun q => (a ++ q.1, q.2)
  | [], b, _ => by simp
  | c :: a, b, h => by
    rw [List.cons_append, cut_skip (opAt_high _ (h c List.mem_cons_self)), cut_high a b (fun d hd => h d (List.mem_cons_of_mem _ hd)), Option.map_map]; rfl
theorem cut_join : ∀ (l : List UInt8) (a o b : List UInt8), cutOp l = some (a, o, b) → l = a ++ o ++ b ∧ (o = [33, 61] ∨ o = [61, 61] ∨ o = [61])
  | [], _, _, _, h => by cases h
  | c :: t, a, o, b, h => by
    rcases opAt_cases (c :: t) with ⟨u, e, hq⟩ | ⟨u, e, hq⟩ | ⟨u, e, _, hq⟩ | ⟨hq, _⟩
    · rw [cutOp, hq] at h; injection h with h; injection h with h1 h; injection h with h2 h3
      subst h1 h2 h3; rw [e]; exact ⟨rfl, Or.inl rfl⟩
    · rw [cutOp, hq] at h; injection h with h; injection h with h1 h; injection h with h2 h3
      subst h1 h2 h3; rw [e]; exact ⟨rfl, Or.inr (Or.inl rfl)⟩
    · rw [cutOp, hq] at h; injection h with h; injection h with h1 h; injection h with h2 h3
      subst h1 h2 h3; rw [e]; exact ⟨rfl, Or.inr (Or.inr rfl)⟩
    · rw [cut_skip hq] at h
      obtain ⟨⟨a', o', b'⟩, h1, h2⟩ := Option.map_eq_some_iff.1 h
      injection h2 with h2 h3; injection h3 with h3 h4
      obtain ⟨i1, i2⟩ := cut_join t a' o' b' h1
      have h2' : c :: a' = a := h2
      have h3' : o' = o := h3
      have h4' : b' = b := h4
      subst h2' h3' h4'
      exact ⟨by rw [i1]; simp, i2⟩
end Go.Proofs.YthejejeginnbdaaGreatDoor.FdN
