/- Texts with their three signs escaped, and the runes of texts: plain facts. -/
import Derived.Lib.MapLaws
import Derived.Lib.RuneCountTail
import Derived.Laws.RangeAny
set_option linter.unusedVariables false
set_option linter.unusedSimpArgs false
namespace Go.Proofs.YthejejeginnbdaaGreatDoor.EscN
open Go.Lib

def sign (c : UInt8) : Bool := c == 92 || c == 44 || c == 61
/-- Each sign with a backslash ahead. -/
def esc : List UInt8 → List UInt8
  | [] => []
  | c :: r => if sign c = true then 92 :: c :: esc r else c :: esc r
theorem esc_len : ∀ l : List UInt8, (esc l).length ≤ 2 * l.length
  | [] => Nat.le_refl _
  | c :: r => by
    have := esc_len r
    simp only [esc]
    split <;> (simp only [List.length_cons]; omega)
theorem esc_ge : ∀ l : List UInt8, l.length ≤ (esc l).length
  | [] => Nat.le_refl _
  | c :: r => by
    have := esc_ge r
    simp only [esc]
    split <;> (simp only [List.length_cons]; omega)
theorem esc_snoc (l : List UInt8) (c : UInt8) : esc (l ++ [c]) = esc l ++ (if sign c = true then [92, c] else [c]) := by
  induction l with
  | nil => simp only [List.nil_append, esc]
  | cons d r ih =>
    simp only [List.cons_append, esc, ih]
    by_cases h : sign d = true
    · rw [if_pos h, if_pos h]; rfl
    · rw [if_neg h, if_neg h]; rfl
theorem sign_high {c : UInt8} (h : 128 ≤ c.toNat) : ¬ sign c = true := by
  unfold sign
  simp only [Bool.or_eq_true, beq_iff_eq]
  rintro ((e | e) | e) <;> (subst e; revert h; decide)
theorem sign_low {c : UInt8} (h : sign c = true) : c.toNat < 128 := by
  unfold sign at h
  simp only [Bool.or_eq_true, beq_iff_eq] at h
  rcases h with (e | e) | e <;> (subst e; decide)
theorem esc_no {c : UInt8} {r : List UInt8} (h : ¬ sign c = true) : esc (c :: r) = c :: esc r := by simp only [esc, if_neg h]
theorem esc_yes {c : UInt8} {r : List UInt8} (h : sign c = true) : esc (c :: r) = 92 :: c :: esc r := by simp only [esc, if_pos h]
/-- No sign: escaped it is itself. -/
theorem esc_plain : ∀ l : List UInt8, (∀ c ∈ l, ¬ sign c = true) → esc l = l
  | [], _ => rfl
  | c :: r, h => by rw [esc_no (h c List.mem_cons_self), esc_plain r (fun d hd => h d (List.mem_cons_of_mem _ hd))]
/-- Signs are there just if there are some in the escaped text. -/
theorem esc_any : ∀ l : List UInt8, (esc l).any sign = l.any sign
  | [] => rfl
  | c :: r => by
    by_cases h : sign c = true
    · rw [esc_yes h, List.any_cons, List.any_cons, h, List.any_cons, h]; simp
    · rw [esc_no h, List.any_cons, List.any_cons, esc_any r]

/-- UTF-8: rune by rune. -/
inductive Val : List UInt8 → Prop
  | nil : Val []
  | cons (l : List UInt8) (hne : l ≠ []) (h : ¬ ((decodeL l).1 = 65533 ∧ (decodeL l).2 = 1)) (hr : Val (l.drop (decodeL l).2)) : Val l
theorem width_pos (l : List UInt8) (h : l ≠ []) : 1 ≤ (decodeL l).2 := by
  rw [decodeL_N]
  rcases decodeN_shape l.length (l.getD 0 0).toNat (l.getD 1 0).toNat (l.getD 2 0).toNat (l.getD 3 0).toNat with ⟨c, e⟩ | ⟨c1, c2, c3, cv, e⟩ | ⟨c1, c2, c3, c4, cv, cs, e⟩ | ⟨c1, c2, c3, c4, c5, cv, cw, e⟩ | e <;> (rw [e]; first | exact Nat.le_refl 1 | exact (show 1 ≤ 2 by omega) | exact (show 1 ≤ 3 by omega) | exact (show 1 ≤ 4 by omega))
/-- The runes' bytes, one behind the other. -/
def cat : Nat → List UInt8 → List UInt8
  | 0, _ => []
  | n + 1, l => if l = [] then [] else encodeRune ((decodeL l).1 : Int) ++ cat n (l.drop (decodeL l).2)
theorem cat_val : ∀ (n : Nat) (l : List UInt8), l.length ≤ n → l.length ≤ (cat n l).length ∧ ((cat n l).length = l.length → Val l)
  | 0, l, h => by
    have : l = [] := List.eq_nil_of_length_eq_zero (by omega)
    subst this
    exact ⟨Nat.le_refl _, fun _ => Val.nil⟩
  | n + 1, l, h => by
    by_cases hne : l = []
    · subst hne; exact ⟨Nat.zero_le _, fun _ => Val.nil⟩
    · have hw := width_pos l hne
      have hl := decodeL_le l hne
      have hpos := List.length_pos_iff.2 hne
      obtain ⟨h1, h2⟩ := cat_val n (l.drop (decodeL l).2) (by rw [List.length_drop]; omega)
      rw [List.length_drop] at h1 h2
      simp only [cat, if_neg hne, List.length_append]
      by_cases hv : (decodeL l).1 = 65533 ∧ (decodeL l).2 = 1
      · have he : (encodeRune ((decodeL l).1 : Int)).length = 3 := by rw [hv.1]; decide
        rw [he]
        obtain ⟨_, hv2⟩ := hv
        exact ⟨by omega, fun h => by omega⟩
      · have he : (encodeRune ((decodeL l).1 : Int)).length = (decodeL l).2 := by
          rw [encode_decode l hne hv, List.length_take]; omega
        rw [he]
        exact ⟨by omega, fun h => Val.cons l hne hv (h2 (by omega))⟩
theorem len1 : ∀ l : List UInt8, 0 < l.length → ∃ x r, l = x :: r
  | x :: r, _ => ⟨x, r, rfl⟩
theorem len2 (l : List UInt8) (h : 1 < l.length) : ∃ x y r, l = x :: y :: r := by
  obtain ⟨x, r, rfl⟩ := len1 l (by omega)
  obtain ⟨y, r, rfl⟩ := len1 r (by simp only [List.length_cons] at h; omega)
  exact ⟨x, y, r, rfl⟩
theorem len3 (l : List UInt8) (h : 2 < l.length) : ∃ x y z r, l = x :: y :: z :: r := by
  obtain ⟨x, y, r, rfl⟩ := len2 l (by omega)
  obtain ⟨z, r, rfl⟩ := len1 r (by simp only [List.length_cons] at h; omega)
  exact ⟨x, y, z, r, rfl⟩
theorem len4 (l : List UInt8) (h : 3 < l.length) : ∃ x y z u r, l = x :: y :: z :: u :: r := by
  obtain ⟨x, y, z, r, rfl⟩ := len3 l (by omega)
  obtain ⟨u, r, rfl⟩ := len1 r (by simp only [List.length_cons] at h; omega)
  exact ⟨x, y, z, u, r, rfl⟩
set_option maxRecDepth 100000 in
/-- What a valid rune that is no sign is, it is in the escaped text, too. -/
theorem esc_head {l : List UInt8} (hne : l ≠ []) (hv : ¬ ((decodeL l).1 = 65533 ∧ (decodeL l).2 = 1)) (hs : ¬ sign (l.getD 0 0) = true) : decodeL (esc l) = decodeL l ∧ esc l = l.take (decodeL l).2 ++ esc (l.drop (decodeL l).2) ∧ (l.take (decodeL l).2).any sign = false := by
  rw [decodeL_N, decodeL_N l]
  rw [decodeL_N l] at hv
  rcases decodeN_shape l.length (l.getD 0 0).toNat (l.getD 1 0).toNat (l.getD 2 0).toNat (l.getD 3 0).toNat with ⟨c, e⟩ | ⟨c1, c2, c3, cv, e⟩ | ⟨c1, c2, c3, c4, cv, cs, e⟩ | ⟨c1, c2, c3, c4, c5, cv, cw, e⟩ | e
  · rw [e]
    obtain ⟨x, r, rfl⟩ := len1 l (List.length_pos_iff.2 hne)
    have hs' : ¬ sign x = true := hs
    have c' : x.toNat < 128 := c
    rw [esc_no hs']
    refine ⟨?_, rfl, by simp [hs']⟩
    show decodeN (x :: esc r).length x.toNat _ _ _ = (x.toNat, 1)
    unfold decodeN
    rw [if_pos c']
  · rw [e]
    obtain ⟨x, y, r, rfl⟩ := len2 l c2
    have hs' : ¬ sign x = true := hs
    have hy : ¬ sign y = true := sign_high (by have : y.toNat / 64 = 2 := c3; omega)
    rw [esc_no hs', esc_no hy]
    refine ⟨?_, rfl, by simp [hs', hy]⟩
    show decodeN (x :: y :: esc r).length x.toNat y.toNat _ _ = (x.toNat % 32 * 64 + y.toNat % 64, 2)
    have c1' : x.toNat / 32 = 6 := c1
    have c3' : y.toNat / 64 = 2 := c3
    have cv' : 128 ≤ x.toNat % 32 * 64 + y.toNat % 64 := cv
    have hl : 1 < (x :: y :: esc r).length := by simp only [List.length_cons]; omega
    unfold decodeN
    rw [if_neg (by omega), if_pos ⟨c1', hl, c3'⟩, if_pos cv']
  · rw [e]
    obtain ⟨x, y, z, r, rfl⟩ := len3 l c2
    have hs' : ¬ sign x = true := hs
    have c1' : x.toNat / 16 = 14 := c1
    have c3' : y.toNat / 64 = 2 := c3
    have c4' : z.toNat / 64 = 2 := c4
    have cv' : 2048 ≤ x.toNat % 16 * 4096 + y.toNat % 64 * 64 + z.toNat % 64 := cv
    have cs' : x.toNat % 16 * 4096 + y.toNat % 64 * 64 + z.toNat % 64 < 55296 ∨ 57344 ≤ x.toNat % 16 * 4096 + y.toNat % 64 * 64 + z.toNat % 64 := cs
    have hy : ¬ sign y = true := sign_high (by omega)
    have hz : ¬ sign z = true := sign_high (by omega)
    rw [esc_no hs', esc_no hy, esc_no hz]
    refine ⟨?_, rfl, by simp [hs', hy, hz]⟩
    show decodeN (x :: y :: z :: esc r).length x.toNat y.toNat z.toNat _ = (x.toNat % 16 * 4096 + y.toNat % 64 * 64 + z.toNat % 64, 3)
    have hl : 2 < (x :: y :: z :: esc r).length := by simp only [List.length_cons]; omega
    unfold decodeN
    rw [if_neg (by omega), if_neg (by omega), if_pos ⟨c1', ⟨by omega, c3'⟩, ⟨hl, c4'⟩⟩, if_pos ⟨cv', by omega⟩]
  · rw [e]
    obtain ⟨x, y, z, u, r, rfl⟩ := len4 l c2
    have hs' : ¬ sign x = true := hs
    have c1' : x.toNat / 8 = 30 := c1
    have c3' : y.toNat / 64 = 2 := c3
    have c4' : z.toNat / 64 = 2 := c4
    have c5' : u.toNat / 64 = 2 := c5
    have cv' : 65536 ≤ x.toNat % 8 * 262144 + y.toNat % 64 * 4096 + z.toNat % 64 * 64 + u.toNat % 64 := cv
    have cw' : x.toNat % 8 * 262144 + y.toNat % 64 * 4096 + z.toNat % 64 * 64 + u.toNat % 64 ≤ 1114111 := cw
    have hy : ¬ sign y = true := sign_high (by omega)
    have hz : ¬ sign z = true := sign_high (by omega)
    have hu : ¬ sign u = true := sign_high (by omega)
    rw [esc_no hs', esc_no hy, esc_no hz, esc_no hu]
    refine ⟨?_, rfl, by simp [hs', hy, hz, hu]⟩
    show decodeN (x :: y :: z :: u :: esc r).length x.toNat y.toNat z.toNat u.toNat = (x.toNat % 8 * 262144 + y.toNat % 64 * 4096 + z.toNat % 64 * 64 + u.toNat % 64, 4)
    have hl : 3 < (x :: y :: z :: u :: esc r).length := by simp only [List.length_cons]; omega
    unfold decodeN
    rw [if_neg (by omega), if_neg (by omega), if_neg (by omega), if_pos ⟨c1', ⟨by omega, c3'⟩, ⟨by omega, c4'⟩, ⟨hl, c5'⟩⟩, if_pos ⟨cv', by omega⟩]
  · exact absurd (by rw [e]; exact ⟨rfl, rfl⟩) hv
theorem Val.head {l : List UInt8} (h : Val l) (hne : l ≠ []) : ¬ ((decodeL l).1 = 65533 ∧ (decodeL l).2 = 1) ∧ Val (l.drop (decodeL l).2) := by
  cases h with
  | nil => exact absurd rfl hne
  | cons _ _ h hr => exact ⟨h, hr⟩
theorem decode_ascii {c : UInt8} (r : List UInt8) (h : c.toNat < 128) : decodeL (c :: r) = (c.toNat, 1) := by
  rw [decodeL_N]
  unfold decodeN
  rw [if_pos (by simpa using h)]; rfl
/-- The rune at a place of a text. -/
theorem decode_drop (s : ByteArray) (p : Nat) (h : p ≤ s.size) : Utf8.decode s p = decodeL (s.data.toList.drop p) := by
  have h1 := tail_decode s p 0
  rw [Nat.add_zero] at h1
  rw [← h1]
  unfold decodeL
  congr 1
  apply ByteArray.ext
  apply Array.toList_inj.1
  rw [ByteArray.data_extract, Array.toList_extract]
  show List.take (s.size - p) (s.data.toList.drop p) = s.data.toList.drop p
  rw [List.take_of_length_le (by rw [List.length_drop, Array.length_toList]; exact Nat.le_refl _)]
/-- A rune that is no sign, in the escaped text. -/
theorem step_plain {c : UInt8} {r : List UInt8} (hv : Val (c :: r)) (hs : ¬ sign c = true) : ∃ q n : Nat, decodeL (esc (c :: r)) = (q, n) ∧ 1 ≤ n ∧ n ≤ (c :: r).length ∧ q ≠ 92 ∧ q ≠ 44 ∧ q ≠ 61 ∧ q ≤ 2147483647 ∧ encodeRune (q : Int) = (c :: r).take n ∧ (esc (c :: r)).drop n = esc ((c :: r).drop n) ∧ Val ((c :: r).drop n) ∧ ((c :: r).take n).any sign = false := by
  have hne : (c :: r) ≠ [] := by simp
  obtain ⟨h1, h2⟩ := hv.head hne
  obtain ⟨e1, e2, e3⟩ := esc_head hne h1 hs
  have hw := width_pos _ hne
  have hl := decodeL_le _ hne
  have he := encode_decode _ hne h1
  have hq : (decodeL (c :: r)).1 ≠ 92 ∧ (decodeL (c :: r)).1 ≠ 44 ∧ (decodeL (c :: r)).1 ≠ 61 := by
    by_cases hc : c.toNat < 128
    · rw [decode_ascii r hc]
      unfold sign at hs
      simp only [Bool.or_eq_true, beq_iff_eq, not_or] at hs
      exact ⟨fun e => hs.1.1 (UInt8.toNat_inj.1 e), fun e => hs.1.2 (UInt8.toNat_inj.1 e), fun e => hs.2 (UInt8.toNat_inj.1 e)⟩
    · have : 128 ≤ (decodeL (c :: r)).1 := by
        rw [decodeL_N]
        rcases decodeN_shape (c :: r).length ((c :: r).getD 0 0).toNat ((c :: r).getD 1 0).toNat ((c :: r).getD 2 0).toNat ((c :: r).getD 3 0).toNat with ⟨k, e⟩ | ⟨k1, k2, k3, kv, e⟩ | ⟨k1, k2, k3, k4, kv, ks, e⟩ | ⟨k1, k2, k3, k4, k5, kv, kw, e⟩ | e
        · exact absurd k hc
        · rw [e]; exact kv
        · rw [e]; exact Nat.le_trans (by omega) kv
        · rw [e]; exact Nat.le_trans (by omega) kv
        · rw [e]; show 128 ≤ 65533; omega
      omega
  have hb : (decodeL (c :: r)).1 ≤ 2147483647 := by unfold decodeL; exact decode_le _ _
  refine ⟨(decodeL (c :: r)).1, (decodeL (c :: r)).2, e1, hw, hl, hq.1, hq.2.1, hq.2.2, hb, he, ?_, h2, e3⟩
  rw [e2, List.drop_left' (by rw [List.length_take]; omega)]
theorem any_drop {l : List UInt8} {n : Nat} (h : (l.take n).any sign = false) : l.any sign = (l.drop n).any sign := by
  have e : l.any sign = ((l.take n) ++ (l.drop n)).any sign := by rw [List.take_append_drop]
  rw [e, List.any_append, h, Bool.false_or]
theorem sign_cases {c : UInt8} (h : sign c = true) : c = 92 ∨ c = 44 ∨ c = 61 := by
  unfold sign at h
  simp only [Bool.or_eq_true, beq_iff_eq] at h
  rcases h with (e | e) | e
  · exact Or.inl e
  · exact Or.inr (Or.inl e)
  · exact Or.inr (Or.inr e)
theorem enc_ascii {c : UInt8} (h : c.toNat < 128) : encodeRune (c.toNat : Int) = [c] := by
  unfold encodeRune
  rw [encodeRuneZ_one (by omega) (by omega)]
  simp
end Go.Proofs.YthejejeginnbdaaGreatDoor.EscN
