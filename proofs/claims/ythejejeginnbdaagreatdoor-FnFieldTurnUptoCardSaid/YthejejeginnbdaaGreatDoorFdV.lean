/- Parts of texts that are UTF-8 are UTF-8, where they are cut at signs of one byte: plain facts. -/
import Derived.Test.YthejejeginnbdaaGreatDoorFdN
set_option linter.unusedVariables false
set_option linter.unusedSimpArgs false
namespace Go.Proofs.YthejejeginnbdaaGreatDoor.FdN
open Go.Lib Go.Proofs.YthejejeginnbdaaGreatDoor.EscN

theorem getD_app {a z : List UInt8} {i : Nat} (h : i < a.length) : (a ++ z).getD i 0 = a.getD i 0 := by
  rw [List.getD_eq_getElem?_getD, List.getD_eq_getElem?_getD, List.getElem?_append_left h]
/-- A valid rune that lies in a text's part is the part's, too; its bytes behind the first one are high. -/
theorem dec_pre (a z : List UInt8) (hv : ¬ ((decodeL (a ++ z)).1 = 65533 ∧ (decodeL (a ++ z)).2 = 1)) (hn : (decodeL (a ++ z)).2 ≤ a.length) (hne : a ≠ []) : decodeL a = decodeL (a ++ z) := by
  have h0 : 0 < a.length := List.length_pos_iff.2 hne
  rw [decodeL_N (a ++ z)] at hv hn ⊢
  rw [decodeL_N a]
  rw [getD_app h0] at *
  rcases decodeN_shape (a ++ z).length (a.getD 0 0).toNat ((a ++ z).getD 1 0).toNat ((a ++ z).getD 2 0).toNat ((a ++ z).getD 3 0).toNat with ⟨c, e⟩ | ⟨c1, c2, c3, cv, e⟩ | ⟨c1, c2, c3, c4, cv, cs, e⟩ | ⟨c1, c2, c3, c4, c5, cv, cw, e⟩ | e
  · rw [e]; unfold decodeN; rw [if_pos c]
  · rw [e] at hn ⊢
    have hn' : 2 ≤ a.length := hn
    rw [getD_app (by omega : 1 < a.length)] at c3 cv ⊢
    unfold decodeN
    rw [if_neg (by omega), if_pos ⟨c1, by omega, c3⟩, if_pos cv]
  · rw [e] at hn ⊢
    have hn' : 3 ≤ a.length := hn
    rw [getD_app (by omega : 1 < a.length)] at *
    rw [getD_app (by omega : 2 < a.length)] at *
    unfold decodeN
    rw [if_neg (by omega), if_neg (by omega), if_pos ⟨c1, ⟨by omega, c3⟩, ⟨by omega, c4⟩⟩, if_pos ⟨cv, by omega⟩]
  · rw [e] at hn ⊢
    have hn' : 4 ≤ a.length := hn
    rw [getD_app (by omega : 1 < a.length)] at *
    rw [getD_app (by omega : 2 < a.length)] at *
    rw [getD_app (by omega : 3 < a.length)] at *
    unfold decodeN
    rw [if_neg (by omega), if_neg (by omega), if_neg (by omega), if_pos ⟨c1, ⟨by omega, c3⟩, ⟨by omega, c4⟩, ⟨by omega, c5⟩⟩, if_pos ⟨cv, by omega⟩]
  · rw [e] at hv; exact absurd ⟨rfl, rfl⟩ hv
theorem dec_high (l : List UInt8) (hv : ¬ ((decodeL l).1 = 65533 ∧ (decodeL l).2 = 1)) (i : Nat) (h1 : 1 ≤ i) (h2 : i < (decodeL l).2) : 128 ≤ (l.getD i 0).toNat := by
  rw [decodeL_N] at hv h2
  rcases decodeN_shape l.length (l.getD 0 0).toNat (l.getD 1 0).toNat (l.getD 2 0).toNat (l.getD 3 0).toNat with ⟨c, e⟩ | ⟨c1, c2, c3, cv, e⟩ | ⟨c1, c2, c3, c4, cv, cs, e⟩ | ⟨c1, c2, c3, c4, c5, cv, cw, e⟩ | e
  · rw [e] at h2; have h2' : i < 1 := h2; omega
  · rw [e] at h2
    have h2' : i < 2 := h2
    obtain rfl : i = 1 := by omega
    omega
  · rw [e] at h2
    have h2' : i < 3 := h2
    have : i = 1 ∨ i = 2 := by omega
    rcases this with rfl | rfl <;> omega
  · rw [e] at h2
    have h2' : i < 4 := h2
    have : i = 1 ∨ i = 2 ∨ i = 3 := by omega
    rcases this with rfl | rfl | rfl <;> omega
  · rw [e] at hv; exact absurd ⟨rfl, rfl⟩ hv
theorem Val.split : ∀ (n : Nat) (a : List UInt8) (c : UInt8) (b : List UInt8), a.length ≤ n → Val (a ++ c :: b) → c.toNat < 128 → Val a ∧ Val b := by
  intro n
  induction n with
  | zero =>
    intro a c b h hv hc
    obtain rfl : a = [] := List.length_eq_zero_iff.1 (by omega)
    have := (hv.head (by simp)).2
    rw [List.nil_append, EscN.decode_ascii b hc] at this
    exact ⟨Val.nil, this⟩
  | succ n ih =>
    intro a c b h hv hc
    by_cases ha : a = []
    · subst ha
      have := (hv.head (by simp)).2
      rw [List.nil_append, EscN.decode_ascii b hc] at this
      exact ⟨Val.nil, this⟩
    · obtain ⟨h1, h2⟩ := hv.head (by simp)
      have hw := width_pos (a ++ c :: b) (by simp)
      have h0 : 0 < a.length := List.length_pos_iff.2 ha
      have hle : (decodeL (a ++ c :: b)).2 ≤ a.length := by
        rcases Nat.lt_or_ge a.length (decodeL (a ++ c :: b)).2 with hlt | hge
        · have := dec_high _ h1 a.length h0 hlt
          have e : (a ++ c :: b).getD a.length 0 = c := by rw [List.getD_eq_getElem?_getD, List.getElem?_append_right (Nat.le_refl _)]; simp
          rw [e] at this; omega
        · exact hge
      have hd := dec_pre a (c :: b) h1 hle ha
      rw [List.drop_append_of_le_length hle] at h2
      obtain ⟨i1, i2⟩ := ih (a.drop (decodeL (a ++ c :: b)).2) c b (by rw [List.length_drop]; omega) h2 hc
      exact ⟨Val.cons a ha (by rw [hd]; exact h1) (by rw [hd]; exact i1), i2⟩
end Go.Proofs.YthejejeginnbdaaGreatDoor.FdN
