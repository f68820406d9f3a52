/- Pieces of a selector's text, and their order: the reference's are the program's; in plain Lean. -/
import Derived.Test.YthejejeginnbdaaGreatDoorPFnFieldTurnx
import Derived.Test.YthejejeginnbdaaGreatDoorTxt
import Derived.Test.YthejejeginnbdaaGreatDoorEvs
import Derived.Test.YthejejeginnbdaaGreatDoorFdV
import Derived.Lib.DecodeN
import Derived.Sort.KeysCollected
import Derived.Sort.Walk0
set_option linter.unusedVariables false
set_option linter.unusedSimpArgs false
namespace Go.Proofs.YthejejeginnbdaaGreatDoor.FdQ
open Go Go.RowKit Go.Proofs.YthejejeginnbdaaGreatDoor.PFnFieldTurn Go.Proofs.YthejejeginnbdaaGreatDoorW.PrintWords Go.Proofs.YthejejeginnbdaaGreatDoorW.PrintLast Go.Proofs.YthejejeginnbdaaGreatDoor.Txt Go.Proofs.YthejejeginnbdaaGreatDoor

/-- The byte at a place, as a number. -/
def by_ (s : ByteArray) (i : Nat) : Nat := (s.get! i).toNat

theorem by_at (s : ByteArray) (i : Nat) (h : i < s.size) : bt s (i : Int) = (by_ s i : Int) := by
  have hl : i < s.data.toList.length := by rw [← size_len]; exact h
  rw [bt_nat s i hl]
  unfold by_
  congr 1
  have : s.get! i = s.data.toList[i] := by
    show s.get! i = _
    have h2 : i < s.data.size := h
    simp only [ByteArray.get!]
    exact getElem!_pos s.data i h2
  rw [this]

theorem dec_cont (s : ByteArray) (p : Nat) (h : p < s.size) : 1 ≤ (Utf8.decode s p).2 ∧ p + (Utf8.decode s p).2 ≤ s.size ∧ (∀ j, 1 ≤ j → j < (Utf8.decode s p).2 → 128 ≤ by_ s (p + j)) ∧ (by_ s p < 128 → Utf8.decode s p = (by_ s p, 1)) ∧ (128 ≤ by_ s p → 128 ≤ (Utf8.decode s p).1) := by
  unfold by_
  rw [Lib.decode_at]
  generalize (s.get! p).toNat = b0
  generalize e1 : (s.get! (p + 1)).toNat = b1
  generalize e2 : (s.get! (p + 2)).toNat = b2
  generalize e3 : (s.get! (p + 3)).toNat = b3
  have hj : ∀ w, w ≤ 4 → (1 < w → 128 ≤ b1) → (2 < w → 128 ≤ b2) → (3 < w → 128 ≤ b3) → ∀ j, 1 ≤ j → j < w → 128 ≤ (s.get! (p + j)).toNat := by
    intro w hw h1 h2 h3 j hj1 hj2
    have : j = 1 ∨ j = 2 ∨ j = 3 := by omega
    rcases this with rfl | rfl | rfl
    · rw [e1]; exact h1 (by omega)
    · rw [e2]; exact h2 (by omega)
    · rw [e3]; exact h3 (by omega)
  unfold Lib.decodeN
  repeat' split
  all_goals refine ⟨by simp, by simp; omega, hj _ (by simp) (by simp; try omega) (by simp; try omega) (by simp; try omega), fun z => ?_, fun z => ?_⟩
  all_goals first | rfl | (exfalso; omega) | (simp; try omega)

theorem fp_rd (ts : List ByteArray) (c : ByteArray) : rdOf ByteArray.empty (ts ++ [c]) (ts.length : Int) = c := by simp [rdOf]
theorem fp_put (ts : List ByteArray) (c e : ByteArray) : (ts ++ [c]).set ((ts.length : Int)).toNat e = ts ++ [e] := by simp
theorem ex_join (s : ByteArray) (a b c : Nat) (h1 : a ≤ b) (h2 : b ≤ c) : s.extract a b ++ s.extract b c = s.extract a c := by
  apply ext
  rw [data_append, data_extract, data_extract, data_extract]
  have e : c - a = (b - a) + (c - b) := by omega
  rw [e, List.take_add, List.drop_drop, show a + (b - a) = b by omega]
theorem ex_none (s : ByteArray) (a : Nat) : (⟨#[]⟩ : ByteArray) = s.extract a a := by
  apply ext
  rw [data_extract]; simp

section
variable (s : ByteArray) (hs : s.size ≤ 2147483647)
include hs

theorem j_one (ts : List ByteArray) (c : ByteArray) (p : Nat) (r : List ByteArray) (hp : p < s.size) (hb : by_ s p ≠ 44) (hl : ts.length ≤ 2147483647) (hc : c.size ≤ 2147483647)
    (e : Ev (fun k => spec_FieldPieces.l0 k s (ts ++ [c ++ s.extract p (p + 1)]) ((p + 1 : Nat) : Int)) r) : Ev (fun k => spec_FieldPieces.j1 k s (ts ++ [c]) (p : Int) 1 false) r := by
  have w1 : Aside0 (wrap64 (((ts ++ [c]).length : Int) - 1) = (ts.length : Int)) := ⟨by rw [List.length_append, List.length_singleton, Small.w64 _ (by omega) (by omega)]; omega⟩
  have w2 : Aside0 (wrap64 ((p : Int) + 1) = ((p + 1 : Nat) : Int)) := ⟨by rw [Small.w64 _ (by omega) (by omega)]; omega⟩
  have w4 : Aside0 (wrap64 (1 - 1) = 0) := ⟨by rw [Small.w64 _ (by omega) (by omega)]; rfl⟩
  have w3 : Aside0 (wrap64 ((p : Int) + 0) = (p : Int)) := ⟨by rw [Small.w64 _ (by omega) (by omega)]; omega⟩
  have hz : (s.extract p (p + 1)).size ≤ 2147483647 := by rw [ByteArray.size_extract]; omega
  refine Ev.step (fun k => ?_) e
  simp only [spec_FieldPieces.j1]
  rw [if_neg (by simp), if_pos (by omega), if_pos (by omega), by_at s p hp, if_neg (by omega), w1.out, if_pos (by omega), if_pos (by simp; omega), w2.out, if_pos (by omega), if_pos (by omega), fp_rd]
  simp only [Int.toNat_natCast]
  rw [if_pos (by omega), w4.out, w3.out, w2.out]
  have := fp_put ts c (c ++ s.extract p (p + 1))
  simp only [Int.toNat_natCast] at this
  rw [this]

theorem j_two (ts : List ByteArray) (c : ByteArray) (p : Nat) (r : List ByteArray) (hp : p + 1 < s.size) (hb : by_ s p ≠ 44) (hl : ts.length ≤ 2147483647) (hc : c.size ≤ 2147483647)
    (e : Ev (fun k => spec_FieldPieces.l0 k s (ts ++ [c ++ s.extract p (p + 2)]) ((p + 2 : Nat) : Int)) r) : Ev (fun k => spec_FieldPieces.j1 k s (ts ++ [c]) (p : Int) 1 true) r := by
  have w1 : Aside0 (wrap64 (((ts ++ [c]).length : Int) - 1) = (ts.length : Int)) := ⟨by rw [List.length_append, List.length_singleton, Small.w64 _ (by omega) (by omega)]; omega⟩
  have w2 : Aside0 (wrap64 ((p : Int) + 2) = ((p + 2 : Nat) : Int)) := ⟨by rw [Small.w64 _ (by omega) (by omega)]; omega⟩
  have w3 : Aside0 (wrap64 (wrap64 ((p : Int) + (2 - 1)) + 1) = ((p + 2 : Nat) : Int)) := ⟨by rw [Small.w64 ((p : Int) + (2 - 1)) (by omega) (by omega), Small.w64 _ (by omega) (by omega)]; omega⟩
  have hz : (s.extract p (p + 2)).size ≤ 2147483647 := by rw [ByteArray.size_extract]; omega
  refine Ev.step (fun k => ?_) e
  simp only [spec_FieldPieces.j1]
  rw [if_pos trivial, if_pos (by omega), if_pos (by omega), by_at s p (by omega), if_neg (by omega), w1.out, if_pos (by omega), if_pos (by simp; omega), w2.out, if_pos (by omega), if_pos (by omega), fp_rd]
  simp only [Int.toNat_natCast]
  rw [if_pos (by omega), w3.out]
  have := fp_put ts c (c ++ s.extract p (p + 2))
  simp only [Int.toNat_natCast] at this
  rw [this]

theorem j_comma (ts : List ByteArray) (c : ByteArray) (p : Nat) (r : List ByteArray) (hp : p < s.size) (hb : by_ s p = 44) (hl : ts.length ≤ 2147483647)
    (e : Ev (fun k => spec_FieldPieces.l0 k s ((ts ++ [c]) ++ [(⟨#[]⟩ : ByteArray)]) ((p + 1 : Nat) : Int)) r) : Ev (fun k => spec_FieldPieces.j1 k s (ts ++ [c]) (p : Int) 1 false) r := by
  have w3 : Aside0 (wrap64 (wrap64 ((p : Int) + wrap64 (1 - 1)) + 1) = ((p + 1 : Nat) : Int)) := ⟨by rw [Small.w64 (1 - 1) (by omega) (by omega), Small.w64 ((p : Int) + (1 - 1)) (by omega) (by omega), Small.w64 _ (by omega) (by omega)]; omega⟩
  refine Ev.step (fun k => ?_) e
  simp only [spec_FieldPieces.j1]
  rw [if_neg (by simp), if_pos (by omega), if_pos (by omega), by_at s p hp, if_pos (by omega), if_pos (by simp; omega), w3.out]

omit hs in
theorem l_other (x : List ByteArray) (p : Nat) (r : List ByteArray) (hp : p < s.size) (hb : by_ s p ≠ 92) (e : Ev (fun k => spec_FieldPieces.j1 k s x (p : Int) 1 false) r) : Ev (fun k => spec_FieldPieces.l0 k s x (p : Int)) r := by
  refine Ev.step (fun k => ?_) e
  simp only [spec_FieldPieces.l0]
  rw [if_pos (by omega), if_pos (by omega), by_at s p hp, if_neg (by omega)]

theorem l_esc (x : List ByteArray) (p : Nat) (r : List ByteArray) (hp : p < s.size) (hb : by_ s p = 92) (e : Ev (fun k => spec_FieldPieces.j1 k s x (p : Int) 1 (decide (p + 1 < s.size))) r) : Ev (fun k => spec_FieldPieces.l0 k s x (p : Int)) r := by
  have w2 : Aside0 (wrap64 ((p : Int) + 1) = ((p + 1 : Nat) : Int)) := ⟨by rw [Small.w64 _ (by omega) (by omega)]; omega⟩
  refine Ev.step (fun k => ?_) e
  simp only [spec_FieldPieces.l0]
  rw [if_pos (by omega), if_pos (by omega), by_at s p hp, if_pos (by omega), w2.out]
  congr 1
  exact decide_eq_decide.2 (by omega)

omit hs in
theorem l_end (x : List ByteArray) (p : Nat) (hp : ¬ p < s.size) : Ev (fun k => spec_FieldPieces.l0 k s x (p : Int)) x :=
  Evs.at1 fun k => by simp only [spec_FieldPieces.l0]; rw [if_neg (by omega)]

/-- Bytes that are no sign. -/
theorem l_skip (m : Nat) : ∀ (ts : List ByteArray) (st p : Nat) (r : List ByteArray), st ≤ p → p + m ≤ s.size → ts.length ≤ 2147483647 → (∀ j, j < m → by_ s (p + j) ≠ 92 ∧ by_ s (p + j) ≠ 44) →
    Ev (fun k => spec_FieldPieces.l0 k s (ts ++ [s.extract st (p + m)]) ((p + m : Nat) : Int)) r → Ev (fun k => spec_FieldPieces.l0 k s (ts ++ [s.extract st p]) (p : Int)) r := by
  induction m with
  | zero => intro ts st p r _ _ _ _ e; exact e
  | succ m ih =>
    intro ts st p r h1 h2 h3 h4 e
    have hb := h4 0 (by omega)
    refine l_other s _ p r (by omega) hb.1 (j_one s hs ts _ p r (by omega) hb.2 h3 (by rw [ByteArray.size_extract]; omega) ?_)
    rw [ex_join s st p (p + 1) h1 (by omega)]
    refine ih ts st (p + 1) r (by omega) (by omega) h3 (fun j hj => ?_) ?_
    · have := h4 (j + 1) (by omega)
      rw [show p + 1 + j = p + (j + 1) by omega]; exact this
    · rw [show p + 1 + m = p + (m + 1) by omega]; exact e

theorem both (n : Nat) : ∀ (ts : List ByteArray) (st p : Nat), p + n = s.size → st ≤ p → ts.length ≤ p → ∃ r, Ev (fun k => spl s k ts st false p) r ∧ Ev (fun k => spec_FieldPieces.l0 k s (ts ++ [s.extract st p]) (p : Int)) r ∧ r.length ≤ s.size + 1 := by
  induction n using Nat.strongRecOn with
  | _ n ih =>
    intro ts st p hpn hst hts
    by_cases hp : p < s.size
    · obtain ⟨d1, d2, d3, d4, d5⟩ := dec_cont s p hp
      by_cases hlow : by_ s p < 128
      · have hd := d4 hlow
        by_cases h92 : by_ s p = 92
        · by_cases hq : p + 1 < s.size
          · obtain ⟨f1, f2, f3, _, _⟩ := dec_cont s (p + 1) hq
            obtain ⟨r, i1, i2, i3⟩ := ih (s.size - (p + 1 + (Utf8.decode s (p + 1)).2)) (by omega) ts st (p + 1 + (Utf8.decode s (p + 1)).2) (by omega) (by omega) (by omega)
            refine ⟨r, ?_, ?_, i3⟩
            · refine Ev.step (f := fun k => spl s k ts st true (p + 1)) (fun k => ?_) (Ev.step (f := fun k => spl s k ts st false (p + 1 + (Utf8.decode s (p + 1)).2)) (fun k => ?_) i1)
              · simp only [spl]; rw [if_pos hp, if_neg (by simp), hd, if_pos h92]
              · simp only [spl]; rw [if_pos hq, if_pos trivial]
            · refine l_esc s hs _ p r hp h92 ?_
              rw [decide_eq_true hq]
              refine j_two s hs ts _ p r hq (by omega) (by omega) (by rw [ByteArray.size_extract]; omega) ?_
              rw [ex_join s st p (p + 2) hst (by omega)]
              refine l_skip s hs ((Utf8.decode s (p + 1)).2 - 1) ts st (p + 2) r (by omega) (by omega) (by omega) (fun j hj => ?_) ?_
              · have := f3 (j + 1) (by omega) (by omega)
                rw [show p + 1 + (j + 1) = p + 2 + j by omega] at this
                omega
              · rw [show p + 2 + ((Utf8.decode s (p + 1)).2 - 1) = p + 1 + (Utf8.decode s (p + 1)).2 by omega]; exact i2
          · obtain ⟨r, i1, i2, i3⟩ : ∃ r, Ev (fun k => spl s k ts st true (p + 1)) r ∧ Ev (fun k => spec_FieldPieces.l0 k s (ts ++ [s.extract st (p + 1)]) ((p + 1 : Nat) : Int)) r ∧ r.length ≤ s.size + 1 := by
              refine ⟨ts ++ [s.extract st s.size], Evs.at1 fun k => ?_, ?_, by simp; omega⟩
              · simp only [spl]; rw [if_neg hq, if_pos ⟨by omega, by omega⟩]
              · have e : p + 1 = s.size := by omega
                rw [← e]; exact l_end s _ (p + 1) (by omega)
            refine ⟨r, ?_, ?_, i3⟩
            · refine Ev.step (f := fun k => spl s k ts st true (p + 1)) (fun k => ?_) i1
              simp only [spl]; rw [if_pos hp, if_neg (by simp), hd, if_pos h92]
            · refine l_esc s hs _ p r hp h92 ?_
              rw [decide_eq_false hq]
              refine j_one s hs ts _ p r hp (by omega) (by omega) (by rw [ByteArray.size_extract]; omega) ?_
              rw [ex_join s st p (p + 1) hst (by omega)]
              exact i2
        · by_cases h44 : by_ s p = 44
          · obtain ⟨r, i1, i2, i3⟩ := ih (s.size - (p + 1)) (by omega) (ts ++ [s.extract st p]) (p + 1) (p + 1) (by omega) (by omega) (by simp; omega)
            refine ⟨r, ?_, ?_, i3⟩
            · refine Ev.step (f := fun k => spl s k (ts ++ [s.extract st p]) (p + 1) false (p + 1)) (fun k => ?_) i1
              simp only [spl]; rw [if_pos hp, if_neg (by simp), hd, if_neg h92, if_pos h44, if_pos ⟨hst, by omega⟩]
            · refine l_other s _ p r hp h92 (j_comma s hs ts _ p r hp h44 (by omega) ?_)
              rw [ex_none s (p + 1)]; exact i2
          · obtain ⟨r, i1, i2, i3⟩ := ih (s.size - (p + 1)) (by omega) ts st (p + 1) (by omega) (by omega) (by omega)
            refine ⟨r, ?_, ?_, i3⟩
            · refine Ev.step (f := fun k => spl s k ts st false (p + 1)) (fun k => ?_) i1
              simp only [spl]; rw [if_pos hp, if_neg (by simp), hd, if_neg h92, if_neg h44]
            · exact l_skip s hs 1 ts st p r hst (by omega) (by omega) (fun j hj => by rw [show p + j = p by omega]; exact ⟨h92, h44⟩) i2
      · have hc := d5 (by omega)
        obtain ⟨r, i1, i2, i3⟩ := ih (s.size - (p + (Utf8.decode s p).2)) (by omega) ts st (p + (Utf8.decode s p).2) (by omega) (by omega) (by omega)
        refine ⟨r, ?_, ?_, i3⟩
        · refine Ev.step (f := fun k => spl s k ts st false (p + (Utf8.decode s p).2)) (fun k => ?_) i1
          simp only [spl]; rw [if_pos hp, if_neg (by simp), if_neg (by omega), if_neg (by omega)]
        · refine l_skip s hs (Utf8.decode s p).2 ts st p r hst (by omega) (by omega) (fun j hj => ?_) i2
          by_cases hj0 : j = 0
          · subst hj0; rw [Nat.add_zero]; omega
          · have := d3 j (by omega) hj; omega
    · refine ⟨ts ++ [s.extract st s.size], Evs.at1 fun k => ?_, ?_, by simp; omega⟩
      · simp only [spl]; rw [if_neg hp, if_pos ⟨by omega, by omega⟩]
      · have e : p = s.size := by omega
        rw [← e]; exact l_end s _ p (by omega)
end

theorem pieces_ev (s : ByteArray) (hs : s.size ≤ 2147483647) : ∃ r, Ev (fun k => fields_splitTerms.f k s) r ∧ Ev (fun k => spec_FieldPieces.f k s) r ∧ r.length ≤ s.size + 1 := by
  unfold fields_splitTerms.f spec_FieldPieces.f
  rw [toL]
  by_cases h0 : s.size = 0
  · have d0 : s.data.toList = [] := List.length_eq_zero_iff.1 (by rw [← size_len]; exact h0)
    exact ⟨[], Evs.yes h0 (Ev.now _), Evs.yes d0 (Ev.now _), by simp⟩
  · have d0 : s.data.toList ≠ [] := fun z => h0 (by rw [size_len, z]; rfl)
    obtain ⟨r, i1, i2, i3⟩ := both s hs s.size [] 0 0 (by omega) (by omega) (by simp)
    refine ⟨r, Evs.no h0 (Evs.yes (by omega) i1), Evs.no d0 ?_, i3⟩
    rw [ex_none s 0]; exact i2
def PieceAt (s t : ByteArray) : Prop := ∃ a b, t = s.extract a b ∧ a ≤ b ∧ b ≤ s.size ∧ (a = 0 ∨ (1 ≤ a ∧ by_ s (a - 1) = 44)) ∧ (b = s.size ∨ (b < s.size ∧ by_ s b = 44))
theorem spl_parts (s : ByteArray) : ∀ (k : Nat) (ts : List ByteArray) (st : Nat) (sl : Bool) (pos : Nat) (r : List ByteArray), spl s k ts st sl pos = some r → pos ≤ s.size → (st = 0 ∨ (1 ≤ st ∧ by_ s (st - 1) = 44)) → (∀ t ∈ ts, PieceAt s t) → ∀ t ∈ r, PieceAt s t := by
  intro k
  induction k with
  | zero => intro ts st sl pos r h; rw [spl] at h; cases h
  | succ k ih =>
    intro ts st sl pos r h hpos hst hts
    rw [spl] at h
    by_cases c1 : pos < s.size
    · rw [if_pos c1] at h
      obtain ⟨d1, d2, d3, d4, d5⟩ := dec_cont s pos c1
      cases sl with
      | true => rw [if_pos rfl] at h; exact ih _ _ _ _ _ h d2 hst hts
      | false =>
        rw [if_neg (by simp)] at h
        by_cases c2 : (Utf8.decode s pos).1 = 92
        · rw [if_pos c2] at h; exact ih _ _ _ _ _ h d2 hst hts
        · rw [if_neg c2] at h
          by_cases c3 : (Utf8.decode s pos).1 = 44
          · rw [if_pos c3] at h
            by_cases c4 : st ≤ pos ∧ ts.length < 8796093022207
            · rw [if_pos c4] at h
              have hb : by_ s pos = 44 := by
                by_cases hl : by_ s pos < 128
                · have := d4 hl; rw [this] at c3; exact c3
                · have := d5 (by omega); omega
              refine ih _ _ _ _ _ h d2 (Or.inr ⟨by omega, by rw [Nat.add_sub_cancel]; exact hb⟩) (fun t ht => ?_)
              rcases List.mem_append.1 ht with ht | ht
              · exact hts t ht
              · rw [List.mem_singleton] at ht
                exact ⟨st, pos, ht, c4.1, hpos, hst, Or.inr ⟨c1, hb⟩⟩
            · rw [if_neg c4] at h; cases h
          · rw [if_neg c3] at h; exact ih _ _ _ _ _ h d2 hst hts
    · rw [if_neg c1] at h
      by_cases c4 : st ≤ s.size ∧ ts.length < 8796093022207
      · rw [if_pos c4] at h
        injection h with h
        subst h
        intro t ht
        rcases List.mem_append.1 ht with ht | ht
        · exact hts t ht
        · rw [List.mem_singleton] at ht
          exact ⟨st, s.size, ht, c4.1, Nat.le_refl _, hst, Or.inl rfl⟩
      · rw [if_neg c4] at h; cases h
theorem by_get (s : ByteArray) (i : Nat) (h : i < s.data.toList.length) : by_ s i = (s.data.toList[i]).toNat := by
  have h' : i < s.size := by rw [size_len]; exact h
  have h1 := by_at s i h'
  have h2 := bt_nat s i h
  rw [h2] at h1
  omega
theorem piece_val (s t : ByteArray) (hv : EscN.Val s.data.toList) (hp : PieceAt s t) : EscN.Val t.data.toList ∧ t.size ≤ s.size := by
  obtain ⟨a, b, rfl, h1, h2, h3, h4⟩ := hp
  have hz := size_len s
  refine ⟨?_, by rw [ByteArray.size_extract]; omega⟩
  rw [data_extract]
  have hA : EscN.Val (s.data.toList.drop a) := by
    rcases h3 with rfl | ⟨h5, h6⟩
    · exact hv
    · have hlt : a - 1 < s.data.toList.length := by omega
      have e : s.data.toList = s.data.toList.take (a - 1) ++ s.data.toList[a - 1] :: s.data.toList.drop a := by
        have := List.drop_eq_getElem_cons hlt
        rw [show a - 1 + 1 = a by omega] at this
        rw [← this, List.take_append_drop]
      rw [by_get s _ hlt] at h6
      rw [e] at hv
      exact (FdN.Val.split _ _ _ _ (Nat.le_refl _) hv (by omega)).2
  rcases h4 with rfl | ⟨h5, h6⟩
  · rw [List.take_of_length_le (by rw [List.length_drop]; omega)]; exact hA
  · have hlt : b < s.data.toList.length := by omega
    have e : s.data.toList.drop a = (s.data.toList.drop a).take (b - a) ++ s.data.toList[b] :: s.data.toList.drop (b + 1) := by
      have := List.drop_eq_getElem_cons hlt
      rw [← this]
      have e2 : s.data.toList.drop b = (s.data.toList.drop a).drop (b - a) := by rw [List.drop_drop, show a + (b - a) = b by omega]
      rw [e2, List.take_append_drop]
    rw [by_get s _ hlt] at h6
    rw [e] at hA
    exact (FdN.Val.split _ _ _ _ (Nat.le_refl _) hA (by omega)).1
theorem pieces_val (s : ByteArray) (K : Nat) (r : List ByteArray) (h : fields_splitTerms.f K s = some r) (hv : EscN.Val s.data.toList) : ∀ t ∈ r, EscN.Val t.data.toList ∧ t.size ≤ s.size := by
  unfold fields_splitTerms.f at h
  by_cases h0 : s.size = 0
  · rw [if_pos h0] at h; injection h with h; subst h; intro t ht; cases ht
  · rw [if_neg h0] at h
    by_cases h1 : s.size ≤ 9223372036854775806
    · rw [if_pos h1] at h
      exact fun t ht => piece_val s t hv (spl_parts s K [] 0 false 0 r h (Nat.zero_le _) (Or.inl rfl) (fun t ht => by cases ht) t ht)
    · rw [if_neg h1] at h; cases h

/-! ### the order -/
/-- One text more, behind those that are not above it. -/
def ins (x : ByteArray) : List ByteArray → List ByteArray
  | [] => [x]
  | o :: r => if Op.bytesLess x.toList o.toList = true then x :: o :: r else o :: ins x r
def insAll (out l : List ByteArray) : List ByteArray := l.foldl (fun o x => ins x o) out
theorem ins_len (x : ByteArray) : ∀ o : List ByteArray, (ins x o).length = o.length + 1
  | [] => rfl
  | o :: r => by
    rw [ins]
    split
    · rfl
    · rw [List.length_cons, ins_len x r, List.length_cons]
theorem l1_ev (l : List ByteArray) (out : List ByteArray) (i : Nat) (hi : i < l.length) (hl : l.length ≤ 2147483648) (ho : out.length ≤ 2147483648) (r : List ByteArray) : ∀ (n j : Nat), out.length - j = n → j ≤ out.length → Ev (fun k => spec_sorted.l0 k l (out.take j ++ ins l[i] (out.drop j)) ((i + 1 : Nat) : Int)) r → Ev (fun k => spec_sorted.l1 k l out (i : Int) (j : Int)) r := by
  intro n
  have hri : rdOf ByteArray.empty l (i : Int) = l[i] := by unfold rdOf; rw [Int.toNat_natCast, List.getD_eq_getElem?_getD, List.getElem?_eq_getElem hi]; rfl
  have w1 : wrap64 ((i : Int) + 1) = ((i + 1 : Nat) : Int) := Small.w64s i (by omega)
  induction n with
  | zero =>
    intro j h1 h2 e
    obtain rfl : j = out.length := by omega
    rw [List.take_length, List.drop_length, ins] at e
    refine Ev.step (fun k => ?_) e
    rw [spec_sorted.l1, if_neg (by omega), Option.bind_some, if_pos (by omega), if_pos (by omega)]
    simp only [Option.bind_some, Int.toNat_natCast, List.take_length, List.drop_length, List.nil_append, List.length_nil, Nat.zero_add, hri, w1, List.append_nil, List.length_append, List.length_cons]
    rw [if_pos (by omega), if_pos (by omega), if_pos (by omega), if_pos (by omega), if_pos (by omega)]
  | succ n ih =>
    intro j h1 h2 e
    have hlt : j < out.length := by omega
    have hrj : rdOf ByteArray.empty out (j : Int) = out[j] := by unfold rdOf; rw [Int.toNat_natCast, List.getD_eq_getElem?_getD, List.getElem?_eq_getElem hlt]; rfl
    have hd : out.drop j = out[j] :: out.drop (j + 1) := List.drop_eq_getElem_cons hlt
    rw [hd, ins] at e
    by_cases c : Op.bytesLess l[i].toList out[j].toList = true
    · rw [if_pos c, ← hd] at e
      refine Ev.step (fun k => ?_) e
      rw [spec_sorted.l1, if_pos (by omega), if_pos (by omega), if_pos (by omega), if_pos (by omega), hri, hrj, if_pos c, Option.bind_some, if_pos (by omega)]
      simp only [Option.bind_some, Int.toNat_natCast, List.nil_append, List.length_nil, Nat.zero_add, w1, List.length_append, List.length_cons, List.length_take, List.length_drop]
      rw [if_pos (by omega), if_pos (by omega), if_pos (by omega)]
      simp
    · rw [if_neg c] at e
      have e2 : out.take j ++ out[j] :: ins l[i] (out.drop (j + 1)) = out.take (j + 1) ++ ins l[i] (out.drop (j + 1)) := by rw [List.take_succ_eq_append_getElem hlt, List.append_assoc]; rfl
      rw [e2] at e
      refine Ev.step (fun k => ?_) (ih (j + 1) (by omega) hlt e)
      rw [spec_sorted.l1, if_pos (by omega), if_pos (by omega), if_pos (by omega), if_pos (by omega), hri, hrj, if_neg c, Small.w64s j (by omega)]
theorem l0_ev (l : List ByteArray) (hl : l.length ≤ 2147483648) : ∀ (n i : Nat) (out : List ByteArray), l.length - i = n → i ≤ l.length → out.length = i → Ev (fun k => spec_sorted.l0 k l out (i : Int)) (insAll out (l.drop i)) := by
  intro n
  induction n with
  | zero =>
    intro i out h1 h2 h3
    rw [List.drop_eq_nil_of_le (by omega)]
    exact Evs.at1 fun k => by rw [spec_sorted.l0, if_neg (by omega)]; rfl
  | succ n ih =>
    intro i out h1 h2 h3
    have hlt : i < l.length := by omega
    have hi := ih (i + 1) (ins l[i] out) (by omega) hlt (by rw [ins_len, h3])
    have hd : l.drop i = l[i] :: l.drop (i + 1) := List.drop_eq_getElem_cons hlt
    rw [hd]
    refine Ev.step (f := fun k => spec_sorted.l1 k l out (i : Int) ((0 : Nat) : Int)) (fun k => by rw [spec_sorted.l0, if_pos (by omega)]; rfl) ?_
    refine l1_ev l out i hlt hl (by omega) _ _ 0 rfl (Nat.zero_le _) ?_
    rw [List.take_zero, List.drop_zero, List.nil_append]
    exact hi
theorem sorted_ev (l : List ByteArray) (hl : l.length ≤ 2147483648) : Ev (fun k => spec_sorted.f k l) (insAll [] l) := by
  have := l0_ev l hl _ 0 [] rfl (Nat.zero_le _) rfl
  rw [List.drop_zero] at this
  exact this
def Asc (l : List (List UInt8)) : Prop := l.Pairwise fun x y => Op.bytesLess y x = false
theorem less_trans {x y z : List UInt8} (h1 : Op.bytesLess y x = false) (h2 : Op.bytesLess z y = false) : Op.bytesLess z x = false := by
  rw [Go.Proofs.bytesLess_eq] at *
  have h1 := of_decide_eq_false h1
  have h2 := of_decide_eq_false h2
  exact decide_eq_false (List.not_lt.2 (List.le_trans (List.not_lt.1 h1) (List.not_lt.1 h2)))
theorem less_asymm {x y : List UInt8} (h : Op.bytesLess x y = true) : Op.bytesLess y x = false := by
  rw [Go.Proofs.bytesLess_eq] at *
  exact decide_eq_false (List.lt_asymm (of_decide_eq_true h))
theorem ins_asc (x : ByteArray) : ∀ (o : List ByteArray), Asc (o.map (·.toList)) → Asc ((ins x o).map (·.toList)) ∧ ∀ z, (∀ y ∈ o, Op.bytesLess y.toList z = false) → Op.bytesLess x.toList z = false → ∀ y ∈ ins x o, Op.bytesLess y.toList z = false
  | [], _ => ⟨List.pairwise_singleton _ _, fun z _ h y hy => by rw [ins, List.mem_singleton] at hy; rw [hy]; exact h⟩
  | a :: r, h => by
    have h' : Asc (a.toList :: r.map (·.toList)) := h
    obtain ⟨ha, hr⟩ := List.pairwise_cons.1 h'
    obtain ⟨i1, i2⟩ := ins_asc x r hr
    rw [ins]
    by_cases c : Op.bytesLess x.toList a.toList = true
    · rw [if_pos c]
      refine ⟨List.pairwise_cons.2 ⟨fun y hy => ?_, h⟩, fun z hz hx y hy => ?_⟩
      · rcases List.mem_cons.1 hy with rfl | hy
        · exact less_asymm c
        · exact less_trans (less_asymm c) (ha y hy)
      · rcases List.mem_cons.1 hy with rfl | hy
        · exact hx
        · exact hz y hy
    · rw [if_neg c]
      have c' : Op.bytesLess x.toList a.toList = false := by cases hq : Op.bytesLess x.toList a.toList with | true => exact absurd hq c | false => rfl
      refine ⟨List.pairwise_cons.2 ⟨fun y hy => ?_, i1⟩, fun z hz hx y hy => ?_⟩
      · obtain ⟨t, ht, rfl⟩ := List.mem_map.1 hy
        exact i2 a.toList (fun u hu => ha _ (List.mem_map.2 ⟨u, hu, rfl⟩)) c' t ht
      · rcases List.mem_cons.1 hy with rfl | hy
        · exact hz _ List.mem_cons_self
        · exact i2 z (fun u hu => hz u (List.mem_cons_of_mem _ hu)) hx y hy
theorem ins_perm (x : ByteArray) : ∀ (o : List ByteArray), (ins x o).Perm (x :: o)
  | [] => List.Perm.refl _
  | a :: r => by
    rw [ins]
    split
    · exact List.Perm.refl _
    · exact ((ins_perm x r).cons a).trans (List.Perm.swap x a r)
theorem insAll_spec : ∀ (l out : List ByteArray), Asc (out.map (·.toList)) → Asc ((insAll out l).map (·.toList)) ∧ (insAll out l).Perm (out ++ l)
  | [], out, h => ⟨h, by rw [List.append_nil]; exact List.Perm.refl _⟩
  | x :: l, out, h => by
    obtain ⟨i1, i2⟩ := insAll_spec l (ins x out) (ins_asc x out h).1
    refine ⟨i1, i2.trans ?_⟩
    have p1 : (ins x out ++ l).Perm ((x :: out) ++ l) := (ins_perm x out).append_right l
    refine p1.trans ?_
    rw [List.cons_append]
    exact (List.perm_middle (a := x) (l₁ := out) (l₂ := l)).symm
theorem insAll_srt (l : List ByteArray) : (insAll [] l).map (fun s => s.data.toList) = (l.map fun s => s.data.toList).mergeSort leB := by
  obtain ⟨h1, h2⟩ := insAll_spec l [] List.Pairwise.nil
  rw [List.nil_append] at h2
  have e : (insAll [] l).map (·.toList) = (insAll [] l).map (fun s => s.data.toList) := List.map_congr_left fun s _ => toL s
  rw [e] at h1
  rw [← mergeSort_of_perm (h2.map fun s : ByteArray => s.data.toList)]
  refine (List.mergeSort_of_pairwise (h1.imp fun {x y} hq => ?_)).symm
  rw [Go.Proofs.bytesLess_eq] at hq
  exact decide_eq_true (List.not_lt.1 (of_decide_eq_false hq))
end Go.Proofs.YthejejeginnbdaaGreatDoor.FdQ
