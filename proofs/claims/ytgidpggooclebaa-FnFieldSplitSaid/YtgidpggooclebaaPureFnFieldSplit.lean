/- The pieces of a text are what lies between its commas that are not escaped: of all texts (of those that the statement's bound lets by). -/
import Derived.Test.YtgidpggooclebaaPFnFieldSplitx2
import Derived.Test.YtgidpggooclebaaTxt
import Derived.Test.YtgidpggooclebaaEvs
import Derived.Lib.DecodeN
set_option linter.unusedVariables false
set_option linter.unusedSimpArgs false
namespace Go.Proofs.Ytgidpggooclebaa.Pure
open Go Go.RowKit Go.Proofs.Ytgidpggooclebaa.PFnFieldSplit Go.Proofs.YtgidpggooclebaaW.PrintWords Go.Proofs.YtgidpggooclebaaW.PrintLast Go.Proofs.Ytgidpggooclebaa.Txt

/-- The byte at a place, as a number. -/
def by_ (s : ByteArray) (i : Nat) : Nat := (s.get! i).toNat

theorem by_at (s : ByteArray) (i : Nat) (h : i < s.size) : bt s (i : Int) = (by_ s i : Int) := by
  have hl : i < s.data.toList.length := by rw [← size_len]; exact h
  rw [bt_nat s i hl]
  unfold by_
  congr 1
  have : s.get! i = s.data.toList[i] := by
    show s.get! i = _
    have h2 : i < s.data.size := h
    simp only [ByteArray.get!]
    exact getElem!_pos s.data i h2
  rw [this]

theorem dec_cont (s : ByteArray) (p : Nat) (h : p < s.size) : 1 ≤ (Utf8.decode s p).2 ∧ p + (Utf8.decode s p).2 ≤ s.size ∧ (∀ j, 1 ≤ j → j < (Utf8.decode s p).2 → 128 ≤ by_ s (p + j)) ∧ (by_ s p < 128 → Utf8.decode s p = (by_ s p, 1)) ∧ (128 ≤ by_ s p → 128 ≤ (Utf8.decode s p).1) := by
  unfold by_
  rw [Lib.decode_at]
  generalize (s.get! p).toNat = b0
  generalize e1 : (s.get! (p + 1)).toNat = b1
  generalize e2 : (s.get! (p + 2)).toNat = b2
  generalize e3 : (s.get! (p + 3)).toNat = b3
  have hj : ∀ w, w ≤ 4 → (1 < w → 128 ≤ b1) → (2 < w → 128 ≤ b2) → (3 < w → 128 ≤ b3) → ∀ j, 1 ≤ j → j < w → 128 ≤ (s.get! (p + j)).toNat := by
    intro w hw h1 h2 h3 j hj1 hj2
    have : j = 1 ∨ j = 2 ∨ j = 3 := by omega
    rcases this with rfl | rfl | rfl
    · rw [e1]; exact h1 (by omega)
    · rw [e2]; exact h2 (by omega)
    · rw [e3]; exact h3 (by omega)
  unfold Lib.decodeN
  repeat' split
  all_goals refine ⟨by simp, by simp; omega, hj _ (by simp) (by simp; try omega) (by simp; try omega) (by simp; try omega), fun z => ?_, fun z => ?_⟩
  all_goals first | rfl | (exfalso; omega) | (simp; try omega)

theorem fp_rd (ts : List ByteArray) (c : ByteArray) : rdOf ByteArray.empty (ts ++ [c]) (ts.length : Int) = c := by simp [rdOf]
theorem fp_put (ts : List ByteArray) (c e : ByteArray) : (ts ++ [c]).set ((ts.length : Int)).toNat e = ts ++ [e] := by simp
theorem ex_join (s : ByteArray) (a b c : Nat) (h1 : a ≤ b) (h2 : b ≤ c) : s.extract a b ++ s.extract b c = s.extract a c := by
  apply ext
  rw [data_append, data_extract, data_extract, data_extract]
  have e : c - a = (b - a) + (c - b) := by omega
  rw [e, List.take_add, List.drop_drop, show a + (b - a) = b by omega]
theorem ex_none (s : ByteArray) (a : Nat) : (⟨#[]⟩ : ByteArray) = s.extract a a := by
  apply ext
  rw [data_extract]; simp

section
variable (s : ByteArray) (hs : s.size ≤ 2147483647)
include hs

theorem j_one (ts : List ByteArray) (c : ByteArray) (p : Nat) (r : List ByteArray) (hp : p < s.size) (hb : by_ s p ≠ 44) (hl : ts.length ≤ 2147483647) (hc : c.size ≤ 2147483647)
    (e : Ev (fun k => spec_FieldPieces.l0 k s (ts ++ [c ++ s.extract p (p + 1)]) ((p + 1 : Nat) : Int)) r) : Ev (fun k => spec_FieldPieces.j1 k s (ts ++ [c]) (p : Int) 1 false) r := by
  have w1 : Aside0 (wrap64 (((ts ++ [c]).length : Int) - 1) = (ts.length : Int)) := ⟨by rw [List.length_append, List.length_singleton, Small.w64 _ (by omega) (by omega)]; omega⟩
  have w2 : Aside0 (wrap64 ((p : Int) + 1) = ((p + 1 : Nat) : Int)) := ⟨by rw [Small.w64 _ (by omega) (by omega)]; omega⟩
  have w4 : Aside0 (wrap64 (1 - 1) = 0) := ⟨by rw [Small.w64 _ (by omega) (by omega)]; rfl⟩
  have w3 : Aside0 (wrap64 ((p : Int) + 0) = (p : Int)) := ⟨by rw [Small.w64 _ (by omega) (by omega)]; omega⟩
  have hz : (s.extract p (p + 1)).size ≤ 2147483647 := by rw [ByteArray.size_extract]; omega
  refine Ev.step (fun k => ?_) e
  simp only [spec_FieldPieces.j1]
  rw [if_neg (by simp), if_pos (by omega), if_pos (by omega), by_at s p hp, if_neg (by omega), w1.out, if_pos (by omega), if_pos (by simp; omega), w2.out, if_pos (by omega), if_pos (by omega), fp_rd]
  simp only [Int.toNat_natCast]
  rw [if_pos (by omega), w4.out, w3.out, w2.out]
  have := fp_put ts c (c ++ s.extract p (p + 1))
  simp only [Int.toNat_natCast] at this
  rw [this]

theorem j_two (ts : List ByteArray) (c : ByteArray) (p : Nat) (r : List ByteArray) (hp : p + 1 < s.size) (hb : by_ s p ≠ 44) (hl : ts.length ≤ 2147483647) (hc : c.size ≤ 2147483647)
    (e : Ev (fun k => spec_FieldPieces.l0 k s (ts ++ [c ++ s.extract p (p + 2)]) ((p + 2 : Nat) : Int)) r) : Ev (fun k => spec_FieldPieces.j1 k s (ts ++ [c]) (p : Int) 1 true) r := by
  have w1 : Aside0 (wrap64 (((ts ++ [c]).length : Int) - 1) = (ts.length : Int)) := ⟨by rw [List.length_append, List.length_singleton, Small.w64 _ (by omega) (by omega)]; omega⟩
  have w2 : Aside0 (wrap64 ((p : Int) + 2) = ((p + 2 : Nat) : Int)) := ⟨by rw [Small.w64 _ (by omega) (by omega)]; omega⟩
  have w3 : Aside0 (wrap64 (wrap64 ((p : Int) + (2 - 1)) + 1) = ((p + 2 : Nat) : Int)) := ⟨by rw [Small.w64 ((p : Int) + (2 - 1)) (by omega) (by omega), Small.w64 _ (by omega) (by omega)]; omega⟩
  have hz : (s.extract p (p + 2)).size ≤ 2147483647 := by rw [ByteArray.size_extract]; omega
  refine Ev.step (fun k => ?_) e
  simp only [spec_FieldPieces.j1]
  rw [if_pos trivial, if_pos (by omega), if_pos (by omega), by_at s p (by omega), if_neg (by omega), w1.out, if_pos (by omega), if_pos (by simp; omega), w2.out, if_pos (by omega), if_pos (by omega), fp_rd]
  simp only [Int.toNat_natCast]
  rw [if_pos (by omega), w3.out]
  have := fp_put ts c (c ++ s.extract p (p + 2))
  simp only [Int.toNat_natCast] at this
  rw [this]

theorem j_comma (ts : List ByteArray) (c : ByteArray) (p : Nat) (r : List ByteArray) (hp : p < s.size) (hb : by_ s p = 44) (hl : ts.length ≤ 2147483647)
    (e : Ev (fun k => spec_FieldPieces.l0 k s ((ts ++ [c]) ++ [(⟨#[]⟩ : ByteArray)]) ((p + 1 : Nat) : Int)) r) : Ev (fun k => spec_FieldPieces.j1 k s (ts ++ [c]) (p : Int) 1 false) r := by
  have w3 : Aside0 (wrap64 (wrap64 ((p : Int) + wrap64 (1 - 1)) + 1) = ((p + 1 : Nat) : Int)) := ⟨by rw [Small.w64 (1 - 1) (by omega) (by omega), Small.w64 ((p : Int) + (1 - 1)) (by omega) (by omega), Small.w64 _ (by omega) (by omega)]; omega⟩
  refine Ev.step (fun k => ?_) e
  simp only [spec_FieldPieces.j1]
  rw [if_neg (by simp), if_pos (by omega), if_pos (by omega), by_at s p hp, if_pos (by omega), if_pos (by simp; omega), w3.out]

omit hs in
theorem l_other (x : List ByteArray) (p : Nat) (r : List ByteArray) (hp : p < s.size) (hb : by_ s p ≠ 92) (e : Ev (fun k => spec_FieldPieces.j1 k s x (p : Int) 1 false) r) : Ev (fun k => spec_FieldPieces.l0 k s x (p : Int)) r := by
  refine Ev.step (fun k => ?_) e
  simp only [spec_FieldPieces.l0]
  rw [if_pos (by omega), if_pos (by omega), by_at s p hp, if_neg (by omega)]

theorem l_esc (x : List ByteArray) (p : Nat) (r : List ByteArray) (hp : p < s.size) (hb : by_ s p = 92) (e : Ev (fun k => spec_FieldPieces.j1 k s x (p : Int) 1 (decide (p + 1 < s.size))) r) : Ev (fun k => spec_FieldPieces.l0 k s x (p : Int)) r := by
  have w2 : Aside0 (wrap64 ((p : Int) + 1) = ((p + 1 : Nat) : Int)) := ⟨by rw [Small.w64 _ (by omega) (by omega)]; omega⟩
  refine Ev.step (fun k => ?_) e
  simp only [spec_FieldPieces.l0]
  rw [if_pos (by omega), if_pos (by omega), by_at s p hp, if_pos (by omega), w2.out]
  congr 1
  exact decide_eq_decide.2 (by omega)

omit hs in
theorem l_end (x : List ByteArray) (p : Nat) (hp : ¬ p < s.size) : Ev (fun k => spec_FieldPieces.l0 k s x (p : Int)) x :=
  Evs.at1 fun k => by simp only [spec_FieldPieces.l0]; rw [if_neg (by omega)]

/-- Bytes that are no sign. -/
theorem l_skip (m : Nat) : ∀ (ts : List ByteArray) (st p : Nat) (r : List ByteArray), st ≤ p → p + m ≤ s.size → ts.length ≤ 2147483647 → (∀ j, j < m → by_ s (p + j) ≠ 92 ∧ by_ s (p + j) ≠ 44) →
    Ev (fun k => spec_FieldPieces.l0 k s (ts ++ [s.extract st (p + m)]) ((p + m : Nat) : Int)) r → Ev (fun k => spec_FieldPieces.l0 k s (ts ++ [s.extract st p]) (p : Int)) r := by
  induction m with
  | zero => intro ts st p r _ _ _ _ e; exact e
  | succ m ih =>
    intro ts st p r h1 h2 h3 h4 e
    have hb := h4 0 (by omega)
    refine l_other s _ p r (by omega) hb.1 (j_one s hs ts _ p r (by omega) hb.2 h3 (by rw [ByteArray.size_extract]; omega) ?_)
    rw [ex_join s st p (p + 1) h1 (by omega)]
    refine ih ts st (p + 1) r (by omega) (by omega) h3 (fun j hj => ?_) ?_
    · have := h4 (j + 1) (by omega)
      rw [show p + 1 + j = p + (j + 1) by omega]; exact this
    · rw [show p + 1 + m = p + (m + 1) by omega]; exact e

theorem both (n : Nat) : ∀ (ts : List ByteArray) (st p : Nat), p + n = s.size → st ≤ p → ts.length ≤ p → ∃ r, Ev (fun k => spl s k ts st false p) r ∧ Ev (fun k => spec_FieldPieces.l0 k s (ts ++ [s.extract st p]) (p : Int)) r ∧ r.length ≤ s.size + 1 := by
  induction n using Nat.strongRecOn with
  | _ n ih =>
    intro ts st p hpn hst hts
    by_cases hp : p < s.size
    · obtain ⟨d1, d2, d3, d4, d5⟩ := dec_cont s p hp
      by_cases hlow : by_ s p < 128
      · have hd := d4 hlow
        by_cases h92 : by_ s p = 92
        · by_cases hq : p + 1 < s.size
          · obtain ⟨f1, f2, f3, _, _⟩ := dec_cont s (p + 1) hq
            obtain ⟨r, i1, i2, i3⟩ := ih (s.size - (p + 1 + (Utf8.decode s (p + 1)).2)) (by omega) ts st (p + 1 + (Utf8.decode s (p + 1)).2) (by omega) (by omega) (by omega)
            refine ⟨r, ?_, ?_, i3⟩
            · refine Ev.step (f := fun k => spl s k ts st true (p + 1)) (fun k => ?_) (Ev.step (f := fun k => spl s k ts st false (p + 1 + (Utf8.decode s (p + 1)).2)) (fun k => ?_) i1)
              · simp only [spl]; rw [if_pos hp, if_neg (by simp), hd, if_pos h92]
              · simp only [spl]; rw [if_pos hq, if_pos trivial]
            · refine l_esc s hs _ p r hp h92 ?_
              rw [decide_eq_true hq]
              refine j_two s hs ts _ p r hq (by omega) (by omega) (by rw [ByteArray.size_extract]; omega) ?_
              rw [ex_join s st p (p + 2) hst (by omega)]
              refine l_skip s hs ((Utf8.decode s (p + 1)).2 - 1) ts st (p + 2) r (by omega) (by omega) (by omega) (fun j hj => ?_) ?_
              · have := f3 (j + 1) (by omega) (by omega)
                rw [show p + 1 + (j + 1) = p + 2 + j by omega] at this
                omega
              · rw [show p + 2 + ((Utf8.decode s (p + 1)).2 - 1) = p + 1 + (Utf8.decode s (p + 1)).2 by omega]; exact i2
          · obtain ⟨r, i1, i2, i3⟩ : ∃ r, Ev (fun k => spl s k ts st true (p + 1)) r ∧ Ev (fun k => spec_FieldPieces.l0 k s (ts ++ [s.extract st (p + 1)]) ((p + 1 : Nat) : Int)) r ∧ r.length ≤ s.size + 1 := by
              refine ⟨ts ++ [s.extract st s.size], Evs.at1 fun k => ?_, ?_, by simp; omega⟩
              · simp only [spl]; rw [if_neg hq, if_pos ⟨by omega, by omega⟩]
              · have e : p + 1 = s.size := by omega
                rw [← e]; exact l_end s _ (p + 1) (by omega)
            refine ⟨r, ?_, ?_, i3⟩
            · refine Ev.step (f := fun k => spl s k ts st true (p + 1)) (fun k => ?_) i1
              simp only [spl]; rw [if_pos hp, if_neg (by simp), hd, if_pos h92]
            · refine l_esc s hs _ p r hp h92 ?_
              rw [decide_eq_false hq]
              refine j_one s hs ts _ p r hp (by omega) (by omega) (by rw [ByteArray.size_extract]; omega) ?_
              rw [ex_join s st p (p + 1) hst (by omega)]
              exact i2
        · by_cases h44 : by_ s p = 44
          · obtain ⟨r, i1, i2, i3⟩ := ih (s.size - (p + 1)) (by omega) (ts ++ [s.extract st p]) (p + 1) (p + 1) (by omega) (by omega) (by simp; omega)
            refine ⟨r, ?_, ?_, i3⟩
            · refine Ev.step (f := fun k => spl s k (ts ++ [s.extract st p]) (p + 1) false (p + 1)) (fun k => ?_) i1
              simp only [spl]; rw [if_pos hp, if_neg (by simp), hd, if_neg h92, if_pos h44, if_pos ⟨hst, by omega⟩]
            · refine l_other s _ p r hp h92 (j_comma s hs ts _ p r hp h44 (by omega) ?_)
              rw [ex_none s (p + 1)]; exact i2
          · obtain ⟨r, i1, i2, i3⟩ := ih (s.size - (p + 1)) (by omega) ts st (p + 1) (by omega) (by omega) (by omega)
            refine ⟨r, ?_, ?_, i3⟩
            · refine Ev.step (f := fun k => spl s k ts st false (p + 1)) (fun k => ?_) i1
              simp only [spl]; rw [if_pos hp, if_neg (by simp), hd, if_neg h92, if_neg h44]
            · exact l_skip s hs 1 ts st p r hst (by omega) (by omega) (fun j hj => by rw [show p + j = p by omega]; exact ⟨h92, h44⟩) i2
      · have hc := d5 (by omega)
        obtain ⟨r, i1, i2, i3⟩ := ih (s.size - (p + (Utf8.decode s p).2)) (by omega) ts st (p + (Utf8.decode s p).2) (by omega) (by omega) (by omega)
        refine ⟨r, ?_, ?_, i3⟩
        · refine Ev.step (f := fun k => spl s k ts st false (p + (Utf8.decode s p).2)) (fun k => ?_) i1
          simp only [spl]; rw [if_pos hp, if_neg (by simp), if_neg (by omega), if_neg (by omega)]
        · refine l_skip s hs (Utf8.decode s p).2 ts st p r hst (by omega) (by omega) (fun j hj => ?_) i2
          by_cases hj0 : j = 0
          · subst hj0; rw [Nat.add_zero]; omega
          · have := d3 j (by omega) hj; omega
    · refine ⟨ts ++ [s.extract st s.size], Evs.at1 fun k => ?_, ?_, by simp; omega⟩
      · simp only [spl]; rw [if_neg hp, if_pos ⟨by omega, by omega⟩]
      · have e : p = s.size := by omega
        rw [← e]; exact l_end s _ p (by omega)
end

theorem same_l0 (l : List ByteArray) (hl : l.length ≤ 4294967296) (n : Nat) : ∀ i : Nat, i + n = l.length → Ev (fun k => spec_KeysSame_string.l0 k l l (i : Int)) true := by
  induction n with
  | zero => intro i hi; exact Evs.at1 fun k => by simp only [spec_KeysSame_string.l0]; rw [if_neg (by omega)]
  | succ n ih =>
    intro i hi
    have w2 : Aside0 (wrap64 ((i : Int) + 1) = ((i + 1 : Nat) : Int)) := ⟨by rw [Small.w64 _ (by omega) (by omega)]; omega⟩
    refine Ev.step (fun k => ?_) (ih (i + 1) (by omega))
    simp only [spec_KeysSame_string.l0]
    rw [if_pos (by omega), if_pos (by omega), if_pos (by omega), if_pos trivial, w2.out]

theorem same_f (l : List ByteArray) (hl : l.length ≤ 4294967296) : Ev (fun k => spec_KeysSame_string.f k l l) true := by
  unfold spec_KeysSame_string.f
  exact Evs.yes rfl (same_l0 l hl l.length 0 (by omega))

theorem texts_f (l : List ByteArray) (hl : l.length ≤ 4294967296) : impl_texts.f l = some l := by
  unfold impl_texts.f
  simp only [Option.bind_some, List.length_nil, List.nil_append]
  rw [if_pos (by omega)]

theorem split_of (s : ByteArray) (r : List ByteArray) (hr : r.length ≤ 4294967296) (h : Ev (fun k => fields_splitTerms.f k s) r) : Ev (fun k => impl_FieldSplit.f k s) r := by
  refine Ev.bind (Ev.bind h (Ev.now _)) ?_
  rw [texts_f r hr]; exact Ev.now _

theorem two : Ev (fun k => impl_FieldSplit.f k (⟨#[97, 44, 98]⟩ : ByteArray)) [(⟨#[97]⟩ : ByteArray), (⟨#[98]⟩ : ByteArray)] := by
  refine split_of _ _ (by decide) (Ev.of (k := 5) (fun k => fields_splitTerms.mono _ k) ?_)
  decide

theorem FnFieldSplit : laws_FnFieldSplit.Pure := by
  intro s _
  unfold laws_FnFieldSplit.f
  by_cases h : (s.size : Int) > 2147483647
  · exact ⟨1, by rw [if_pos h]⟩
  · refine Ev.rounds (Evs.no h ?_)
    have hs : s.size ≤ 2147483647 := by omega
    obtain ⟨r, e1, e2, e3⟩ : ∃ r, Ev (fun k => fields_splitTerms.f k s) r ∧ Ev (fun k => spec_FieldPieces.f k s) r ∧ r.length ≤ s.size + 1 := by
      unfold fields_splitTerms.f spec_FieldPieces.f
      rw [toL]
      by_cases h0 : s.size = 0
      · have d0 : s.data.toList = [] := List.length_eq_zero_iff.1 (by rw [← size_len]; exact h0)
        exact ⟨[], Evs.yes h0 (Ev.now _), Evs.yes d0 (Ev.now _), by simp⟩
      · have d0 : s.data.toList ≠ [] := fun z => h0 (by rw [size_len, z]; rfl)
        obtain ⟨r, i1, i2, i3⟩ := both s hs s.size [] 0 0 (by omega) (by omega) (by simp)
        refine ⟨r, Evs.no h0 (Evs.yes (by omega) i1), Evs.no d0 ?_, i3⟩
        rw [ex_none s 0]; exact i2
    refine Ev.bind (split_of s r (by omega) e1) (Ev.bind e2 (Ev.bind (same_f r (by omega)) (Evs.yes rfl (Ev.bind two (Ev.now _)))))

end Go.Proofs.Ytgidpggooclebaa.Pure
