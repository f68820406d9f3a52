/- A term's text is one piece, cut at its operator: plain. -/
import Derived.Test.YthejejeginnbdaaGreatDoorFdY
import Derived.Test.YthejejeginnbdaaGreatDoorFdV
import Derived.Lib.DecodeN
set_option linter.unusedVariables false
set_option linter.unusedSimpArgs false
namespace Go.Proofs.YthejejeginnbdaaGreatDoor.FdB
open Go Go.RowKit Go.Proofs.YthejejeginnbdaaGreatDoor.PFnFieldTerm Go.Proofs.YthejejeginnbdaaGreatDoorW.PrintWords Go.Proofs.YthejejeginnbdaaGreatDoor.Txt Go.Proofs.YthejejeginnbdaaGreatDoor Go.Proofs.YthejejeginnbdaaGreatDoor.EscN Go.Proofs.YthejejeginnbdaaGreatDoor.FdN Go.Proofs.YthejejeginnbdaaGreatDoor.FdC Go.Proofs.YthejejeginnbdaaGreatDoor.FdS Go.Proofs.YthejejeginnbdaaGreatDoor.Fd
open Go.Lib (decodeL encodeRune)

def by_ (s : ByteArray) (i : Nat) : Nat := (s.get! i).toNat

theorem by_at (s : ByteArray) (i : Nat) (h : i < s.size) : bt s (i : Int) = (by_ s i : Int) := by
  have hl : i < s.data.toList.length := by rw [← size_len]; exact h
  rw [bt_nat s i hl]
  unfold by_
  congr 1
  have : s.get! i = s.data.toList[i] := by
    show s.get! i = _
    have h2 : i < s.data.size := h
    simp only [ByteArray.get!]
    exact getElem!_pos s.data i h2
  rw [this]

theorem dec_cont (s : ByteArray) (p : Nat) (h : p < s.size) : 1 ≤ (Utf8.decode s p).2 ∧ p + (Utf8.decode s p).2 ≤ s.size ∧ (∀ j, 1 ≤ j → j < (Utf8.decode s p).2 → 128 ≤ by_ s (p + j)) ∧ (by_ s p < 128 → Utf8.decode s p = (by_ s p, 1)) ∧ (128 ≤ by_ s p → 128 ≤ (Utf8.decode s p).1) := by
  unfold by_
  rw [Lib.decode_at]
  generalize (s.get! p).toNat = b0
  generalize e1 : (s.get! (p + 1)).toNat = b1
  generalize e2 : (s.get! (p + 2)).toNat = b2
  generalize e3 : (s.get! (p + 3)).toNat = b3
  have hj : ∀ w, w ≤ 4 → (1 < w → 128 ≤ b1) → (2 < w → 128 ≤ b2) → (3 < w → 128 ≤ b3) → ∀ j, 1 ≤ j → j < w → 128 ≤ (s.get! (p + j)).toNat := by
    intro w hw h1 h2 h3 j hj1 hj2
    have : j = 1 ∨ j = 2 ∨ j = 3 := by omega
    rcases this with rfl | rfl | rfl
    · rw [e1]; exact h1 (by omega)
    · rw [e2]; exact h2 (by omega)
    · rw [e3]; exact h3 (by omega)
  unfold Lib.decodeN
  repeat' split
  all_goals refine ⟨by simp, by simp; omega, hj _ (by simp) (by simp; try omega) (by simp; try omega) (by simp; try omega), fun z => ?_, fun z => ?_⟩
  all_goals first | rfl | (exfalso; omega) | (simp; try omega)

theorem by_get (s : ByteArray) (i : Nat) (h : i < s.data.toList.length) : by_ s i = (s.data.toList[i]).toNat := by
  have h' : i < s.size := by rw [size_len]; exact h
  have h1 := by_at s i h'
  have h2 := bt_nat s i h
  rw [h2] at h1
  omega

/-- No comma that is not behind a backslash. -/
def nc : List UInt8 → Bool
  | [] => true
  | [c] => c != 44
  | c :: d :: r => if c = 92 then nc r else if c = 44 then false else nc (d :: r)
theorem nc_bs (c : UInt8) (r : List UInt8) : nc (92 :: c :: r) = nc r := by rw [nc, if_pos rfl]
theorem nc_comma (r : List UInt8) : nc (44 :: r) = false := by
  cases r with
  | nil => rfl
  | cons d r => rw [nc, if_neg (by decide), if_pos rfl]
theorem nc_cons {c : UInt8} (r : List UInt8) (h1 : c ≠ 92) (h2 : c ≠ 44) : nc (c :: r) = nc r := by
  cases r with
  | nil => rw [nc, nc]; exact bne_iff_ne.2 h2
  | cons d r => rw [nc, if_neg h1, if_neg h2]
theorem nc_high : ∀ a b : List UInt8, (∀ c ∈ a, 128 ≤ c.toNat) → nc (a ++ b) = nc b
  | [], _, _ => rfl
  | c :: a, b, h => by
    have hc := h c List.mem_cons_self
    rw [List.cons_append, nc_cons _ (fun e => by rw [e] at hc; exact absurd hc (by decide)) (fun e => by rw [e] at hc; exact absurd hc (by decide))]
    exact nc_high a b fun x hx => h x (List.mem_cons_of_mem _ hx)
theorem not_sign {c : UInt8} (h : sign c = false) : c ≠ 92 ∧ c ≠ 44 ∧ c ≠ 61 := by
  unfold sign at h
  simp only [Bool.or_eq_false_iff, beq_eq_false_iff_ne] at h
  exact ⟨h.1.1, h.1.2, h.2⟩
theorem nc_plain : ∀ a b : List UInt8, a.any sign = false → nc (a ++ b) = nc b
  | [], _, _ => rfl
  | c :: a, b, h => by
    rw [List.any_cons, Bool.or_eq_false_iff] at h
    obtain ⟨h1, h2, h3⟩ := not_sign h.1
    rw [List.cons_append, nc_cons _ h1 h2]
    exact nc_plain a b h.2
theorem nc_esc : ∀ v : List UInt8, nc (esc v) = true
  | [] => rfl
  | c :: v => by
    rw [esc]
    by_cases h : sign c = true
    · rw [if_pos h, nc_bs]; exact nc_esc v
    · rw [if_neg h]
      obtain ⟨h1, h2, h3⟩ := not_sign (by simpa using h)
      rw [nc_cons _ h1 h2]; exact nc_esc v
theorem high_take (s : ByteArray) (p m : Nat) (hm : p + m ≤ s.size) (h : ∀ j, j < m → 128 ≤ by_ s (p + j)) : ∀ c ∈ (s.data.toList.drop p).take m, 128 ≤ c.toNat := by
  intro c hc
  have hz := size_len s
  obtain ⟨j, hj, rfl⟩ := List.mem_iff_getElem.1 hc
  rw [List.length_take, List.length_drop] at hj
  rw [List.getElem_take, List.getElem_drop, ← by_get s (p + j) (by omega)]
  exact h j (by omega)
theorem spl_one (s : ByteArray) : ∀ (n p : Nat), s.size - p ≤ n → p ≤ s.size →
    (nc (s.data.toList.drop p) = true → spl s (n + 1) [] 0 false p = some [s.extract 0 s.size]) ∧
    ((∀ c r, s.data.toList.drop p = c :: r → nc r = true) → spl s (n + 1) [] 0 true p = some [s.extract 0 s.size]) := by
  have hz := size_len s
  have fin : ∀ (k : Nat) (sl : Bool), spl s (k + 1) [] 0 sl s.size = some [s.extract 0 s.size] := fun k sl => by
    rw [spl, if_neg (by omega), if_pos ⟨by omega, by simp⟩]; rfl
  intro n
  induction n with
  | zero =>
    intro p h1 h2
    have : p = s.size := by omega
    subst this
    exact ⟨fun _ => fin _ _, fun _ => fin _ _⟩
  | succ n ih =>
    intro p h1 h2
    by_cases hp : p < s.size
    rotate_left
    · have : p = s.size := by omega
      subst this
      exact ⟨fun _ => fin _ _, fun _ => fin _ _⟩
    have hlt : p < s.data.toList.length := by omega
    obtain ⟨d1, d2, d3, d4, d5⟩ := dec_cont s p hp
    have hd : s.data.toList.drop p = s.data.toList[p] :: s.data.toList.drop (p + 1) := List.drop_eq_getElem_cons hlt
    have hb := by_get s p hlt
    have hi := ih (p + (Utf8.decode s p).2) (by omega) d2
    refine ⟨fun hn => ?_, fun hn => ?_⟩
    · rw [spl, if_pos hp, if_neg (by simp)]
      by_cases q92 : (Utf8.decode s p).1 = 92
      · rw [if_pos q92]
        have hlow : by_ s p < 128 := by
          rcases Nat.lt_or_ge (by_ s p) 128 with h | h
          · exact h
          · have := d5 h; omega
        have e := d4 hlow
        have hby : by_ s p = 92 := by rw [e] at q92; exact q92
        have hc : s.data.toList[p] = 92 := UInt8.toNat_inj.1 (by rw [← hb, hby]; rfl)
        refine hi.2 fun c r hcr => ?_
        rw [e] at hcr
        rw [hd, hc] at hn
        simp only at hcr
        rw [hcr, nc_bs] at hn
        exact hn
      · rw [if_neg q92]
        by_cases q44 : (Utf8.decode s p).1 = 44
        · exfalso
          have hlow : by_ s p < 128 := by
            rcases Nat.lt_or_ge (by_ s p) 128 with h | h
            · exact h
            · have := d5 h; omega
          have e := d4 hlow
          have hby : by_ s p = 44 := by rw [e] at q44; exact q44
          have hc : s.data.toList[p] = 44 := UInt8.toNat_inj.1 (by rw [← hb, hby]; rfl)
          rw [hd, hc, nc_comma] at hn
          cases hn
        · rw [if_neg q44]
          refine hi.1 ?_
          rcases Nat.lt_or_ge (by_ s p) 128 with h | h
          · have e := d4 h
            have h92 : s.data.toList[p] ≠ 92 := fun he => q92 (by rw [e]; show by_ s p = 92; rw [hb, he]; rfl)
            have h44 : s.data.toList[p] ≠ 44 := fun he => q44 (by rw [e]; show by_ s p = 44; rw [hb, he]; rfl)
            rw [hd, nc_cons _ h92 h44] at hn
            rw [e]; exact hn
          · have ht := high_take s p (Utf8.decode s p).2 d2 (fun j hj => by
              rcases Nat.eq_zero_or_pos j with rfl | hj0
              · exact h
              · exact d3 j hj0 hj)
            have := nc_high _ (s.data.toList.drop (p + (Utf8.decode s p).2)) ht
            rw [← List.drop_drop, List.take_append_drop] at this
            rw [List.drop_drop] at this
            rw [← this]; exact hn
    · rw [spl, if_pos hp, if_pos rfl]
      refine hi.1 ?_
      have hnr := hn _ _ hd
      rcases Nat.lt_or_ge (by_ s p) 128 with h | h
      · rw [d4 h]; exact hnr
      · have ht := high_take s (p + 1) ((Utf8.decode s p).2 - 1) (by omega) (fun j hj => by
          have := d3 (j + 1) (by omega) (by omega)
          rw [show p + 1 + j = p + (j + 1) by omega]; exact this)
        have := nc_high _ (s.data.toList.drop (p + 1 + ((Utf8.decode s p).2 - 1))) ht
        rw [show s.data.toList.drop (p + 1 + ((Utf8.decode s p).2 - 1)) = (s.data.toList.drop (p + 1)).drop ((Utf8.decode s p).2 - 1) by rw [List.drop_drop], List.take_append_drop] at this
        rw [List.drop_drop] at this
        rw [show p + (Utf8.decode s p).2 = p + 1 + ((Utf8.decode s p).2 - 1) by omega, ← this]
        exact hnr
theorem one_part (s : ByteArray) (h0 : s.size ≠ 0) (hs : s.size ≤ 9223372036854775806) (hn : nc s.data.toList = true) : fields_splitTerms.f (s.size + 1) s = some [s] := by
  unfold fields_splitTerms.f
  rw [if_neg h0, if_pos hs]
  have := (spl_one s s.size 0 (by omega) (by omega)).1 (by rw [List.drop_zero]; exact hn)
  rw [this]
  congr 2
  exact ext (by rw [data_extract, List.drop_zero, Nat.sub_zero, List.take_of_length_le (by rw [size_len]; exact Nat.le_refl _)])
/-- A text that is its own unescaped one has no sign. -/
theorem un_same : ∀ (n : Nat) (l r : List UInt8), l.length ≤ n → un l = some r → r.length = l.length → l.any sign = false := by
  intro n
  induction n with
  | zero =>
    intro l r h1 h2 h3
    have : l = [] := List.length_eq_zero_iff.1 (by omega)
    rw [this]; rfl
  | succ n ih =>
    intro l r h1 h2 h3
    cases l with
    | nil => rfl
    | cons c t =>
      by_cases hc : sign c = true
      · exfalso
        by_cases h9 : c = 92
        · subst h9
          cases t with
          | nil => rw [un_end] at h2; cases h2
          | cons d t =>
            by_cases hd : sign d = true
            · rw [un_bs t hd] at h2
              obtain ⟨q, hq, rfl⟩ := Option.map_eq_some_iff.1 h2
              have := un_len _ t q (Nat.le_refl _) hq
              simp only [List.length_cons] at h3
              omega
            · rw [un_bad t hd] at h2; cases h2
        · rw [un_sign t hc h9] at h2; cases h2
      · rw [un_cons t hc] at h2
        obtain ⟨q, hq, rfl⟩ := Option.map_eq_some_iff.1 h2
        rw [List.any_cons, ih t q (by simp only [List.length_cons] at h1; omega) hq (by simpa using h3)]
        simpa using hc
theorem opAt_no {c : UInt8} (t : List UInt8) (h1 : c ≠ 61) (h2 : c = 33 → t.head? ≠ some 61) : FdN.opAt (c :: t) = none := by
  rcases opAt_cases (c :: t) with ⟨u, e, hq⟩ | ⟨u, e, hq⟩ | ⟨u, e, hu, hq⟩ | ⟨hq, -, -⟩
  · injection e with e1 e2
    exact absurd (by rw [e2]; rfl) (h2 e1)
  · injection e with e1 e2; exact absurd e1 h1
  · injection e with e1 e2; exact absurd e1 h1
  · exact hq
theorem cut_plain (o r : List UInt8) (hop : cutOp (o ++ r) = some ([], o, r)) : ∀ k : List UInt8, k.any sign = false → k.getLast? ≠ some 33 → cutOp (k ++ (o ++ r)) = some (k, o, r)
  | [], _, _ => hop
  | c :: t, h, hl => by
    rw [List.any_cons, Bool.or_eq_false_iff] at h
    obtain ⟨h1, h2, h3⟩ := not_sign h.1
    have ht : t.getLast? ≠ some 33 := by
      cases t with
      | nil => simp
      | cons d u => rw [List.getLast?_cons_cons] at hl; exact hl
    have hno : FdN.opAt (c :: (t ++ (o ++ r))) = none := opAt_no _ h3 fun hc => by
      subst hc
      cases t with
      | nil => exact absurd rfl hl
      | cons d u =>
        rw [List.any_cons, Bool.or_eq_false_iff] at h
        have := (not_sign h.2.1).2.2
        simpa using this
    rw [List.cons_append, cut_skip hno, cut_plain o r hop t h.2 ht]; rfl
theorem esc_head61 : ∀ v : List UInt8, (esc v).head? ≠ some 61
  | [] => by simp [esc]
  | c :: v => by
    rw [esc]
    by_cases h : sign c = true
    · rw [if_pos h]; simp
    · rw [if_neg h]
      have := (not_sign (by simpa using h)).2.2
      simpa using this
theorem cut_eq (r : List UInt8) (h : r.head? ≠ some 61) : cutOp ([61] ++ r) = some ([], [61], r) := by
  have : FdN.opAt (61 :: r) = some [61] := by
    rcases opAt_cases (61 :: r) with ⟨u, e, hq⟩ | ⟨u, e, hq⟩ | ⟨u, e, hu, hq⟩ | ⟨hq, h1, h2⟩
    · injection e with e1 e2; exact absurd e1 (by decide)
    · injection e with e1 e2; exact absurd (by rw [e2]; rfl) h
    · exact hq
    · exact absurd rfl h2
  show cutOp (61 :: r) = _
  rw [cutOp, this]; rfl
theorem cut_ne (r : List UInt8) : cutOp ([33, 61] ++ r) = some ([], [33, 61], r) := by
  show cutOp (33 :: 61 :: r) = _
  rw [cutOp]; rfl
theorem val_esc : ∀ (n : Nat) (l : List UInt8), l.length ≤ n → Val l → Val (esc l) := by
  intro n
  induction n with
  | zero =>
    intro l h1 h2
    have : l = [] := List.length_eq_zero_iff.1 (by omega)
    rw [this]; exact Val.nil
  | succ n ih =>
    intro l h1 h2
    cases l with
    | nil => exact Val.nil
    | cons c r =>
      by_cases hc : sign c = true
      · have hlow : c.toNat < 128 := sign_low hc
        have hdc : decodeL (c :: r) = (c.toNat, 1) := EscN.decode_ascii r hlow
        have hvr : Val r := by
          have := (h2.head (by simp)).2
          rw [hdc] at this
          exact this
        have hr := ih r (by simp only [List.length_cons] at h1; omega) hvr
        rw [esc, if_pos hc]
        refine Val.cons _ (by simp) ?_ ?_
        · rw [EscN.decode_ascii _ (show (92 : UInt8).toNat < 128 by decide)]; intro h; have := h.1; exact absurd this (by decide)
        · rw [EscN.decode_ascii _ (show (92 : UInt8).toNat < 128 by decide)]
          refine Val.cons _ (by simp) ?_ ?_
          · show ¬ ((decodeL (c :: esc r)).1 = 65533 ∧ _); rw [EscN.decode_ascii _ hlow]; intro h; have := h.1; simp only at this; omega
          · show Val ((c :: esc r).drop (decodeL (c :: esc r)).2); rw [EscN.decode_ascii _ hlow]; exact hr
      · obtain ⟨q, m, hq, hm1, hml, q1, q2, q3, q4, hen, hdr, hval, hns⟩ := step_plain h2 hc
        refine Val.cons _ (by rw [esc, if_neg hc]; simp) ?_ ?_
        · rw [hq]
          intro h
          have hq1 : q = 65533 := h.1
          have hm : m = 1 := h.2
          have := congrArg List.length hen
          rw [hq1, hm] at this
          rw [List.length_take] at this
          simp only [List.length_cons] at this
          have h3 : (encodeRune ((65533 : Nat) : Int)).length = 3 := by decide
          omega
        · rw [hq]
          show Val ((esc (c :: r)).drop m)
          rw [hdr]
          exact ih _ (by rw [List.length_drop]; simp only [List.length_cons] at h1 ⊢; omega) hval
/-- What parses to a term: its text. -/
theorem term_items (t : Tm) (hk : t.2.1.data.toList.any sign = false) (hl : t.2.1.data.toList.getLast? ≠ some 33) : items ([txt t].map fun s => s.data.toList) = some [t] ∧ (Val t.2.2.data.toList → VOk (txt t).data.toList) ∧ nc (txt t).data.toList = true ∧ (txt t).size ≠ 0 := by
  obtain ⟨b, k, v⟩ := t
  have hd : (txt (b, k, v)).data.toList = k.data.toList ++ ((if b then [61] else [33, 61]) ++ esc v.data.toList) := by
    unfold txt
    rw [data_append, data_append]
    cases b <;> simp
  have hc : cutOp (txt (b, k, v)).data.toList = some (k.data.toList, (if b then [61] else [33, 61]), esc v.data.toList) := by
    rw [hd]
    refine cut_plain _ _ ?_ _ hk hl
    cases b with
    | true => exact cut_eq _ (esc_head61 _)
    | false => exact cut_ne _
  have hne : (txt (b, k, v)).data.toList ≠ [] := by
    rw [hd]; cases b <;> simp
  refine ⟨?_, fun hv a o r h => ?_, ?_, fun h => hne (List.length_eq_zero_iff.1 (by rw [← size_len]; exact h))⟩
  · rw [List.map_cons, List.map_nil, items_yes hne hc (un_esc _), items, Option.map_some, mk_data, mk_data]
    cases b <;> rfl
  · rw [hc] at h
    injection h with h
    injection h with h1 h
    injection h with h2 h
    rw [← h]
    exact val_esc _ _ (Nat.le_refl _) hv
  · rw [hd, nc_plain _ _ hk]
    cases b with
    | true => rw [if_pos rfl]; show nc (61 :: esc v.data.toList) = true; rw [nc_cons _ (by decide) (by decide)]; exact nc_esc _
    | false => rw [if_neg (by simp)]; show nc (33 :: 61 :: esc v.data.toList) = true; rw [nc_cons _ (by decide) (by decide), nc_cons _ (by decide) (by decide)]; exact nc_esc _
end Go.Proofs.YthejejeginnbdaaGreatDoor.FdB
