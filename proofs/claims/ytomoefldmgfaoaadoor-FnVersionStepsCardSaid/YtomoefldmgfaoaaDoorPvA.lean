/- Versions: the helpers of the program, as what they say of lists of bytes. -/
import Derived.Test.YtomoefldmgfaoaaDoorPvY
import Derived.Test.YtomoefldmgfaoaaDoorPvHx
import Derived.Test.YtomoefldmgfaoaaDoorTxt
import Derived.Test.YtomoefldmgfaoaaDoorEvs
set_option linter.unusedVariables false
set_option linter.unusedSimpArgs false
namespace Go.Proofs.YtomoefldmgfaoaaDoor.Pv
open Go Go.RowKit Go.Proofs.YtomoefldmgfaoaaDoor Go.Proofs.YtomoefldmgfaoaaDoorW.PrintWords Go.Proofs.YtomoefldmgfaoaaDoor.PvH Go.Proofs.YtomoefldmgfaoaaDoor.Txt Go.Proofs.YtomoefldmgfaoaaDoor.Small

abbrev Lb (s : ByteArray) : Bs := s.data.toList
abbrev mk (l : Bs) : ByteArray := ⟨l.toArray⟩
theorem step {α : Type} {g f : Nat → Option α} {r : α} (h : ∀ k, g (k + 1) = f k) (e : Ev f r) : Ev g r := by
  obtain ⟨K, e⟩ := e
  refine ⟨K + 1, fun k hk => ?_⟩
  obtain ⟨m, rfl⟩ : ∃ m, k = m + 1 := ⟨k - 1, by omega⟩
  exact (h m).trans (e m (by omega))
theorem bindE {α β : Type} {g : Nat → Option α} {f : Nat → α → Option β} {a : α} {r : β} (h : Ev g a) (e : Ev (fun k => f k a) r) : Ev (fun k => (g k).bind (f k)) r := by
  obtain ⟨K, h⟩ := h
  obtain ⟨K', e⟩ := e
  refine ⟨K + K', fun k hk => ?_⟩
  show (g k).bind (f k) = some r
  rw [h k (by omega)]
  exact e k (by omega)
theorem const {α : Type} (r : α) : Ev (fun _ => some r) r := ⟨0, fun _ _ => rfl⟩
theorem congr {α : Type} {g f : Nat → Option α} {r : α} (h : ∀ k, g k = f k) (e : Ev f r) : Ev g r := by
  obtain ⟨K, e⟩ := e
  exact ⟨K, fun k hk => (h k).trans (e k hk)⟩
theorem chr (c d : UInt8) (n : Nat) (h : d.toNat = n) : ((c.toNat : Int) = (n : Int)) ↔ c = d := by
  constructor
  · intro e; exact UInt8.toNat_inj.1 (by omega)
  · rintro rfl; omega
theorem at_cons {s : ByteArray} {i : Nat} (h : i < s.size) : ∃ c, (Lb s).drop i = c :: (Lb s).drop (i + 1) ∧ bt s (i : Int) = (c.toNat : Int) := by
  have h' : i < (Lb s).length := by rw [← size_len]; exact h
  exact ⟨_, List.drop_eq_getElem_cons h', bt_nat s i h'⟩
theorem at_end {s : ByteArray} {i : Nat} (h : s.size ≤ i) : (Lb s).drop i = [] := List.drop_eq_nil_of_le (by rw [← size_len]; exact h)
abbrev Fit (s : ByteArray) : Prop := s.size ≤ 4611686018427387904
theorem w1 {s : ByteArray} (hs : Fit s) {i : Nat} (h : i < s.size) : wrap64 ((i : Int) + 1) = ((i + 1 : Nat) : Int) := w64s i (by unfold Fit at hs; omega)
theorem wh_cases {c : UInt8} (h : wh c = true) : c = 32 ∨ c = 9 ∨ c = 10 ∨ c = 12 ∨ c = 13 := by
  simp only [wh, Bool.or_eq_true, beq_iff_eq] at h
  rcases h with (((h | h) | h) | h) | h
  · exact Or.inl h
  · exact Or.inr (Or.inl h)
  · exact Or.inr (Or.inr (Or.inl h))
  · exact Or.inr (Or.inr (Or.inr (Or.inl h)))
  · exact Or.inr (Or.inr (Or.inr (Or.inr h)))
theorem wh_iff (c : UInt8) : wh c = true ↔ (c.toNat = 32 ∨ c.toNat = 9 ∨ c.toNat = 10 ∨ c.toNat = 12 ∨ c.toNat = 13) := by
  have k : ∀ d : UInt8, (c.toNat = d.toNat ↔ c = d) := fun d => ⟨fun e => UInt8.toNat_inj.1 e, fun e => by rw [e]⟩
  have k1 := k 32; have k2 := k 9; have k3 := k 10; have k4 := k 12; have k5 := k 13
  rw [show (32 : UInt8).toNat = 32 from rfl] at k1
  rw [show (9 : UInt8).toNat = 9 from rfl] at k2
  rw [show (10 : UInt8).toNat = 10 from rfl] at k3
  rw [show (12 : UInt8).toNat = 12 from rfl] at k4
  rw [show (13 : UInt8).toNat = 13 from rfl] at k5
  rw [k1, k2, k3, k4, k5]
  constructor
  · exact wh_cases
  · rintro (rfl | rfl | rfl | rfl | rfl) <;> rfl
theorem dg_iff (c : UInt8) : dg c = true ↔ (48 ≤ c.toNat ∧ c.toNat ≤ 57) := by
  simp only [dg, Bool.and_eq_true, decide_eq_true_eq]
theorem al_iff (c : UInt8) : al c = true ↔ ((48 ≤ c.toNat ∧ c.toNat ≤ 57) ∨ c.toNat = 45 ∨ (65 ≤ c.toNat ∧ c.toNat ≤ 90) ∨ (97 ≤ c.toNat ∧ c.toNat ≤ 122)) := by
  have k : (c.toNat = 45 ↔ c = 45) := ⟨fun e => UInt8.toNat_inj.1 e, fun e => by rw [e]; rfl⟩
  rw [k]
  simp only [al, dg, Bool.and_eq_true, Bool.or_eq_true, decide_eq_true_eq, beq_iff_eq]
  constructor
  · rintro (((h | h) | h) | h)
    · exact Or.inl h
    · exact Or.inr (Or.inl h)
    · exact Or.inr (Or.inr (Or.inl h))
    · exact Or.inr (Or.inr (Or.inr h))
  · rintro (h | h | h | h)
    · exact Or.inl (Or.inl (Or.inl h))
    · exact Or.inl (Or.inl (Or.inr h))
    · exact Or.inl (Or.inr h)
    · exact Or.inr h
theorem tw_pos {p : UInt8 → Bool} {c : UInt8} {t : Bs} (h : p c = true) (i : Nat) : i + ((c :: t).takeWhile p).length = i + 1 + (t.takeWhile p).length := by
  rw [List.takeWhile_cons_of_pos h, List.length_cons]; omega
theorem tw_neg {p : UInt8 → Bool} {c : UInt8} {t : Bs} (h : ¬ p c = true) (i : Nat) : i + ((c :: t).takeWhile p).length = i := by
  rw [List.takeWhile_cons_of_neg h]; rfl
theorem blanks_ev {s : ByteArray} (hs : Fit s) : ∀ (n i : Nat), s.size - i = n → i ≤ s.size → Ev (fun k => version_zzBlanks.l0 k s (i : Int)) ((i + (((Lb s).drop i).takeWhile wh).length : Nat) : Int) := by
  intro n
  induction n with
  | zero =>
    intro i h1 h2
    refine Evs.at1 fun k => ?_
    rw [version_zzBlanks.l0, if_neg (by omega), at_end (by omega)]; rfl
  | succ n ih =>
    intro i h1 h2
    obtain ⟨c, hc, hb⟩ := at_cons (s := s) (i := i) (by omega)
    rw [hc]
    by_cases hw : wh c = true
    · rw [tw_pos hw]
      refine step (f := fun k => version_zzBlanks.l0 k s ((i + 1 : Nat) : Int)) (fun k => ?_) (ih (i + 1) (by omega) (by omega))
      have := (wh_iff c).1 hw
      rw [version_zzBlanks.l0, if_pos (by omega), if_pos (by omega), hb, w1 hs (by omega)]
      repeat' split
      all_goals first | rfl | (exfalso; omega)
    · rw [tw_neg hw]
      refine Evs.at1 fun k => ?_
      have := fun h => hw ((wh_iff c).2 h)
      rw [version_zzBlanks.l0, if_pos (by omega), if_pos (by omega), hb]
      repeat' split
      all_goals first | rfl | (exfalso; apply this; omega)
theorem digits_ev {s : ByteArray} (hs : Fit s) : ∀ (n i : Nat), s.size - i = n → i ≤ s.size → Ev (fun k => version_zzDigits.f k s (i : Int)) ((i + (((Lb s).drop i).takeWhile dg).length : Nat) : Int) := by
  intro n
  induction n with
  | zero =>
    intro i h1 h2
    refine Evs.at1 fun k => ?_
    show version_zzDigits.l0 (k + 1) s i = _
    rw [version_zzDigits.l0, if_neg (by omega), at_end (by omega)]; rfl
  | succ n ih =>
    intro i h1 h2
    obtain ⟨c, hc, hb⟩ := at_cons (s := s) (i := i) (by omega)
    rw [hc]
    by_cases hw : dg c = true
    · rw [tw_pos hw]
      refine step (f := fun k => version_zzDigits.f k s ((i + 1 : Nat) : Int)) (fun k => ?_) (ih (i + 1) (by omega) (by omega))
      have := (dg_iff c).1 hw
      show version_zzDigits.l0 (k + 1) s i = _
      rw [version_zzDigits.l0, if_pos (by omega), if_pos (by omega), hb, w1 hs (by omega), if_pos (by omega), if_pos (by omega)]; rfl
    · rw [tw_neg hw]
      refine Evs.at1 fun k => ?_
      have := fun h => hw ((dg_iff c).2 h)
      show version_zzDigits.l0 (k + 1) s i = _
      rw [version_zzDigits.l0, if_pos (by omega), if_pos (by omega), hb]
      repeat' split
      all_goals first | rfl | (exfalso; apply this; omega)
theorem word_ev {s : ByteArray} (hs : Fit s) (x1 e : Int) : ∀ (n i : Nat), s.size - i = n → i ≤ s.size → ∀ r, Ev (fun k => version_zzWords.j2 k s x1 e ((i + (((Lb s).drop i).takeWhile al).length : Nat) : Int)) r → Ev (fun k => version_zzWords.l1 k s x1 e (i : Int)) r := by
  intro n
  induction n with
  | zero =>
    intro i h1 h2 r hr
    refine step (f := fun k => version_zzWords.j2 k s x1 e ((i + (((Lb s).drop i).takeWhile al).length : Nat) : Int)) (fun k => ?_) hr
    rw [version_zzWords.l1, if_neg (by omega), at_end (by omega)]; rfl
  | succ n ih =>
    intro i h1 h2 r hr
    obtain ⟨c, hc, hb⟩ := at_cons (s := s) (i := i) (by omega)
    rw [hc] at hr
    by_cases hw : al c = true
    · rw [tw_pos hw] at hr
      refine step (f := fun k => version_zzWords.l1 k s x1 e ((i + 1 : Nat) : Int)) (fun k => ?_) (ih (i + 1) (by omega) (by omega) r hr)
      have := (al_iff c).1 hw
      rw [version_zzWords.l1, if_pos (by omega), if_pos (by omega), hb, w1 hs (by omega)]
      repeat' split
      all_goals first | rfl | (exfalso; omega)
    · rw [tw_neg hw] at hr
      refine step (f := fun k => version_zzWords.j2 k s x1 e (i : Int)) (fun k => ?_) hr
      have := fun h => hw ((al_iff c).2 h)
      rw [version_zzWords.l1, if_pos (by omega), if_pos (by omega), hb]
      repeat' split
      all_goals first | rfl | (exfalso; apply this; omega)
theorem drop_tw {p : UInt8 → Bool} (l : Bs) (i : Nat) : l.drop (i + ((l.drop i).takeWhile p).length) = (l.drop i).dropWhile p := by
  rw [← List.drop_drop, drop_takeWhile]
theorem tw_le {s : ByteArray} {p : UInt8 → Bool} {i : Nat} (h : i ≤ s.size) : i + (((Lb s).drop i).takeWhile p).length ≤ s.size := by
  have := takeWhile_len_le (p := p) ((Lb s).drop i)
  rw [List.length_drop] at this
  have e : s.size = (Lb s).length := size_len s
  omega
theorem wlen_stop {n : Nat} {l : Bs} (h : l.dropWhile al = [] ∨ ∃ c t, l.dropWhile al = c :: t ∧ c ≠ 46) : wlen (n + 1) l = (l.takeWhile al).length := by
  rw [wlen]
  split
  · omega
  · split
    · rename_i h2
      rcases h with h | ⟨c, t, h, hc⟩
      · rw [h] at h2; cases h2
      · rw [h] at h2; injection h2 with h2 _; exact absurd h2 hc
    · rfl
theorem wlen_dot {n : Nat} {l t : Bs} (h : l.dropWhile al = 46 :: t) : wlen (n + 1) l = if (l.takeWhile al).length = 0 then 0 else if wlen n t = 0 then (l.takeWhile al).length else (l.takeWhile al).length + 1 + wlen n t := by
  rw [wlen, h]; rfl
theorem words_ev {s : ByteArray} (hs : Fit s) : ∀ (n i : Nat), s.size - i ≤ n → i ≤ s.size → ∀ e : Int, Ev (fun k => version_zzWords.l0 k s (i : Int) e) (if wlen n ((Lb s).drop i) = 0 then e else ((i + wlen n ((Lb s).drop i) : Nat) : Int)) := by
  intro n
  induction n with
  | zero =>
    intro i h1 h2 e
    refine step (f := fun k => version_zzWords.l1 k s (i : Int) e (i : Int)) (fun k => by rw [version_zzWords.l0]) (word_ev hs _ _ _ i rfl h2 _ ?_)
    rw [at_end (by omega)]
    refine Evs.at1 fun k => ?_
    show version_zzWords.j2 (k + 1) s i e i = _
    rw [version_zzWords.j2, if_pos rfl]; rfl
  | succ n ih =>
    intro i h1 h2 e
    refine step (f := fun k => version_zzWords.l1 k s (i : Int) e (i : Int)) (fun k => by rw [version_zzWords.l0]) (word_ev hs _ _ _ i rfl h2 _ ?_)
    have hle := tw_le (p := al) h2
    have hd := drop_tw (p := al) (Lb s) i
    by_cases hz : i + (((Lb s).drop i).takeWhile al).length = s.size
    · have hn : ((Lb s).drop i).dropWhile al = [] := by rw [← hd]; exact at_end (by omega)
      rw [wlen_stop (Or.inl hn)]
      generalize (((Lb s).drop i).takeWhile al).length = a at hz
      by_cases h0 : a = 0
      · subst h0
        rw [if_pos rfl]
        refine Evs.at1 fun k => ?_
        show version_zzWords.j2 (k + 1) s i e _ = _
        rw [version_zzWords.j2, if_pos (by omega)]
      · rw [if_neg h0]
        refine Evs.at1 fun k => ?_
        show version_zzWords.j2 (k + 1) s i e _ = _
        rw [version_zzWords.j2, if_neg (by omega), if_pos (by omega)]
    · obtain ⟨c, hc, hb⟩ := at_cons (s := s) (i := i + (((Lb s).drop i).takeWhile al).length) (by omega)
      rw [hd] at hc
      have q := chr c 46 46 rfl
      by_cases h46 : c = 46
      · subst h46
        rw [wlen_dot hc]
        generalize (((Lb s).drop i).takeWhile al).length = a at hle hb hz ⊢
        by_cases h0 : a = 0
        · subst h0
          rw [if_pos rfl, if_pos rfl]
          refine Evs.at1 fun k => ?_
          show version_zzWords.j2 (k + 1) s i e _ = _
          rw [version_zzWords.j2, if_pos (by omega)]
        have hi := ih (i + a + 1) (by omega) (by omega) ((i + a : Nat) : Int)
        have hgoal : (if wlen n ((Lb s).drop (i + a + 1)) = 0 then ((i + a : Nat) : Int) else ((i + a + 1 + wlen n ((Lb s).drop (i + a + 1)) : Nat) : Int)) = (if (if a = 0 then 0 else if wlen n ((Lb s).drop (i + a + 1)) = 0 then a else a + 1 + wlen n ((Lb s).drop (i + a + 1))) = 0 then e else ((i + (if a = 0 then 0 else if wlen n ((Lb s).drop (i + a + 1)) = 0 then a else a + 1 + wlen n ((Lb s).drop (i + a + 1))) : Nat) : Int)) := by
          rw [if_neg h0]
          by_cases hw : wlen n ((Lb s).drop (i + a + 1)) = 0
          · rw [if_pos hw, if_pos hw, if_neg h0]
          · rw [if_neg hw, if_neg hw, if_neg (by omega)]; congr 1; omega
        rw [← hgoal]
        refine step (f := fun k => version_zzWords.l0 k s ((i + a + 1 : Nat) : Int) ((i + a : Nat) : Int)) (fun k => ?_) hi
        show version_zzWords.j2 (k + 1) s i e _ = _
        rw [version_zzWords.j2, if_neg (by omega), if_neg (by omega), if_pos (by omega), if_pos (by omega), if_pos (by rw [hb]; rfl), w1 hs (by omega)]
      · rw [wlen_stop (Or.inr ⟨c, _, hc, h46⟩)]
        generalize (((Lb s).drop i).takeWhile al).length = a at hle hb hz ⊢
        by_cases h0 : a = 0
        · subst h0
          rw [if_pos rfl]
          refine Evs.at1 fun k => ?_
          show version_zzWords.j2 (k + 1) s i e _ = _
          rw [version_zzWords.j2, if_pos (by omega)]
        have hb' : ¬ bt s ((i + a : Nat) : Int) = 46 := by rw [hb]; intro h; exact h46 (q.1 h)
        rw [if_neg h0]
        refine Evs.at1 fun k => ?_
        show version_zzWords.j2 (k + 1) s i e _ = _
        rw [version_zzWords.j2, if_neg (by omega), if_neg (by omega), if_pos (by omega), if_pos (by omega), if_neg hb']
end Go.Proofs.YtomoefldmgfaoaaDoor.Pv
