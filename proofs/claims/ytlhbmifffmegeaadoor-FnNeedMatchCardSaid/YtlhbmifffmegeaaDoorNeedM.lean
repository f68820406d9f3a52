/- Labels match a requirement just as the five cases say: of all labels and requirements (of those that the statement's bounds and rules let by). -/
import Derived.Test.YtlhbmifffmegeaaDoorMapU
import Derived.Test.YtlhbmifffmegeaaDoorPFnNeedMatchx2
import Derived.Test.YtlhbmifffmegeaaDoorEvs
set_option linter.unusedVariables false
set_option linter.unusedSimpArgs false
namespace Go.Proofs.YtlhbmifffmegeaaDoor.NeedM
open Go Go.RowKit Go.Proofs.YtlhbmifffmegeaaDoor.PFnNeedMatch Go.Proofs.YtlhbmifffmegeaaDoorW.PrintWords Go.Proofs.YtlhbmifffmegeaaDoorW.PrintLast Go.Proofs.YtlhbmifffmegeaaDoor.Txt Go.Proofs.YtlhbmifffmegeaaDoor Go.Proofs.YtlhbmifffmegeaaDoor.MapS

theorem byte_lt_irrefl : ∀ l : List UInt8, Op.bytesLess l l = false
  | [] => rfl
  | a :: x => by
    simp only [Op.bytesLess, beq_self_eq_true, Bool.true_and, byte_lt_irrefl x, Bool.or_false, decide_eq_false_iff_not]
    exact UInt8.lt_irrefl a
theorem byte_lt_trans : ∀ a b c : List UInt8, Op.bytesLess a b = true → Op.bytesLess b c = true → Op.bytesLess a c = true
  | _, [], _, h, _ => by cases ‹List UInt8› <;> simp [Op.bytesLess] at h
  | _, _ :: _, [], _, h => by simp [Op.bytesLess] at h
  | [], _ :: _, _ :: _, _, _ => rfl
  | a :: x, b :: y, c :: z, h, g => by
    simp only [Op.bytesLess, Bool.or_eq_true, decide_eq_true_eq, Bool.and_eq_true, beq_iff_eq] at h g ⊢
    rcases h with h | ⟨rfl, h⟩
    · rcases g with g | ⟨rfl, g⟩
      · exact Or.inl (UInt8.lt_trans h g)
      · exact Or.inl h
    · rcases g with g | ⟨rfl, g⟩
      · exact Or.inl g
      · exact Or.inr ⟨rfl, byte_lt_trans x y z h g⟩
theorem byte_lt_total : ∀ a b : List UInt8, Op.bytesLess a b = false → Op.bytesLess b a = false → a = b
  | [], [], _, _ => rfl
  | [], _ :: _, h, _ => by simp [Op.bytesLess] at h
  | _ :: _, [], _, h => by simp [Op.bytesLess] at h
  | a :: x, b :: y, h, g => by
    simp only [Op.bytesLess, Bool.or_eq_false_iff, decide_eq_false_iff_not, Bool.and_eq_false_iff, beq_eq_false_iff_ne] at h g
    have e : a = b := by
      apply UInt8.toNat_inj.1
      have h1 := h.1
      have g1 := g.1
      rw [UInt8.lt_iff_toNat_lt] at h1 g1
      omega
    subst e
    rw [byte_lt_total x y (h.2.resolve_left (fun n => n rfl)) (g.2.resolve_left (fun n => n rfl))]
/-- The order of texts. -/
def lt (a b : ByteArray) : Prop := Op.bytesLess a.toList b.toList = true
theorem lt_irrefl (a : ByteArray) : ¬ lt a a := by unfold lt; rw [byte_lt_irrefl]; simp
theorem lt_trans {a b c : ByteArray} (h : lt a b) (g : lt b c) : lt a c := byte_lt_trans _ _ _ h g
theorem lt_total {a b : ByteArray} (h : a ≠ b) : lt a b ∨ lt b a := by
  unfold lt
  by_cases h1 : Op.bytesLess a.toList b.toList = true
  · exact Or.inl h1
  · by_cases h2 : Op.bytesLess b.toList a.toList = true
    · exact Or.inr h2
    · exact absurd (ext (by rw [← toL, ← toL]; exact byte_lt_total _ _ (by simpa using h1) (by simpa using h2))) h
theorem str_eq {a b : ByteArray} : a.toList = b.toList ↔ a = b := ⟨fun h => ext (by rw [← toL, ← toL]; exact h), fun h => by rw [h]⟩
theorem key_uniq : ∀ (S T : List ByteArray), S.Pairwise lt → T.Pairwise lt → (∀ x, x ∈ S ↔ x ∈ T) → S = T
  | [], [], _, _, _ => rfl
  | [], b :: T, _, _, h => absurd ((h b).2 List.mem_cons_self) (by simp)
  | a :: S, [], _, _, h => absurd ((h a).1 List.mem_cons_self) (by simp)
  | a :: S, b :: T, hs, ht, h => by
    rw [List.pairwise_cons] at hs ht
    have e : a = b := by
      rcases List.mem_cons.1 ((h a).1 List.mem_cons_self) with e | ha
      · exact e
      · rcases List.mem_cons.1 ((h b).2 List.mem_cons_self) with e | hb
        · exact e.symm
        · exact absurd (lt_trans (hs.1 b hb) (ht.1 a ha)) (lt_irrefl a)
    subst e
    have := key_uniq S T hs.2 ht.2 (fun x => by
      constructor
      · intro hx
        rcases List.mem_cons.1 ((h x).1 (List.mem_cons_of_mem _ hx)) with e | h1
        · subst e; exact absurd (hs.1 x hx) (lt_irrefl x)
        · exact h1
      · intro hx
        rcases List.mem_cons.1 ((h x).2 (List.mem_cons_of_mem _ hx)) with e | h1
        · subst e; exact absurd (ht.1 x hx) (lt_irrefl x)
        · exact h1)
    rw [this]
theorem rdS {l : List ByteArray} {i : Nat} (h : i < l.length) : rdOf ByteArray.empty l (i : Int) = l[i] := by simp [rdOf, List.getD_eq_getElem?_getD, List.getElem?_eq_getElem h]

/-- Whether a text is one of a row. -/
def inB (a : ByteArray) (l : List ByteArray) : Bool := l.any (fun t => t.toList == a.toList)
theorem inB_iff {a : ByteArray} {l : List ByteArray} : inB a l = true ↔ a ∈ l := by
  unfold inB
  rw [List.any_eq_true]
  constructor
  · rintro ⟨t, ht, e⟩; rw [← str_eq.1 (beq_iff_eq.1 e)]; exact ht
  · intro h; exact ⟨a, h, beq_self_eq_true _⟩
theorem keyIn_l0 (l : List ByteArray) (a : ByteArray) (hl : l.length ≤ 4294967296) (n : Nat) : ∀ i : Nat, i + n = l.length → Ev (fun k => spec_keyIn_string.l0 k l a (i : Int)) (inB a (l.drop i)) := by
  induction n with
  | zero =>
    intro i hi
    rw [List.drop_eq_nil_of_le (by omega)]
    refine Evs.at1 fun k => ?_
    simp only [spec_keyIn_string.l0]
    rw [if_neg (by omega)]; rfl
  | succ n ih =>
    intro i hi
    have h : i < l.length := by omega
    rw [List.drop_eq_getElem_cons h]
    by_cases e : l[i] = a
    · refine Evs.at1 fun k => ?_
      simp only [spec_keyIn_string.l0]
      rw [if_pos (by omega), if_pos (by omega), rdS h, if_pos (by rw [e])]; unfold inB; rw [List.any_cons, e, beq_self_eq_true, Bool.true_or]
    · rw [show inB a (l[i] :: l.drop (i + 1)) = inB a (l.drop (i + 1)) by unfold inB; rw [List.any_cons, beq_eq_false_iff_ne.2 (fun h => e (str_eq.1 h)), Bool.false_or]]
      refine Ev.step (fun k => ?_) (ih (i + 1) (by omega))
      simp only [spec_keyIn_string.l0]
      rw [if_pos (by omega), if_pos (by omega), rdS h, if_neg (fun h => e (str_eq.1 h)), Small.w64s i (by omega)]
theorem keyIn_f (l : List ByteArray) (a : ByteArray) (hl : l.length ≤ 4294967296) : Ev (fun k => spec_keyIn_string.f k l a) (inB a l) := keyIn_l0 l a hl l.length 0 (by omega)
theorem fits4_f (l : List ByteArray) : ∃ b, Ev (fun k => laws_zzFits4.f k l) b ∧ (b = true → l.length ≤ 2147483647 ∧ ∀ x ∈ l, x.size ≤ 2147483647) := by
  unfold laws_zzFits4.f
  by_cases h0 : l.length ≤ 2147483647
  rotate_left
  · exact ⟨false, Evs.yes (by omega) ⟨0, fun _ _ => rfl⟩, by simp⟩
  have step : ∀ n i, i + n = l.length → (∀ x ∈ l.take i, x.size ≤ 2147483647) → ∃ b, Ev (fun k => laws_zzFits4.l0 k l (l.length : Int) (i : Int)) b ∧ (b = true → ∀ x ∈ l, x.size ≤ 2147483647) := by
    intro n
    induction n with
    | zero =>
      intro i hi ht
      rw [List.take_of_length_le (by omega)] at ht
      exact ⟨true, Evs.at1 fun k => by rw [laws_zzFits4.l0, if_neg (by omega)], fun _ => ht⟩
    | succ n ih =>
      intro i hi ht
      have h : i < l.length := by omega
      by_cases hs : l[i].size ≤ 2147483647
      · obtain ⟨b, hb, hc⟩ := ih (i + 1) (by omega) (by
          rw [List.take_succ_eq_append_getElem h]
          intro x hx
          rcases List.mem_append.1 hx with hx | hx
          · exact ht x hx
          · rw [List.mem_singleton.1 hx]; exact hs)
        refine ⟨b, Ev.step (fun k => ?_) hb, hc⟩
        rw [laws_zzFits4.l0, if_pos (by omega), if_pos (by omega), if_pos (by omega), rdS h, if_neg (by omega), Small.w64s i (by omega)]
      · refine ⟨false, Evs.at1 fun k => ?_, by simp⟩
        rw [laws_zzFits4.l0, if_pos (by omega), if_pos (by omega), if_pos (by omega), rdS h, if_pos (by omega)]
  obtain ⟨b, hb, hc⟩ := step l.length 0 (by omega) (by simp)
  exact ⟨b, Evs.no (by omega) hb, fun h => ⟨h0, hc h⟩⟩
theorem fits10_f (a b : ByteArray) (l : List ByteArray) : ∃ r, Ev (fun k => laws_zzFits10.f k a b l) r ∧ (r = true → a.size ≤ 2147483647 ∧ b.size ≤ 2147483647 ∧ l.length ≤ 2147483647 ∧ ∀ x ∈ l, x.size ≤ 2147483647) := by
  unfold laws_zzFits10.f
  by_cases ha : a.size ≤ 2147483647
  rotate_left
  · exact ⟨false, Evs.yes (by omega) ⟨0, fun _ _ => rfl⟩, by simp⟩
  by_cases hb : b.size ≤ 2147483647
  rotate_left
  · exact ⟨false, Evs.no (by omega) (Evs.yes (by omega) ⟨0, fun _ _ => rfl⟩), by simp⟩
  obtain ⟨r, hr, hc⟩ := fits4_f l
  refine ⟨r, Evs.no (by omega) (Evs.no (by omega) (Ev.bind hr ?_)), fun h => ⟨ha, hb, hc h⟩⟩
  cases r
  · exact ⟨0, fun _ _ => rfl⟩
  · exact ⟨0, fun _ _ => rfl⟩
theorem spS_any (s : ByteArray) (c : Int) (hs : s.size ≤ 2147483647) (n : Nat) : ∀ (ts : List ByteArray) (p : Nat), p + n = s.size → 0 < ts.length → ts.length ≤ p + 1 → (∀ x ∈ ts, x.size ≤ p) →
    ∃ r, Ev (fun k => spS s c k ts p) r ∧ 0 < r.length ∧ r.length ≤ s.size + 1 ∧ ∀ x ∈ r, x.size ≤ s.size := by
  induction n with
  | zero =>
    intro ts p hp h0 h1 h2
    refine ⟨ts, Evs.at1 fun k => ?_, h0, by omega, fun x hx => by have := h2 x hx; omega⟩
    rw [spS, if_neg (by omega)]
  | succ n ih =>
    intro ts p hp h0 h1 h2
    by_cases hc : bt s p = c
    · obtain ⟨r, hr, g⟩ := ih (ts ++ [(⟨#[]⟩ : ByteArray)]) (p + 1) (by omega) (by simp) (by simp; omega) (fun x hx => by
        rcases List.mem_append.1 hx with hx | hx
        · have := h2 x hx; omega
        · rw [List.mem_singleton.1 hx]; show 0 ≤ p + 1; omega)
      refine ⟨r, Ev.step (fun k => ?_) hr, g⟩
      rw [spS, if_pos (by omega), if_pos hc, if_pos (by omega)]
    · have hl : ts.length - 1 < ts.length := by omega
      have hx := h2 _ (List.getElem_mem hl)
      obtain ⟨r, hr, g⟩ := ih (ts.set (ts.length - 1) (rdOf ByteArray.empty ts ((ts.length - 1 : Nat) : Int) ++ s.extract p (p + 1))) (p + 1) (by omega) (by rw [List.length_set]; exact h0) (by rw [List.length_set]; omega) (fun x hx' => by
        rcases List.mem_or_eq_of_mem_set hx' with hx' | hx'
        · have := h2 x hx'; omega
        · rw [hx', rdS hl, ByteArray.size_append, ByteArray.size_extract]; omega)
      refine ⟨r, Ev.step (fun k => ?_) hr, g⟩
      rw [spS, if_pos (by omega), if_neg hc, if_pos ⟨h0, by rw [rdS hl]; omega, by omega⟩]
theorem split_any (s : ByteArray) (c : Int) (hs : s.size ≤ 2147483647) : ∃ r, Ev (fun k => spec_Split.f k s c) r ∧ 0 < r.length ∧ r.length ≤ s.size + 1 ∧ ∀ x ∈ r, x.size ≤ s.size := by
  obtain ⟨r, hr, g⟩ := spS_any s c hs s.size [(⟨#[]⟩ : ByteArray)] 0 (by omega) (by simp) (by simp) (fun x hx => by rw [List.mem_singleton.1 hx]; exact Nat.le_refl _)
  exact ⟨r, by unfold spec_Split.f; exact Evs.yes (by omega) hr, g⟩
theorem domain_any (s : ByteArray) (hs : s.size ≤ 2147483647) : ∃ b, Ev (fun k => spec_NameDomain.f k s) b := by
  obtain ⟨r, hr, h0, h1, h2⟩ := split_any s 46 hs
  exact ⟨_, Ev.bind hr (Evs.yes ⟨by omega, fun x hx => by have := h2 x hx; omega⟩ ⟨0, fun _ _ => rfl⟩)⟩
theorem nk_last (r : List ByteArray) (h0 : 0 < r.length) (h1 : r.length ≤ 4294967296) (h2 : ∀ x ∈ r, x.size ≤ 2147483647) : ∃ b, (if 0 ≤ (wrap64 ((r.length : Int) - 1)) then (if (wrap64 ((r.length : Int) - 1)) < (r.length : Int) then (if (rdOf ByteArray.empty r (wrap64 ((r.length : Int) - 1))).toList = ([] : List UInt8) then (some false) else ((spec_NameValue.f (rdOf ByteArray.empty r (wrap64 ((r.length : Int) - 1)))).bind fun t120 => (some t120))) else (none)) else (none)) = some b := by
  have e : wrap64 ((r.length : Int) - 1) = ((r.length - 1 : Nat) : Int) := by rw [Small.w64 _ (by omega) (by omega)]; omega
  have hl : r.length - 1 < r.length := by omega
  rw [e, if_pos (by omega), if_pos (by omega), rdS hl]
  have hz := h2 _ (List.getElem_mem hl)
  by_cases c : (r[r.length - 1]).toList = []
  · exact ⟨false, by rw [if_pos c]⟩
  · exact ⟨nameValueB (r[r.length - 1]).data.toList, by rw [if_neg c]; unfold spec_NameValue.f; rw [if_pos (by omega)]; rfl⟩
theorem key_any (s : ByteArray) (hs : s.size ≤ 2147483647) : ∃ b, Ev (fun k => spec_NameKey.f k s) b := by
  obtain ⟨r, hr, h0, h1, h2⟩ := split_any s 47 hs
  obtain ⟨bl, hl⟩ := nk_last r h0 (by omega) (fun x hx => by have := h2 x hx; omega)
  unfold spec_NameKey.f
  by_cases c2 : r.length = 2
  · obtain ⟨d, hd⟩ := domain_any r[0] (by have := h2 _ (List.getElem_mem h0); omega)
    cases d
    · exact ⟨false, Ev.bind hr (Evs.yes (by omega) (Evs.yes (by omega) (Ev.bind (by have e := rdS h0; simp only [Int.natCast_zero] at e; rw [e]; exact hd) (Evs.no (by simp) ⟨0, fun _ _ => rfl⟩))))⟩
    · exact ⟨bl, Ev.bind hr (Evs.yes (by omega) (Evs.yes (by omega) (Ev.bind (by have e := rdS h0; simp only [Int.natCast_zero] at e; rw [e]; exact hd) (Evs.yes rfl (Evs.no (by omega) ⟨0, fun _ _ => hl⟩)))))⟩
  · by_cases c3 : r.length > 2
    · exact ⟨false, Ev.bind hr (Evs.no (by omega) (Evs.yes (by omega) ⟨0, fun _ _ => rfl⟩))⟩
    · exact ⟨bl, Ev.bind hr (Evs.no (by omega) (Evs.no (by omega) ⟨0, fun _ _ => hl⟩))⟩
theorem numF_snd (l : List UInt8) : (numF l).2 = (NeedN.num l).isSome := by
  unfold numF NeedN.num
  by_cases h0 : NeedN.body l = []
  · rw [if_pos h0, if_pos h0]; rfl
  rw [if_neg h0, if_neg h0]
  by_cases hd : (NeedN.body l).all NeedN.isDig = true
  rotate_left
  · rw [if_neg hd, if_neg hd]; rfl
  rw [if_pos hd, if_pos hd]
  cases hm : NeedN.magF (NeedN.body l) 0 with
  | none => rfl
  | some m =>
    simp only
    by_cases hi : NeedN.minus l = true
    · rw [if_pos hi, if_pos hi]; rfl
    · rw [if_neg hi, if_neg hi]
      by_cases h : m < 9223372036854775808
      · rw [if_pos h, decide_eq_true h]; rfl
      · rw [if_neg h, decide_eq_false h]; rfl
/-- An operator that may be. -/
def isOp (o : List UInt8) : Prop := o = [105, 110] ∨ o = [110, 111, 116, 105, 110] ∨ o = [61] ∨ o = [61, 61] ∨ o = [33, 61] ∨ o = [101, 120, 105, 115, 116, 115] ∨ o = [33] ∨ o = [103, 116] ∨ o = [108, 116]
theorem op_any (a : ByteArray) : ∃ b, Ev (fun k => spec_NeedOp.f k a) b ∧ (b = true → isOp a.toList) := by
  have h := keyIn_f (([(⟨#[105, 110]⟩ : ByteArray), (⟨#[110, 111, 116, 105, 110]⟩ : ByteArray), (⟨#[61]⟩ : ByteArray), (⟨#[61, 61]⟩ : ByteArray), (⟨#[33, 61]⟩ : ByteArray), (⟨#[101, 120, 105, 115, 116, 115]⟩ : ByteArray), (⟨#[33]⟩ : ByteArray), (⟨#[103, 116]⟩ : ByteArray), (⟨#[108, 116]⟩ : ByteArray)] : List ByteArray)) a (by simp)
  refine ⟨_, Ev.bind h ⟨0, fun _ _ => rfl⟩, fun hb => ?_⟩
  have := inB_iff.1 hb
  simp only [List.mem_cons, List.not_mem_nil, or_false] at this
  rcases this with e | e | e | e | e | e | e | e | e <;> (subst e; rw [toL]; unfold isOp; simp)
theorem count_any (a b : ByteArray) (l : List ByteArray) (hl : l.length ≤ 2147483647) (hs : ∀ x ∈ l, x.size ≤ 2147483647) (ho : isOp b.toList) : ∃ r, Ev (fun k => spec_NeedCount.f k a b l) r ∧ (r = true → needOkB b l = true) := by
  unfold spec_NeedCount.f needOkB
  rw [← toL b]
  generalize hob : b.toList = o at ho
  by_cases h1 : o = [105, 110]
  · refine ⟨decide ((l.length : Int) > 0), Evs.yes h1 (Evs.at1 fun k => ?_), fun h => ?_⟩
    · rw [spec_NeedCount.j0, if_pos (by rw [h1]; rfl)]
    · rw [if_pos (Or.inl h1)]; rw [decide_eq_true_eq] at h ⊢; omega
  by_cases h2 : o = [110, 111, 116, 105, 110]
  · refine ⟨decide ((l.length : Int) > 0), Evs.no h1 (Evs.at1 fun k => ?_), fun h => ?_⟩
    · rw [spec_NeedCount.j0, if_pos (by rw [h2]; rfl)]
    · rw [if_pos (Or.inr h2)]; rw [decide_eq_true_eq] at h ⊢; omega
  have f2 : ¬ ((o == [110, 111, 116, 105, 110]) = true) := by rw [beq_iff_eq]; exact h2
  by_cases h3 : o = [101, 120, 105, 115, 116, 115]
  · refine ⟨((l.length : Int) == 0), Evs.no h1 (Ev.step (f := fun k => spec_NeedCount.j1 k true a b l) (fun k => ?_) (Evs.at1 fun k => ?_)), fun h => ?_⟩
    · rw [spec_NeedCount.j0, if_neg f2, hob, if_pos h3, h3]; rfl
    · rw [spec_NeedCount.j1, if_pos (by rfl)]
    · rw [if_neg (by rintro (h | h); exact h1 h; exact h2 h), if_neg (by subst h3; decide), if_pos (Or.inl h3)]
      rw [beq_iff_eq] at h; rw [decide_eq_true_eq]; omega
  by_cases h4 : o = [33]
  · refine ⟨((l.length : Int) == 0), Evs.no h1 (Ev.step (f := fun k => spec_NeedCount.j1 k true a b l) (fun k => ?_) (Evs.at1 fun k => ?_)), fun h => ?_⟩
    · rw [spec_NeedCount.j0, if_neg f2, hob, if_neg h3, h4]; rfl
    · rw [spec_NeedCount.j1, if_pos (by rfl)]
    · rw [if_neg (by rintro (h | h); exact h1 h; exact h2 h), if_neg (by subst h4; decide), if_pos (Or.inr h4)]
      rw [beq_iff_eq] at h; rw [decide_eq_true_eq]; omega
  have f4 : ((o == [33]) : Bool) = false := beq_eq_false_iff_ne.2 h4
  have start : ∀ r, Ev (fun k => spec_NeedCount.j1 k false a b l) r → Ev (fun k => if o = ([105, 110] : List UInt8) then (spec_NeedCount.j0 k b (o == ([105, 110] : List UInt8)) a b l) else (spec_NeedCount.j0 k b (o == ([110, 111, 116, 105, 110] : List UInt8)) a b l)) r := fun r h =>
    Evs.no h1 (Ev.step (fun k => by rw [spec_NeedCount.j0, if_neg f2, hob, if_neg h3, f4]) h)
  by_cases hn : l.length = 1
  rotate_left
  · refine ⟨false, start _ (Evs.at1 fun k => ?_), by simp⟩
    rw [spec_NeedCount.j1, if_neg (by simp), if_neg (by omega)]
  obtain ⟨v, rfl⟩ := List.length_eq_one_iff.1 hn
  have hv := hs v (by simp)
  have hr0 : rdOf ByteArray.empty [v] 0 = v := rfl
  have hnum : spec_NeedNumber.f v = some (numF v.data.toList) := by unfold spec_NeedNumber.f; rw [if_pos (by omega)]
  cases hi : (numF v.data.toList).2
  · by_cases h5 : o = [103, 116]
    · refine ⟨false, start _ (Evs.at1 fun k => ?_), by simp⟩
      rw [spec_NeedCount.j1, if_neg (by simp), if_pos (by omega), if_pos (by simp), hr0, hnum, Option.bind_some, hi, if_neg (by simp), hob, if_pos h5]
    · refine ⟨(o != [108, 116]), start _ (Evs.at1 fun k => ?_), fun h => ?_⟩
      · rw [spec_NeedCount.j1, if_neg (by simp), if_pos (by omega), if_pos (by simp), hr0, hnum, Option.bind_some, hi, if_neg (by simp), hob, if_neg h5]
      · have h6 := bne_iff_ne.1 h
        rw [if_neg (by rintro (h | h); exact h1 h; exact h2 h)]
        rw [if_pos (by unfold isOp at ho; rcases ho with e | e | e | e | e | e | e | e | e; exact absurd e h1; exact absurd e h2; exact Or.inl e; exact Or.inr (Or.inl e); exact Or.inr (Or.inr e); exact absurd e h3; exact absurd e h4; exact absurd e h5; exact absurd e h6)]
        rfl
  · refine ⟨true, start _ (Evs.at1 fun k => ?_), fun _ => ?_⟩
    · rw [spec_NeedCount.j1, if_neg (by simp), if_pos (by omega), if_pos (by simp), hr0, hnum, Option.bind_some, hi, if_pos rfl]
    · rw [numF_snd] at hi
      rw [if_neg (by rintro (h | h); exact h1 h; exact h2 h)]
      by_cases h7 : o = [61] ∨ o = [61, 61] ∨ o = [33, 61]
      · rw [if_pos h7]; rfl
      · rw [if_neg h7, if_neg (by rintro (h | h); exact h3 h; exact h4 h), if_pos (by unfold isOp at ho; rcases ho with e | e | e | e | e | e | e | e | e; exact absurd e h1; exact absurd e h2; exact absurd (Or.inl e) h7; exact absurd (Or.inr (Or.inl e)) h7; exact absurd (Or.inr (Or.inr e)) h7; exact absurd e h3; exact absurd e h4; exact Or.inl e; exact Or.inr e)]
        simp only [hi, Bool.true_and, decide_eq_true_eq]; omega
theorem may_l0 (a b : ByteArray) (l : List ByteArray) (hl : l.length ≤ 2147483647) (hs : ∀ x ∈ l, x.size ≤ 2147483647) (ho : isOp b.toList) (n : Nat) : ∀ i : Nat, i + n = l.length → ∃ r, Ev (fun k => spec_NeedMay.l0 k (i : Int) a b l) r ∧ (r = true → needOkB b l = true) := by
  induction n with
  | zero =>
    intro i hi
    obtain ⟨r, hr, hc⟩ := count_any a b l hl hs ho
    refine ⟨r, Ev.step (f := fun k => (spec_NeedCount.f k a b l).bind fun t132 => (some t132)) (fun k => ?_) (Ev.bind hr ⟨0, fun _ _ => rfl⟩), hc⟩
    rw [spec_NeedMay.l0, if_neg (by omega)]
  | succ n ih =>
    intro i hi
    have h : i < l.length := by omega
    have hv := hs _ (List.getElem_mem h)
    have hnv : spec_NameValue.f l[i] = some (nameValueB l[i].data.toList) := by unfold spec_NameValue.f; rw [if_pos (by omega)]
    obtain ⟨r, hr, hc⟩ := ih (i + 1) (by omega)
    cases hb : nameValueB l[i].data.toList
    · refine ⟨false, Evs.at1 fun k => ?_, by simp⟩
      rw [spec_NeedMay.l0, if_pos (by omega), if_pos (by omega), rdS h, hnv, Option.bind_some, hb, if_neg (by simp)]
    · refine ⟨r, Ev.step (fun k => ?_) hr, hc⟩
      rw [spec_NeedMay.l0, if_pos (by omega), if_pos (by omega), rdS h, hnv, Option.bind_some, hb, if_pos rfl, Small.w64s i (by omega)]
theorem may_any (a b : ByteArray) (l : List ByteArray) (ha : a.size ≤ 2147483647) (hl : l.length ≤ 2147483647) (hs : ∀ x ∈ l, x.size ≤ 2147483647) : ∃ r, Ev (fun k => spec_NeedMay.f k a b l) r ∧ (r = true → needOkB b l = true) := by
  unfold spec_NeedMay.f
  obtain ⟨o, hop, hio⟩ := op_any b
  cases o
  · exact ⟨false, Ev.bind hop (Evs.no (by simp) (Evs.at1 fun k => by rw [spec_NeedMay.j0, if_pos (by rfl)])), by simp⟩
  · obtain ⟨q, hq⟩ := key_any a ha
    cases q
    · exact ⟨false, Ev.bind hop (Evs.yes rfl (Ev.bind hq (Evs.at1 fun k => by rw [spec_NeedMay.j0, if_pos (by rfl)]))), by simp⟩
    · obtain ⟨r, hr, hc⟩ := may_l0 a b l hl hs (hio rfl) l.length 0 (by omega)
      exact ⟨r, Ev.bind hop (Evs.yes rfl (Ev.bind hq (Ev.step (fun k => by rw [spec_NeedMay.j0, if_neg (by simp)]; rfl) hr))), hc⟩

theorem fits2_f (l : List S37) : ∃ b, Ev (fun k => laws_zzFits2.f k l) b ∧ (b = true → l.length ≤ 2147483647 ∧ ∀ x ∈ l, x.f0.size ≤ 2147483647 ∧ x.f1.size ≤ 2147483647) := by
  unfold laws_zzFits2.f
  by_cases h0 : l.length ≤ 2147483647
  rotate_left
  · exact ⟨false, Evs.yes (by omega) ⟨0, fun _ _ => rfl⟩, by simp⟩
  have one : ∀ x : S37, laws_zzFits3.f x.f0 x.f1 = some (decide (x.f0.size ≤ 2147483647 ∧ x.f1.size ≤ 2147483647)) := fun x => by
    unfold laws_zzFits3.f
    by_cases h1 : x.f0.size ≤ 2147483647
    · by_cases h2 : x.f1.size ≤ 2147483647
      · rw [if_neg (by omega), if_neg (by omega), decide_eq_true ⟨h1, h2⟩]
      · rw [if_neg (by omega), if_pos (by omega), decide_eq_false (fun h => h2 h.2)]
    · rw [if_pos (by omega), decide_eq_false (fun h => h1 h.1)]
  have step : ∀ n i, i + n = l.length → (∀ x ∈ l.take i, x.f0.size ≤ 2147483647 ∧ x.f1.size ≤ 2147483647) → ∃ b, Ev (fun k => laws_zzFits2.l0 k l (l.length : Int) (i : Int)) b ∧ (b = true → ∀ x ∈ l, x.f0.size ≤ 2147483647 ∧ x.f1.size ≤ 2147483647) := by
    intro n
    induction n with
    | zero =>
      intro i hi ht
      rw [List.take_of_length_le (by omega)] at ht
      exact ⟨true, Evs.at1 fun k => by rw [laws_zzFits2.l0, if_neg (by omega)], fun _ => ht⟩
    | succ n ih =>
      intro i hi ht
      have h : i < l.length := by omega
      by_cases hs : l[i].f0.size ≤ 2147483647 ∧ l[i].f1.size ≤ 2147483647
      · obtain ⟨b, hb, hc⟩ := ih (i + 1) (by omega) (by
          rw [List.take_succ_eq_append_getElem h]
          intro x hx
          rcases List.mem_append.1 hx with hx | hx
          · exact ht x hx
          · rw [List.mem_singleton.1 hx]; exact hs)
        refine ⟨b, Ev.step (fun k => ?_) hb, hc⟩
        rw [laws_zzFits2.l0, if_pos (by omega), if_pos (by omega), if_pos (by omega), rd37 h, one, Option.bind_some, if_pos (by rw [decide_eq_true hs]), Small.w64s i (by omega)]
      · refine ⟨false, Evs.at1 fun k => ?_, by simp⟩
        rw [laws_zzFits2.l0, if_pos (by omega), if_pos (by omega), if_pos (by omega), rd37 h, one, Option.bind_some, if_neg (by rw [decide_eq_false hs]; simp)]
  obtain ⟨b, hb, hc⟩ := step l.length 0 (by omega) (by simp)
  exact ⟨b, Evs.no (by omega) hb, fun h => ⟨h0, hc h⟩⟩
theorem find_f (L : List S37) (key : ByteArray) (hl : L.length ≤ 4294967296) : Ev (fun k => spec_Find.f k L key) ((findP L key).getD ⟨#[]⟩, (findP L key).isSome) := by
  have step : ∀ i : Nat, i ≤ L.length → Ev (fun k => spec_Find.l0 k L key ((i : Int) - 1)) ((findP (L.take i) key).getD ⟨#[]⟩, (findP (L.take i) key).isSome) := by
    intro i
    induction i with
    | zero =>
      intro _
      refine Evs.at1 fun k => ?_
      rw [spec_Find.l0, if_neg (by omega)]; rfl
    | succ i ih =>
      intro hi
      have h : i < L.length := by omega
      rw [List.take_succ_eq_append_getElem h, find_snoc]
      by_cases e : L[i].f0.data.toList = key.data.toList
      · rw [if_pos e]
        refine Evs.at1 fun k => ?_
        rw [show ((i + 1 : Nat) : Int) - 1 = (i : Int) by omega, spec_Find.l0, if_pos (by omega), if_pos (by omega), if_pos (by omega), rd37 h, toL, toL, if_pos e]; rfl
      · rw [if_neg e]
        refine Ev.step (fun k => ?_) (ih (by omega))
        rw [show ((i + 1 : Nat) : Int) - 1 = (i : Int) by omega, spec_Find.l0, if_pos (by omega), if_pos (by omega), if_pos (by omega), rd37 h, toL, toL, if_neg e, Small.w64 _ (by omega) (by omega)]
  have := step L.length (Nat.le_refl _)
  rw [List.take_length] at this
  unfold spec_Find.f
  rw [Small.w64 _ (by omega) (by omega)]
  exact this
theorem numF_some {l : List UInt8} {x : Int} (h : NeedN.num l = some x) : numF l = (x, true) := by
  unfold NeedN.num at h
  unfold numF
  by_cases h0 : NeedN.body l = []
  · rw [if_pos h0] at h; cases h
  rw [if_neg h0] at h ⊢
  by_cases hd : (NeedN.body l).all NeedN.isDig = true
  rotate_left
  · rw [if_neg hd] at h; cases h
  rw [if_pos hd] at h ⊢
  cases hm : NeedN.magF (NeedN.body l) 0 with
  | none => rw [hm] at h; cases h
  | some m =>
    rw [hm] at h
    simp only at h ⊢
    by_cases hi : NeedN.minus l = true
    · rw [if_pos hi] at h ⊢; rw [Option.some.inj h]
    · rw [if_neg hi] at h ⊢
      by_cases hlt : m < 9223372036854775808
      · rw [if_pos hlt] at h
        rw [decide_eq_true hlt, Small.w64 _ (by omega) (by omega), Option.some.inj h]
      · rw [if_neg hlt] at h; cases h
theorem numF_none {l : List UInt8} (h : NeedN.num l = none) : (numF l).2 = false := by rw [numF_snd, h]; rfl

/-- A comparison of numbers. -/
def cmpB (o : List UInt8) (x0 : ByteArray) (f : Option ByteArray) : Bool :=
  match f with
  | none => false
  | some v => match NeedN.num v.data.toList, NeedN.num x0.data.toList with
    | some x, some y => if o = [103, 116] then decide (x > y) else decide (x < y)
    | _, _ => false
section
variable (key op : ByteArray) (vals : List ByteArray) (L : List S37) (hl : vals.length ≤ 4294967296)
include hl
theorem j0_yes (f : Option ByteArray) (x : Bool) (hx : x = true) : Ev (fun k => spec_NeedMatch.j0 k (f.getD ⟨#[]⟩) f.isSome op x key op vals) (match f with | some v => inV vals v | none => false) := by
  cases f with
  | none =>
    refine Evs.at1 fun k => ?_
    rw [spec_NeedMatch.j0, if_pos hx, if_neg (by simp)]
  | some v =>
    refine Ev.step (f := fun k => (spec_keyIn_string.f k vals v).bind fun t150 => (some t150)) (fun k => ?_) (Ev.bind (keyIn_f vals v hl) ⟨0, fun _ _ => rfl⟩)
    rw [spec_NeedMatch.j0, if_pos hx, if_pos (by rfl)]; rfl
theorem j1_yes (f : Option ByteArray) (x : Bool) (hx : x = true) : Ev (fun k => spec_NeedMatch.j1 k (f.getD ⟨#[]⟩) f.isSome op x key op vals) (match f with | some v => !inV vals v | none => true) := by
  cases f with
  | none =>
    refine Evs.at1 fun k => ?_
    rw [spec_NeedMatch.j1, if_pos hx, if_neg (by simp)]
  | some v =>
    refine Ev.step (f := fun k => (spec_keyIn_string.f k vals v).bind fun t150 => (some (!t150))) (fun k => ?_) (Ev.bind (keyIn_f vals v hl) ⟨0, fun _ _ => rfl⟩)
    rw [spec_NeedMatch.j1, if_pos hx, if_pos (by rfl)]; rfl
omit hl in
theorem to_j1 (f : Option ByteArray) (r : Bool) (x : Bool) (hx : x = false) (hn : ¬ op.toList = [110, 111, 116, 105, 110]) (h : Ev (fun k => spec_NeedMatch.j1 k (f.getD ⟨#[]⟩) f.isSome op (op.toList == [33, 61]) key op vals) r) : Ev (fun k => spec_NeedMatch.j0 k (f.getD ⟨#[]⟩) f.isSome op x key op vals) r :=
  Ev.step (fun k => by rw [spec_NeedMatch.j0, if_neg (by rw [hx]; simp), if_neg hn]) h
omit hl in
theorem j1_num (v : ByteArray) (hv : v.size ≤ 4294967296) (x0 : ByteArray) (y : Int) (hz : x0.size ≤ 4294967296) (hy : NeedN.num x0.data.toList = some y) (h1 : (op.toList == [33, 61]) = false) (h2 : ¬ op.toList = [101, 120, 105, 115, 116, 115]) (h3 : ¬ op.toList = [33]) (f : Option ByteArray) (hf : f = none ∨ f = some v) :
    Ev (fun k => spec_NeedMatch.j1 k (f.getD ⟨#[]⟩) f.isSome op (op.toList == [33, 61]) key op [x0]) (cmpB op.toList x0 f) := by
  have hr0 : rdOf ByteArray.empty [x0] 0 = x0 := rfl
  have hn0 : spec_NeedNumber.f x0 = some (y, true) := by unfold spec_NeedNumber.f; rw [if_pos hz, numF_some hy]
  rcases hf with rfl | rfl
  · have hne : spec_NeedNumber.f (⟨#[]⟩ : ByteArray) = some (numF (⟨#[]⟩ : ByteArray).data.toList) := by unfold spec_NeedNumber.f; rw [if_pos (by decide)]
    refine Ev.step (f := fun k => spec_NeedMatch.j2 k (numF (⟨#[]⟩ : ByteArray).data.toList).1 true key op [x0]) (fun k => ?_) (Evs.at1 fun k => by rw [spec_NeedMatch.j2, if_pos rfl]; rfl)
    rw [spec_NeedMatch.j1, if_neg (by rw [h1]; simp), if_neg h2, if_neg h3]
    show ((spec_NeedNumber.f (⟨#[]⟩ : ByteArray)).bind _) = _
    rw [hne, Option.bind_some, if_neg (by simp)]
  · have hnv : spec_NeedNumber.f v = some (numF v.data.toList) := by unfold spec_NeedNumber.f; rw [if_pos hv]
    refine Ev.step (f := fun k => spec_NeedMatch.j2 k (numF v.data.toList).1 (!(numF v.data.toList).2) key op [x0]) (fun k => ?_) (Evs.at1 fun k => ?_)
    · rw [spec_NeedMatch.j1, if_neg (by rw [h1]; simp), if_neg h2, if_neg h3]
      show ((spec_NeedNumber.f v).bind _) = _
      rw [hnv, Option.bind_some, if_pos (by rfl)]
    · cases hn : NeedN.num v.data.toList with
      | none => rw [spec_NeedMatch.j2, numF_none hn, if_pos (by rfl)]; unfold cmpB; simp only [hn]
      | some x =>
        rw [numF_some hn, spec_NeedMatch.j2, if_neg (by simp), if_pos (by simp), hr0, hn0, Option.bind_some]
        by_cases hg : op.toList = [103, 116]
        · rw [if_pos hg]; unfold cmpB; simp only [hn, hy, if_pos hg]
        · rw [if_neg hg]; unfold cmpB; simp only [hn, hy, if_neg hg]
theorem spec_any (hL : L.length ≤ 4294967296) (hLs : ∀ v, findP L key = some v → v.size ≤ 4294967296) (hok : NeedOk op vals) : Ev (fun k => spec_NeedMatch.f k key op vals L) (matchB op.data.toList vals (findP L key)) := by
  have hF := find_f L key hL
  unfold spec_NeedMatch.f
  refine Ev.bind hF ?_
  have ht := toL op
  rcases hok with ⟨h | h, hv⟩ | ⟨h | h | h, hv⟩ | ⟨h | h, hv⟩ | ⟨h | h, x0, y, hv, hp, hz⟩
  · rw [h] at ht ⊢
    exact Evs.yes ht (j0_yes key op vals hl _ _ (by rw [ht]; rfl))
  · rw [h] at ht ⊢
    refine Evs.no (by rw [ht]; decide) (Evs.no (by rw [ht]; decide) ?_)
    exact Ev.step (fun k => by rw [spec_NeedMatch.j0, if_neg (by rw [ht]; decide), if_pos ht]) (j1_yes key op vals hl _ _ (by rw [ht]; rfl))
  · rw [h] at ht ⊢
    exact Evs.no (by rw [ht]; decide) (Evs.yes ht (j0_yes key op vals hl _ _ (by rw [ht]; rfl)))
  · rw [h] at ht ⊢
    exact Evs.no (by rw [ht]; decide) (Evs.no (by rw [ht]; decide) (j0_yes key op vals hl _ _ (by rw [ht]; rfl)))
  · rw [h] at ht ⊢
    exact Evs.no (by rw [ht]; decide) (Evs.no (by rw [ht]; decide) (to_j1 key op vals _ _ _ (by rw [ht]; rfl) (by rw [ht]; decide) (j1_yes key op vals hl _ _ (by rw [ht]; rfl))))
  · rw [h] at ht ⊢
    exact Evs.no (by rw [ht]; decide) (Evs.no (by rw [ht]; decide) (to_j1 key op vals _ _ _ (by rw [ht]; rfl) (by rw [ht]; decide) (Evs.at1 fun k => by rw [spec_NeedMatch.j1, if_neg (by rw [ht]; decide), if_pos ht]; rfl)))
  · rw [h] at ht ⊢
    exact Evs.no (by rw [ht]; decide) (Evs.no (by rw [ht]; decide) (to_j1 key op vals _ _ _ (by rw [ht]; rfl) (by rw [ht]; decide) (Evs.at1 fun k => by rw [spec_NeedMatch.j1, if_neg (by rw [ht]; decide), if_neg (by rw [ht]; decide), if_pos ht]; rfl)))
  · subst hv
    have hy : NeedN.num x0.data.toList = some y := by rw [← NeedN.num_parse, hp]; rfl
    rw [h] at ht ⊢
    refine Evs.no (by rw [ht]; decide) (Evs.no (by rw [ht]; decide) (to_j1 key op [x0] _ _ _ (by rw [ht]; rfl) (by rw [ht]; decide) ?_))
    have e := j1_num key op ((findP L key).getD ⟨#[]⟩) (by cases hf : findP L key with | none => decide | some v => exact hLs v hf) x0 y hz hy (by rw [ht]; rfl) (by rw [ht]; decide) (by rw [ht]; decide) (findP L key) (by cases findP L key with | none => exact Or.inl rfl | some v => exact Or.inr rfl)
    rw [ht] at e
    rw [ht]
    exact e
  · subst hv
    have hy : NeedN.num x0.data.toList = some y := by rw [← NeedN.num_parse, hp]; rfl
    rw [h] at ht ⊢
    refine Evs.no (by rw [ht]; decide) (Evs.no (by rw [ht]; decide) (to_j1 key op [x0] _ _ _ (by rw [ht]; rfl) (by rw [ht]; decide) ?_))
    have e := j1_num key op ((findP L key).getD ⟨#[]⟩) (by cases hf : findP L key with | none => decide | some v => exact hLs v hf) x0 y hz hy (by rw [ht]; rfl) (by rw [ht]; decide) (by rw [ht]; decide) (findP L key) (by cases findP L key with | none => exact Or.inl rfl | some v => exact Or.inr rfl)
    rw [ht] at e
    rw [ht]
    exact e
end
end Go.Proofs.YtlhbmifffmegeaaDoor.NeedM
