/- Two requirements are equal just if they have the same key, operator and values: of all requirements (of those that the statement's bounds and rules let by). -/
import Derived.Test.YtlhbmifffmegeaaDoorPFnNeedEqualx7
import Derived.Test.YtlhbmifffmegeaaDoorTxt
import Derived.Test.YtlhbmifffmegeaaDoorSmall
import Derived.Test.YtlhbmifffmegeaaDoorEvs
set_option linter.unusedVariables false
set_option linter.unusedSimpArgs false
namespace Go.Proofs.YtlhbmifffmegeaaDoor.Pure
open Go Go.RowKit Go.Proofs.YtlhbmifffmegeaaDoor.PFnNeedEqual Go.Proofs.YtlhbmifffmegeaaDoorW.PrintWords Go.Proofs.YtlhbmifffmegeaaDoorW.PrintLast Go.Proofs.YtlhbmifffmegeaaDoor.Txt Go.Proofs.YtlhbmifffmegeaaDoor

theorem byte_lt_irrefl : ∀ l : List UInt8, Op.bytesLess l l = false
  | [] => rfl
  | a :: x => by
    simp only [Op.bytesLess, beq_self_eq_true, Bool.true_and, byte_lt_irrefl x, Bool.or_false, decide_eq_false_iff_not]
    exact UInt8.lt_irrefl a
theorem byte_lt_trans : ∀ a b c : List UInt8, Op.bytesLess a b = true → Op.bytesLess b c = true → Op.bytesLess a c = true
  | _, [], _, h, _ => by cases ‹List UInt8› <;> simp [Op.bytesLess] at h
  | _, _ :: _, [], _, h => by simp [Op.bytesLess] at h
  | [], _ :: _, _ :: _, _, _ => rfl
  | a :: x, b :: y, c :: z, h, g => by
    simp only [Op.bytesLess, Bool.or_eq_true, decide_eq_true_eq, Bool.and_eq_true, beq_iff_eq] at h g ⊢
    rcases h with h | ⟨rfl, h⟩
    · rcases g with g | ⟨rfl, g⟩
      · exact Or.inl (UInt8.lt_trans h g)
      · exact Or.inl h
    · rcases g with g | ⟨rfl, g⟩
      · exact Or.inl g
      · exact Or.inr ⟨rfl, byte_lt_trans x y z h g⟩
theorem byte_lt_total : ∀ a b : List UInt8, Op.bytesLess a b = false → Op.bytesLess b a = false → a = b
  | [], [], _, _ => rfl
  | [], _ :: _, h, _ => by simp [Op.bytesLess] at h
  | _ :: _, [], _, h => by simp [Op.bytesLess] at h
  | a :: x, b :: y, h, g => by
    simp only [Op.bytesLess, Bool.or_eq_false_iff, decide_eq_false_iff_not, Bool.and_eq_false_iff, beq_eq_false_iff_ne] at h g
    have e : a = b := by
      apply UInt8.toNat_inj.1
      have h1 := h.1
      have g1 := g.1
      rw [UInt8.lt_iff_toNat_lt] at h1 g1
      omega
    subst e
    rw [byte_lt_total x y (h.2.resolve_left (fun n => n rfl)) (g.2.resolve_left (fun n => n rfl))]
/-- The order of texts. -/
def lt (a b : ByteArray) : Prop := Op.bytesLess a.toList b.toList = true
theorem lt_irrefl (a : ByteArray) : ¬ lt a a := by unfold lt; rw [byte_lt_irrefl]; simp
theorem lt_trans {a b c : ByteArray} (h : lt a b) (g : lt b c) : lt a c := byte_lt_trans _ _ _ h g
theorem lt_total {a b : ByteArray} (h : a ≠ b) : lt a b ∨ lt b a := by
  unfold lt
  by_cases h1 : Op.bytesLess a.toList b.toList = true
  · exact Or.inl h1
  · by_cases h2 : Op.bytesLess b.toList a.toList = true
    · exact Or.inr h2
    · exact absurd (ext (by rw [← toL, ← toL]; exact byte_lt_total _ _ (by simpa using h1) (by simpa using h2))) h
theorem str_eq {a b : ByteArray} : a.toList = b.toList ↔ a = b := ⟨fun h => ext (by rw [← toL, ← toL]; exact h), fun h => by rw [h]⟩
theorem key_uniq : ∀ (S T : List ByteArray), S.Pairwise lt → T.Pairwise lt → (∀ x, x ∈ S ↔ x ∈ T) → S = T
  | [], [], _, _, _ => rfl
  | [], b :: T, _, _, h => absurd ((h b).2 List.mem_cons_self) (by simp)
  | a :: S, [], _, _, h => absurd ((h a).1 List.mem_cons_self) (by simp)
  | a :: S, b :: T, hs, ht, h => by
    rw [List.pairwise_cons] at hs ht
    have e : a = b := by
      rcases List.mem_cons.1 ((h a).1 List.mem_cons_self) with e | ha
      · exact e
      · rcases List.mem_cons.1 ((h b).2 List.mem_cons_self) with e | hb
        · exact e.symm
        · exact absurd (lt_trans (hs.1 b hb) (ht.1 a ha)) (lt_irrefl a)
    subst e
    have := key_uniq S T hs.2 ht.2 (fun x => by
      constructor
      · intro hx
        rcases List.mem_cons.1 ((h x).1 (List.mem_cons_of_mem _ hx)) with e | h1
        · subst e; exact absurd (hs.1 x hx) (lt_irrefl x)
        · exact h1
      · intro hx
        rcases List.mem_cons.1 ((h x).2 (List.mem_cons_of_mem _ hx)) with e | h1
        · subst e; exact absurd (ht.1 x hx) (lt_irrefl x)
        · exact h1)
    rw [this]
theorem rdS {l : List ByteArray} {i : Nat} (h : i < l.length) : rdOf ByteArray.empty l (i : Int) = l[i] := by simp [rdOf, List.getD_eq_getElem?_getD, List.getElem?_eq_getElem h]

/-- Whether a text is one of a row. -/
def inB (a : ByteArray) (l : List ByteArray) : Bool := l.any (fun t => t.toList == a.toList)
theorem inB_iff {a : ByteArray} {l : List ByteArray} : inB a l = true ↔ a ∈ l := by
  unfold inB
  rw [List.any_eq_true]
  constructor
  · rintro ⟨t, ht, e⟩; rw [← str_eq.1 (beq_iff_eq.1 e)]; exact ht
  · intro h; exact ⟨a, h, beq_self_eq_true _⟩
theorem keyIn_l0 (l : List ByteArray) (a : ByteArray) (hl : l.length ≤ 4294967296) (n : Nat) : ∀ i : Nat, i + n = l.length → Ev (fun k => spec_keyIn_string.l0 k l a (i : Int)) (inB a (l.drop i)) := by
  induction n with
  | zero =>
    intro i hi
    rw [List.drop_eq_nil_of_le (by omega)]
    refine Evs.at1 fun k => ?_
    simp only [spec_keyIn_string.l0]
    rw [if_neg (by omega)]; rfl
  | succ n ih =>
    intro i hi
    have h : i < l.length := by omega
    rw [List.drop_eq_getElem_cons h]
    by_cases e : l[i] = a
    · refine Evs.at1 fun k => ?_
      simp only [spec_keyIn_string.l0]
      rw [if_pos (by omega), if_pos (by omega), rdS h, if_pos (by rw [e])]; unfold inB; rw [List.any_cons, e, beq_self_eq_true, Bool.true_or]
    · rw [show inB a (l[i] :: l.drop (i + 1)) = inB a (l.drop (i + 1)) by unfold inB; rw [List.any_cons, beq_eq_false_iff_ne.2 (fun h => e (str_eq.1 h)), Bool.false_or]]
      refine Ev.step (fun k => ?_) (ih (i + 1) (by omega))
      simp only [spec_keyIn_string.l0]
      rw [if_pos (by omega), if_pos (by omega), rdS h, if_neg (fun h => e (str_eq.1 h)), Small.w64s i (by omega)]
theorem keyIn_f (l : List ByteArray) (a : ByteArray) (hl : l.length ≤ 4294967296) : Ev (fun k => spec_keyIn_string.f k l a) (inB a l) := keyIn_l0 l a hl l.length 0 (by omega)
/-- The place at which a text goes in. -/
def place (x : ByteArray) (S : List ByteArray) : Nat := S.findIdx (fun y => !Op.bytesLess y.toList x.toList)
def putS (x : ByteArray) (S : List ByteArray) : List ByteArray := (S.take (place x S) ++ [x]) ++ S.drop (place x S)
theorem place_le (x : ByteArray) (S : List ByteArray) : place x S ≤ S.length := List.findIdx_le_length
theorem place_lt {x : ByteArray} {S : List ByteArray} {j : Nat} (h : j < place x S) : lt (S[j]'(Nat.lt_of_lt_of_le h (place_le x S))) x := by
  have := List.not_of_lt_findIdx h
  simpa [lt] using this
theorem place_at {x : ByteArray} {S : List ByteArray} (h : place x S < S.length) : ¬ lt (S[place x S]) x := by
  have := List.findIdx_getElem (w := h)
  unfold lt
  intro g
  rw [Bool.not_eq_true'] at this
  exact absurd g (by rw [show S[place x S] = S[List.findIdx (fun y => !Op.bytesLess y.toList x.toList) S] from rfl, this]; simp)
theorem put_mem (x : ByteArray) (S : List ByteArray) (y : ByteArray) : y ∈ putS x S ↔ y ∈ S ∨ y = x := by
  have e : y ∈ S ↔ y ∈ S.take (place x S) ∨ y ∈ S.drop (place x S) := by rw [← List.mem_append, List.take_append_drop]
  unfold putS
  rw [List.mem_append, List.mem_append, List.mem_singleton, e]
  constructor
  · rintro ((h | h) | h)
    · exact Or.inl (Or.inl h)
    · exact Or.inr h
    · exact Or.inl (Or.inr h)
  · rintro ((h | h) | h)
    · exact Or.inl (Or.inl h)
    · exact Or.inr h
    · exact Or.inl (Or.inr h)
theorem put_len (x : ByteArray) (S : List ByteArray) : (putS x S).length = S.length + 1 := by
  have := place_le x S
  unfold putS; simp; omega
theorem put_pw {x : ByteArray} {S : List ByteArray} (hs : S.Pairwise lt) (hx : x ∉ S) : (putS x S).Pairwise lt := by
  have hs' : (S.take (place x S) ++ S.drop (place x S)).Pairwise lt := by rw [List.take_append_drop]; exact hs
  rw [List.pairwise_append] at hs'
  obtain ⟨s1, s2, s3⟩ := hs'
  have t1 : ∀ y ∈ S.take (place x S), lt y x := fun y hy => by
    obtain ⟨j, hj, rfl⟩ := List.getElem_of_mem hy
    rw [List.length_take] at hj
    rw [List.getElem_take]
    exact place_lt (by omega)
  have t2 : ∀ y ∈ S.drop (place x S), lt x y := fun y hy => by
    have hne : y ≠ x := fun e => hx (by rw [← e]; exact List.mem_of_mem_drop hy)
    obtain ⟨j, hj, rfl⟩ := List.getElem_of_mem hy
    rw [List.length_drop] at hj
    have hlt : place x S < S.length := by omega
    have h0 := place_at hlt
    rw [List.getElem_drop] at hne ⊢
    by_cases e : j = 0
    · subst e
      simp only [Nat.add_zero] at hne ⊢
      exact (lt_total hne).resolve_left h0
    · have h1 := List.pairwise_iff_getElem.1 hs (place x S) (place x S + j) hlt (by omega) (by omega)
      by_cases h2 : S[place x S] = x
      · rw [h2] at h1; exact h1
      · exact lt_trans ((lt_total h2).resolve_left h0) h1
  unfold putS
  rw [List.append_assoc, List.pairwise_append]
  refine ⟨s1, List.pairwise_cons.2 ⟨t2, s2⟩, fun a ha b hb => ?_⟩
  rcases List.mem_cons.1 hb with rfl | hb
  · exact t1 a ha
  · exact s3 a ha b hb

theorem keys_l1 (l : List ByteArray) (hl : l.length ≤ 4294967296) (i : Nat) (hi : i < l.length) (S : List ByteArray) (hS : S.length ≤ i) (r : List ByteArray) (go : Ev (fun k => spec_Keys_string.l0 k l (putS l[i] S) ((i + 1 : Nat) : Int)) r) (n : Nat) :
    ∀ j : Nat, j + n = place l[i] S → Ev (fun k => spec_Keys_string.l1 k l S (i : Int) (j : Int)) r := by
  have hp := place_le l[i] S
  induction n with
  | zero =>
    intro j hj
    have hj' : j = place l[i] S := by omega
    subst hj'
    have e : (S.take (place l[i] S) ++ [l[i]]) ++ S.drop (place l[i] S) = putS l[i] S := rfl
    refine Ev.step (fun k => ?_) go
    by_cases c0 : place l[i] S < S.length
    · have hb : ¬ Op.bytesLess (S[place l[i] S]).toList (l[i]).toList = true := place_at c0
      rw [spec_Keys_string.l1, if_pos (by omega), if_pos (by omega), if_pos (by omega), if_pos (by omega), rdS hi, rdS c0, if_neg hb]
      simp only [Option.bind_some, List.nil_append, List.length_nil]
      rw [if_pos (by omega), Int.toNat_natCast, if_pos (by rw [List.length_take]; omega), if_pos (by rw [List.length_take]; omega), if_pos (by simp; omega), e, Small.w64s i (by omega)]
    · rw [spec_Keys_string.l1, if_neg (by omega)]
      simp only [Option.bind_some, List.nil_append, List.length_nil]
      rw [if_pos (by omega), if_pos (by omega), Int.toNat_natCast, if_pos (by rw [List.length_take]; omega), if_pos (by omega), if_pos (by omega), if_pos (by rw [List.length_take]; omega), rdS hi, if_pos (by simp; omega), e, Small.w64s i (by omega)]
  | succ n ih =>
    intro j hj
    have hjl : j < S.length := by omega
    have hb : Op.bytesLess (S[j]).toList (l[i]).toList = true := place_lt (x := l[i]) (S := S) (j := j) (by omega)
    refine Ev.step (fun k => ?_) (ih (j + 1) (by omega))
    rw [spec_Keys_string.l1, if_pos (by omega), if_pos (by omega), if_pos (by omega), if_pos (by omega), rdS hi, rdS hjl, if_pos hb, Small.w64s j (by omega)]
/-- Sorted, each once, the members of a row. -/
def Keyed (S l : List ByteArray) : Prop := S.Pairwise lt ∧ (∀ x, x ∈ S ↔ x ∈ l) ∧ S.length ≤ l.length
theorem keys_l0 (l : List ByteArray) (hl : l.length ≤ 4294967296) (n : Nat) : ∀ (i : Nat) (S : List ByteArray), i + n = l.length → S.length ≤ i → S.Pairwise lt → (∀ x, x ∈ S ↔ x ∈ l.take i) → ∃ R, Ev (fun k => spec_Keys_string.l0 k l S (i : Int)) R ∧ Keyed R l := by
  induction n with
  | zero =>
    intro i S hi hS hp hm
    rw [List.take_of_length_le (by omega)] at hm
    refine ⟨S, Evs.at1 fun k => ?_, hp, hm, by omega⟩
    rw [spec_Keys_string.l0, if_neg (by omega)]
  | succ n ih =>
    intro i S hi hS hp hm
    have h : i < l.length := by omega
    have ht : l.take (i + 1) = l.take i ++ [l[i]] := List.take_succ_eq_append_getElem h
    have hk := keyIn_f S l[i] (by omega)
    by_cases c : l[i] ∈ S
    · rw [inB_iff.2 c] at hk
      obtain ⟨R, hR, hK⟩ := ih (i + 1) S (by omega) (by omega) hp (fun x => by
        rw [ht, List.mem_append, List.mem_singleton, ← hm]
        exact ⟨Or.inl, fun h => h.elim id (fun h => by rw [h]; exact c)⟩)
      refine ⟨R, Ev.step (f := fun k => (spec_keyIn_string.f k S l[i]).bind fun t225 => (if t225 = true then (spec_Keys_string.l0 k l S ((i + 1 : Nat) : Int)) else (spec_Keys_string.l1 k l S (i : Int) 0))) (fun k => ?_) (Ev.bind hk (Evs.yes rfl hR)), hK⟩
      rw [spec_Keys_string.l0, if_pos (by omega), if_pos (by omega), rdS h, Small.w64s i (by omega)]
    · rw [show inB l[i] S = false from Bool.eq_false_iff.2 (fun h => c (inB_iff.1 h))] at hk
      obtain ⟨R, hR, hK⟩ := ih (i + 1) (putS l[i] S) (by omega) (by rw [put_len]; omega) (put_pw hp c) (fun x => by
        rw [ht, List.mem_append, List.mem_singleton, ← hm, put_mem])
      have go := keys_l1 l hl i h S hS R hR (place l[i] S) 0 (by omega)
      refine ⟨R, Ev.step (f := fun k => (spec_keyIn_string.f k S l[i]).bind fun t225 => (if t225 = true then (spec_Keys_string.l0 k l S ((i + 1 : Nat) : Int)) else (spec_Keys_string.l1 k l S (i : Int) 0))) (fun k => ?_) (Ev.bind hk (Evs.no (by simp) go)), hK⟩
      rw [spec_Keys_string.l0, if_pos (by omega), if_pos (by omega), rdS h, Small.w64s i (by omega)]
theorem keys_f (l : List ByteArray) (hl : l.length ≤ 4294967296) : ∃ R, Ev (fun k => spec_Keys_string.f k l) R ∧ Keyed R l :=
  keys_l0 l hl l.length 0 [] (by omega) (by simp) List.Pairwise.nil (by simp)
theorem Keyed.same {S T l : List ByteArray} (h : Keyed S l) (g : Keyed T S) : T = S :=
  key_uniq T S g.1 h.1 g.2.1
theorem same_l0 (l m : List ByteArray) (hl : l.length ≤ 4294967296) (he : l.length = m.length) (n : Nat) : ∀ i : Nat, i + n = l.length → Ev (fun k => spec_KeysSame_string.l0 k l m (i : Int)) (decide (l.drop i = m.drop i)) := by
  induction n with
  | zero =>
    intro i hi
    rw [List.drop_eq_nil_of_le (by omega), List.drop_eq_nil_of_le (by omega)]
    refine Evs.at1 fun k => ?_
    simp only [spec_KeysSame_string.l0]
    rw [if_neg (by omega)]; simp
  | succ n ih =>
    intro i hi
    have h : i < l.length := by omega
    have h' : i < m.length := by omega
    rw [List.drop_eq_getElem_cons h, List.drop_eq_getElem_cons h']
    by_cases e : l[i] = m[i]
    · rw [show decide (l[i] :: l.drop (i + 1) = m[i] :: m.drop (i + 1)) = decide (l.drop (i + 1) = m.drop (i + 1)) from decide_eq_decide.2 (by rw [e, List.cons.injEq]; exact ⟨fun h => h.2, fun h => ⟨rfl, h⟩⟩)]
      refine Ev.step (fun k => ?_) (ih (i + 1) (by omega))
      simp only [spec_KeysSame_string.l0]
      rw [if_pos (by omega), if_pos (by omega), if_pos (by omega), rdS h, rdS h', if_pos (by rw [e]), Small.w64s i (by omega)]
    · refine Evs.at1 fun k => ?_
      simp only [spec_KeysSame_string.l0]
      rw [if_pos (by omega), if_pos (by omega), if_pos (by omega), rdS h, rdS h', if_neg (fun h => e (str_eq.1 h)), decide_eq_false (by rw [List.cons.injEq]; exact fun h => e h.1)]
theorem same_f (l m : List ByteArray) (hl : l.length ≤ 4294967296) : Ev (fun k => spec_KeysSame_string.f k l m) (decide (l = m)) := by
  unfold spec_KeysSame_string.f
  by_cases e : l.length = m.length
  · exact Evs.yes (by omega) (same_l0 l m hl e l.length 0 (by omega))
  · exact Evs.no (by omega) ⟨0, fun k _ => by rw [decide_eq_false (fun h => e (by rw [h]))]⟩
theorem fits4_f (l : List ByteArray) : ∃ b, Ev (fun k => laws_zzFits4.f k l) b ∧ (b = true → l.length ≤ 2147483647 ∧ ∀ x ∈ l, x.size ≤ 2147483647) := by
  unfold laws_zzFits4.f
  by_cases h0 : l.length ≤ 2147483647
  rotate_left
  · exact ⟨false, Evs.yes (by omega) ⟨0, fun _ _ => rfl⟩, by simp⟩
  have step : ∀ n i, i + n = l.length → (∀ x ∈ l.take i, x.size ≤ 2147483647) → ∃ b, Ev (fun k => laws_zzFits4.l0 k l (l.length : Int) (i : Int)) b ∧ (b = true → ∀ x ∈ l, x.size ≤ 2147483647) := by
    intro n
    induction n with
    | zero =>
      intro i hi ht
      rw [List.take_of_length_le (by omega)] at ht
      exact ⟨true, Evs.at1 fun k => by rw [laws_zzFits4.l0, if_neg (by omega)], fun _ => ht⟩
    | succ n ih =>
      intro i hi ht
      have h : i < l.length := by omega
      by_cases hs : l[i].size ≤ 2147483647
      · obtain ⟨b, hb, hc⟩ := ih (i + 1) (by omega) (by
          rw [List.take_succ_eq_append_getElem h]
          intro x hx
          rcases List.mem_append.1 hx with hx | hx
          · exact ht x hx
          · rw [List.mem_singleton.1 hx]; exact hs)
        refine ⟨b, Ev.step (fun k => ?_) hb, hc⟩
        rw [laws_zzFits4.l0, if_pos (by omega), if_pos (by omega), if_pos (by omega), rdS h, if_neg (by omega), Small.w64s i (by omega)]
      · refine ⟨false, Evs.at1 fun k => ?_, by simp⟩
        rw [laws_zzFits4.l0, if_pos (by omega), if_pos (by omega), if_pos (by omega), rdS h, if_pos (by omega)]
  obtain ⟨b, hb, hc⟩ := step l.length 0 (by omega) (by simp)
  exact ⟨b, Evs.no (by omega) hb, fun h => ⟨h0, hc h⟩⟩
theorem fits10_f (a b : ByteArray) (l : List ByteArray) : ∃ r, Ev (fun k => laws_zzFits10.f k a b l) r ∧ (r = true → a.size ≤ 2147483647 ∧ b.size ≤ 2147483647 ∧ l.length ≤ 2147483647 ∧ ∀ x ∈ l, x.size ≤ 2147483647) := by
  unfold laws_zzFits10.f
  by_cases ha : a.size ≤ 2147483647
  rotate_left
  · exact ⟨false, Evs.yes (by omega) ⟨0, fun _ _ => rfl⟩, by simp⟩
  by_cases hb : b.size ≤ 2147483647
  rotate_left
  · exact ⟨false, Evs.no (by omega) (Evs.yes (by omega) ⟨0, fun _ _ => rfl⟩), by simp⟩
  obtain ⟨r, hr, hc⟩ := fits4_f l
  refine ⟨r, Evs.no (by omega) (Evs.no (by omega) (Ev.bind hr ?_)), fun h => ⟨ha, hb, hc h⟩⟩
  cases r
  · exact ⟨0, fun _ _ => rfl⟩
  · exact ⟨0, fun _ _ => rfl⟩
theorem spS_any (s : ByteArray) (c : Int) (hs : s.size ≤ 2147483647) (n : Nat) : ∀ (ts : List ByteArray) (p : Nat), p + n = s.size → 0 < ts.length → ts.length ≤ p + 1 → (∀ x ∈ ts, x.size ≤ p) →
    ∃ r, Ev (fun k => spS s c k ts p) r ∧ 0 < r.length ∧ r.length ≤ s.size + 1 ∧ ∀ x ∈ r, x.size ≤ s.size := by
  induction n with
  | zero =>
    intro ts p hp h0 h1 h2
    refine ⟨ts, Evs.at1 fun k => ?_, h0, by omega, fun x hx => by have := h2 x hx; omega⟩
    rw [spS, if_neg (by omega)]
  | succ n ih =>
    intro ts p hp h0 h1 h2
    by_cases hc : bt s p = c
    · obtain ⟨r, hr, g⟩ := ih (ts ++ [(⟨#[]⟩ : ByteArray)]) (p + 1) (by omega) (by simp) (by simp; omega) (fun x hx => by
        rcases List.mem_append.1 hx with hx | hx
        · have := h2 x hx; omega
        · rw [List.mem_singleton.1 hx]; show 0 ≤ p + 1; omega)
      refine ⟨r, Ev.step (fun k => ?_) hr, g⟩
      rw [spS, if_pos (by omega), if_pos hc, if_pos (by omega)]
    · have hl : ts.length - 1 < ts.length := by omega
      have hx := h2 _ (List.getElem_mem hl)
      obtain ⟨r, hr, g⟩ := ih (ts.set (ts.length - 1) (rdOf ByteArray.empty ts ((ts.length - 1 : Nat) : Int) ++ s.extract p (p + 1))) (p + 1) (by omega) (by rw [List.length_set]; exact h0) (by rw [List.length_set]; omega) (fun x hx' => by
        rcases List.mem_or_eq_of_mem_set hx' with hx' | hx'
        · have := h2 x hx'; omega
        · rw [hx', rdS hl, ByteArray.size_append, ByteArray.size_extract]; omega)
      refine ⟨r, Ev.step (fun k => ?_) hr, g⟩
      rw [spS, if_pos (by omega), if_neg hc, if_pos ⟨h0, by rw [rdS hl]; omega, by omega⟩]
theorem split_any (s : ByteArray) (c : Int) (hs : s.size ≤ 2147483647) : ∃ r, Ev (fun k => spec_Split.f k s c) r ∧ 0 < r.length ∧ r.length ≤ s.size + 1 ∧ ∀ x ∈ r, x.size ≤ s.size := by
  obtain ⟨r, hr, g⟩ := spS_any s c hs s.size [(⟨#[]⟩ : ByteArray)] 0 (by omega) (by simp) (by simp) (fun x hx => by rw [List.mem_singleton.1 hx]; exact Nat.le_refl _)
  exact ⟨r, by unfold spec_Split.f; exact Evs.yes (by omega) hr, g⟩
theorem domain_any (s : ByteArray) (hs : s.size ≤ 2147483647) : ∃ b, Ev (fun k => spec_NameDomain.f k s) b := by
  obtain ⟨r, hr, h0, h1, h2⟩ := split_any s 46 hs
  exact ⟨_, Ev.bind hr (Evs.yes ⟨by omega, fun x hx => by have := h2 x hx; omega⟩ ⟨0, fun _ _ => rfl⟩)⟩
theorem nk_last (r : List ByteArray) (h0 : 0 < r.length) (h1 : r.length ≤ 4294967296) (h2 : ∀ x ∈ r, x.size ≤ 2147483647) : ∃ b, (if 0 ≤ (wrap64 ((r.length : Int) - 1)) then (if (wrap64 ((r.length : Int) - 1)) < (r.length : Int) then (if (rdOf ByteArray.empty r (wrap64 ((r.length : Int) - 1))).toList = ([] : List UInt8) then (some false) else ((spec_NameValue.f (rdOf ByteArray.empty r (wrap64 ((r.length : Int) - 1)))).bind fun t120 => (some t120))) else (none)) else (none)) = some b := by
  have e : wrap64 ((r.length : Int) - 1) = ((r.length - 1 : Nat) : Int) := by rw [Small.w64 _ (by omega) (by omega)]; omega
  have hl : r.length - 1 < r.length := by omega
  rw [e, if_pos (by omega), if_pos (by omega), rdS hl]
  have hz := h2 _ (List.getElem_mem hl)
  by_cases c : (r[r.length - 1]).toList = []
  · exact ⟨false, by rw [if_pos c]⟩
  · exact ⟨nameValueB (r[r.length - 1]).data.toList, by rw [if_neg c]; unfold spec_NameValue.f; rw [if_pos (by omega)]; rfl⟩
theorem key_any (s : ByteArray) (hs : s.size ≤ 2147483647) : ∃ b, Ev (fun k => spec_NameKey.f k s) b := by
  obtain ⟨r, hr, h0, h1, h2⟩ := split_any s 47 hs
  obtain ⟨bl, hl⟩ := nk_last r h0 (by omega) (fun x hx => by have := h2 x hx; omega)
  unfold spec_NameKey.f
  by_cases c2 : r.length = 2
  · obtain ⟨d, hd⟩ := domain_any r[0] (by have := h2 _ (List.getElem_mem h0); omega)
    cases d
    · exact ⟨false, Ev.bind hr (Evs.yes (by omega) (Evs.yes (by omega) (Ev.bind (by have e := rdS h0; simp only [Int.natCast_zero] at e; rw [e]; exact hd) (Evs.no (by simp) ⟨0, fun _ _ => rfl⟩))))⟩
    · exact ⟨bl, Ev.bind hr (Evs.yes (by omega) (Evs.yes (by omega) (Ev.bind (by have e := rdS h0; simp only [Int.natCast_zero] at e; rw [e]; exact hd) (Evs.yes rfl (Evs.no (by omega) ⟨0, fun _ _ => hl⟩)))))⟩
  · by_cases c3 : r.length > 2
    · exact ⟨false, Ev.bind hr (Evs.no (by omega) (Evs.yes (by omega) ⟨0, fun _ _ => rfl⟩))⟩
    · exact ⟨bl, Ev.bind hr (Evs.no (by omega) (Evs.no (by omega) ⟨0, fun _ _ => hl⟩))⟩
theorem numF_snd (l : List UInt8) : (numF l).2 = (NeedN.num l).isSome := by
  unfold numF NeedN.num
  by_cases h0 : NeedN.body l = []
  · rw [if_pos h0, if_pos h0]; rfl
  rw [if_neg h0, if_neg h0]
  by_cases hd : (NeedN.body l).all NeedN.isDig = true
  rotate_left
  · rw [if_neg hd, if_neg hd]; rfl
  rw [if_pos hd, if_pos hd]
  cases hm : NeedN.magF (NeedN.body l) 0 with
  | none => rfl
  | some m =>
    simp only
    by_cases hi : NeedN.minus l = true
    · rw [if_pos hi, if_pos hi]; rfl
    · rw [if_neg hi, if_neg hi]
      by_cases h : m < 9223372036854775808
      · rw [if_pos h, decide_eq_true h]; rfl
      · rw [if_neg h, decide_eq_false h]; rfl
/-- An operator that may be. -/
def isOp (o : List UInt8) : Prop := o = [105, 110] ∨ o = [110, 111, 116, 105, 110] ∨ o = [61] ∨ o = [61, 61] ∨ o = [33, 61] ∨ o = [101, 120, 105, 115, 116, 115] ∨ o = [33] ∨ o = [103, 116] ∨ o = [108, 116]
theorem op_any (a : ByteArray) : ∃ b, Ev (fun k => spec_NeedOp.f k a) b ∧ (b = true → isOp a.toList) := by
  have h := keyIn_f (([(⟨#[105, 110]⟩ : ByteArray), (⟨#[110, 111, 116, 105, 110]⟩ : ByteArray), (⟨#[61]⟩ : ByteArray), (⟨#[61, 61]⟩ : ByteArray), (⟨#[33, 61]⟩ : ByteArray), (⟨#[101, 120, 105, 115, 116, 115]⟩ : ByteArray), (⟨#[33]⟩ : ByteArray), (⟨#[103, 116]⟩ : ByteArray), (⟨#[108, 116]⟩ : ByteArray)] : List ByteArray)) a (by simp)
  refine ⟨_, Ev.bind h ⟨0, fun _ _ => rfl⟩, fun hb => ?_⟩
  have := inB_iff.1 hb
  simp only [List.mem_cons, List.not_mem_nil, or_false] at this
  rcases this with e | e | e | e | e | e | e | e | e <;> (subst e; rw [toL]; unfold isOp; simp)
theorem count_any (a b : ByteArray) (l : List ByteArray) (hl : l.length ≤ 2147483647) (hs : ∀ x ∈ l, x.size ≤ 2147483647) (ho : isOp b.toList) : ∃ r, Ev (fun k => spec_NeedCount.f k a b l) r ∧ (r = true → needOkB b l = true) := by
  unfold spec_NeedCount.f needOkB
  rw [← toL b]
  generalize hob : b.toList = o at ho
  by_cases h1 : o = [105, 110]
  · refine ⟨decide ((l.length : Int) > 0), Evs.yes h1 (Evs.at1 fun k => ?_), fun h => ?_⟩
    · rw [spec_NeedCount.j0, if_pos (by rw [h1]; rfl)]
    · rw [if_pos (Or.inl h1)]; rw [decide_eq_true_eq] at h ⊢; omega
  by_cases h2 : o = [110, 111, 116, 105, 110]
  · refine ⟨decide ((l.length : Int) > 0), Evs.no h1 (Evs.at1 fun k => ?_), fun h => ?_⟩
    · rw [spec_NeedCount.j0, if_pos (by rw [h2]; rfl)]
    · rw [if_pos (Or.inr h2)]; rw [decide_eq_true_eq] at h ⊢; omega
  have f2 : ¬ ((o == [110, 111, 116, 105, 110]) = true) := by rw [beq_iff_eq]; exact h2
  by_cases h3 : o = [101, 120, 105, 115, 116, 115]
  · refine ⟨((l.length : Int) == 0), Evs.no h1 (Ev.step (f := fun k => spec_NeedCount.j1 k true a b l) (fun k => ?_) (Evs.at1 fun k => ?_)), fun h => ?_⟩
    · rw [spec_NeedCount.j0, if_neg f2, hob, if_pos h3, h3]; rfl
    · rw [spec_NeedCount.j1, if_pos (by rfl)]
    · rw [if_neg (by rintro (h | h); exact h1 h; exact h2 h), if_neg (by subst h3; decide), if_pos (Or.inl h3)]
      rw [beq_iff_eq] at h; rw [decide_eq_true_eq]; omega
  by_cases h4 : o = [33]
  · refine ⟨((l.length : Int) == 0), Evs.no h1 (Ev.step (f := fun k => spec_NeedCount.j1 k true a b l) (fun k => ?_) (Evs.at1 fun k => ?_)), fun h => ?_⟩
    · rw [spec_NeedCount.j0, if_neg f2, hob, if_neg h3, h4]; rfl
    · rw [spec_NeedCount.j1, if_pos (by rfl)]
    · rw [if_neg (by rintro (h | h); exact h1 h; exact h2 h), if_neg (by subst h4; decide), if_pos (Or.inr h4)]
      rw [beq_iff_eq] at h; rw [decide_eq_true_eq]; omega
  have f4 : ((o == [33]) : Bool) = false := beq_eq_false_iff_ne.2 h4
  have start : ∀ r, Ev (fun k => spec_NeedCount.j1 k false a b l) r → Ev (fun k => if o = ([105, 110] : List UInt8) then (spec_NeedCount.j0 k b (o == ([105, 110] : List UInt8)) a b l) else (spec_NeedCount.j0 k b (o == ([110, 111, 116, 105, 110] : List UInt8)) a b l)) r := fun r h =>
    Evs.no h1 (Ev.step (fun k => by rw [spec_NeedCount.j0, if_neg f2, hob, if_neg h3, f4]) h)
  by_cases hn : l.length = 1
  rotate_left
  · refine ⟨false, start _ (Evs.at1 fun k => ?_), by simp⟩
    rw [spec_NeedCount.j1, if_neg (by simp), if_neg (by omega)]
  obtain ⟨v, rfl⟩ := List.length_eq_one_iff.1 hn
  have hv := hs v (by simp)
  have hr0 : rdOf ByteArray.empty [v] 0 = v := rfl
  have hnum : spec_NeedNumber.f v = some (numF v.data.toList) := by unfold spec_NeedNumber.f; rw [if_pos (by omega)]
  cases hi : (numF v.data.toList).2
  · by_cases h5 : o = [103, 116]
    · refine ⟨false, start _ (Evs.at1 fun k => ?_), by simp⟩
      rw [spec_NeedCount.j1, if_neg (by simp), if_pos (by omega), if_pos (by simp), hr0, hnum, Option.bind_some, hi, if_neg (by simp), hob, if_pos h5]
    · refine ⟨(o != [108, 116]), start _ (Evs.at1 fun k => ?_), fun h => ?_⟩
      · rw [spec_NeedCount.j1, if_neg (by simp), if_pos (by omega), if_pos (by simp), hr0, hnum, Option.bind_some, hi, if_neg (by simp), hob, if_neg h5]
      · have h6 := bne_iff_ne.1 h
        rw [if_neg (by rintro (h | h); exact h1 h; exact h2 h)]
        rw [if_pos (by unfold isOp at ho; rcases ho with e | e | e | e | e | e | e | e | e; exact absurd e h1; exact absurd e h2; exact Or.inl e; exact Or.inr (Or.inl e); exact Or.inr (Or.inr e); exact absurd e h3; exact absurd e h4; exact absurd e h5; exact absurd e h6)]
        rfl
  · refine ⟨true, start _ (Evs.at1 fun k => ?_), fun _ => ?_⟩
    · rw [spec_NeedCount.j1, if_neg (by simp), if_pos (by omega), if_pos (by simp), hr0, hnum, Option.bind_some, hi, if_pos rfl]
    · rw [numF_snd] at hi
      rw [if_neg (by rintro (h | h); exact h1 h; exact h2 h)]
      by_cases h7 : o = [61] ∨ o = [61, 61] ∨ o = [33, 61]
      · rw [if_pos h7]; rfl
      · rw [if_neg h7, if_neg (by rintro (h | h); exact h3 h; exact h4 h), if_pos (by unfold isOp at ho; rcases ho with e | e | e | e | e | e | e | e | e; exact absurd e h1; exact absurd e h2; exact absurd (Or.inl e) h7; exact absurd (Or.inr (Or.inl e)) h7; exact absurd (Or.inr (Or.inr e)) h7; exact absurd e h3; exact absurd e h4; exact Or.inl e; exact Or.inr e)]
        simp only [hi, Bool.true_and, decide_eq_true_eq]; omega
theorem may_l0 (a b : ByteArray) (l : List ByteArray) (hl : l.length ≤ 2147483647) (hs : ∀ x ∈ l, x.size ≤ 2147483647) (ho : isOp b.toList) (n : Nat) : ∀ i : Nat, i + n = l.length → ∃ r, Ev (fun k => spec_NeedMay.l0 k (i : Int) a b l) r ∧ (r = true → needOkB b l = true) := by
  induction n with
  | zero =>
    intro i hi
    obtain ⟨r, hr, hc⟩ := count_any a b l hl hs ho
    refine ⟨r, Ev.step (f := fun k => (spec_NeedCount.f k a b l).bind fun t132 => (some t132)) (fun k => ?_) (Ev.bind hr ⟨0, fun _ _ => rfl⟩), hc⟩
    rw [spec_NeedMay.l0, if_neg (by omega)]
  | succ n ih =>
    intro i hi
    have h : i < l.length := by omega
    have hv := hs _ (List.getElem_mem h)
    have hnv : spec_NameValue.f l[i] = some (nameValueB l[i].data.toList) := by unfold spec_NameValue.f; rw [if_pos (by omega)]
    obtain ⟨r, hr, hc⟩ := ih (i + 1) (by omega)
    cases hb : nameValueB l[i].data.toList
    · refine ⟨false, Evs.at1 fun k => ?_, by simp⟩
      rw [spec_NeedMay.l0, if_pos (by omega), if_pos (by omega), rdS h, hnv, Option.bind_some, hb, if_neg (by simp)]
    · refine ⟨r, Ev.step (fun k => ?_) hr, hc⟩
      rw [spec_NeedMay.l0, if_pos (by omega), if_pos (by omega), rdS h, hnv, Option.bind_some, hb, if_pos rfl, Small.w64s i (by omega)]
theorem may_any (a b : ByteArray) (l : List ByteArray) (ha : a.size ≤ 2147483647) (hl : l.length ≤ 2147483647) (hs : ∀ x ∈ l, x.size ≤ 2147483647) : ∃ r, Ev (fun k => spec_NeedMay.f k a b l) r ∧ (r = true → needOkB b l = true) := by
  unfold spec_NeedMay.f
  obtain ⟨o, hop, hio⟩ := op_any b
  cases o
  · exact ⟨false, Ev.bind hop (Evs.no (by simp) (Evs.at1 fun k => by rw [spec_NeedMay.j0, if_pos (by rfl)])), by simp⟩
  · obtain ⟨q, hq⟩ := key_any a ha
    cases q
    · exact ⟨false, Ev.bind hop (Evs.yes rfl (Ev.bind hq (Evs.at1 fun k => by rw [spec_NeedMay.j0, if_pos (by rfl)]))), by simp⟩
    · obtain ⟨r, hr, hc⟩ := may_l0 a b l hl hs (hio rfl) l.length 0 (by omega)
      exact ⟨r, Ev.bind hop (Evs.yes rfl (Ev.bind hq (Ev.step (fun k => by rw [spec_NeedMay.j0, if_neg (by simp)]; rfl) hr))), hc⟩

theorem slices_l0 (l m : List ByteArray) (hl : l.length ≤ 4294967296) (he : l.length = m.length) (n : Nat) : ∀ i : Nat, i + n = l.length → Ev (fun k => slices_Equal_string_string.l0 k l m (l.length : Int) (i : Int)) (decide (l.drop i = m.drop i)) := by
  induction n with
  | zero =>
    intro i hi
    rw [List.drop_eq_nil_of_le (by omega), List.drop_eq_nil_of_le (by omega)]
    refine Evs.at1 fun k => ?_
    simp only [slices_Equal_string_string.l0]
    rw [if_neg (by omega)]; simp
  | succ n ih =>
    intro i hi
    have h : i < l.length := by omega
    have h' : i < m.length := by omega
    rw [List.drop_eq_getElem_cons h, List.drop_eq_getElem_cons h']
    by_cases e : l[i] = m[i]
    · rw [show decide (l[i] :: l.drop (i + 1) = m[i] :: m.drop (i + 1)) = decide (l.drop (i + 1) = m.drop (i + 1)) from decide_eq_decide.2 (by rw [e, List.cons.injEq]; exact ⟨fun h => h.2, fun h => ⟨rfl, h⟩⟩)]
      refine Ev.step (fun k => ?_) (ih (i + 1) (by omega))
      simp only [slices_Equal_string_string.l0]
      rw [if_pos (by omega), if_pos (by omega), if_pos (by omega), if_pos (by omega), rdS h, rdS h', if_pos (by rw [e]), Small.w64s i (by omega)]
    · refine Evs.at1 fun k => ?_
      simp only [slices_Equal_string_string.l0]
      rw [if_pos (by omega), if_pos (by omega), if_pos (by omega), if_pos (by omega), rdS h, rdS h', if_neg (fun h => e (str_eq.1 h)), decide_eq_false (by rw [List.cons.injEq]; exact fun h => e h.1)]
theorem slices_f (l m : List ByteArray) (hl : l.length ≤ 4294967296) : Ev (fun k => slices_Equal_string_string.f k l m) (decide (l = m)) := by
  unfold slices_Equal_string_string.f
  by_cases e : l.length = m.length
  · exact Evs.yes (by omega) (slices_l0 l m hl e l.length 0 (by omega))
  · exact Evs.no (by omega) ⟨0, fun k _ => by rw [decide_eq_false (fun h => e (by rw [h]))]⟩
/-- The same key, operator and values. -/
def same3 (a b : ByteArray) (l : List ByteArray) (c d : ByteArray) (m : List ByteArray) : Bool := decide (a = c) && (decide (b = d) && decide (l = m))
theorem req_f (a b : ByteArray) (l : List ByteArray) (c d : ByteArray) (m : List ByteArray) (hl : l.length ≤ 4294967296) : Ev (fun k => labels_Requirement_Equal.f k a b l c d m) (same3 a b l c d m) := by
  unfold labels_Requirement_Equal.f same3
  by_cases h1 : a = c
  · rw [decide_eq_true h1, Bool.true_and]
    refine Evs.yes (str_eq.2 h1) ?_
    by_cases h2 : b = d
    · rw [decide_eq_true h2, Bool.true_and]
      exact Evs.yes (str_eq.2 h2) (Ev.bind (slices_f l m hl) ⟨0, fun _ _ => rfl⟩)
    · rw [decide_eq_false h2]
      exact Evs.no (fun h => h2 (str_eq.1 h)) ⟨0, fun _ _ => rfl⟩
  · rw [decide_eq_false h1]
    exact Evs.no (fun h => h1 (str_eq.1 h)) ⟨0, fun _ _ => rfl⟩
theorem need_f (a b : ByteArray) (l : List ByteArray) (c d : ByteArray) (m : List ByteArray) {l0 m0 : List ByteArray} (hk : Keyed l l0) (hj : Keyed m m0) (hl : l.length ≤ 4294967296) (hm : m.length ≤ 4294967296) : Ev (fun k => spec_NeedSame.f k a b l c d m) (same3 a b l c d m) := by
  unfold spec_NeedSame.f same3
  obtain ⟨R, hR, hRk⟩ := keys_f l hl
  obtain ⟨T, hT, hTk⟩ := keys_f m hm
  rw [hk.same hRk] at hR
  rw [hj.same hTk] at hT
  by_cases h1 : a = c
  · rw [decide_eq_true h1, Bool.true_and]
    refine Evs.yes (str_eq.2 h1) ?_
    by_cases h2 : b = d
    · rw [decide_eq_true h2, Bool.true_and]
      exact Evs.yes (str_eq.2 h2) (Ev.bind hR (Ev.bind hT (Ev.bind (same_f l m hl) ⟨0, fun _ _ => rfl⟩)))
    · rw [decide_eq_false h2]
      exact Evs.no (fun h => h2 (str_eq.1 h)) ⟨0, fun _ _ => rfl⟩
  · rw [decide_eq_false h1]
    exact Evs.no (fun h => h1 (str_eq.1 h)) ⟨0, fun _ _ => rfl⟩
/-- The values, sorted and each once, are as many as the operator asks for. -/
theorem ok_keys {b : ByteArray} {l S : List ByteArray} (h : needOkB b l = true) (hk : Keyed S l) : needOkB b S = true := by
  have hone : ∀ v, l = [v] → S = [v] := fun v e => key_uniq S [v] hk.1 (List.pairwise_singleton _ _) (fun x => by rw [hk.2.1 x, e])
  unfold needOkB at h ⊢
  by_cases h1 : b.data.toList = [105, 110] ∨ b.data.toList = [110, 111, 116, 105, 110]
  · rw [if_pos h1, decide_eq_true_eq] at h ⊢
    obtain ⟨v, hv⟩ := List.exists_mem_of_length_pos h
    exact List.length_pos_of_mem ((hk.2.1 v).2 hv)
  rw [if_neg h1] at h ⊢
  by_cases h2 : b.data.toList = [61] ∨ b.data.toList = [61, 61] ∨ b.data.toList = [33, 61]
  · rw [if_pos h2, decide_eq_true_eq] at h ⊢
    obtain ⟨v, hv⟩ := List.length_eq_one_iff.1 h
    rw [hone v hv]; rfl
  rw [if_neg h2] at h ⊢
  by_cases h3 : b.data.toList = [101, 120, 105, 115, 116, 115] ∨ b.data.toList = [33]
  · rw [if_pos h3, decide_eq_true_eq] at h ⊢
    have := hk.2.2
    omega
  rw [if_neg h3] at h ⊢
  by_cases h4 : b.data.toList = [103, 116] ∨ b.data.toList = [108, 116]
  · rw [if_pos h4] at h ⊢
    match l, h, hone with
    | [v], h, hone => rw [hone v rfl]; exact h
    | [], h, _ => cases h
    | _ :: _ :: _, h, _ => cases h
  rw [if_neg h4] at h
  cases h
theorem impl_f (a b : ByteArray) (l : List ByteArray) (c d : ByteArray) (m : List ByteArray) (h1 : needOkB b l = true) (h2 : needOkB d m = true) (hl : l.length ≤ 4294967296) (hm : m.length ≤ 4294967296) : Ev (fun k => impl_NeedEqual.f k a b l c d m) (same3 a b l c d m, false) := by
  unfold impl_NeedEqual.f
  exact Evs.yes ⟨h1, h2, hl, hm⟩ (Ev.bind (req_f a b l c d m hl) ⟨0, fun _ _ => rfl⟩)
theorem same3_self (a b : ByteArray) (l : List ByteArray) : same3 a b l a b l = true := by simp [same3]

theorem FnNeedEqual : laws_FnNeedEqual.Pure := by
  intro a0 a1 l c0 c1 m _ _ _ _ _ _
  have main : Ev (fun k => laws_FnNeedEqual.f k a0 a1 l c0 c1 m) true := by
    unfold laws_FnNeedEqual.f
    obtain ⟨p, hp, hpc⟩ := fits10_f a0 a1 l
    cases p
    · exact Ev.bind hp (Evs.no (by simp) (Evs.at1 fun k => by rw [laws_FnNeedEqual.j0, if_pos (by rfl)]))
    obtain ⟨q, hq, hqc⟩ := fits10_f c0 c1 m
    cases q
    · exact Ev.bind hp (Evs.yes rfl (Ev.bind hq (Evs.at1 fun k => by rw [laws_FnNeedEqual.j0, if_pos (by rfl)])))
    obtain ⟨ha0, ha1, hl, hls⟩ := hpc rfl
    obtain ⟨hc0, hc1, hm, hms⟩ := hqc rfl
    refine Ev.bind hp (Evs.yes rfl (Ev.bind hq ?_))
    obtain ⟨x, hx, hxc⟩ := may_any a0 a1 l ha0 hl hls
    cases x
    · exact Ev.step (f := fun k => (spec_NeedMay.f k a0 a1 l).bind fun t205 => (if t205 = true then ((spec_NeedMay.f k c0 c1 m).bind fun t206 => (laws_FnNeedEqual.j1 k (!t206) a0 a1 l c0 c1 m)) else (laws_FnNeedEqual.j1 k true a0 a1 l c0 c1 m))) (fun k => by rw [laws_FnNeedEqual.j0, if_neg (by simp)]) (Ev.bind hx (Evs.no (by simp) (Evs.at1 fun k => by rw [laws_FnNeedEqual.j1, if_pos (by rfl)])))
    obtain ⟨y, hy, hyc⟩ := may_any c0 c1 m hc0 hm hms
    cases y
    · exact Ev.step (f := fun k => (spec_NeedMay.f k a0 a1 l).bind fun t205 => (if t205 = true then ((spec_NeedMay.f k c0 c1 m).bind fun t206 => (laws_FnNeedEqual.j1 k (!t206) a0 a1 l c0 c1 m)) else (laws_FnNeedEqual.j1 k true a0 a1 l c0 c1 m))) (fun k => by rw [laws_FnNeedEqual.j0, if_neg (by simp)]) (Ev.bind hx (Evs.yes rfl (Ev.bind hy (Evs.at1 fun k => by rw [laws_FnNeedEqual.j1, if_pos (by rfl)]))))
    obtain ⟨S, hS, hSk⟩ := keys_f l (by omega)
    obtain ⟨T, hT, hTk⟩ := keys_f m (by omega)
    have hSl : S.length ≤ 4294967296 := Nat.le_trans hSk.2.2 (by omega)
    have hTl : T.length ≤ 4294967296 := Nat.le_trans hTk.2.2 (by omega)
    have i1 := impl_f a0 a1 S c0 c1 T (ok_keys (hxc rfl) hSk) (ok_keys (hyc rfl) hTk) hSl hTl
    have i2 := impl_f a0 a1 S a0 a1 S (ok_keys (hxc rfl) hSk) (ok_keys (hxc rfl) hSk) hSl hSl
    rw [same3_self] at i2
    have i3 := need_f a0 a1 S c0 c1 T hSk hTk hSl hTl
    refine Ev.step (f := fun k => (spec_NeedMay.f k a0 a1 l).bind fun t205 => (if t205 = true then ((spec_NeedMay.f k c0 c1 m).bind fun t206 => (laws_FnNeedEqual.j1 k (!t206) a0 a1 l c0 c1 m)) else (laws_FnNeedEqual.j1 k true a0 a1 l c0 c1 m))) (fun k => by rw [laws_FnNeedEqual.j0, if_neg (by simp)]) (Ev.bind hx (Evs.yes rfl (Ev.bind hy ?_)))
    refine Ev.step (f := fun k => ((spec_Keys_string.f k l).bind fun t207 => ((spec_Keys_string.f k m).bind fun t210 => ((impl_NeedEqual.f k a0 a1 t207 c0 c1 t210).bind fun bt213 => ((impl_NeedEqual.f k a0 a1 t207 a0 a1 t207).bind fun bt215 => (if bt213.2 = true then (some false) else (if bt215.2 = true then (some false) else (if bt215.1 = true then ((spec_NeedSame.f k a0 a1 t207 c0 c1 t210).bind fun t217 => (some (bt213.1 == t217))) else (some false))))))))) (fun k => by rw [laws_FnNeedEqual.j1, if_neg (by simp)]) ?_
    refine Ev.bind hS (Ev.bind hT (Ev.bind i1 (Ev.bind i2 (Evs.no (by simp) (Evs.no (by simp) (Evs.yes rfl (Ev.bind i3 ⟨0, fun _ _ => ?_⟩)))))))
    simp
  obtain ⟨K, hK⟩ := main
  exact ⟨K, hK K (Nat.le_refl _)⟩
end Go.Proofs.YtlhbmifffmegeaaDoor.Pure
