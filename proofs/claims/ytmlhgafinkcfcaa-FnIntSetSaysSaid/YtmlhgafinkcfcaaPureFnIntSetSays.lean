/- Sets of numbers: what the questions tell is what the given definitions tell. -/
import Derived.Test.YtmlhgafinkcfcaaPFnIntSetSaysx2
import Derived.Test.YtmlhgafinkcfcaaTxt
import Derived.Test.YtmlhgafinkcfcaaEvs
set_option linter.unusedVariables false
set_option linter.unusedSimpArgs false
namespace Go.Proofs.Ytmlhgafinkcfcaa.Pure
open Go Go.RowKit Go.Proofs.Ytmlhgafinkcfcaa Go.Proofs.Ytmlhgafinkcfcaa.PFnIntSetSays Go.Proofs.YtmlhgafinkcfcaaW.PrintWords Go.Proofs.YtmlhgafinkcfcaaW.PrintLast Go.Proofs.Ytmlhgafinkcfcaa.Txt

/-! ### sets as sorted lists: the given definitions (all they do is pure) -/
theorem rdI {xs : List Int} {k : Nat} (h : k < xs.length) : rd xs (k : Int) = xs[k] := SetW.rd_at h
theorem uniq_len (l : List Int) : (SetW.uniq l).length ≤ l.length := by
  induction l with
  | nil => exact Nat.le_refl _
  | cons x l ih =>
    unfold SetW.uniq
    split
    · rw [List.length_cons]; omega
    · rw [List.length_cons, List.length_cons]; omega
theorem ks_len (l : List Int) : (SetW.ks l).length ≤ l.length := by rw [SetW.ks_length]; exact uniq_len l
theorem ks_nil : SetW.ks [] = [] := List.eq_nil_of_length_eq_zero (by have := ks_len []; simpa using this)
theorem ks_unique {S L : List Int} (h1 : S.Pairwise (· < ·)) (h2 : ∀ x, x ∈ S ↔ x ∈ L) : S = SetW.ks L := by
  rw [← SetW.ks_of (S := S) (L := L) (h1.imp fun h => by omega) h2]
  exact (List.mergeSort_of_pairwise (h1.imp fun {a b} h => by simp only [SetW.leI, decide_eq_true_eq]; omega)).symm
theorem ks_sorted (L : List Int) : (SetW.ks L).Pairwise (· < ·) := by
  have tr : ∀ a b c : Int, SetW.leI a b = true → SetW.leI b c = true → SetW.leI a c = true := fun a b c h1 h2 => by simp only [SetW.leI, decide_eq_true_eq] at *; omega
  have tot : ∀ a b : Int, (SetW.leI a b || SetW.leI b a) = true := fun a b => by simp only [SetW.leI, Bool.or_eq_true, decide_eq_true_eq]; omega
  have h := List.pairwise_mergeSort tr tot (SetW.uniq L)
  have hn : (SetW.ks L).Nodup := (List.mergeSort_perm (SetW.uniq L) SetW.leI).nodup_iff.2 (SetW.uniq_nodup L)
  have := List.Pairwise.and h hn
  exact this.imp fun {a b} h => by
    obtain ⟨h1, h2⟩ := h
    simp only [SetW.leI, decide_eq_true_eq] at h1
    have : a ≠ b := h2
    omega

theorem inI_l0 (l : List Int) (a : Int) (hl : l.length ≤ 4294967296000) (n : Nat) : ∀ i : Nat, i + n = l.length → Ev (fun k => spec_keyIn_int.l0 k l a (i : Int)) (decide (a ∈ l.drop i)) := by
  induction n with
  | zero =>
    intro i hi
    rw [List.drop_eq_nil_of_le (by omega)]
    refine Evs.at1 fun k => ?_
    simp only [spec_keyIn_int.l0]
    rw [if_neg (by omega)]; simp
  | succ n ih =>
    intro i hi
    have h : i < l.length := by omega
    rw [List.drop_eq_getElem_cons h]
    by_cases e : l[i] = a
    · refine Evs.at1 fun k => ?_
      simp only [spec_keyIn_int.l0]
      rw [if_pos (by omega), if_pos (by omega), rdI h, if_pos e]; simp [e]
    · rw [show decide (a ∈ l[i] :: l.drop (i + 1)) = decide (a ∈ l.drop (i + 1)) from decide_eq_decide.2 (by rw [List.mem_cons]; exact ⟨fun h => h.resolve_left (fun h => e h.symm), Or.inr⟩)]
      refine Ev.step (fun k => ?_) (ih (i + 1) (by omega))
      simp only [spec_keyIn_int.l0]
      rw [if_pos (by omega), if_pos (by omega), rdI h, if_neg e, Small.w64s i (by omega)]
theorem inI_f (l : List Int) (a : Int) (hl : l.length ≤ 4294967296000) : Ev (fun k => spec_keyIn_int.f k l a) (decide (a ∈ l)) := by
  have := inI_l0 l a hl l.length 0 (by omega)
  exact this

/-- One more, at its place. -/
theorem put_ks (L : List Int) (x : Int) (at_ : Nat) (hx : x ∉ L) (ha : at_ ≤ (SetW.ks L).length) (h1 : ∀ j (h : j < (SetW.ks L).length), j < at_ → (SetW.ks L)[j] < x) (h2 : ∀ h : at_ < (SetW.ks L).length, ¬ (SetW.ks L)[at_] < x) :
    (SetW.ks L).take at_ ++ [x] ++ (SetW.ks L).drop at_ = SetW.ks (L ++ [x]) := by
  have hs := ks_sorted L
  have hs' : ((SetW.ks L).take at_ ++ (SetW.ks L).drop at_).Pairwise (· < ·) := by rw [List.take_append_drop]; exact hs
  rw [List.pairwise_append] at hs'
  obtain ⟨s1, s2, s3⟩ := hs'
  have t1 : ∀ y ∈ (SetW.ks L).take at_, y < x := fun y hy => by
    obtain ⟨j, hj, rfl⟩ := List.getElem_of_mem hy
    rw [List.length_take] at hj
    rw [List.getElem_take]
    exact h1 j (by omega) (by omega)
  have t2 : ∀ y ∈ (SetW.ks L).drop at_, x < y := fun y hy => by
    have hne : y ≠ x := fun e => hx (by rw [← e]; exact (SetW.ks_mem L y).1 (List.mem_of_mem_drop hy))
    obtain ⟨j, hj, rfl⟩ := List.getElem_of_mem hy
    rw [List.length_drop] at hj
    have hlt : at_ < (SetW.ks L).length := by omega
    have h0 := h2 hlt
    rw [List.getElem_drop] at hne ⊢
    by_cases e : j = 0
    · subst e; simp only [Nat.add_zero] at hne ⊢; omega
    · have := List.pairwise_iff_getElem.1 hs at_ (at_ + j) hlt (by omega) (by omega)
      omega
  refine ks_unique ?_ fun y => ?_
  · rw [List.append_assoc, List.pairwise_append]
    refine ⟨s1, List.pairwise_cons.2 ⟨t2, s2⟩, fun a ha b hb => ?_⟩
    rcases List.mem_cons.1 hb with rfl | hb
    · exact t1 a ha
    · exact s3 a ha b hb
  · have e : y ∈ SetW.ks L ↔ y ∈ (SetW.ks L).take at_ ∨ y ∈ (SetW.ks L).drop at_ := by rw [← List.mem_append, List.take_append_drop]
    rw [List.mem_append, List.mem_append, List.mem_append, List.mem_singleton, ← SetW.ks_mem L, e]
    constructor
    · rintro ((h | h) | h)
      · exact Or.inl (Or.inl h)
      · exact Or.inr h
      · exact Or.inl (Or.inr h)
    · rintro ((h | h) | h)
      · exact Or.inl (Or.inl h)
      · exact Or.inr h
      · exact Or.inl (Or.inr h)

theorem keys_l1 (l : List Int) (hl : l.length ≤ 4294967296000) (i : Nat) (hi : i < l.length) (hx : l[i] ∉ l.take i) (r : List Int) (go : Ev (fun k => spec_Keys_int.l0 k l (SetW.ks (l.take (i + 1))) ((i + 1 : Nat) : Int)) r) (n : Nat) :
    ∀ j : Nat, j + n = (SetW.ks (l.take i)).length → (∀ m (h : m < (SetW.ks (l.take i)).length), m < j → (SetW.ks (l.take i))[m] < l[i]) → Ev (fun k => spec_Keys_int.l1 k l (SetW.ks (l.take i)) (i : Int) (j : Int)) r := by
  have hle : (SetW.ks (l.take i)).length ≤ i := by have := ks_len (l.take i); rw [List.length_take] at this; omega
  have ht : l.take (i + 1) = l.take i ++ [l[i]] := List.take_succ_eq_append_getElem hi
  have fin : ∀ j : Nat, j ≤ (SetW.ks (l.take i)).length → (∀ m (h : m < (SetW.ks (l.take i)).length), m < j → (SetW.ks (l.take i))[m] < l[i]) → (∀ h : j < (SetW.ks (l.take i)).length, ¬ (SetW.ks (l.take i))[j] < l[i]) →
      ((SetW.ks (l.take i)).take j ++ [l[i]]) ++ (SetW.ks (l.take i)).drop j = SetW.ks (l.take (i + 1)) := fun j h0 h1 h2 => by rw [ht]; exact put_ks _ _ j hx h0 h1 h2
  induction n with
  | zero =>
    intro j hj hb
    have e := fin j (by omega) hb (fun h => absurd h (by omega))
    refine Ev.step (fun k => ?_) go
    rw [spec_Keys_int.l1, if_neg (by omega)]
    simp only [Option.bind_some, List.nil_append, List.length_nil]
    rw [if_pos (by omega), if_pos (by omega), Int.toNat_natCast, if_pos (by rw [List.length_take]; omega), if_pos (by omega), if_pos (by omega), if_pos (by rw [List.length_take]; omega), rdI hi, if_pos (by simp; omega), e, Small.w64s i (by omega)]
  | succ n ih =>
    intro j hj hb
    have hjl : j < (SetW.ks (l.take i)).length := by omega
    by_cases c : (SetW.ks (l.take i))[j] < l[i]
    · refine Ev.step (fun k => ?_) (ih (j + 1) (by omega) (fun m hm h => by
        by_cases e : m = j
        · subst e; exact c
        · exact hb m hm (by omega)))
      rw [spec_Keys_int.l1, if_pos (by omega), if_pos (by omega), if_pos (by omega), if_pos (by omega), rdI hi, rdI hjl, if_pos c, Small.w64s j (by omega)]
    · have e := fin j (by omega) hb (fun _ => c)
      refine Ev.step (fun k => ?_) go
      rw [spec_Keys_int.l1, if_pos (by omega), if_pos (by omega), if_pos (by omega), if_pos (by omega), rdI hi, rdI hjl, if_neg c]
      simp only [Option.bind_some, List.nil_append, List.length_nil]
      rw [if_pos (by omega), Int.toNat_natCast, if_pos (by rw [List.length_take]; omega), if_pos (by rw [List.length_take]; omega), if_pos (by simp; omega), e, Small.w64s i (by omega)]

theorem keys_l0 (l : List Int) (hl : l.length ≤ 4294967296000) (n : Nat) : ∀ i : Nat, i + n = l.length → Ev (fun k => spec_Keys_int.l0 k l (SetW.ks (l.take i)) (i : Int)) (SetW.ks l) := by
  induction n with
  | zero =>
    intro i hi
    rw [List.take_of_length_le (by omega)]
    refine Evs.at1 fun k => ?_
    rw [spec_Keys_int.l0, if_neg (by omega)]
  | succ n ih =>
    intro i hi
    have h : i < l.length := by omega
    have hle : (SetW.ks (l.take i)).length ≤ i := by have := ks_len (l.take i); rw [List.length_take] at this; omega
    have ht : l.take (i + 1) = l.take i ++ [l[i]] := List.take_succ_eq_append_getElem h
    have hk := inI_f (SetW.ks (l.take i)) l[i] (by omega)
    by_cases c : l[i] ∈ l.take i
    · rw [decide_eq_true ((SetW.ks_mem _ _).2 c)] at hk
      have e : SetW.ks (l.take (i + 1)) = SetW.ks (l.take i) := SetW.ks_congr fun x => by
        rw [ht, List.mem_append, List.mem_singleton]
        exact ⟨fun h => h.elim id (fun h => by rw [h]; exact c), Or.inl⟩
      have go := ih (i + 1) (by omega)
      rw [e] at go
      refine Ev.step (f := fun k => (spec_keyIn_int.f k (SetW.ks (l.take i)) l[i]).bind fun t225 => (if t225 = true then (spec_Keys_int.l0 k l (SetW.ks (l.take i)) ((i + 1 : Nat) : Int)) else (spec_Keys_int.l1 k l (SetW.ks (l.take i)) (i : Int) 0))) (fun k => ?_) (Ev.bind hk (Evs.yes rfl go))
      rw [spec_Keys_int.l0, if_pos (by omega), if_pos (by omega), rdI h, Small.w64s i (by omega)]
    · rw [decide_eq_false (fun h' => c ((SetW.ks_mem _ _).1 h'))] at hk
      have go := keys_l1 l hl i h c _ (ih (i + 1) (by omega)) (SetW.ks (l.take i)).length 0 (by omega) (fun m _ hm => absurd hm (by omega))
      refine Ev.step (f := fun k => (spec_keyIn_int.f k (SetW.ks (l.take i)) l[i]).bind fun t225 => (if t225 = true then (spec_Keys_int.l0 k l (SetW.ks (l.take i)) ((i + 1 : Nat) : Int)) else (spec_Keys_int.l1 k l (SetW.ks (l.take i)) (i : Int) 0))) (fun k => ?_) (Ev.bind hk (Evs.no (by simp) go))
      rw [spec_Keys_int.l0, if_pos (by omega), if_pos (by omega), rdI h, Small.w64s i (by omega)]
theorem keys_f (l : List Int) (hl : l.length ≤ 4294967296000) : Ev (fun k => spec_Keys_int.f k l) (SetW.ks l) := by
  have := keys_l0 l hl l.length 0 (by omega)
  rw [List.take_zero, ks_nil] at this
  exact this
theorem both_l0 (l m : List Int) (hl : l.length ≤ 4294967296000) (hm : m.length ≤ 4294967296000) (n : Nat) : ∀ i : Nat, i + n = l.length → Ev (fun k => spec_KeysBoth_int.l0 k l m ((l.take i).filter fun x => decide (x ∈ m)) (i : Int)) (SetW.ks (l.filter fun x => decide (x ∈ m))) := by
  induction n with
  | zero =>
    intro i hi
    rw [List.take_of_length_le (by omega)]
    have hk := keys_f (l.filter fun x => decide (x ∈ m)) (by have := List.length_filter_le (fun x => decide (x ∈ m)) l; omega)
    refine Ev.step (f := fun k => (spec_Keys_int.f k (l.filter fun x => decide (x ∈ m))).bind fun t => some t) (fun k => ?_) (Ev.bind hk (Ev.now _))
    rw [spec_KeysBoth_int.l0, if_neg (by omega)]
  | succ n ih =>
    intro i hi
    have h : i < l.length := by omega
    have ht : l.take (i + 1) = l.take i ++ [l[i]] := List.take_succ_eq_append_getElem h
    have hk := inI_f m l[i] hm
    have hle := List.length_filter_le (fun x => decide (x ∈ m)) (l.take i)
    rw [List.length_take] at hle
    have go := ih (i + 1) (by omega)
    rw [ht, List.filter_append] at go
    by_cases c : l[i] ∈ m
    · rw [decide_eq_true c] at hk
      rw [List.filter_cons_of_pos (by simpa using c), List.filter_nil] at go
      refine Ev.step (f := fun k => (spec_keyIn_int.f k m l[i]).bind fun t => (if t = true then (if ((l.take i).filter fun x => decide (x ∈ m)).length < 17592186044416 then (spec_KeysBoth_int.l0 k l m (((l.take i).filter fun x => decide (x ∈ m)) ++ [l[i]]) ((i + 1 : Nat) : Int)) else none) else (spec_KeysBoth_int.l0 k l m ((l.take i).filter fun x => decide (x ∈ m)) ((i + 1 : Nat) : Int)))) (fun k => ?_) (Ev.bind hk (Evs.yes rfl (Evs.yes (by omega) go)))
      rw [spec_KeysBoth_int.l0, if_pos (by omega), if_pos (by omega), rdI h, Small.w64s i (by omega)]
    · rw [decide_eq_false c] at hk
      rw [List.filter_cons_of_neg (by simpa using c), List.filter_nil, List.append_nil] at go
      refine Ev.step (f := fun k => (spec_keyIn_int.f k m l[i]).bind fun t => (if t = true then (if ((l.take i).filter fun x => decide (x ∈ m)).length < 17592186044416 then (spec_KeysBoth_int.l0 k l m (((l.take i).filter fun x => decide (x ∈ m)) ++ [l[i]]) ((i + 1 : Nat) : Int)) else none) else (spec_KeysBoth_int.l0 k l m ((l.take i).filter fun x => decide (x ∈ m)) ((i + 1 : Nat) : Int)))) (fun k => ?_) (Ev.bind hk (Evs.no (by simp) go))
      rw [spec_KeysBoth_int.l0, if_pos (by omega), if_pos (by omega), rdI h, Small.w64s i (by omega)]
theorem both_f (l m : List Int) (hl : l.length ≤ 4294967296000) (hm : m.length ≤ 4294967296000) : Ev (fun k => spec_KeysBoth_int.f k l m) (SetW.ks (l.filter fun x => decide (x ∈ m))) := by
  have := both_l0 l m hl hm l.length 0 (by omega)
  exact this

theorem less_l0 (l m : List Int) (hl : l.length ≤ 4294967296000) (hm : m.length ≤ 4294967296000) (n : Nat) : ∀ i : Nat, i + n = l.length → Ev (fun k => spec_KeysLess_int.l0 k l m ((l.take i).filter fun x => !decide (x ∈ m)) (i : Int)) (SetW.ks (l.filter fun x => !decide (x ∈ m))) := by
  induction n with
  | zero =>
    intro i hi
    rw [List.take_of_length_le (by omega)]
    have hk := keys_f (l.filter fun x => !decide (x ∈ m)) (by have := List.length_filter_le (fun x => !decide (x ∈ m)) l; omega)
    refine Ev.step (f := fun k => (spec_Keys_int.f k (l.filter fun x => !decide (x ∈ m))).bind fun t => some t) (fun k => ?_) (Ev.bind hk (Ev.now _))
    rw [spec_KeysLess_int.l0, if_neg (by omega)]
  | succ n ih =>
    intro i hi
    have h : i < l.length := by omega
    have ht : l.take (i + 1) = l.take i ++ [l[i]] := List.take_succ_eq_append_getElem h
    have hk := inI_f m l[i] hm
    have hle := List.length_filter_le (fun x => !decide (x ∈ m)) (l.take i)
    rw [List.length_take] at hle
    have go := ih (i + 1) (by omega)
    rw [ht, List.filter_append] at go
    by_cases c : l[i] ∈ m
    · rw [decide_eq_true c] at hk
      rw [List.filter_cons_of_neg (by simpa using c), List.filter_nil, List.append_nil] at go
      refine Ev.step (f := fun k => (spec_keyIn_int.f k m l[i]).bind fun t => (if t = true then (spec_KeysLess_int.l0 k l m ((l.take i).filter fun x => !decide (x ∈ m)) ((i + 1 : Nat) : Int)) else (if ((l.take i).filter fun x => !decide (x ∈ m)).length < 17592186044416 then (spec_KeysLess_int.l0 k l m (((l.take i).filter fun x => !decide (x ∈ m)) ++ [l[i]]) ((i + 1 : Nat) : Int)) else none))) (fun k => ?_) (Ev.bind hk (Evs.yes rfl go))
      rw [spec_KeysLess_int.l0, if_pos (by omega), if_pos (by omega), rdI h, Small.w64s i (by omega)]
    · rw [decide_eq_false c] at hk
      rw [List.filter_cons_of_pos (by simpa using c), List.filter_nil] at go
      refine Ev.step (f := fun k => (spec_keyIn_int.f k m l[i]).bind fun t => (if t = true then (spec_KeysLess_int.l0 k l m ((l.take i).filter fun x => !decide (x ∈ m)) ((i + 1 : Nat) : Int)) else (if ((l.take i).filter fun x => !decide (x ∈ m)).length < 17592186044416 then (spec_KeysLess_int.l0 k l m (((l.take i).filter fun x => !decide (x ∈ m)) ++ [l[i]]) ((i + 1 : Nat) : Int)) else none))) (fun k => ?_) (Ev.bind hk (Evs.no (by simp) (Evs.yes (by omega) go)))
      rw [spec_KeysLess_int.l0, if_pos (by omega), if_pos (by omega), rdI h, Small.w64s i (by omega)]
theorem less_f (l m : List Int) (hl : l.length ≤ 4294967296000) (hm : m.length ≤ 4294967296000) : Ev (fun k => spec_KeysLess_int.f k l m) (SetW.ks (l.filter fun x => !decide (x ∈ m))) := by
  have := less_l0 l m hl hm l.length 0 (by omega)
  exact this
theorem same_l0 (l m : List Int) (hl : l.length ≤ 4294967296000) (he : l.length = m.length) (n : Nat) : ∀ i : Nat, i + n = l.length → Ev (fun k => spec_KeysSame_int.l0 k l m (i : Int)) (decide (l.drop i = m.drop i)) := by
  induction n with
  | zero =>
    intro i hi
    rw [List.drop_eq_nil_of_le (by omega), List.drop_eq_nil_of_le (by omega), decide_eq_true rfl]
    refine Evs.at1 fun k => ?_
    rw [spec_KeysSame_int.l0, if_neg (by omega)]
  | succ n ih =>
    intro i hi
    have h : i < l.length := by omega
    have h' : i < m.length := by omega
    rw [List.drop_eq_getElem_cons h, List.drop_eq_getElem_cons h']
    by_cases c : l[i] = m[i]
    · rw [show decide (l[i] :: l.drop (i + 1) = m[i] :: m.drop (i + 1)) = decide (l.drop (i + 1) = m.drop (i + 1)) from decide_eq_decide.2 (by rw [c]; exact ⟨fun e => (List.cons.inj e).2, fun e => by rw [e]⟩)]
      refine Ev.step (fun k => ?_) (ih (i + 1) (by omega))
      rw [spec_KeysSame_int.l0, if_pos (by omega), if_pos (by omega), if_pos (by omega), rdI h, rdI h', if_pos c, Small.w64s i (by omega)]
    · rw [decide_eq_false (fun e => c (List.cons.inj e).1)]
      refine Evs.at1 fun k => ?_
      rw [spec_KeysSame_int.l0, if_pos (by omega), if_pos (by omega), if_pos (by omega), rdI h, rdI h', if_neg c]
theorem same_f (l m : List Int) (hl : l.length ≤ 4294967296000) : Ev (fun k => spec_KeysSame_int.f k l m) (decide (l = m)) := by
  by_cases he : l.length = m.length
  · have := same_l0 l m hl he l.length 0 (by omega)
    exact Evs.yes (by omega) this
  · rw [decide_eq_false (fun e => he (by rw [e]))]
    exact Evs.no (by omega) (Ev.now _)
theorem same_self (l : List Int) (hl : l.length ≤ 4294967296000) : Ev (fun k => spec_KeysSame_int.f k l l) true := by
  have := same_f l l hl
  rwa [decide_eq_true rfl] at this
theorem okS {l : List Int} (h : l.length ≤ 4294967296) (hw : ∀ x ∈ l, (Lit.int .i64 x).wf = true) : SetW.okSet l = true := by
  unfold SetW.okSet
  rw [decide_eq_true h, List.all_eq_true.2 hw]; rfl

theorem ks_none (l : List Int) : (((SetW.ks l).length : Int) == 0) = decide (l = []) := by
  rw [Bool.eq_iff_iff, beq_iff_eq, decide_eq_true_eq]
  constructor
  · intro h
    apply List.eq_nil_iff_forall_not_mem.2
    intro x hx
    have h1 := List.eq_nil_of_length_eq_zero (by omega : (SetW.ks l).length = 0)
    have := (SetW.ks_mem l x).2 hx
    rw [h1] at this
    cases this
  · rintro rfl
    rw [ks_nil]; rfl
theorem all_filter (l m : List Int) : decide ((l.filter fun x => !decide (x ∈ m)) = []) = l.all fun x => decide (x ∈ m) := by
  rw [Bool.eq_iff_iff, decide_eq_true_eq, List.filter_eq_nil_iff, List.all_eq_true]
  simp
theorem any_filter (l m : List Int) : decide (((SetW.ks (l.filter fun x => decide (x ∈ m))).length : Int) > 0) = l.any fun x => decide (x ∈ m) := by
  have h := ks_none (l.filter fun x => decide (x ∈ m))
  rw [Bool.eq_iff_iff, beq_iff_eq, decide_eq_true_eq, List.filter_eq_nil_iff] at h
  rw [Bool.eq_iff_iff, decide_eq_true_eq, List.any_eq_true]
  constructor
  · intro hp
    apply Classical.byContradiction
    intro hn
    have := h.2 (fun x hx hd => hn ⟨x, hx, hd⟩)
    omega
  · rintro ⟨x, hx, hd⟩
    have : ¬ (((SetW.ks (l.filter fun x => decide (x ∈ m))).length : Int) = 0) := fun e => (h.1 e) x hx hd
    omega
theorem sub_all : ∀ (b a : List Int), b.Nodup → a.Nodup → (∀ x ∈ b, x ∈ a) → a.length ≤ b.length → ∀ x ∈ a, x ∈ b := by
  intro b
  induction b with
  | nil =>
    intro a _ _ _ h x hx
    rw [List.eq_nil_of_length_eq_zero (Nat.le_zero.1 h)] at hx
    cases hx
  | cons y b ih =>
    intro a hb ha hs hl x hx
    rw [List.nodup_cons] at hb
    have hy := hs y List.mem_cons_self
    have h1 := List.length_erase_of_mem hy
    rw [List.length_cons] at hl
    by_cases e : x = y
    · rw [e]; exact List.mem_cons_self
    · refine List.mem_cons_of_mem _ (ih (a.erase y) hb.2 (ha.erase y) (fun z hz => ?_) (by omega) x ((List.mem_erase_of_ne e).2 hx))
      exact (List.mem_erase_of_ne (fun e => hb.1 (by rw [← e]; exact hz))).2 (hs z (List.mem_cons_of_mem _ hz))
/-- Equal as lists: as many, and all of the one in the other. -/
theorem same_keys (a b : List Int) : decide (SetW.ks a = SetW.ks b) = (decide ((SetW.ks a).length = (SetW.ks b).length) && b.all fun x => decide (x ∈ a)) := by
  rw [Bool.eq_iff_iff, Bool.and_eq_true, decide_eq_true_eq, decide_eq_true_eq, List.all_eq_true]
  have hn : ∀ l : List Int, (SetW.ks l).Nodup := fun l => (ks_sorted l).imp fun h => by omega
  constructor
  · intro e
    refine ⟨by rw [e], fun x hx => decide_eq_true ?_⟩
    rw [← SetW.ks_mem a, e, SetW.ks_mem]; exact hx
  · rintro ⟨h1, h2⟩
    have hsub : ∀ x ∈ SetW.ks b, x ∈ SetW.ks a := fun x hx => (SetW.ks_mem a x).2 (of_decide_eq_true (h2 x ((SetW.ks_mem b x).1 hx)))
    have hsup := sub_all (SetW.ks b) (SetW.ks a) (hn b) (hn a) hsub (by omega)
    refine ks_unique (ks_sorted a) fun x => ?_
    rw [← SetW.ks_mem b]
    exact ⟨hsup x, hsub x⟩

theorem say_f (o : Int) (a b c : List Int) (ho : o ∈ ([7, 8, 9, 10, 11] : List Int)) (hc0 : o = 11 → 0 < c.length) (ha : a.length ≤ 4294967296) (hb : b.length ≤ 4294967296) (hc : c.length ≤ 4294967296) :
    ∃ t : Bool, Ev (fun k => spec_KeysSay_int.f k o a b c) t ∧ SetW.setF o a b c = some (SetW.ks [], SetW.ks a, SetW.ks b, t) := by
  unfold spec_KeysSay_int.f
  have k1 := ks_len a
  simp only [List.mem_cons, List.not_mem_nil, or_false] at ho
  rcases ho with rfl | rfl | rfl | rfl | rfl
  · refine ⟨_, Evs.yes (by decide) (Ev.bind (less_f c a (by omega) (by omega)) (Ev.now _)), ?_⟩
    rw [ks_none, all_filter]; rfl
  · refine ⟨_, Evs.no (by decide) (Evs.yes (by decide) (Ev.bind (both_f c a (by omega) (by omega)) (Ev.now _))), ?_⟩
    rw [any_filter]; rfl
  · refine ⟨_, Evs.no (by decide) (Evs.no (by decide) (Evs.yes (by decide) (Ev.bind (less_f b a (by omega) (by omega)) (Ev.now _)))), ?_⟩
    rw [ks_none, all_filter]; rfl
  · refine ⟨_, Evs.no (by decide) (Evs.no (by decide) (Evs.no (by decide) (Evs.yes (by decide) (Ev.bind (keys_f a (by omega)) (Ev.bind (keys_f b (by omega)) (Ev.bind (same_f (SetW.ks a) (SetW.ks b) (by omega)) (Ev.now _))))))), ?_⟩
    rw [same_keys]; rfl
  · have h0 := hc0 rfl
    refine ⟨_, Evs.no (by decide) (Evs.no (by decide) (Evs.no (by decide) (Evs.no (by decide) (Evs.yes (by omega) (Evs.yes (by omega) (Ev.bind (inI_f a (rd c 0) (by omega)) (Ev.now _))))))), ?_⟩
    have : SetW.setF 11 a b c = if (11 : Int) = 11 ∧ 0 < c.length then some (SetW.ks [], SetW.ks a, SetW.ks b, decide (rd c 0 ∈ a)) else none := rfl
    rw [this, if_pos ⟨rfl, h0⟩]

theorem op_f (a0 : Int) (h : (Lit.int .u8 a0).wf = true) : wrap64 (7 + wrap64 (Int.tmod a0 5)) ∈ ([7, 8, 9, 10, 11] : List Int) ∧ (wrap64 (7 + wrap64 (Int.tmod a0 5)) = 11 → Int.tmod a0 5 = 4) := by
  have h0 : 0 ≤ a0 := by
    simp [Lit.wf, IntKind.min, IntKind.max, IntKind.signed, IntKind.bits] at h
    exact h.1
  have e : Int.tmod a0 5 = a0 % 5 := Int.tmod_eq_emod_of_nonneg h0
  obtain ⟨m, hm⟩ : ∃ m : Int, a0 % 5 = m := ⟨_, rfl⟩
  have l0 : 0 ≤ m := by omega
  have l1 : m < 5 := by omega
  rw [e, hm]
  have w1 := Small.w64 m (by omega) (by omega)
  rw [w1]
  have w2 := Small.w64 (7 + m) (by omega) (by omega)
  rw [w2]
  clear w1 w2
  refine ⟨?_, fun h => by omega⟩
  simp only [List.mem_cons, List.not_mem_nil, or_false]
  omega

theorem tail (o : Int) (a b c : List Int) (ho : o ∈ ([7, 8, 9, 10, 11] : List Int)) (hc0 : o = 11 → 0 < c.length) (ha : a.length ≤ 2147483647) (hb : b.length ≤ 2147483647) (hc : c.length ≤ 2147483647)
    (wa : ∀ x ∈ a, (Lit.int .i64 x).wf = true) (wb : ∀ x ∈ b, (Lit.int .i64 x).wf = true) (wc : ∀ x ∈ c, (Lit.int .i64 x).wf = true) :
    Ev (fun k => (impl_IntSetOps.f k o a b c).bind fun bt219 => ((impl_IntSetOps.f k 10 a a ([] : List Int)).bind fun bt229 => ((spec_KeysSay_int.f k o a b c).bind fun t239 => (if (bt219.2.2.2 == t239) = true then (if bt229.2.2.2 = true then ((spec_Keys_int.f k a).bind fun t240 => ((spec_KeysSame_int.f k bt219.2.1 t240).bind fun t243 => (if t243 = true then ((spec_Keys_int.f k b).bind fun t244 => ((spec_KeysSame_int.f k bt219.2.2.1 t244).bind fun t247 => (some t247))) else (some false)))) else (some false)) else (some false))))) true := by
  obtain ⟨t, ht, hs⟩ := say_f o a b c ho hc0 (by omega) (by omega) (by omega)
  have hi : ∀ k, impl_IntSetOps.f k o a b c = some (SetW.ks [], SetW.ks a, SetW.ks b, t) := fun k => by
    unfold impl_IntSetOps.f SetW.setG
    rw [if_pos ⟨okS (by omega) wa, okS (by omega) wb, okS (by omega) wc⟩]; exact hs
  have hj : ∀ k, impl_IntSetOps.f k 10 a a ([] : List Int) = some (SetW.ks [], SetW.ks a, SetW.ks a, true) := fun k => by
    unfold impl_IntSetOps.f SetW.setG
    rw [if_pos ⟨okS (by omega) wa, okS (by omega) wa, okS (by decide) (by decide)⟩]
    have : SetW.setF 10 a a [] = some (SetW.ks [], SetW.ks a, SetW.ks a, decide ((SetW.ks a).length = (SetW.ks a).length) && a.all fun x => decide (x ∈ a)) := rfl
    rw [this, ← same_keys, decide_eq_true rfl]
  have ka := ks_len a
  have kb := ks_len b
  refine Ev.bind ⟨0, fun k _ => hi k⟩ (Ev.bind ⟨0, fun k _ => hj k⟩ (Ev.bind ht (Evs.yes (by simp) (Evs.yes rfl (Ev.bind (keys_f a (by omega)) (Ev.bind (same_self (SetW.ks a) (by omega)) (Evs.yes rfl (Ev.bind (keys_f b (by omega)) (Ev.bind (same_self (SetW.ks b) (by omega)) (Ev.now _))))))))))

theorem FnIntSetSays : laws_FnIntSetSays.Pure := by
  intro a0 a b c h0 _ _ wa _ _ wb _ _ wc
  unfold laws_FnIntSetSays.f
  obtain ⟨ho, h4⟩ := op_f a0 h0
  refine Ev.rounds ?_
  by_cases ha : (a.length : Int) > 2147483647
  · exact Evs.yes ha (Ev.now _)
  refine Evs.no ha ?_
  by_cases hb : (b.length : Int) > 2147483647
  · exact Evs.yes hb (Ev.now _)
  refine Evs.no hb ?_
  by_cases hc : (c.length : Int) > 2147483647
  · exact Evs.yes hc (Ev.now _)
  refine Evs.no hc ?_
  by_cases hz : (c.length : Int) = 0
  · refine Evs.yes hz ?_
    by_cases h5 : Int.tmod a0 5 = 4
    · refine Evs.yes h5 ?_
      exact tail _ a b [1] ho (fun _ => by decide) (by omega) (by omega) (by decide) wa wb (by decide)
    · refine Evs.no h5 ?_
      exact tail _ a b c ho (fun h => absurd (h4 h) h5) (by omega) (by omega) (by omega) wa wb wc
  · refine Evs.no hz ?_
    exact tail _ a b c ho (fun _ => by omega) (by omega) (by omega) (by omega) wa wb wc
end Go.Proofs.Ytmlhgafinkcfcaa.Pure
