/- Sets of numbers: one that is there is taken, whichever, and all others are left. -/
import Derived.Test.YtmlhgafinkcfcaaPFnSetPopx2
import Derived.Test.YtmlhgafinkcfcaaSetQ
import Derived.Test.YtmlhgafinkcfcaaTxt
import Derived.Test.YtmlhgafinkcfcaaEvs
set_option linter.unusedVariables false
set_option linter.unusedSimpArgs false
namespace Go.Proofs.Ytmlhgafinkcfcaa.Pure
open Go Go.RowKit Go.Proofs.Ytmlhgafinkcfcaa Go.Proofs.Ytmlhgafinkcfcaa.PFnSetPop Go.Proofs.YtmlhgafinkcfcaaW.PrintWords Go.Proofs.YtmlhgafinkcfcaaW.PrintLast Go.Proofs.Ytmlhgafinkcfcaa.Txt

/-! ### sets as sorted lists: the given definitions (all they do is pure) -/
theorem rdI {xs : List Int} {k : Nat} (h : k < xs.length) : rd xs (k : Int) = xs[k] := SetW.rd_at h
theorem uniq_len (l : List Int) : (SetW.uniq l).length ≤ l.length := by
  induction l with
  | nil => exact Nat.le_refl _
  | cons x l ih =>
    unfold SetW.uniq
    split
    · rw [List.length_cons]; omega
    · rw [List.length_cons, List.length_cons]; omega
theorem ks_len (l : List Int) : (SetW.ks l).length ≤ l.length := by rw [SetW.ks_length]; exact uniq_len l
theorem ks_nil : SetW.ks [] = [] := List.eq_nil_of_length_eq_zero (by have := ks_len []; simpa using this)
theorem ks_unique {S L : List Int} (h1 : S.Pairwise (· < ·)) (h2 : ∀ x, x ∈ S ↔ x ∈ L) : S = SetW.ks L := by
  rw [← SetW.ks_of (S := S) (L := L) (h1.imp fun h => by omega) h2]
  exact (List.mergeSort_of_pairwise (h1.imp fun {a b} h => by simp only [SetW.leI, decide_eq_true_eq]; omega)).symm
theorem ks_sorted (L : List Int) : (SetW.ks L).Pairwise (· < ·) := by
  have tr : ∀ a b c : Int, SetW.leI a b = true → SetW.leI b c = true → SetW.leI a c = true := fun a b c h1 h2 => by simp only [SetW.leI, decide_eq_true_eq] at *; omega
  have tot : ∀ a b : Int, (SetW.leI a b || SetW.leI b a) = true := fun a b => by simp only [SetW.leI, Bool.or_eq_true, decide_eq_true_eq]; omega
  have h := List.pairwise_mergeSort tr tot (SetW.uniq L)
  have hn : (SetW.ks L).Nodup := (List.mergeSort_perm (SetW.uniq L) SetW.leI).nodup_iff.2 (SetW.uniq_nodup L)
  have := List.Pairwise.and h hn
  exact this.imp fun {a b} h => by
    obtain ⟨h1, h2⟩ := h
    simp only [SetW.leI, decide_eq_true_eq] at h1
    have : a ≠ b := h2
    omega

theorem inI_l0 (l : List Int) (a : Int) (hl : l.length ≤ 4294967296000) (n : Nat) : ∀ i : Nat, i + n = l.length → Ev (fun k => spec_keyIn_int.l0 k l a (i : Int)) (decide (a ∈ l.drop i)) := by
  induction n with
  | zero =>
    intro i hi
    rw [List.drop_eq_nil_of_le (by omega)]
    refine Evs.at1 fun k => ?_
    simp only [spec_keyIn_int.l0]
    rw [if_neg (by omega)]; simp
  | succ n ih =>
    intro i hi
    have h : i < l.length := by omega
    rw [List.drop_eq_getElem_cons h]
    by_cases e : l[i] = a
    · refine Evs.at1 fun k => ?_
      simp only [spec_keyIn_int.l0]
      rw [if_pos (by omega), if_pos (by omega), rdI h, if_pos e]; simp [e]
    · rw [show decide (a ∈ l[i] :: l.drop (i + 1)) = decide (a ∈ l.drop (i + 1)) from decide_eq_decide.2 (by rw [List.mem_cons]; exact ⟨fun h => h.resolve_left (fun h => e h.symm), Or.inr⟩)]
      refine Ev.step (fun k => ?_) (ih (i + 1) (by omega))
      simp only [spec_keyIn_int.l0]
      rw [if_pos (by omega), if_pos (by omega), rdI h, if_neg e, Small.w64s i (by omega)]
theorem inI_f (l : List Int) (a : Int) (hl : l.length ≤ 4294967296000) : Ev (fun k => spec_keyIn_int.f k l a) (decide (a ∈ l)) := by
  have := inI_l0 l a hl l.length 0 (by omega)
  exact this

/-- One more, at its place. -/
theorem put_ks (L : List Int) (x : Int) (at_ : Nat) (hx : x ∉ L) (ha : at_ ≤ (SetW.ks L).length) (h1 : ∀ j (h : j < (SetW.ks L).length), j < at_ → (SetW.ks L)[j] < x) (h2 : ∀ h : at_ < (SetW.ks L).length, ¬ (SetW.ks L)[at_] < x) :
    (SetW.ks L).take at_ ++ [x] ++ (SetW.ks L).drop at_ = SetW.ks (L ++ [x]) := by
  have hs := ks_sorted L
  have hs' : ((SetW.ks L).take at_ ++ (SetW.ks L).drop at_).Pairwise (· < ·) := by rw [List.take_append_drop]; exact hs
  rw [List.pairwise_append] at hs'
  obtain ⟨s1, s2, s3⟩ := hs'
  have t1 : ∀ y ∈ (SetW.ks L).take at_, y < x := fun y hy => by
    obtain ⟨j, hj, rfl⟩ := List.getElem_of_mem hy
    rw [List.length_take] at hj
    rw [List.getElem_take]
    exact h1 j (by omega) (by omega)
  have t2 : ∀ y ∈ (SetW.ks L).drop at_, x < y := fun y hy => by
    have hne : y ≠ x := fun e => hx (by rw [← e]; exact (SetW.ks_mem L y).1 (List.mem_of_mem_drop hy))
    obtain ⟨j, hj, rfl⟩ := List.getElem_of_mem hy
    rw [List.length_drop] at hj
    have hlt : at_ < (SetW.ks L).length := by omega
    have h0 := h2 hlt
    rw [List.getElem_drop] at hne ⊢
    by_cases e : j = 0
    · subst e; simp only [Nat.add_zero] at hne ⊢; omega
    · have := List.pairwise_iff_getElem.1 hs at_ (at_ + j) hlt (by omega) (by omega)
      omega
  refine ks_unique ?_ fun y => ?_
  · rw [List.append_assoc, List.pairwise_append]
    refine ⟨s1, List.pairwise_cons.2 ⟨t2, s2⟩, fun a ha b hb => ?_⟩
    rcases List.mem_cons.1 hb with rfl | hb
    · exact t1 a ha
    · exact s3 a ha b hb
  · have e : y ∈ SetW.ks L ↔ y ∈ (SetW.ks L).take at_ ∨ y ∈ (SetW.ks L).drop at_ := by rw [← List.mem_append, List.take_append_drop]
    rw [List.mem_append, List.mem_append, List.mem_append, List.mem_singleton, ← SetW.ks_mem L, e]
    constructor
    · rintro ((h | h) | h)
      · exact Or.inl (Or.inl h)
      · exact Or.inr h
      · exact Or.inl (Or.inr h)
    · rintro ((h | h) | h)
      · exact Or.inl (Or.inl h)
      · exact Or.inr h
      · exact Or.inl (Or.inr h)

theorem keys_l1 (l : List Int) (hl : l.length ≤ 4294967296000) (i : Nat) (hi : i < l.length) (hx : l[i] ∉ l.take i) (r : List Int) (go : Ev (fun k => spec_Keys_int.l0 k l (SetW.ks (l.take (i + 1))) ((i + 1 : Nat) : Int)) r) (n : Nat) :
    ∀ j : Nat, j + n = (SetW.ks (l.take i)).length → (∀ m (h : m < (SetW.ks (l.take i)).length), m < j → (SetW.ks (l.take i))[m] < l[i]) → Ev (fun k => spec_Keys_int.l1 k l (SetW.ks (l.take i)) (i : Int) (j : Int)) r := by
  have hle : (SetW.ks (l.take i)).length ≤ i := by have := ks_len (l.take i); rw [List.length_take] at this; omega
  have ht : l.take (i + 1) = l.take i ++ [l[i]] := List.take_succ_eq_append_getElem hi
  have fin : ∀ j : Nat, j ≤ (SetW.ks (l.take i)).length → (∀ m (h : m < (SetW.ks (l.take i)).length), m < j → (SetW.ks (l.take i))[m] < l[i]) → (∀ h : j < (SetW.ks (l.take i)).length, ¬ (SetW.ks (l.take i))[j] < l[i]) →
      ((SetW.ks (l.take i)).take j ++ [l[i]]) ++ (SetW.ks (l.take i)).drop j = SetW.ks (l.take (i + 1)) := fun j h0 h1 h2 => by rw [ht]; exact put_ks _ _ j hx h0 h1 h2
  induction n with
  | zero =>
    intro j hj hb
    have e := fin j (by omega) hb (fun h => absurd h (by omega))
    refine Ev.step (fun k => ?_) go
    rw [spec_Keys_int.l1, if_neg (by omega)]
    simp only [Option.bind_some, List.nil_append, List.length_nil]
    rw [if_pos (by omega), if_pos (by omega), Int.toNat_natCast, if_pos (by rw [List.length_take]; omega), if_pos (by omega), if_pos (by omega), if_pos (by rw [List.length_take]; omega), rdI hi, if_pos (by simp; omega), e, Small.w64s i (by omega)]
  | succ n ih =>
    intro j hj hb
    have hjl : j < (SetW.ks (l.take i)).length := by omega
    by_cases c : (SetW.ks (l.take i))[j] < l[i]
    · refine Ev.step (fun k => ?_) (ih (j + 1) (by omega) (fun m hm h => by
        by_cases e : m = j
        · subst e; exact c
        · exact hb m hm (by omega)))
      rw [spec_Keys_int.l1, if_pos (by omega), if_pos (by omega), if_pos (by omega), if_pos (by omega), rdI hi, rdI hjl, if_pos c, Small.w64s j (by omega)]
    · have e := fin j (by omega) hb (fun _ => c)
      refine Ev.step (fun k => ?_) go
      rw [spec_Keys_int.l1, if_pos (by omega), if_pos (by omega), if_pos (by omega), if_pos (by omega), rdI hi, rdI hjl, if_neg c]
      simp only [Option.bind_some, List.nil_append, List.length_nil]
      rw [if_pos (by omega), Int.toNat_natCast, if_pos (by rw [List.length_take]; omega), if_pos (by rw [List.length_take]; omega), if_pos (by simp; omega), e, Small.w64s i (by omega)]

theorem keys_l0 (l : List Int) (hl : l.length ≤ 4294967296000) (n : Nat) : ∀ i : Nat, i + n = l.length → Ev (fun k => spec_Keys_int.l0 k l (SetW.ks (l.take i)) (i : Int)) (SetW.ks l) := by
  induction n with
  | zero =>
    intro i hi
    rw [List.take_of_length_le (by omega)]
    refine Evs.at1 fun k => ?_
    rw [spec_Keys_int.l0, if_neg (by omega)]
  | succ n ih =>
    intro i hi
    have h : i < l.length := by omega
    have hle : (SetW.ks (l.take i)).length ≤ i := by have := ks_len (l.take i); rw [List.length_take] at this; omega
    have ht : l.take (i + 1) = l.take i ++ [l[i]] := List.take_succ_eq_append_getElem h
    have hk := inI_f (SetW.ks (l.take i)) l[i] (by omega)
    by_cases c : l[i] ∈ l.take i
    · rw [decide_eq_true ((SetW.ks_mem _ _).2 c)] at hk
      have e : SetW.ks (l.take (i + 1)) = SetW.ks (l.take i) := SetW.ks_congr fun x => by
        rw [ht, List.mem_append, List.mem_singleton]
        exact ⟨fun h => h.elim id (fun h => by rw [h]; exact c), Or.inl⟩
      have go := ih (i + 1) (by omega)
      rw [e] at go
      refine Ev.step (f := fun k => (spec_keyIn_int.f k (SetW.ks (l.take i)) l[i]).bind fun t225 => (if t225 = true then (spec_Keys_int.l0 k l (SetW.ks (l.take i)) ((i + 1 : Nat) : Int)) else (spec_Keys_int.l1 k l (SetW.ks (l.take i)) (i : Int) 0))) (fun k => ?_) (Ev.bind hk (Evs.yes rfl go))
      rw [spec_Keys_int.l0, if_pos (by omega), if_pos (by omega), rdI h, Small.w64s i (by omega)]
    · rw [decide_eq_false (fun h' => c ((SetW.ks_mem _ _).1 h'))] at hk
      have go := keys_l1 l hl i h c _ (ih (i + 1) (by omega)) (SetW.ks (l.take i)).length 0 (by omega) (fun m _ hm => absurd hm (by omega))
      refine Ev.step (f := fun k => (spec_keyIn_int.f k (SetW.ks (l.take i)) l[i]).bind fun t225 => (if t225 = true then (spec_Keys_int.l0 k l (SetW.ks (l.take i)) ((i + 1 : Nat) : Int)) else (spec_Keys_int.l1 k l (SetW.ks (l.take i)) (i : Int) 0))) (fun k => ?_) (Ev.bind hk (Evs.no (by simp) go))
      rw [spec_Keys_int.l0, if_pos (by omega), if_pos (by omega), rdI h, Small.w64s i (by omega)]
theorem keys_f (l : List Int) (hl : l.length ≤ 4294967296000) : Ev (fun k => spec_Keys_int.f k l) (SetW.ks l) := by
  have := keys_l0 l hl l.length 0 (by omega)
  rw [List.take_zero, ks_nil] at this
  exact this
theorem both_l0 (l m : List Int) (hl : l.length ≤ 4294967296000) (hm : m.length ≤ 4294967296000) (n : Nat) : ∀ i : Nat, i + n = l.length → Ev (fun k => spec_KeysBoth_int.l0 k l m ((l.take i).filter fun x => decide (x ∈ m)) (i : Int)) (SetW.ks (l.filter fun x => decide (x ∈ m))) := by
  induction n with
  | zero =>
    intro i hi
    rw [List.take_of_length_le (by omega)]
    have hk := keys_f (l.filter fun x => decide (x ∈ m)) (by have := List.length_filter_le (fun x => decide (x ∈ m)) l; omega)
    refine Ev.step (f := fun k => (spec_Keys_int.f k (l.filter fun x => decide (x ∈ m))).bind fun t => some t) (fun k => ?_) (Ev.bind hk (Ev.now _))
    rw [spec_KeysBoth_int.l0, if_neg (by omega)]
  | succ n ih =>
    intro i hi
    have h : i < l.length := by omega
    have ht : l.take (i + 1) = l.take i ++ [l[i]] := List.take_succ_eq_append_getElem h
    have hk := inI_f m l[i] hm
    have hle := List.length_filter_le (fun x => decide (x ∈ m)) (l.take i)
    rw [List.length_take] at hle
    have go := ih (i + 1) (by omega)
    rw [ht, List.filter_append] at go
    by_cases c : l[i] ∈ m
    · rw [decide_eq_true c] at hk
      rw [List.filter_cons_of_pos (by simpa using c), List.filter_nil] at go
      refine Ev.step (f := fun k => (spec_keyIn_int.f k m l[i]).bind fun t => (if t = true then (if ((l.take i).filter fun x => decide (x ∈ m)).length < 17592186044416 then (spec_KeysBoth_int.l0 k l m (((l.take i).filter fun x => decide (x ∈ m)) ++ [l[i]]) ((i + 1 : Nat) : Int)) else none) else (spec_KeysBoth_int.l0 k l m ((l.take i).filter fun x => decide (x ∈ m)) ((i + 1 : Nat) : Int)))) (fun k => ?_) (Ev.bind hk (Evs.yes rfl (Evs.yes (by omega) go)))
      rw [spec_KeysBoth_int.l0, if_pos (by omega), if_pos (by omega), rdI h, Small.w64s i (by omega)]
    · rw [decide_eq_false c] at hk
      rw [List.filter_cons_of_neg (by simpa using c), List.filter_nil, List.append_nil] at go
      refine Ev.step (f := fun k => (spec_keyIn_int.f k m l[i]).bind fun t => (if t = true then (if ((l.take i).filter fun x => decide (x ∈ m)).length < 17592186044416 then (spec_KeysBoth_int.l0 k l m (((l.take i).filter fun x => decide (x ∈ m)) ++ [l[i]]) ((i + 1 : Nat) : Int)) else none) else (spec_KeysBoth_int.l0 k l m ((l.take i).filter fun x => decide (x ∈ m)) ((i + 1 : Nat) : Int)))) (fun k => ?_) (Ev.bind hk (Evs.no (by simp) go))
      rw [spec_KeysBoth_int.l0, if_pos (by omega), if_pos (by omega), rdI h, Small.w64s i (by omega)]
theorem both_f (l m : List Int) (hl : l.length ≤ 4294967296000) (hm : m.length ≤ 4294967296000) : Ev (fun k => spec_KeysBoth_int.f k l m) (SetW.ks (l.filter fun x => decide (x ∈ m))) := by
  have := both_l0 l m hl hm l.length 0 (by omega)
  exact this

theorem less_l0 (l m : List Int) (hl : l.length ≤ 4294967296000) (hm : m.length ≤ 4294967296000) (n : Nat) : ∀ i : Nat, i + n = l.length → Ev (fun k => spec_KeysLess_int.l0 k l m ((l.take i).filter fun x => !decide (x ∈ m)) (i : Int)) (SetW.ks (l.filter fun x => !decide (x ∈ m))) := by
  induction n with
  | zero =>
    intro i hi
    rw [List.take_of_length_le (by omega)]
    have hk := keys_f (l.filter fun x => !decide (x ∈ m)) (by have := List.length_filter_le (fun x => !decide (x ∈ m)) l; omega)
    refine Ev.step (f := fun k => (spec_Keys_int.f k (l.filter fun x => !decide (x ∈ m))).bind fun t => some t) (fun k => ?_) (Ev.bind hk (Ev.now _))
    rw [spec_KeysLess_int.l0, if_neg (by omega)]
  | succ n ih =>
    intro i hi
    have h : i < l.length := by omega
    have ht : l.take (i + 1) = l.take i ++ [l[i]] := List.take_succ_eq_append_getElem h
    have hk := inI_f m l[i] hm
    have hle := List.length_filter_le (fun x => !decide (x ∈ m)) (l.take i)
    rw [List.length_take] at hle
    have go := ih (i + 1) (by omega)
    rw [ht, List.filter_append] at go
    by_cases c : l[i] ∈ m
    · rw [decide_eq_true c] at hk
      rw [List.filter_cons_of_neg (by simpa using c), List.filter_nil, List.append_nil] at go
      refine Ev.step (f := fun k => (spec_keyIn_int.f k m l[i]).bind fun t => (if t = true then (spec_KeysLess_int.l0 k l m ((l.take i).filter fun x => !decide (x ∈ m)) ((i + 1 : Nat) : Int)) else (if ((l.take i).filter fun x => !decide (x ∈ m)).length < 17592186044416 then (spec_KeysLess_int.l0 k l m (((l.take i).filter fun x => !decide (x ∈ m)) ++ [l[i]]) ((i + 1 : Nat) : Int)) else none))) (fun k => ?_) (Ev.bind hk (Evs.yes rfl go))
      rw [spec_KeysLess_int.l0, if_pos (by omega), if_pos (by omega), rdI h, Small.w64s i (by omega)]
    · rw [decide_eq_false c] at hk
      rw [List.filter_cons_of_pos (by simpa using c), List.filter_nil] at go
      refine Ev.step (f := fun k => (spec_keyIn_int.f k m l[i]).bind fun t => (if t = true then (spec_KeysLess_int.l0 k l m ((l.take i).filter fun x => !decide (x ∈ m)) ((i + 1 : Nat) : Int)) else (if ((l.take i).filter fun x => !decide (x ∈ m)).length < 17592186044416 then (spec_KeysLess_int.l0 k l m (((l.take i).filter fun x => !decide (x ∈ m)) ++ [l[i]]) ((i + 1 : Nat) : Int)) else none))) (fun k => ?_) (Ev.bind hk (Evs.no (by simp) (Evs.yes (by omega) go)))
      rw [spec_KeysLess_int.l0, if_pos (by omega), if_pos (by omega), rdI h, Small.w64s i (by omega)]
theorem less_f (l m : List Int) (hl : l.length ≤ 4294967296000) (hm : m.length ≤ 4294967296000) : Ev (fun k => spec_KeysLess_int.f k l m) (SetW.ks (l.filter fun x => !decide (x ∈ m))) := by
  have := less_l0 l m hl hm l.length 0 (by omega)
  exact this
theorem same_l0 (l m : List Int) (hl : l.length ≤ 4294967296000) (he : l.length = m.length) (n : Nat) : ∀ i : Nat, i + n = l.length → Ev (fun k => spec_KeysSame_int.l0 k l m (i : Int)) (decide (l.drop i = m.drop i)) := by
  induction n with
  | zero =>
    intro i hi
    rw [List.drop_eq_nil_of_le (by omega), List.drop_eq_nil_of_le (by omega), decide_eq_true rfl]
    refine Evs.at1 fun k => ?_
    rw [spec_KeysSame_int.l0, if_neg (by omega)]
  | succ n ih =>
    intro i hi
    have h : i < l.length := by omega
    have h' : i < m.length := by omega
    rw [List.drop_eq_getElem_cons h, List.drop_eq_getElem_cons h']
    by_cases c : l[i] = m[i]
    · rw [show decide (l[i] :: l.drop (i + 1) = m[i] :: m.drop (i + 1)) = decide (l.drop (i + 1) = m.drop (i + 1)) from decide_eq_decide.2 (by rw [c]; exact ⟨fun e => (List.cons.inj e).2, fun e => by rw [e]⟩)]
      refine Ev.step (fun k => ?_) (ih (i + 1) (by omega))
      rw [spec_KeysSame_int.l0, if_pos (by omega), if_pos (by omega), if_pos (by omega), rdI h, rdI h', if_pos c, Small.w64s i (by omega)]
    · rw [decide_eq_false (fun e => c (List.cons.inj e).1)]
      refine Evs.at1 fun k => ?_
      rw [spec_KeysSame_int.l0, if_pos (by omega), if_pos (by omega), if_pos (by omega), rdI h, rdI h', if_neg c]
theorem same_f (l m : List Int) (hl : l.length ≤ 4294967296000) : Ev (fun k => spec_KeysSame_int.f k l m) (decide (l = m)) := by
  by_cases he : l.length = m.length
  · have := same_l0 l m hl he l.length 0 (by omega)
    exact Evs.yes (by omega) this
  · rw [decide_eq_false (fun e => he (by rw [e]))]
    exact Evs.no (by omega) (Ev.now _)
theorem same_self (l : List Int) (hl : l.length ≤ 4294967296000) : Ev (fun k => spec_KeysSame_int.f k l l) true := by
  have := same_f l l hl
  rwa [decide_eq_true rfl] at this
theorem okS {l : List Int} (h : l.length ≤ 4294967296) (hw : ∀ x ∈ l, (Lit.int .i64 x).wf = true) : SetW.okSet l = true := by
  unfold SetW.okSet
  rw [decide_eq_true h, List.all_eq_true.2 hw]; rfl

theorem ks_one (x : Int) : SetW.ks [x] = [x] := (ks_unique (S := [x]) (L := [x]) (by simp) (fun _ => Iff.rfl)).symm

theorem ios_some (A : Option Addr) (c : Nat) (a : List Int) (w : World) (hr : Kd.C (Kd.int .i64) w A a.length a) (hS : SetW.Small a) (hL : a ≠ []) :
    Calls Try.prog 8 #[.int .i64 14, .slice A a.length c, .slice none 0 0, .slice none 0 0] w fun e w' => ∃ x, x ∈ a ∧ ∃ (A0 : Option Addr) (c0 : Nat) (A1 : Option Addr) (c1 : Nat) (v2 : Value), e = .returned (.tuple #[.slice A0 1 c0, .slice A1 (SetW.ks (a.filter fun y => !decide (y = x))).length c1, v2, .bool true]) ∧
      1 ≤ c0 ∧ (SetW.ks (a.filter fun y => !decide (y = x))).length ≤ c1 ∧ Kd.C (Kd.int .i64) w' A0 1 [x] ∧ Kd.C (Kd.int .i64) w' A1 (SetW.ks (a.filter fun y => !decide (y = x))).length (SetW.ks (a.filter fun y => !decide (y = x))) ∧ Below w.heap.size w w' := by
  have HC := Aside0.mk (SetW.op_14 A c a none 0 [] none 0 [] w hr (Kd.C_nil _ _) (Kd.C_nil _ _) hS ⟨by simp, by simp⟩ ⟨by simp, by simp⟩ hL)
  simp only [List.length_nil] at HC
  clear hr hS hL
  go_enter Try.func8, Try.ntmps8
  go_wp2_with (go_at_call 21; refine (HC.out).mono ?_; rintro e w1 ⟨x, hx, v0, v1, v2, rfl, ht⟩)
  (try simp only [Exit.inBlock, Exit.then]); refine bodyPost_ret (SetW.results_tmp4 rfl _ _ _) rfl ?_
  obtain ⟨t0, t1, t2, tb⟩ := ht
  rw [ks_one] at t0
  obtain ⟨A0, c0, rfl⟩ := Kd.R_slice t0
  obtain ⟨A1, c1, rfl⟩ := Kd.R_slice t1
  exact ⟨x, hx, A0, c0, A1, c1, v2, rfl, (Kd.R_reads' t0).2.1, (Kd.R_reads' t1).2.1, (Kd.R_reads' t0).2.2, (Kd.R_reads' t1).2.2, tb⟩
theorem ios_none (A : Option Addr) (c : Nat) (w : World) (hr : Kd.C (Kd.int .i64) w A ([] : List Int).length []) :
    Calls Try.prog 8 #[.int .i64 14, .slice A 0 c, .slice none 0 0, .slice none 0 0] w fun e w' => ∃ (v0 : Value) (A1 : Option Addr) (c1 : Nat) (v2 : Value), e = .returned (.tuple #[v0, .slice A1 0 c1, v2, .bool false]) ∧ Below w.heap.size w w' := by
  have HC := Aside0.mk (SetW.op_14n A c [] none 0 [] none 0 [] w hr (Kd.C_nil _ _) (Kd.C_nil _ _) ⟨by simp, by simp⟩ ⟨by simp, by simp⟩ ⟨by simp, by simp⟩ rfl)
  simp only [List.length_nil] at HC
  clear hr
  go_enter Try.func8, Try.ntmps8
  go_wp2_with (go_at_call 21; refine (HC.out).mono ?_; rintro e w1 ⟨v0, v1, v2, rfl, ht⟩)
  (try simp only [Exit.inBlock, Exit.then]); refine bodyPost_ret (SetW.results_tmp4 rfl _ _ _) rfl ?_
  obtain ⟨t0, t1, t2, tb⟩ := ht
  rw [ks_nil] at t1
  obtain ⟨A1, c1, rfl⟩ := Kd.R_slice t1
  exact ⟨v0, A1, c1, v2, rfl, tb⟩
theorem ios_one (w : World) :
    Calls Try.prog 8 #[.int .i64 14, .slice (some ⟨w.heap.size, 0, none⟩) 1 1, .slice none 0 0, .slice none 0 0] (w.alloc (.cells #[.int .i64 1] 3)) fun e w' => ∃ v0 v1 v2 : Value, e = .returned (.tuple #[v0, v1, v2, .bool true]) ∧ Below w.heap.size w w' :=
  (ios_some (some ⟨w.heap.size, 0, none⟩) 1 [1] (w.alloc (.cells #[.int .i64 1] 3)) (SetW.one_C w 3 1) ⟨by decide, by decide⟩ (by simp)).mono fun e w' h => by
    obtain ⟨x, _, A0, c0, A1, c1, v2, rfl, _, _, _, _, hb⟩ := h
    exact ⟨_, _, _, rfl, below_step (below_alloc (Below.refl _ _) _) hb⟩

theorem both_calls (l : List Int) (x : Int) (A : Option Addr) (c : Nat) (A0 : Option Addr) (c0 : Nat) (w : World) (hx : x ∈ l) (hl : l.length ≤ 2147483647) (hr : Kd.C (Kd.int .i64) w A l.length l) (hc : l.length ≤ c) (hr0 : Kd.C (Kd.int .i64) w A0 1 [x]) (hc0 : 1 ≤ c0) :
    Calls Try.prog 14 #[.slice A l.length c, .slice A0 1 c0] w fun e w' => ∃ (A4 : Option Addr) (c4 : Nat), e = .returned (.slice A4 1 c4) ∧ Below w.heap.size w w' := by
  obtain ⟨K, hK⟩ := both_f l [x] (by omega) (by simp)
  have e : SetW.ks (l.filter fun y => decide (y ∈ [x])) = [x] := by
    refine (SetW.ks_congr (M := [x]) fun y => ?_).trans (ks_one x)
    rw [List.mem_filter, decide_eq_true_eq, List.mem_singleton]
    exact ⟨fun h => h.2, fun h => ⟨by rw [h]; exact hx, h⟩⟩
  have h := hK K (Nat.le_refl _)
  rw [e] at h
  refine (spec_KeysBoth_int.calls K A c l A0 c0 [x] [x] w hr hc hr0 hc0 h).mono fun e w' hq => ?_
  obtain ⟨v, rfl, hR, hb⟩ := hq
  obtain ⟨A4, c4, rfl⟩ := Kd.R_slice hR
  exact ⟨A4, c4, rfl, hb⟩
theorem less_calls (l : List Int) (x : Int) (A : Option Addr) (c : Nat) (A0 : Option Addr) (c0 : Nat) (w : World) (hl : l.length ≤ 2147483647) (hr : Kd.C (Kd.int .i64) w A l.length l) (hc : l.length ≤ c) (hr0 : Kd.C (Kd.int .i64) w A0 1 [x]) (hc0 : 1 ≤ c0) :
    Calls Try.prog 15 #[.slice A l.length c, .slice A0 1 c0] w fun e w' => ∃ (A5 : Option Addr) (c5 : Nat), e = .returned (.slice A5 (SetW.ks (l.filter fun y => !decide (y = x))).length c5) ∧ (SetW.ks (l.filter fun y => !decide (y = x))).length ≤ c5 ∧
      Kd.C (Kd.int .i64) w' A5 (SetW.ks (l.filter fun y => !decide (y = x))).length (SetW.ks (l.filter fun y => !decide (y = x))) ∧ Below w.heap.size w w' := by
  obtain ⟨K, hK⟩ := less_f l [x] (by omega) (by simp)
  have e : (l.filter fun y => !decide (y ∈ [x])) = l.filter fun y => !decide (y = x) := List.filter_congr fun y _ => by rw [show decide (y ∈ [x]) = decide (y = x) from decide_eq_decide.2 List.mem_singleton]
  have h := hK K (Nat.le_refl _)
  rw [e] at h
  refine (spec_KeysLess_int.calls K A c l A0 c0 [x] _ w hr hc hr0 hc0 h).mono fun e w' hq => ?_
  obtain ⟨v, rfl, hR, hb⟩ := hq
  obtain ⟨A4, c4, rfl⟩ := Kd.R_slice hR
  exact ⟨A4, c4, rfl, (Kd.R_reads' hR).2.1, (Kd.R_reads' hR).2.2, hb⟩
theorem same_calls (r : List Int) (hl : r.length ≤ 4294967296000) (A : Option Addr) (c : Nat) (A0 : Option Addr) (c0 : Nat) (w : World) (hr : Kd.C (Kd.int .i64) w A r.length r) (hc : r.length ≤ c) (hr0 : Kd.C (Kd.int .i64) w A0 r.length r) (hc0 : r.length ≤ c0) :
    Calls Try.prog 10 #[.slice A r.length c, .slice A0 r.length c0] w fun e w' => e = .returned (.bool true) ∧ Below w.heap.size w w' := by
  obtain ⟨K, hK⟩ := same_self r hl
  refine (spec_KeysSame_int.calls K A c r A0 c0 r true w hr hc hr0 hc0 (hK K (Nat.le_refl _))).mono fun e w' hq => ?_
  obtain ⟨rfl, nd, rfl⟩ := hq
  exact ⟨rfl, pw_below_drewN (Below.refl _ _) nd⟩

set_option maxRecDepth 100000 in
set_option maxHeartbeats 4000000 in
theorem pop_law (A : Option Addr) (c : Nat) (l : List Int) (w : World) (hr : Kd.C (Kd.int .i64) w A l.length l) (hc : l.length ≤ c) (wl : ∀ x ∈ l, (Lit.int .i64 x).wf = true) :
    Calls Try.prog 5 #[.slice A l.length c] w fun e w' => e = .returned (.bool true) ∧ Below w.heap.size w w' := by
  by_cases h0 : l.length ≤ 2147483647
  · have p : (2147483647 < (l.length : Int)) = False := eq_false (by omega)
    by_cases hL : l = []
    · subst hL
      have HC := Aside0.mk (ios_none A c w hr)
      clear hr hc wl h0 p
      go_enter Try.func5, Try.ntmps5
      go_wp2_with (first
        | (go_at_call 8; (with_reducible refine (HC.out).mono ?_); rintro e w1 ⟨v0, A1, c1, v2, rfl, hb1⟩; have HB1 := Aside0.mk hb1; have HC2 := Aside0.mk (ios_one w1); clear hb1 HC)
        | (go_at_call 8; (with_reducible refine (HC2.out).mono ?_); rintro e w2 ⟨u0, u1, u2, rfl, hb2⟩; have HB2 := Aside0.mk (below_step HB1.out hb2); clear hb2 HC2))
      go_ret
      exact ⟨rfl, HB2.out⟩
    · have q : ((l.length : Int) == 0) = false := beq_eq_false_iff_ne.2 (fun h => hL (List.eq_nil_of_length_eq_zero (by omega)))
      have HC := Aside0.mk (ios_some A c l w hr ⟨by omega, wl⟩ hL)
      have HR := Aside0.mk hr
      have HCc := Aside0.mk hc
      have HL := Aside0.mk h0
      clear hr hc wl h0 hL
      go_enter Try.func5, Try.ntmps5
      go_wp2_with (first
        | (go_at_call 8; (with_reducible refine (HC.out).mono ?_); rintro e w1 ⟨x, hx, A0, c0, A1, c1, v2, rfl, k0, k1, r0, r1, hb1⟩; have HX := Aside0.mk hx; have K0 := Aside0.mk k0; have K1 := Aside0.mk k1; have R0 := Aside0.mk r0; have R1 := Aside0.mk r1; have HB1 := Aside0.mk hb1; have HC2 := Aside0.mk (ios_one w1); clear hx k0 k1 r0 r1 hb1 HC)
        | (go_at_call 8; (with_reducible refine (HC2.out).mono ?_); rintro e w2 ⟨u0, u1, u2, rfl, hb2⟩; have HB2 := Aside0.mk (below_step HB1.out hb2); have S0 := Aside0.mk (Kd.C_below R0.out hb2); have S1 := Aside0.mk (Kd.C_below R1.out hb2); have HD := Aside0.mk (both_calls l x A c A0 c0 w2 HX.out HL.out (Kd.C_below HR.out HB2.out) HCc.out S0.out K0.out); clear hb2 HC2)
        | (go_at_call 14; (with_reducible refine (HD.out).mono ?_); rintro e w3 ⟨A4, c4, rfl, hb3⟩; have HB3 := Aside0.mk (below_step HB2.out hb3); have T0 := Aside0.mk (Kd.C_below S0.out hb3); have T1 := Aside0.mk (Kd.C_below S1.out hb3); have HE := Aside0.mk (less_calls l x A c A0 c0 w3 HL.out (Kd.C_below HR.out HB3.out) HCc.out T0.out K0.out); clear hb3 HD)
        | (go_at_call 15; (with_reducible refine (HE.out).mono ?_); rintro e w4 ⟨A5, c5, rfl, k5, r5, hb4⟩; have HB4 := Aside0.mk (below_step HB3.out hb4); have HF := Aside0.mk (same_calls (SetW.ks (l.filter fun y => !decide (y = x))) (by have := ks_len (l.filter fun y => !decide (y = x)); have := List.length_filter_le (fun y => !decide (y = x)) l; have := HL.out; omega) A1 c1 A5 c5 w4 (Kd.C_below T1.out hb4) K1.out r5 k5); clear k5 r5 hb4 HE)
        | (go_at_call 10; (with_reducible refine (HF.out).mono ?_); rintro e w5 ⟨rfl, hb5⟩; have HB5 := Aside0.mk (below_step HB4.out hb5); clear hb5 HF))
      go_ret
      exact ⟨rfl, HB5.out⟩
  · have p : (2147483647 < (l.length : Int)) = True := eq_true (by omega)
    clear hr hc wl h0
    go_enter Try.func5, Try.ntmps5
    go_wp2
    go_ret
    exact ⟨rfl, Below.refl _ _⟩
end Go.Proofs.Ytmlhgafinkcfcaa.Pure
