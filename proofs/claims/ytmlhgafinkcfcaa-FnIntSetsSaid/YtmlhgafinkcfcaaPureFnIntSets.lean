/- Sets of numbers: what the given definitions tell is what the operations tell. -/
import Derived.Test.YtmlhgafinkcfcaaPFnIntSetsx2
import Derived.Test.YtmlhgafinkcfcaaTxt
import Derived.Test.YtmlhgafinkcfcaaEvs
set_option linter.unusedVariables false
set_option linter.unusedSimpArgs false
namespace Go.Proofs.Ytmlhgafinkcfcaa.Pure
open Go Go.RowKit Go.Proofs.Ytmlhgafinkcfcaa Go.Proofs.Ytmlhgafinkcfcaa.PFnIntSets Go.Proofs.YtmlhgafinkcfcaaW.PrintWords Go.Proofs.YtmlhgafinkcfcaaW.PrintLast Go.Proofs.Ytmlhgafinkcfcaa.Txt

/-! ### sets as sorted lists: the given definitions (all they do is pure) -/
theorem rdI {xs : List Int} {k : Nat} (h : k < xs.length) : rd xs (k : Int) = xs[k] := SetW.rd_at h
theorem uniq_len (l : List Int) : (SetW.uniq l).length ≤ l.length := by
  induction l with
  | nil => exact Nat.le_refl _
  | cons x l ih =>
    unfold SetW.uniq
    split
    · rw [List.length_cons]; omega
    · rw [List.length_cons, List.length_cons]; omega
theorem ks_len (l : List Int) : (SetW.ks l).length ≤ l.length := by rw [SetW.ks_length]; exact uniq_len l
theorem ks_nil : SetW.ks [] = [] := List.eq_nil_of_length_eq_zero (by have := ks_len []; simpa using this)
theorem ks_unique {S L : List Int} (h1 : S.Pairwise (· < ·)) (h2 : ∀ x, x ∈ S ↔ x ∈ L) : S = SetW.ks L := by
  rw [← SetW.ks_of (S := S) (L := L) (h1.imp fun h => by omega) h2]
  exact (List.mergeSort_of_pairwise (h1.imp fun {a b} h => by simp only [SetW.leI, decide_eq_true_eq]; omega)).symm
theorem ks_sorted (L : List Int) : (SetW.ks L).Pairwise (· < ·) := by
  have tr : ∀ a b c : Int, SetW.leI a b = true → SetW.leI b c = true → SetW.leI a c = true := fun a b c h1 h2 => by simp only [SetW.leI, decide_eq_true_eq] at *; omega
  have tot : ∀ a b : Int, (SetW.leI a b || SetW.leI b a) = true := fun a b => by simp only [SetW.leI, Bool.or_eq_true, decide_eq_true_eq]; omega
  have h := List.pairwise_mergeSort tr tot (SetW.uniq L)
  have hn : (SetW.ks L).Nodup := (List.mergeSort_perm (SetW.uniq L) SetW.leI).nodup_iff.2 (SetW.uniq_nodup L)
  have := List.Pairwise.and h hn
  exact this.imp fun {a b} h => by
    obtain ⟨h1, h2⟩ := h
    simp only [SetW.leI, decide_eq_true_eq] at h1
    have : a ≠ b := h2
    omega

theorem inI_l0 (l : List Int) (a : Int) (hl : l.length ≤ 4294967296000) (n : Nat) : ∀ i : Nat, i + n = l.length → Ev (fun k => spec_keyIn_int.l0 k l a (i : Int)) (decide (a ∈ l.drop i)) := by
  induction n with
  | zero =>
    intro i hi
    rw [List.drop_eq_nil_of_le (by omega)]
    refine Evs.at1 fun k => ?_
    simp only [spec_keyIn_int.l0]
    rw [if_neg (by omega)]; simp
  | succ n ih =>
    intro i hi
    have h : i < l.length := by omega
    rw [List.drop_eq_getElem_cons h]
    by_cases e : l[i] = a
    · refine Evs.at1 fun k => ?_
      simp only [spec_keyIn_int.l0]
      rw [if_pos (by omega), if_pos (by omega), rdI h, if_pos e]; simp [e]
    · rw [show decide (a ∈ l[i] :: l.drop (i + 1)) = decide (a ∈ l.drop (i + 1)) from decide_eq_decide.2 (by rw [List.mem_cons]; exact ⟨fun h => h.resolve_left (fun h => e h.symm), Or.inr⟩)]
      refine Ev.step (fun k => ?_) (ih (i + 1) (by omega))
      simp only [spec_keyIn_int.l0]
      rw [if_pos (by omega), if_pos (by omega), rdI h, if_neg e, Small.w64s i (by omega)]
theorem inI_f (l : List Int) (a : Int) (hl : l.length ≤ 4294967296000) : Ev (fun k => spec_keyIn_int.f k l a) (decide (a ∈ l)) := by
  have := inI_l0 l a hl l.length 0 (by omega)
  exact this

/-- One more, at its place. -/
theorem put_ks (L : List Int) (x : Int) (at_ : Nat) (hx : x ∉ L) (ha : at_ ≤ (SetW.ks L).length) (h1 : ∀ j (h : j < (SetW.ks L).length), j < at_ → (SetW.ks L)[j] < x) (h2 : ∀ h : at_ < (SetW.ks L).length, ¬ (SetW.ks L)[at_] < x) :
    (SetW.ks L).take at_ ++ [x] ++ (SetW.ks L).drop at_ = SetW.ks (L ++ [x]) := by
  have hs := ks_sorted L
  have hs' : ((SetW.ks L).take at_ ++ (SetW.ks L).drop at_).Pairwise (· < ·) := by rw [List.take_append_drop]; exact hs
  rw [List.pairwise_append] at hs'
  obtain ⟨s1, s2, s3⟩ := hs'
  have t1 : ∀ y ∈ (SetW.ks L).take at_, y < x := fun y hy => by
    obtain ⟨j, hj, rfl⟩ := List.getElem_of_mem hy
    rw [List.length_take] at hj
    rw [List.getElem_take]
    exact h1 j (by omega) (by omega)
  have t2 : ∀ y ∈ (SetW.ks L).drop at_, x < y := fun y hy => by
    have hne : y ≠ x := fun e => hx (by rw [← e]; exact (SetW.ks_mem L y).1 (List.mem_of_mem_drop hy))
    obtain ⟨j, hj, rfl⟩ := List.getElem_of_mem hy
    rw [List.length_drop] at hj
    have hlt : at_ < (SetW.ks L).length := by omega
    have h0 := h2 hlt
    rw [List.getElem_drop] at hne ⊢
    by_cases e : j = 0
    · subst e; simp only [Nat.add_zero] at hne ⊢; omega
    · have := List.pairwise_iff_getElem.1 hs at_ (at_ + j) hlt (by omega) (by omega)
      omega
  refine ks_unique ?_ fun y => ?_
  · rw [List.append_assoc, List.pairwise_append]
    refine ⟨s1, List.pairwise_cons.2 ⟨t2, s2⟩, fun a ha b hb => ?_⟩
    rcases List.mem_cons.1 hb with rfl | hb
    · exact t1 a ha
    · exact s3 a ha b hb
  · have e : y ∈ SetW.ks L ↔ y ∈ (SetW.ks L).take at_ ∨ y ∈ (SetW.ks L).drop at_ := by rw [← List.mem_append, List.take_append_drop]
    rw [List.mem_append, List.mem_append, List.mem_append, List.mem_singleton, ← SetW.ks_mem L, e]
    constructor
    · rintro ((h | h) | h)
      · exact Or.inl (Or.inl h)
      · exact Or.inr h
      · exact Or.inl (Or.inr h)
    · rintro ((h | h) | h)
      · exact Or.inl (Or.inl h)
      · exact Or.inr h
      · exact Or.inl (Or.inr h)

theorem keys_l1 (l : List Int) (hl : l.length ≤ 4294967296000) (i : Nat) (hi : i < l.length) (hx : l[i] ∉ l.take i) (r : List Int) (go : Ev (fun k => spec_Keys_int.l0 k l (SetW.ks (l.take (i + 1))) ((i + 1 : Nat) : Int)) r) (n : Nat) :
    ∀ j : Nat, j + n = (SetW.ks (l.take i)).length → (∀ m (h : m < (SetW.ks (l.take i)).length), m < j → (SetW.ks (l.take i))[m] < l[i]) → Ev (fun k => spec_Keys_int.l1 k l (SetW.ks (l.take i)) (i : Int) (j : Int)) r := by
  have hle : (SetW.ks (l.take i)).length ≤ i := by have := ks_len (l.take i); rw [List.length_take] at this; omega
  have ht : l.take (i + 1) = l.take i ++ [l[i]] := List.take_succ_eq_append_getElem hi
  have fin : ∀ j : Nat, j ≤ (SetW.ks (l.take i)).length → (∀ m (h : m < (SetW.ks (l.take i)).length), m < j → (SetW.ks (l.take i))[m] < l[i]) → (∀ h : j < (SetW.ks (l.take i)).length, ¬ (SetW.ks (l.take i))[j] < l[i]) →
      ((SetW.ks (l.take i)).take j ++ [l[i]]) ++ (SetW.ks (l.take i)).drop j = SetW.ks (l.take (i + 1)) := fun j h0 h1 h2 => by rw [ht]; exact put_ks _ _ j hx h0 h1 h2
  induction n with
  | zero =>
    intro j hj hb
    have e := fin j (by omega) hb (fun h => absurd h (by omega))
    refine Ev.step (fun k => ?_) go
    rw [spec_Keys_int.l1, if_neg (by omega)]
    simp only [Option.bind_some, List.nil_append, List.length_nil]
    rw [if_pos (by omega), if_pos (by omega), Int.toNat_natCast, if_pos (by rw [List.length_take]; omega), if_pos (by omega), if_pos (by omega), if_pos (by rw [List.length_take]; omega), rdI hi, if_pos (by simp; omega), e, Small.w64s i (by omega)]
  | succ n ih =>
    intro j hj hb
    have hjl : j < (SetW.ks (l.take i)).length := by omega
    by_cases c : (SetW.ks (l.take i))[j] < l[i]
    · refine Ev.step (fun k => ?_) (ih (j + 1) (by omega) (fun m hm h => by
        by_cases e : m = j
        · subst e; exact c
        · exact hb m hm (by omega)))
      rw [spec_Keys_int.l1, if_pos (by omega), if_pos (by omega), if_pos (by omega), if_pos (by omega), rdI hi, rdI hjl, if_pos c, Small.w64s j (by omega)]
    · have e := fin j (by omega) hb (fun _ => c)
      refine Ev.step (fun k => ?_) go
      rw [spec_Keys_int.l1, if_pos (by omega), if_pos (by omega), if_pos (by omega), if_pos (by omega), rdI hi, rdI hjl, if_neg c]
      simp only [Option.bind_some, List.nil_append, List.length_nil]
      rw [if_pos (by omega), Int.toNat_natCast, if_pos (by rw [List.length_take]; omega), if_pos (by rw [List.length_take]; omega), if_pos (by simp; omega), e, Small.w64s i (by omega)]

theorem keys_l0 (l : List Int) (hl : l.length ≤ 4294967296000) (n : Nat) : ∀ i : Nat, i + n = l.length → Ev (fun k => spec_Keys_int.l0 k l (SetW.ks (l.take i)) (i : Int)) (SetW.ks l) := by
  induction n with
  | zero =>
    intro i hi
    rw [List.take_of_length_le (by omega)]
    refine Evs.at1 fun k => ?_
    rw [spec_Keys_int.l0, if_neg (by omega)]
  | succ n ih =>
    intro i hi
    have h : i < l.length := by omega
    have hle : (SetW.ks (l.take i)).length ≤ i := by have := ks_len (l.take i); rw [List.length_take] at this; omega
    have ht : l.take (i + 1) = l.take i ++ [l[i]] := List.take_succ_eq_append_getElem h
    have hk := inI_f (SetW.ks (l.take i)) l[i] (by omega)
    by_cases c : l[i] ∈ l.take i
    · rw [decide_eq_true ((SetW.ks_mem _ _).2 c)] at hk
      have e : SetW.ks (l.take (i + 1)) = SetW.ks (l.take i) := SetW.ks_congr fun x => by
        rw [ht, List.mem_append, List.mem_singleton]
        exact ⟨fun h => h.elim id (fun h => by rw [h]; exact c), Or.inl⟩
      have go := ih (i + 1) (by omega)
      rw [e] at go
      refine Ev.step (f := fun k => (spec_keyIn_int.f k (SetW.ks (l.take i)) l[i]).bind fun t225 => (if t225 = true then (spec_Keys_int.l0 k l (SetW.ks (l.take i)) ((i + 1 : Nat) : Int)) else (spec_Keys_int.l1 k l (SetW.ks (l.take i)) (i : Int) 0))) (fun k => ?_) (Ev.bind hk (Evs.yes rfl go))
      rw [spec_Keys_int.l0, if_pos (by omega), if_pos (by omega), rdI h, Small.w64s i (by omega)]
    · rw [decide_eq_false (fun h' => c ((SetW.ks_mem _ _).1 h'))] at hk
      have go := keys_l1 l hl i h c _ (ih (i + 1) (by omega)) (SetW.ks (l.take i)).length 0 (by omega) (fun m _ hm => absurd hm (by omega))
      refine Ev.step (f := fun k => (spec_keyIn_int.f k (SetW.ks (l.take i)) l[i]).bind fun t225 => (if t225 = true then (spec_Keys_int.l0 k l (SetW.ks (l.take i)) ((i + 1 : Nat) : Int)) else (spec_Keys_int.l1 k l (SetW.ks (l.take i)) (i : Int) 0))) (fun k => ?_) (Ev.bind hk (Evs.no (by simp) go))
      rw [spec_Keys_int.l0, if_pos (by omega), if_pos (by omega), rdI h, Small.w64s i (by omega)]
theorem keys_f (l : List Int) (hl : l.length ≤ 4294967296000) : Ev (fun k => spec_Keys_int.f k l) (SetW.ks l) := by
  have := keys_l0 l hl l.length 0 (by omega)
  rw [List.take_zero, ks_nil] at this
  exact this
theorem both_l0 (l m : List Int) (hl : l.length ≤ 4294967296000) (hm : m.length ≤ 4294967296000) (n : Nat) : ∀ i : Nat, i + n = l.length → Ev (fun k => spec_KeysBoth_int.l0 k l m ((l.take i).filter fun x => decide (x ∈ m)) (i : Int)) (SetW.ks (l.filter fun x => decide (x ∈ m))) := by
  induction n with
  | zero =>
    intro i hi
    rw [List.take_of_length_le (by omega)]
    have hk := keys_f (l.filter fun x => decide (x ∈ m)) (by have := List.length_filter_le (fun x => decide (x ∈ m)) l; omega)
    refine Ev.step (f := fun k => (spec_Keys_int.f k (l.filter fun x => decide (x ∈ m))).bind fun t => some t) (fun k => ?_) (Ev.bind hk (Ev.now _))
    rw [spec_KeysBoth_int.l0, if_neg (by omega)]
  | succ n ih =>
    intro i hi
    have h : i < l.length := by omega
    have ht : l.take (i + 1) = l.take i ++ [l[i]] := List.take_succ_eq_append_getElem h
    have hk := inI_f m l[i] hm
    have hle := List.length_filter_le (fun x => decide (x ∈ m)) (l.take i)
    rw [List.length_take] at hle
    have go := ih (i + 1) (by omega)
    rw [ht, List.filter_append] at go
    by_cases c : l[i] ∈ m
    · rw [decide_eq_true c] at hk
      rw [List.filter_cons_of_pos (by simpa using c), List.filter_nil] at go
      refine Ev.step (f := fun k => (spec_keyIn_int.f k m l[i]).bind fun t => (if t = true then (if ((l.take i).filter fun x => decide (x ∈ m)).length < 17592186044416 then (spec_KeysBoth_int.l0 k l m (((l.take i).filter fun x => decide (x ∈ m)) ++ [l[i]]) ((i + 1 : Nat) : Int)) else none) else (spec_KeysBoth_int.l0 k l m ((l.take i).filter fun x => decide (x ∈ m)) ((i + 1 : Nat) : Int)))) (fun k => ?_) (Ev.bind hk (Evs.yes rfl (Evs.yes (by omega) go)))
      rw [spec_KeysBoth_int.l0, if_pos (by omega), if_pos (by omega), rdI h, Small.w64s i (by omega)]
    · rw [decide_eq_false c] at hk
      rw [List.filter_cons_of_neg (by simpa using c), List.filter_nil, List.append_nil] at go
      refine Ev.step (f := fun k => (spec_keyIn_int.f k m l[i]).bind fun t => (if t = true then (if ((l.take i).filter fun x => decide (x ∈ m)).length < 17592186044416 then (spec_KeysBoth_int.l0 k l m (((l.take i).filter fun x => decide (x ∈ m)) ++ [l[i]]) ((i + 1 : Nat) : Int)) else none) else (spec_KeysBoth_int.l0 k l m ((l.take i).filter fun x => decide (x ∈ m)) ((i + 1 : Nat) : Int)))) (fun k => ?_) (Ev.bind hk (Evs.no (by simp) go))
      rw [spec_KeysBoth_int.l0, if_pos (by omega), if_pos (by omega), rdI h, Small.w64s i (by omega)]
theorem both_f (l m : List Int) (hl : l.length ≤ 4294967296000) (hm : m.length ≤ 4294967296000) : Ev (fun k => spec_KeysBoth_int.f k l m) (SetW.ks (l.filter fun x => decide (x ∈ m))) := by
  have := both_l0 l m hl hm l.length 0 (by omega)
  exact this

theorem less_l0 (l m : List Int) (hl : l.length ≤ 4294967296000) (hm : m.length ≤ 4294967296000) (n : Nat) : ∀ i : Nat, i + n = l.length → Ev (fun k => spec_KeysLess_int.l0 k l m ((l.take i).filter fun x => !decide (x ∈ m)) (i : Int)) (SetW.ks (l.filter fun x => !decide (x ∈ m))) := by
  induction n with
  | zero =>
    intro i hi
    rw [List.take_of_length_le (by omega)]
    have hk := keys_f (l.filter fun x => !decide (x ∈ m)) (by have := List.length_filter_le (fun x => !decide (x ∈ m)) l; omega)
    refine Ev.step (f := fun k => (spec_Keys_int.f k (l.filter fun x => !decide (x ∈ m))).bind fun t => some t) (fun k => ?_) (Ev.bind hk (Ev.now _))
    rw [spec_KeysLess_int.l0, if_neg (by omega)]
  | succ n ih =>
    intro i hi
    have h : i < l.length := by omega
    have ht : l.take (i + 1) = l.take i ++ [l[i]] := List.take_succ_eq_append_getElem h
    have hk := inI_f m l[i] hm
    have hle := List.length_filter_le (fun x => !decide (x ∈ m)) (l.take i)
    rw [List.length_take] at hle
    have go := ih (i + 1) (by omega)
    rw [ht, List.filter_append] at go
    by_cases c : l[i] ∈ m
    · rw [decide_eq_true c] at hk
      rw [List.filter_cons_of_neg (by simpa using c), List.filter_nil, List.append_nil] at go
      refine Ev.step (f := fun k => (spec_keyIn_int.f k m l[i]).bind fun t => (if t = true then (spec_KeysLess_int.l0 k l m ((l.take i).filter fun x => !decide (x ∈ m)) ((i + 1 : Nat) : Int)) else (if ((l.take i).filter fun x => !decide (x ∈ m)).length < 17592186044416 then (spec_KeysLess_int.l0 k l m (((l.take i).filter fun x => !decide (x ∈ m)) ++ [l[i]]) ((i + 1 : Nat) : Int)) else none))) (fun k => ?_) (Ev.bind hk (Evs.yes rfl go))
      rw [spec_KeysLess_int.l0, if_pos (by omega), if_pos (by omega), rdI h, Small.w64s i (by omega)]
    · rw [decide_eq_false c] at hk
      rw [List.filter_cons_of_pos (by simpa using c), List.filter_nil] at go
      refine Ev.step (f := fun k => (spec_keyIn_int.f k m l[i]).bind fun t => (if t = true then (spec_KeysLess_int.l0 k l m ((l.take i).filter fun x => !decide (x ∈ m)) ((i + 1 : Nat) : Int)) else (if ((l.take i).filter fun x => !decide (x ∈ m)).length < 17592186044416 then (spec_KeysLess_int.l0 k l m (((l.take i).filter fun x => !decide (x ∈ m)) ++ [l[i]]) ((i + 1 : Nat) : Int)) else none))) (fun k => ?_) (Ev.bind hk (Evs.no (by simp) (Evs.yes (by omega) go)))
      rw [spec_KeysLess_int.l0, if_pos (by omega), if_pos (by omega), rdI h, Small.w64s i (by omega)]
theorem less_f (l m : List Int) (hl : l.length ≤ 4294967296000) (hm : m.length ≤ 4294967296000) : Ev (fun k => spec_KeysLess_int.f k l m) (SetW.ks (l.filter fun x => !decide (x ∈ m))) := by
  have := less_l0 l m hl hm l.length 0 (by omega)
  exact this
theorem same_l0 (l m : List Int) (hl : l.length ≤ 4294967296000) (he : l.length = m.length) (n : Nat) : ∀ i : Nat, i + n = l.length → Ev (fun k => spec_KeysSame_int.l0 k l m (i : Int)) (decide (l.drop i = m.drop i)) := by
  induction n with
  | zero =>
    intro i hi
    rw [List.drop_eq_nil_of_le (by omega), List.drop_eq_nil_of_le (by omega), decide_eq_true rfl]
    refine Evs.at1 fun k => ?_
    rw [spec_KeysSame_int.l0, if_neg (by omega)]
  | succ n ih =>
    intro i hi
    have h : i < l.length := by omega
    have h' : i < m.length := by omega
    rw [List.drop_eq_getElem_cons h, List.drop_eq_getElem_cons h']
    by_cases c : l[i] = m[i]
    · rw [show decide (l[i] :: l.drop (i + 1) = m[i] :: m.drop (i + 1)) = decide (l.drop (i + 1) = m.drop (i + 1)) from decide_eq_decide.2 (by rw [c]; exact ⟨fun e => (List.cons.inj e).2, fun e => by rw [e]⟩)]
      refine Ev.step (fun k => ?_) (ih (i + 1) (by omega))
      rw [spec_KeysSame_int.l0, if_pos (by omega), if_pos (by omega), if_pos (by omega), rdI h, rdI h', if_pos c, Small.w64s i (by omega)]
    · rw [decide_eq_false (fun e => c (List.cons.inj e).1)]
      refine Evs.at1 fun k => ?_
      rw [spec_KeysSame_int.l0, if_pos (by omega), if_pos (by omega), if_pos (by omega), rdI h, rdI h', if_neg c]
theorem same_f (l m : List Int) (hl : l.length ≤ 4294967296000) : Ev (fun k => spec_KeysSame_int.f k l m) (decide (l = m)) := by
  by_cases he : l.length = m.length
  · have := same_l0 l m hl he l.length 0 (by omega)
    exact Evs.yes (by omega) this
  · rw [decide_eq_false (fun e => he (by rw [e]))]
    exact Evs.no (by omega) (Ev.now _)
theorem same_self (l : List Int) (hl : l.length ≤ 4294967296000) : Ev (fun k => spec_KeysSame_int.f k l l) true := by
  have := same_f l l hl
  rwa [decide_eq_true rfl] at this
theorem okS {l : List Int} (h : l.length ≤ 4294967296) (hw : ∀ x ∈ l, (Lit.int .i64 x).wf = true) : SetW.okSet l = true := by
  unfold SetW.okSet
  rw [decide_eq_true h, List.all_eq_true.2 hw]; rfl

theorem union_f (l m : List Int) (hl : l.length ≤ 4294967296) (hm : m.length ≤ 4294967296) : Ev (fun k => spec_KeysUnion_int.f k l m) (SetW.ks (l ++ m)) := by
  have hk := keys_f (l ++ m) (by rw [List.length_append]; omega)
  refine Ev.congr (f := fun k => (spec_Keys_int.f k (l ++ m)).bind fun t => some t) (fun k => ?_) (Ev.bind hk (Ev.now _))
  unfold spec_KeysUnion_int.f
  simp only [Option.bind_some, List.nil_append, List.length_nil]
  rw [if_pos (by omega), if_pos (by omega)]
theorem odd_f (l m : List Int) (hl : l.length ≤ 4294967296) (hm : m.length ≤ 4294967296) : Ev (fun k => spec_KeysOdd_int.f k l m) (SetW.ks ((l.filter fun x => !decide (x ∈ m)) ++ (m.filter fun x => !decide (x ∈ l)))) := by
  have a1 := ks_len (l.filter fun x => !decide (x ∈ m))
  have a2 := ks_len (m.filter fun x => !decide (x ∈ l))
  have a3 := List.length_filter_le (fun x => !decide (x ∈ m)) l
  have a4 := List.length_filter_le (fun x => !decide (x ∈ l)) m
  have hu := union_f (SetW.ks (l.filter fun x => !decide (x ∈ m))) (SetW.ks (m.filter fun x => !decide (x ∈ l))) (by omega) (by omega)
  rw [SetW.ks_congr (L := SetW.ks (l.filter fun x => !decide (x ∈ m)) ++ SetW.ks (m.filter fun x => !decide (x ∈ l))) (M := (l.filter fun x => !decide (x ∈ m)) ++ (m.filter fun x => !decide (x ∈ l))) (fun x => by rw [List.mem_append, List.mem_append, SetW.ks_mem, SetW.ks_mem])] at hu
  unfold spec_KeysOdd_int.f
  exact Ev.bind (less_f l m (by omega) (by omega)) (Ev.bind (less_f m l (by omega) (by omega)) (Ev.bind hu (Ev.now _)))

theorem told_f (o : Int) (a b c : List Int) (ho : o ∈ ([0, 1, 2, 3, 4, 5, 6, 12, 13] : List Int)) (ha : a.length ≤ 4294967296) (hb : b.length ≤ 4294967296) (hc : c.length ≤ 4294967296) :
    ∃ z x : List Int, Ev (fun k => spec_KeysTold_int.f k o a b c) (z, x) ∧ SetW.setF o a b c = some (z, x, SetW.ks b, false) ∧ z.length ≤ 8589934592 ∧ x.length ≤ 8589934592 := by
  have k1 := ks_len a
  have k2 := ks_len (a ++ b)
  have k3 := ks_len (a ++ c)
  rw [List.length_append] at k2 k3
  have f1 := fun p : Int → Bool => ks_len (a.filter p)
  have f2 := fun p : Int → Bool => List.length_filter_le p a
  have f3 := fun p : Int → Bool => List.length_filter_le p b
  have ka := keys_f a (by omega)
  unfold spec_KeysTold_int.f
  simp only [List.mem_cons, List.not_mem_nil, or_false] at ho
  rcases ho with rfl | rfl | rfl | rfl | rfl | rfl | rfl | rfl | rfl
  · exact ⟨_, _, Ev.bind ka (Evs.no (by decide) (Evs.no (by decide) (Evs.no (by decide) (Evs.no (by decide) (Evs.no (by decide) (Evs.no (by decide) (Evs.no (by decide) (Ev.now _)))))))), rfl, by omega, by omega⟩
  · exact ⟨_, _, Ev.bind ka (Evs.yes (by decide) (Ev.bind (union_f a b ha hb) (Ev.now _))), rfl, by omega, by omega⟩
  · exact ⟨_, _, Ev.bind ka (Evs.no (by decide) (Evs.yes (by decide) (Ev.bind (both_f a b (by omega) (by omega)) (Ev.now _)))), rfl, by have := f1 (fun x => decide (x ∈ b)); have := f2 (fun x => decide (x ∈ b)); omega, by omega⟩
  · exact ⟨_, _, Ev.bind ka (Evs.no (by decide) (Evs.no (by decide) (Evs.yes (by decide) (Ev.bind (less_f a b (by omega) (by omega)) (Ev.now _))))), rfl, by have := f1 (fun x => !decide (x ∈ b)); have := f2 (fun x => !decide (x ∈ b)); omega, by omega⟩
  · exact ⟨_, _, Ev.bind ka (Evs.no (by decide) (Evs.no (by decide) (Evs.no (by decide) (Evs.yes (by decide) (Ev.bind (odd_f a b ha hb) (Ev.now _)))))), rfl, by have := ks_len ((a.filter fun x => !decide (x ∈ b)) ++ (b.filter fun x => !decide (x ∈ a))); rw [List.length_append] at this; have := f2 (fun x => !decide (x ∈ b)); have := f3 (fun x => !decide (x ∈ a)); omega, by omega⟩
  · exact ⟨_, _, Ev.bind ka (Evs.no (by decide) (Evs.no (by decide) (Evs.no (by decide) (Evs.no (by decide) (Evs.yes (by decide) (Ev.bind (union_f a c ha hc) (Ev.bind (union_f a c ha hc) (Ev.now _)))))))), rfl, by omega, by omega⟩
  · have e : (a.filter fun x => !c.contains x) = a.filter fun x => !decide (x ∈ c) := List.filter_congr fun x _ => by rw [List.contains_eq_mem]
    refine ⟨_, _, Ev.bind ka (Evs.no (by decide) (Evs.no (by decide) (Evs.no (by decide) (Evs.no (by decide) (Evs.no (by decide) (Evs.yes (by decide) (Ev.bind (less_f a c (by omega) (by omega)) (Ev.bind (less_f a c (by omega) (by omega)) (Ev.now _))))))))), ?_, by have := f1 (fun x => !decide (x ∈ c)); have := f2 (fun x => !decide (x ∈ c)); omega, by have := f1 (fun x => !decide (x ∈ c)); have := f2 (fun x => !decide (x ∈ c)); omega⟩
    rw [← e]; rfl
  · exact ⟨_, _, Ev.bind ka (Evs.no (by decide) (Evs.no (by decide) (Evs.no (by decide) (Evs.no (by decide) (Evs.no (by decide) (Evs.no (by decide) (Evs.no (by decide) (Ev.now _)))))))), rfl, by omega, by omega⟩
  · refine ⟨[], [], Ev.bind ka (Evs.no (by decide) (Evs.no (by decide) (Evs.no (by decide) (Evs.no (by decide) (Evs.no (by decide) (Evs.no (by decide) (Evs.yes (by decide) (Ev.now _)))))))), ?_, by simp, by simp⟩
    have : SetW.setF 13 a b c = some (SetW.ks [], SetW.ks [], SetW.ks b, false) := rfl
    rw [this, ks_nil]

theorem op_f (a0 : Int) (h : (Lit.int .u8 a0).wf = true) : ∃ o, laws_keysOp.f a0 = some o ∧ o ∈ ([0, 1, 2, 3, 4, 5, 6, 12, 13] : List Int) := by
  have h0 : 0 ≤ a0 := by
    simp [Lit.wf, IntKind.min, IntKind.max, IntKind.signed, IntKind.bits] at h
    exact h.1
  have e : Int.tmod a0 9 = a0 % 9 := Int.tmod_eq_emod_of_nonneg h0
  obtain ⟨m, hm⟩ : ∃ m : Nat, a0 % 9 = (m : Int) := ⟨(a0 % 9).toNat, by omega⟩
  have hlt : m < ([0, 1, 2, 3, 4, 5, 6, 12, 13] : List Int).length := by show m < 9; omega
  refine ⟨([0, 1, 2, 3, 4, 5, 6, 12, 13] : List Int)[m], ?_, List.getElem_mem hlt⟩
  unfold laws_keysOp.f
  rw [Option.bind_some, e, hm, if_pos (by omega), if_pos (by exact_mod_cast hlt), rdI hlt]

theorem FnIntSets : laws_FnIntSets.Pure := by
  intro a0 a b c h0 _ _ wa _ _ wb _ _ wc
  unfold laws_FnIntSets.f
  have out : Ev (fun k => laws_FnIntSets.j0 k a0 a b c true) true := Evs.at1 fun k => by rw [laws_FnIntSets.j0, if_pos rfl]
  refine Ev.rounds ?_
  by_cases ha : (a.length : Int) > 2147483647
  · exact Evs.yes ha out
  refine Evs.no ha ?_
  by_cases hb : (b.length : Int) > 2147483647
  · exact Evs.yes hb out
  refine Evs.no hb ?_
  by_cases hc : (c.length : Int) > 2147483647
  · rw [decide_eq_true hc]; exact out
  rw [decide_eq_false hc]
  obtain ⟨o, ho, hm⟩ := op_f a0 h0
  obtain ⟨z, x, ht, hs, hz, hx⟩ := told_f o a b c hm (by omega) (by omega) (by omega)
  have hi : ∀ k, impl_IntSetOps.f k o a b c = some (z, x, SetW.ks b, false) := fun k => by
    unfold impl_IntSetOps.f SetW.setG
    rw [if_pos ⟨okS (by omega) wa, okS (by omega) wb, okS (by omega) wc⟩]; exact hs
  have hmk : ∀ k, impl_IntSetOps.f k 0 ([3] : List Int) [] [] = some (SetW.ks [3], SetW.ks [3], SetW.ks [], false) := fun k => by
    unfold impl_IntSetOps.f SetW.setG
    rw [if_pos ⟨okS (by decide) (by decide), okS (by decide) (by decide), okS (by decide) (by decide)⟩]; rfl
  have h1 : (SetW.ks [3]).length = 1 := by rw [SetW.ks_length]; rfl
  have kb := ks_len b
  refine Ev.step (fun k => by rw [laws_FnIntSets.j0, if_neg (by simp)]) ?_
  refine Ev.bind (a := o) ⟨0, fun k _ => ho⟩ (Ev.bind ht (Ev.bind (a := o) ⟨0, fun k _ => ho⟩ (Ev.bind ⟨0, fun k _ => hi k⟩ (Ev.bind ⟨0, fun k _ => hmk k⟩ ?_))))
  refine Ev.bind (same_self z (by omega)) (Evs.yes rfl (Ev.bind (same_self x (by omega)) (Evs.yes rfl (Ev.bind (keys_f b (by omega)) (Ev.bind (same_self (SetW.ks b) (by omega)) (Evs.yes rfl ?_))))))
  show Ev (fun _ => some (((SetW.ks [3]).length : Int) == 1)) true
  rw [h1]; exact Ev.now _
end Go.Proofs.Ytmlhgafinkcfcaa.Pure
