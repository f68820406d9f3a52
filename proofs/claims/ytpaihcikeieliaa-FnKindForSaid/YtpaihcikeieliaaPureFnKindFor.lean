/- Of a list of kinds the package's function tells one just if one has the group: the first one that has the version, too, if there is one, else one of that group by the first one's name: of all texts and lists (of those that the statement's bound lets by). -/
import Derived.Test.YtpaihcikeieliaaPFnKindForx3
import Derived.Test.YtpaihcikeieliaaSmall
set_option linter.unusedVariables false
set_option linter.unusedSimpArgs false
namespace Go.Proofs.Ytpaihcikeieliaa.Pure
open Go.RowKit Go.Proofs.Ytpaihcikeieliaa.PFnKindFor Go.Proofs.YtpaihcikeieliaaW.PrintWords Go.Proofs.YtpaihcikeieliaaW.PrintLast

abbrev KS := S25
abbrev KT := S49
def gB (g : ByteArray) (x : KS) : Bool := x.f0.toList == g.toList
def bB (g v : ByteArray) (x : KS) : Bool := x.f0.toList == g.toList && x.f1.toList == v.toList
def toT (x : KS) : KT := ⟨x.f0, x.f1, x.f2⟩

theorem rdS (l : List KS) (i : Nat) (h : i < l.length) : rd_T25 l (i : Int) = l[i] := by unfold rd_T25; simp [h]
theorem rdT (l : List KS) (i : Nat) (h : i < l.length) : rd_T49 (l.map toT) (i : Int) = toT l[i] := by unfold rd_T49; simp [h]

theorem fits_l0 (l : List KS) (hl : l.length ≤ 2147483647) (n : Nat) : ∀ i : Nat, i + n = l.length → ∃ b, Ev (fun k => laws_zzFits9.l0 k l (l.length : Int) i) b := by
  induction n with
  | zero =>
    intro i hi
    exact ⟨true, 1, fun k hk => by
      obtain ⟨k, rfl⟩ : ∃ m, k = m + 1 := ⟨k - 1, by omega⟩
      simp only [laws_zzFits9.l0]; rw [if_neg (by omega)]⟩
  | succ n ih =>
    intro i hi
    have h : i < l.length := by omega
    obtain ⟨b, hb⟩ := ih (i + 1) (by omega)
    obtain ⟨c, hc⟩ : ∃ c, laws_zzFits8.f (l[i]).f0 (l[i]).f1 (l[i]).f2 = some c := by
      unfold laws_zzFits8.f; repeat' split
      all_goals exact ⟨_, rfl⟩
    refine ⟨if c = true then b else false, Ev.step (f := fun k => if c = true then laws_zzFits9.l0 k l (l.length : Int) ((i + 1 : Nat) : Int) else some false) (fun k => ?_) ?_⟩
    · simp only [laws_zzFits9.l0]
      rw [if_pos (by omega), if_pos (by omega), if_pos (by omega), rdS l i h, hc, Small.w64s i (by omega)]; rfl
    · cases c
      · exact Ev.now _
      · exact hb

theorem fits_f (l : List KS) : ∃ b, Ev (fun k => laws_zzFits9.f k l) b ∧ (b = true → l.length ≤ 2147483647) := by
  by_cases h : (l.length : Int) > 2147483647
  · refine ⟨false, ⟨0, fun k _ => ?_⟩, fun h => by simp at h⟩
    show laws_zzFits9.f k l = _
    unfold laws_zzFits9.f; rw [if_pos h]
  · obtain ⟨b, hb⟩ := fits_l0 l (by omega) l.length 0 (by omega)
    refine ⟨b, Ev.congr (fun k => ?_) hb, fun _ => by omega⟩
    unfold laws_zzFits9.f; rw [if_neg h]; rfl

theorem kinds_l0 (l : List KS) (hl : l.length ≤ 2147483647) (n : Nat) : ∀ i : Nat, i + n = l.length → Ev (fun k => impl_kinds.l0 k ((l.take i).map toT) l (l.length : Int) i) (l.map toT) := by
  induction n with
  | zero =>
    intro i hi
    refine ⟨1, fun k hk => ?_⟩
    obtain ⟨k, rfl⟩ : ∃ m, k = m + 1 := ⟨k - 1, by omega⟩
    simp only [impl_kinds.l0]; rw [if_neg (by omega), List.take_of_length_le (by omega)]
  | succ n ih =>
    intro i hi
    have h : i < l.length := by omega
    refine Ev.step (f := fun k => impl_kinds.l0 k ((l.take (i + 1)).map toT) l (l.length : Int) ((i + 1 : Nat) : Int)) (fun k => ?_) (ih (i + 1) (by omega))
    simp only [impl_kinds.l0]
    rw [if_pos (by omega), if_pos (by omega), if_pos (by omega), rdS l i h, Small.w64s i (by omega)]
    simp only [impl_kindOf.f, Option.bind_some]
    rw [if_pos (by simp; omega), List.take_succ_eq_append_getElem h, List.map_append]
    rfl

theorem kinds_f (l : List KS) (hl : l.length ≤ 2147483647) : Ev (fun k => impl_kinds.f k l) (l.map toT) := by
  have := kinds_l0 l hl l.length 0 (by omega)
  exact this

def told (g v : ByteArray) (l : List KS) : ByteArray × ByteArray × ByteArray × Bool :=
  match l.find? (bB g v) with
  | some x => (x.f0, x.f1, x.f2, true)
  | none => match l.find? (gB g) with
    | some x => (g, v, x.f2, true)
    | none => (⟨#[]⟩, ⟨#[]⟩, ⟨#[]⟩, false)

def told1 (g v : ByteArray) (l : List KS) : ByteArray × ByteArray × ByteArray × Bool :=
  match l.find? (gB g) with
  | some x => (g, v, x.f2, true)
  | none => (⟨#[]⟩, ⟨#[]⟩, ⟨#[]⟩, false)

theorem best_l1 (g v : ByteArray) (l : List KS) (hl : l.length ≤ 2147483647) (n : Nat) : ∀ i : Nat, i + n = l.length →
    Ev (fun k => schema_GroupVersion_KindForGroupVersionKinds.l1 k (l.map toT) (l.length : Int) i g v) (told1 g v (l.drop i)) := by
  induction n with
  | zero =>
    intro i hi
    refine ⟨1, fun k hk => ?_⟩
    obtain ⟨k, rfl⟩ : ∃ m, k = m + 1 := ⟨k - 1, by omega⟩
    simp only [schema_GroupVersion_KindForGroupVersionKinds.l1]; rw [if_neg (by omega), List.drop_eq_nil_of_le (by omega)]; rfl
  | succ n ih =>
    intro i hi
    have h : i < l.length := by omega
    have hw := Small.w64s i (by omega)
    have ih := ih (i + 1) (by omega)
    rw [List.drop_eq_getElem_cons h]
    unfold told1
    rw [List.find?_cons]
    by_cases e : gB g l[i] = true
    · rw [e]
      refine ⟨1, fun k hk => ?_⟩
      obtain ⟨k, rfl⟩ : ∃ m, k = m + 1 := ⟨k - 1, by omega⟩
      simp only [schema_GroupVersion_KindForGroupVersionKinds.l1]
      rw [if_pos (by omega), if_pos (by omega), if_pos (by simp; omega), rdT l i h, if_pos (by unfold gB at e; exact beq_iff_eq.1 e)]
      rfl
    · rw [Bool.not_eq_true] at e
      rw [e]
      refine Ev.step (f := fun k => schema_GroupVersion_KindForGroupVersionKinds.l1 k (l.map toT) (l.length : Int) ((i + 1 : Nat) : Int) g v) (fun k => ?_) ih
      simp only [schema_GroupVersion_KindForGroupVersionKinds.l1]
      rw [if_pos (by omega), if_pos (by omega), if_pos (by simp; omega), rdT l i h, if_neg (by unfold gB at e; exact beq_eq_false_iff_ne.1 e), hw]

theorem best_l0 (g v : ByteArray) (l : List KS) (hl : l.length ≤ 2147483647) (n : Nat) : ∀ i : Nat, i + n = l.length →
    Ev (fun k => schema_GroupVersion_KindForGroupVersionKinds.l0 k (l.map toT) (l.map toT) (l.length : Int) i g v) (match (l.drop i).find? (bB g v) with | some x => (x.f0, x.f1, x.f2, true) | none => told1 g v l) := by
  induction n with
  | zero =>
    intro i hi
    have := best_l1 g v l hl l.length 0 (by omega)
    rw [List.drop_eq_nil_of_le (by omega)]
    refine Ev.step (f := fun k => schema_GroupVersion_KindForGroupVersionKinds.l1 k (l.map toT) (l.length : Int) ((0 : Nat) : Int) g v) (fun k => ?_) this
    simp only [schema_GroupVersion_KindForGroupVersionKinds.l0]; rw [if_neg (by omega), List.length_map]; rfl
  | succ n ih =>
    intro i hi
    have h : i < l.length := by omega
    have hw := Small.w64s i (by omega)
    have ih := ih (i + 1) (by omega)
    rw [List.drop_eq_getElem_cons h, List.find?_cons]
    by_cases e : bB g v l[i] = true
    · rw [e]
      refine ⟨1, fun k hk => ?_⟩
      obtain ⟨k, rfl⟩ : ∃ m, k = m + 1 := ⟨k - 1, by omega⟩
      unfold bB at e
      rw [Bool.and_eq_true, beq_iff_eq, beq_iff_eq] at e
      simp only [schema_GroupVersion_KindForGroupVersionKinds.l0]
      rw [if_pos (by omega), if_pos (by omega), if_pos (by simp; omega), rdT l i h, if_pos (show (toT l[i]).f0.toList = g.toList from e.1), if_pos (show (toT l[i]).f1.toList = v.toList from e.2)]
      rfl
    · rw [Bool.not_eq_true] at e
      rw [e]
      refine Ev.step (f := fun k => schema_GroupVersion_KindForGroupVersionKinds.l0 k (l.map toT) (l.map toT) (l.length : Int) ((i + 1 : Nat) : Int) g v) (fun k => ?_) ih
      simp only [schema_GroupVersion_KindForGroupVersionKinds.l0]
      rw [if_pos (by omega), if_pos (by omega), if_pos (by simp; omega), rdT l i h, hw]
      unfold bB at e
      by_cases e1 : (toT l[i]).f0.toList = g.toList
      · rw [if_pos e1, if_neg (fun e2 => by
          have h1 : (l[i].f0.toList == g.toList) = true := beq_iff_eq.2 e1
          have h2 : (l[i].f1.toList == v.toList) = true := beq_iff_eq.2 e2
          rw [h1, h2] at e; simp at e)]
      · rw [if_neg e1]

theorem kindFor_f (g v : ByteArray) (l : List KS) (hl : l.length ≤ 2147483647) : Ev (fun k => impl_KindFor.f k g v l) (told g v l) := by
  refine Ev.bind (f := fun k t127 => (schema_GroupVersion_KindForGroupVersionKinds.f k g v t127).bind fun bt130 => (some (bt130.1, bt130.2.1, bt130.2.2.1, bt130.2.2.2))) (kinds_f l hl) ?_
  have := best_l0 g v l hl l.length 0 (by omega)
  rw [List.drop_zero] at this
  refine Ev.bind (f := fun _ bt130 => (some (bt130.1, bt130.2.1, bt130.2.2.1, bt130.2.2.2))) (a := told g v l) (Ev.congr (fun k => ?_) this) (Ev.now _)
  unfold schema_GroupVersion_KindForGroupVersionKinds.f
  rw [List.length_map]; rfl

theorem has_l0 (g v : ByteArray) (l : List KS) (hl : l.length ≤ 2147483647) (n : Nat) : ∀ (i : Nat) (x y : Bool), i + n = l.length →
    Ev (fun k => spec_KindHas.l0 k g v l x y i) (x || (l.drop i).any (gB g), y || (l.drop i).any (bB g v)) := by
  induction n with
  | zero =>
    intro i x y hi
    refine ⟨1, fun k hk => ?_⟩
    obtain ⟨k, rfl⟩ : ∃ m, k = m + 1 := ⟨k - 1, by omega⟩
    simp only [spec_KindHas.l0]; rw [if_neg (by omega), List.drop_eq_nil_of_le (by omega)]; simp
  | succ n ih =>
    intro i x y hi
    have h : i < l.length := by omega
    have hw := Small.w64s i (by omega)
    have ih := ih (i + 1) (x || gB g l[i]) (y || bB g v l[i]) (by omega)
    rw [List.drop_eq_getElem_cons h, List.any_cons, List.any_cons, ← Bool.or_assoc, ← Bool.or_assoc]
    refine Ev.step (fun k => ?_) ih
    simp only [spec_KindHas.l0]
    rw [if_pos (by omega), hw, rdS l i h, if_pos (show (0 : Int) ≤ (i : Int) by omega)]
    unfold gB bB
    cases x <;> cases y <;> simp only [Bool.false_eq_true, if_false, if_true, Bool.true_or, Bool.false_or] <;> (by_cases e : l[i].f0.toList = g.toList)
    all_goals first
      | (rw [if_pos e, beq_iff_eq.2 e]; rfl)
      | (rw [if_neg e, beq_eq_false_iff_ne.2 e]; rfl)
      | rfl

theorem has_f (g v : ByteArray) (l : List KS) (hl : l.length ≤ 2147483647) : Ev (fun k => spec_KindHas.f k g v l) (l.any (gB g), l.any (bB g v)) := by
  have := has_l0 g v l hl l.length 0 false false (by omega)
  simp only [List.drop_zero, Bool.false_or] at this
  exact this

def firstB (g v : ByteArray) (both : Bool) (x : KS) : Bool := if both = true then bB g v x else gB g x

theorem first_l0 (g v : ByteArray) (l : List KS) (both : Bool) (hl : l.length ≤ 2147483647) (n : Nat) : ∀ (i : Nat), i + n = l.length →
    Ev (fun k => spec_KindFirst.l0 k g v l both i) (match (l.drop i).find? (firstB g v both) with | some x => (x.f0, x.f1, x.f2, true) | none => (⟨#[]⟩, ⟨#[]⟩, ⟨#[]⟩, false)) := by
  induction n with
  | zero =>
    intro i hi
    refine ⟨1, fun k hk => ?_⟩
    obtain ⟨k, rfl⟩ : ∃ m, k = m + 1 := ⟨k - 1, by omega⟩
    simp only [spec_KindFirst.l0]; rw [if_neg (by omega), List.drop_eq_nil_of_le (by omega)]; rfl
  | succ n ih =>
    intro i hi
    have h : i < l.length := by omega
    have hw := Small.w64s i (by omega)
    have ih := ih (i + 1) (by omega)
    rw [List.drop_eq_getElem_cons h, List.find?_cons]
    by_cases e0 : l[i].f0.toList = g.toList
    · by_cases e1 : both = true
      · by_cases e2 : l[i].f1.toList = v.toList
        · have : firstB g v both l[i] = true := by unfold firstB bB; rw [if_pos e1, beq_iff_eq.2 e0, beq_iff_eq.2 e2]; rfl
          rw [this]
          refine ⟨1, fun k hk => ?_⟩
          obtain ⟨k, rfl⟩ : ∃ m, k = m + 1 := ⟨k - 1, by omega⟩
          simp only [spec_KindFirst.l0]
          rw [if_pos (by omega), if_pos (by omega), rdS l i h, if_pos e0, if_pos e1, if_pos e2]
        · have : firstB g v both l[i] = false := by unfold firstB bB; rw [if_pos e1, beq_iff_eq.2 e0, beq_eq_false_iff_ne.2 e2]; rfl
          rw [this]
          refine Ev.step (fun k => ?_) ih
          simp only [spec_KindFirst.l0]
          rw [if_pos (by omega), if_pos (by omega), rdS l i h, if_pos e0, if_pos e1, if_neg e2, hw]
      · have : firstB g v both l[i] = true := by unfold firstB gB; rw [if_neg e1, beq_iff_eq.2 e0]
        rw [this]
        refine ⟨1, fun k hk => ?_⟩
        obtain ⟨k, rfl⟩ : ∃ m, k = m + 1 := ⟨k - 1, by omega⟩
        simp only [spec_KindFirst.l0]
        rw [if_pos (by omega), if_pos (by omega), rdS l i h, if_pos e0, if_neg e1]
    · have : firstB g v both l[i] = false := by unfold firstB bB gB; rw [beq_eq_false_iff_ne.2 e0]; split <;> rfl
      rw [this]
      refine Ev.step (fun k => ?_) ih
      simp only [spec_KindFirst.l0]
      rw [if_pos (by omega), if_pos (by omega), rdS l i h, if_neg e0, hw]

theorem first_f (g v : ByteArray) (l : List KS) (both : Bool) (hl : l.length ≤ 2147483647) :
    Ev (fun k => spec_KindFirst.f k g v l both) (match l.find? (firstB g v both) with | some x => (x.f0, x.f1, x.f2, true) | none => (⟨#[]⟩, ⟨#[]⟩, ⟨#[]⟩, false)) := by
  have := first_l0 g v l both hl l.length 0 (by omega)
  simp only [List.drop_zero] at this
  exact this

theorem any_of_find {p : KS → Bool} {l : List KS} {x : KS} (h : l.find? p = some x) : l.any p = true := List.any_eq_true.2 ⟨x, List.mem_of_find?_eq_some h, List.find?_some h⟩
theorem none_of_find {p : KS → Bool} {l : List KS} (h : l.find? p = none) : l.any p = false := by
  rw [List.any_eq_false]; exact fun x hx => by have := List.find?_eq_none.1 h x hx; simpa using this

theorem kf_j0 (g v : ByteArray) (l : List KS) (hl : l.length ≤ 2147483647) : Ev (fun k => laws_FnKindFor.j0 k g v l false) true := by
  refine Ev.step (f := fun k => (impl_KindFor.f k g v l).bind fun bt146 => ((spec_KindHas.f k g v l).bind fun bt151 => (if (bt146.2.2.2 != bt151.1) = true then (some false) else (if bt146.2.2.2 = true then ((spec_KindFirst.f k g v l bt151.2).bind fun bt153 => (if bt146.1.toList = g.toList then (if bt146.2.2.1.toList = bt153.2.2.1.toList then (if bt151.2 = true then (some (bt146.1.toList == bt153.1.toList && (bt146.2.1.toList == bt153.2.1.toList && (bt146.2.2.1.toList == bt153.2.2.1.toList)))) else (some true)) else (some false)) else (some false))) else (some (bt146.1.toList == ([] : List UInt8) && (bt146.2.1.toList == ([] : List UInt8) && (bt146.2.2.1.toList == ([] : List UInt8)))))))))
    (fun k => ?_) (Ev.bind (kindFor_f g v l hl) (Ev.bind (has_f g v l hl) ?_))
  · simp only [laws_FnKindFor.j0]; rw [if_neg (by simp)]
  · have hf := first_f g v l (l.any (bB g v)) hl
    unfold told
    cases h1 : l.find? (bB g v) with
    | some x =>
      have hb := any_of_find h1
      have hx := List.find?_some h1
      unfold bB at hx
      rw [Bool.and_eq_true, beq_iff_eq, beq_iff_eq] at hx
      have hg : l.any (gB g) = true := List.any_eq_true.2 ⟨x, List.mem_of_find?_eq_some h1, by unfold gB; exact beq_iff_eq.2 hx.1⟩
      rw [hb] at hf ⊢
      have : firstB g v true = bB g v := by funext y; rfl
      rw [this, h1] at hf
      rw [hg]
      simp only [bne_self_eq_false, Bool.false_eq_true, if_false, if_true]
      refine Ev.bind hf ?_
      simp only [hx.1, if_true, beq_self_eq_true, Bool.and_self]
      exact Ev.now _
    | none =>
      have hb := none_of_find h1
      rw [hb] at hf ⊢
      have : firstB g v false = gB g := by funext y; rfl
      rw [this] at hf
      cases h2 : l.find? (gB g) with
      | some x =>
        rw [any_of_find h2]
        rw [h2] at hf
        simp only [bne_self_eq_false, Bool.false_eq_true, if_false, if_true]
        refine Ev.bind hf ?_
        simp only [if_true]
        exact Ev.now _
      | none =>
        rw [none_of_find h2]
        simp only [bne_self_eq_false, Bool.false_eq_true, if_false]
        have z : ((⟨#[]⟩ : ByteArray).toList == ([] : List UInt8)) = true := by decide +kernel
        simp only [z, Bool.and_self]
        exact Ev.now _

theorem FnKindFor : laws_FnKindFor.Pure := by
  intro g v l _ _ _
  have hj : ∀ k, laws_FnKindFor.j0 (k + 1) g v l true = some true := fun k => by simp only [laws_FnKindFor.j0]; rw [if_pos trivial]
  unfold laws_FnKindFor.f
  by_cases h : (g.size : Int) > 2147483647
  · exact ⟨1, by rw [if_pos h]; exact hj 0⟩
  · by_cases h2 : (v.size : Int) > 2147483647
    · exact ⟨1, by rw [if_neg h, if_pos h2]; exact hj 0⟩
    · obtain ⟨b, hb, hb1⟩ := fits_f l
      have : Ev (fun k => (laws_zzFits9.f k l).bind fun t145 => laws_FnKindFor.j0 k g v l (!t145)) true := by
        refine Ev.bind hb ?_
        cases b with
        | true => exact kf_j0 g v l (hb1 rfl)
        | false => exact ⟨1, fun k hk => by obtain ⟨k, rfl⟩ : ∃ m, k = m + 1 := ⟨k - 1, by omega⟩; exact hj k⟩
      obtain ⟨k, hk⟩ := this.rounds
      exact ⟨k, by rw [if_neg h, if_neg h2]; exact hk⟩

end Go.Proofs.Ytpaihcikeieliaa.Pure
