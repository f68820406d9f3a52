/- Versions: the reference's semantic version of a text. -/
import Derived.Test.YtomoefldmgfaoaaDoorPvZa
import Derived.Test.YtomoefldmgfaoaaDoorPFnVersionParsex8
set_option linter.unusedVariables false
set_option linter.unusedSimpArgs false
namespace Go.Proofs.YtomoefldmgfaoaaDoor.Pv.SFnVersionParse
open Go Go.RowKit Go.Proofs.YtomoefldmgfaoaaDoor Go.Proofs.YtomoefldmgfaoaaDoorW.PrintWords Go.Proofs.YtomoefldmgfaoaaDoor.PFnVersionParse Go.Proofs.YtomoefldmgfaoaaDoor.Txt Go.Proofs.YtomoefldmgfaoaaDoor.Small Go.Proofs.YtomoefldmgfaoaaDoor.Pv

theorem split_evS : ∀ (n : Nat) (l : Bs), l.length ≤ n → l.length ≤ 8589934592 → Ev (fun k => spec_VerSplit.f k (mk l)) ((spl l).map mk) := by
  intro n
  induction n with
  | zero =>
    intro l h hl
    have h0 : l = [] := List.length_eq_zero_iff.1 (by omega)
    subst h0
    refine step (f := fun k => (spec_verPlace.f k (mk []) 46).bind fun t128 => some [mk []]) (fun k => ?_) (bindE (place_ev 46 [] (by simp)) (const _))
    rw [spec_VerSplit.f]
    cases hp : spec_verPlace.f k (mk []) 46 with
    | none => rfl
    | some t =>
      have : t = -1 := by
        have := Evs.uniq (Ev.of (g := fun k => spec_verPlace.f k (mk []) 46) (fun k => spec_verPlace.mono _ _ k) hp) (place_ev 46 [] (by simp))
        rw [this]; rfl
      subst this
      rfl
  | succ n ih =>
    intro l h hl
    have hp : Ev (fun k => spec_verPlace.f k (mk l) 46) (idxs 46 0 l) := place_ev 46 l (by omega)
    cases hc : cutAt 46 l with
    | none =>
      have hi : idxs 46 0 l = -1 := by unfold idxs; rw [hc]
      rw [hi] at hp
      have h46 : 46 ∉ l := fun hm => by have := (idxs_mem 46 l).2 hm; rw [hi] at this; exact absurd this (by decide)
      rw [spl_one l h46]
      refine step (f := fun k => (spec_verPlace.f k (mk l) 46).bind fun t128 => (if t128 < 0 then (some (([mk l] : List ByteArray))) else (if 0 ≤ t128 then (if t128 ≤ ((mk l).size : Int) then ((some (([(mk l).extract 0 (t128 : Int).toNat] : List ByteArray) : List ByteArray)).bind fun y132 => (if 0 ≤ (wrap64 (t128 + 1)) then (if (wrap64 (t128 + 1)) ≤ ((mk l).size : Int) then ((spec_VerSplit.f k ((mk l).extract ((wrap64 (t128 + 1)) : Int).toNat (mk l).size)).bind fun t135 => (if y132.length + t135.length < 8796093022208 then (some (y132 ++ t135)) else (none))) else (none)) else (none))) else (none)) else (none)))) (fun k => by rw [spec_VerSplit.f]) ?_
      refine bindE hp ?_
      exact congr (f := fun _ => some _) (fun k => if_pos (by decide)) (const _)
    | some q =>
      obtain ⟨u, b⟩ := q
      have hi : idxs 46 0 l = ((u.length : Nat) : Int) := by unfold idxs; rw [hc]; show ((0 + u.length : Nat) : Int) = _; rw [Nat.zero_add]
      rw [hi] at hp
      obtain ⟨e, hu⟩ := cutAt_some hc
      have hl1 := congrArg List.length e
      rw [List.length_append, List.length_cons] at hl1
      have hsp : spl l = u :: spl b := by rw [e]; exact spl_dot u b hu
      have hlen := spl_len b
      have hb := ih b (by omega) (by omega)
      refine step (f := fun k => (spec_verPlace.f k (mk l) 46).bind fun t128 => (if t128 < 0 then (some (([mk l] : List ByteArray))) else (if 0 ≤ t128 then (if t128 ≤ ((mk l).size : Int) then ((some (([(mk l).extract 0 (t128 : Int).toNat] : List ByteArray) : List ByteArray)).bind fun y132 => (if 0 ≤ (wrap64 (t128 + 1)) then (if (wrap64 (t128 + 1)) ≤ ((mk l).size : Int) then ((spec_VerSplit.f k ((mk l).extract ((wrap64 (t128 + 1)) : Int).toNat (mk l).size)).bind fun t135 => (if y132.length + t135.length < 8796093022208 then (some (y132 ++ t135)) else (none))) else (none)) else (none))) else (none)) else (none)))) (fun k => by rw [spec_VerSplit.f]) ?_
      refine bindE hp ?_
      have e1 : (mk l).extract 0 ((u.length : Int).toNat) = mk u := by rw [Int.toNat_natCast, takeE, e, List.take_left]
      have e2 : (mk l).extract ((((u.length + 1 : Nat) : Int)).toNat) (mk l).size = mk b := by
        rw [Int.toNat_natCast, dropE, e, ← List.drop_drop, List.drop_left]; rfl
      refine congr (f := fun k => (spec_VerSplit.f k (mk b)).bind fun t135 => (if ([mk u] : List ByteArray).length + t135.length < 8796093022208 then (some ([mk u] ++ t135)) else none)) (fun k => by
        rw [if_neg (by omega), if_pos (by omega), if_pos (by rw [sz]; omega), Option.bind_some, w64s _ (by omega), if_pos (by omega), if_pos (by rw [sz]; omega), e1, e2]) ?_
      refine bindE hb ?_
      refine congr (f := fun _ => some ((spl l).map mk)) (fun k => ?_) (const _)
      rw [if_pos (by simp only [List.length_cons, List.length_nil, List.length_map]; omega), hsp]; rfl
theorem numericI_ev (l : Bs) (hl : l.length ≤ 8589934592) : ∀ (n i : Nat), l.length - i = n → i ≤ l.length → Ev (fun k => spec_VerNumeric.l0 k (mk l) (i : Int)) ((l.drop i).all dg && l != []) := by
  intro n
  induction n with
  | zero =>
    intro i h1 h2
    refine Evs.at1 fun k => ?_
    rw [List.drop_eq_nil_of_le (by omega), spec_VerNumeric.l0, if_neg (by rw [sz]; omega), toL_mk]; rfl
  | succ n ih =>
    intro i h1 h2
    obtain ⟨c, hc, hb⟩ := cell_at (l := l) (i := i) (by omega)
    rw [hc, List.all_cons]
    by_cases hd : dg c = true
    · rw [hd, Bool.true_and]
      refine step (f := fun k => spec_VerNumeric.l0 k (mk l) ((i + 1 : Nat) : Int)) (fun k => ?_) (ih (i + 1) (by omega) (by omega))
      rw [spec_VerNumeric.l0, if_pos (by rw [sz]; omega), if_pos (by omega), hb, digit_f, Option.bind_some, if_pos hd, w64s i (by omega)]
    · have hd' : dg c = false := by simpa using hd
      rw [hd', Bool.false_and, Bool.false_and]
      refine Evs.at1 fun k => ?_
      rw [spec_VerNumeric.l0, if_pos (by rw [sz]; omega), if_pos (by omega), hb, digit_f, Option.bind_some, if_neg hd]
theorem numeric_ev (l : Bs) (hl : l.length ≤ 8589934592) : Ev (fun k => spec_VerNumeric.f k (mk l)) (numeric l) := by
  have h := numericI_ev l hl _ 0 rfl (Nat.zero_le _)
  rw [List.drop_zero, Bool.and_comm] at h
  exact h
theorem al_chain {α : Type} (c : UInt8) (A B : α) (k : Option α) (hA : k = if al c = true then some A else some B) : k = if al c = true then some A else some B := hA
abbrev okId (plainly : Bool) (c : Bs) : Bool := c.all al && c != [] && !(plainly && numeric c && bad c)
theorem ids_one (plainly : Bool) (F : List Bs) (hF : ∀ f ∈ F, f.length ≤ 8589934592) (i : Nat) (hi : i < F.length) (r : Bool) (hnext : Ev (fun k => spec_VerIdentifiers.l0 k plainly (F.map mk) ((i + 1 : Nat) : Int)) r) (hil : F.length ≤ 17179869184) : ∀ (n j : Nat), F[i].length - j = n → j ≤ F[i].length → (∀ c ∈ F[i].take j, al c = true) → Ev (fun k => spec_VerIdentifiers.l1 k plainly (F.map mk) (i : Int) (j : Int)) (okId plainly F[i] && r) := by
  intro n
  have hfl := hF _ (List.getElem_mem hi)
  have hr : rdOf ByteArray.empty (F.map mk) (i : Int) = mk F[i] := rdOf_map F i hi
  generalize hf : F[i] = f at hfl hr
  induction n with
  | zero =>
    intro j h1 h2 h3
    rw [List.take_of_length_le (by omega)] at h3
    have hall : f.all al = true := List.all_eq_true.2 h3
    unfold okId
    rw [hall, Bool.true_and]
    by_cases h0 : f = []
    · refine Evs.at1 fun k => ?_
      rw [spec_VerIdentifiers.l1, if_pos (by omega), if_pos (by rw [List.length_map]; omega), hr, if_neg (by rw [sz]; omega), if_pos (by rw [toL_mk]; exact h0), h0]; rfl
    · rw [bne_iff_ne.2 h0, Bool.true_and]
      cases plainly with
      | false =>
        rw [Bool.false_and, Bool.false_and, Bool.not_false, Bool.true_and]
        refine step (f := fun k => spec_VerIdentifiers.l0 k false (F.map mk) ((i + 1 : Nat) : Int)) (fun k => ?_) hnext
        rw [spec_VerIdentifiers.l1, if_pos (by omega), if_pos (by rw [List.length_map]; omega), hr, if_neg (by rw [sz]; omega), if_neg (by rw [toL_mk]; exact h0), if_neg (by simp), w64s i (by omega)]
      | true =>
        rw [Bool.true_and]
        refine step (f := fun k => (spec_VerNumeric.f k (mk f)).bind fun t150 => (if t150 = true then ((spec_VerPlainly.f (mk f)).bind fun t152 => (if t152 = true then (spec_VerIdentifiers.l0 k true (F.map mk) ((i + 1 : Nat) : Int)) else (some false))) else (spec_VerIdentifiers.l0 k true (F.map mk) ((i + 1 : Nat) : Int)))) (fun k => ?_) ?_
        · rw [spec_VerIdentifiers.l1, if_pos (by omega), if_pos (by rw [List.length_map]; omega), hr, if_neg (by rw [sz]; omega), if_neg (by rw [toL_mk]; exact h0), if_pos rfl, w64s i (by omega)]
        · refine bindE (numeric_ev f hfl) ?_
          rw [plain_f f h0]
          cases hn : numeric f with
          | false =>
            rw [Bool.false_and, Bool.not_false, Bool.true_and]
            exact congr (fun k => if_neg (by simp)) hnext
          | true =>
            rw [Bool.true_and]
            cases hb : bad f with
            | false =>
              rw [Bool.not_false, Bool.true_and]
              exact congr (fun k => by rw [if_pos rfl, Option.bind_some, if_pos rfl]) hnext
            | true =>
              rw [Bool.not_true, Bool.false_and]
              exact congr (f := fun _ => some false) (fun k => by rw [if_pos rfl, Option.bind_some, if_neg (by simp)]) (const _)
  | succ n ih =>
    intro j h1 h2 h3
    obtain ⟨c, hc, hb⟩ := cell_at (l := f) (i := j) (by omega)
    have hmem : c ∈ f := by
      have : c ∈ f.drop j := by rw [hc]; simp
      exact List.mem_of_mem_drop this
    have ht : f.take (j + 1) = f.take j ++ [c] := by
      rw [List.take_add]
      congr 1
      rw [hc]; rfl
    have dgc := dg_iff c
    have alc := al_iff c
    by_cases hw : al c = true
    · have hw' := alc.1 hw
      refine step (f := fun k => spec_VerIdentifiers.l1 k plainly (F.map mk) (i : Int) ((j + 1 : Nat) : Int)) (fun k => ?_) (ih (j + 1) (by omega) (by omega) (fun d hd => by
        rw [ht] at hd
        rcases List.mem_append.1 hd with hd | hd
        · exact h3 d hd
        · rcases List.mem_cons.1 hd with rfl | hd
          · exact hw
          · cases hd))
      rw [spec_VerIdentifiers.l1, if_pos (by omega), if_pos (by rw [List.length_map]; omega), hr, if_pos (by rw [sz]; omega), if_pos (by omega), hb, digit_f, Option.bind_some, w64s j (by omega)]
      by_cases hd : dg c = true
      · rw [if_pos hd]
      · have hd' : ¬ (48 ≤ c.toNat ∧ c.toNat ≤ 57) := fun h => hd (dgc.2 h)
        rw [if_neg hd]
        repeat' split
        all_goals first | rfl | (exfalso; omega)
    · have hw' := fun h => hw (alc.2 h)
      have hno : okId plainly f = false := by
        have : f.all al = false := by
          rw [← Bool.not_eq_true, List.all_eq_true]
          exact fun h => hw (h c hmem)
        unfold okId; rw [this]; rfl
      rw [hno, Bool.false_and]
      have hd : ¬ dg c = true := fun h => hw (al_of_dg h)
      refine Evs.at1 fun k => ?_
      rw [spec_VerIdentifiers.l1, if_pos (by omega), if_pos (by rw [List.length_map]; omega), hr, if_pos (by rw [sz]; omega), if_pos (by omega), hb, digit_f, Option.bind_some, if_neg hd]
      repeat' split
      all_goals first | rfl | (exfalso; apply hw'; omega)
theorem idsI_ev (plainly : Bool) (F : List Bs) (hF : ∀ f ∈ F, f.length ≤ 8589934592) (hil : F.length ≤ 17179869184) : ∀ (n i : Nat), F.length - i = n → i ≤ F.length → Ev (fun k => spec_VerIdentifiers.l0 k plainly (F.map mk) (i : Int)) ((F.drop i).all (okId plainly)) := by
  intro n
  induction n with
  | zero =>
    intro i h1 h2
    refine Evs.at1 fun k => ?_
    rw [List.drop_eq_nil_of_le (by omega), spec_VerIdentifiers.l0, if_neg (by rw [List.length_map]; omega)]; rfl
  | succ n ih =>
    intro i h1 h2
    have hlt : i < F.length := by omega
    rw [List.drop_eq_getElem_cons hlt, List.all_cons]
    refine step (f := fun k => spec_VerIdentifiers.l1 k plainly (F.map mk) (i : Int) ((0 : Nat) : Int)) (fun k => by rw [spec_VerIdentifiers.l0, if_pos (by rw [List.length_map]; omega)]; rfl) ?_
    exact ids_one plainly F hF i hlt _ (ih (i + 1) (by omega) hlt) hil _ 0 rfl (Nat.zero_le _) (by simp)
theorem ids_ev (plainly : Bool) (x : Bs) (hx : x.length ≤ 8589934592) : Ev (fun k => spec_VerIdentifiers.f k (mk x) plainly) (ids plainly x) := by
  refine bindE (split_evS x.length x (Nat.le_refl _) hx) ?_
  have hlen := spl_len x
  have h := idsI_ev plainly (spl x) (fun f hf => by
    obtain ⟨a, b, e⟩ := spl_sub (spl x) f hf
    rw [join_spl] at e
    have h1 := congrArg List.length e
    simp only [List.length_append] at h1
    omega) (by omega) _ 0 rfl (Nat.zero_le _)
  rw [List.drop_zero] at h
  exact h
theorem longI_ev (l : Bs) (hl : l.length ≤ 8589934592) : ∀ (n i m : Nat), l.length - i = n → i ≤ l.length → m < 20 → Ev (fun k => spec_VerLong.l0 k (mk l) (m : Int) (i : Int)) (long m (l.drop i)) := by
  intro n
  induction n with
  | zero =>
    intro i m h1 h2 hm
    refine Evs.at1 fun k => ?_
    rw [List.drop_eq_nil_of_le (by omega), spec_VerLong.l0, if_neg (by rw [sz]; omega)]; rfl
  | succ n ih =>
    intro i m h1 h2 hm
    obtain ⟨c, hc, hb⟩ := cell_at (l := l) (i := i) (by omega)
    rw [hc, long]
    by_cases hd : dg c = true
    · rw [if_pos hd]
      by_cases h20 : 20 ≤ m + 1
      · rw [decide_eq_true h20, Bool.true_or]
        refine Evs.at1 fun k => ?_
        rw [spec_VerLong.l0, if_pos (by rw [sz]; omega), if_pos (by omega), hb, digit_f, Option.bind_some, if_pos hd, w64s m (by omega), if_pos (by omega)]
      · rw [decide_eq_false h20, Bool.false_or]
        refine step (f := fun k => spec_VerLong.l0 k (mk l) ((m + 1 : Nat) : Int) ((i + 1 : Nat) : Int)) (fun k => ?_) (ih (i + 1) (m + 1) (by omega) (by omega) (by omega))
        rw [spec_VerLong.l0, if_pos (by rw [sz]; omega), if_pos (by omega), hb, digit_f, Option.bind_some, if_pos hd, w64s m (by omega), if_neg (by omega), w64s i (by omega)]
    · rw [if_neg hd]
      refine step (f := fun k => spec_VerLong.l0 k (mk l) ((0 : Nat) : Int) ((i + 1 : Nat) : Int)) (fun k => ?_) (ih (i + 1) 0 (by omega) (by omega) (by omega))
      rw [spec_VerLong.l0, if_pos (by rw [sz]; omega), if_pos (by omega), hb, digit_f, Option.bind_some, if_neg hd, if_neg (by omega), w64s i (by omega)]; rfl
theorem long_ev (l : Bs) (hl : l.length ≤ 8589934592) : Ev (fun k => spec_VerLong.f k (mk l)) (long 0 l) := by
  have h := longI_ev l hl _ 0 0 rfl (Nat.zero_le _) (by omega)
  rw [List.drop_zero] at h
  exact h
theorem trimR_snoc (x : Bs) (c : UInt8) : trimR (x ++ [c]) = if wh c = true then trimR x else x ++ [c] := by
  by_cases h : wh c = true
  · rw [if_pos h]
    induction x with
    | nil => simp [trimR, h]
    | cons d x ih => rw [List.cons_append, trimR, trimR, ih]
  · rw [if_neg h]
    exact trimR_last x c [] rfl (by simpa using h)
theorem trim_ev (F : List ByteArray) (R : List Int × Bool × ByteArray × ByteArray × Bool) : ∀ (n : Nat) (r : Bs), r.length = n → n ≤ 8589934592 → Ev (fun k => spec_VerSemantic.j1 k F (mk (trimR r))) R → Ev (fun k => spec_VerSemantic.l0 k F (mk r)) R := by
  intro n
  induction n with
  | zero =>
    intro r h hn hr
    have h0 : r = [] := List.length_eq_zero_iff.1 h
    subst h0
    exact step (f := fun k => spec_VerSemantic.j1 k F (mk [])) (fun k => by rw [spec_VerSemantic.l0, if_pos (by rw [toL_mk])]) hr
  | succ n ih =>
    intro r h hn hr
    have hne : r ≠ [] := by intro e; rw [e] at h; simp at h
    obtain ⟨x, c, e⟩ : ∃ x c, r = x ++ [c] := ⟨r.dropLast, r.getLast hne, (List.dropLast_concat_getLast hne).symm⟩
    have hxl : x.length = n := by rw [e, List.length_append] at h; simpa using h
    have hb : bt (mk r) (n : Int) = (c.toNat : Int) := by
      rw [bt_mk r n (by omega)]
      congr 2
      simp only [e]
      rw [List.getElem_append_right (by omega)]
      simp [hxl]
    have hw1 : wrap64 (((mk r).size : Int) - 1) = (n : Int) := by rw [sz, h, w64 _ (by omega) (by omega)]; omega
    have hex : (mk r).extract 0 ((n : Int).toNat) = mk x := by rw [Int.toNat_natCast, takeE, e, ← hxl, List.take_left]
    rw [e, trimR_snoc] at hr
    by_cases hw : wh c = true
    · rw [if_pos hw] at hr
      refine step (f := fun k => spec_VerSemantic.l0 k F (mk x)) (fun k => ?_) (ih x hxl (by omega) hr)
      rw [spec_VerSemantic.l0, if_neg (by rw [toL_mk]; exact hne), hw1, if_pos (by omega), if_pos (by rw [sz]; omega), hb, white_f, Option.bind_some, if_pos hw, if_pos (by rw [sz]; omega), hex]
    · rw [if_neg hw, ← e] at hr
      refine step (f := fun k => spec_VerSemantic.j1 k F (mk r)) (fun k => ?_) hr
      rw [spec_VerSemantic.l0, if_neg (by rw [toL_mk]; exact hne), hw1, if_pos (by omega), if_pos (by rw [sz]; omega), hb, white_f, Option.bind_some, if_neg hw]
/-- What the reference says of a semantic version: the version, or that there is none. -/
def SemSays (R : List Int × Bool × ByteArray × ByteArray × Bool) : Option (List Nat × Bs × Bs) → Prop
  | none => R.2.2.2.2 = false
  | some q => R = (zs q.1, true, mk q.2.1, mk q.2.2, true)
def EvS (g : Nat → Option (List Int × Bool × ByteArray × ByteArray × Bool)) (o : Option (List Nat × Bs × Bs)) : Prop := ∃ R, Ev g R ∧ SemSays R o
theorem evS_step {g f : Nat → Option (List Int × Bool × ByteArray × ByteArray × Bool)} {o : Option (List Nat × Bs × Bs)} (h : ∀ k, g (k + 1) = f k) (e : EvS f o) : EvS g o := by
  obtain ⟨R, h1, h2⟩ := e
  exact ⟨R, step h h1, h2⟩
theorem evS_congr {g f : Nat → Option (List Int × Bool × ByteArray × ByteArray × Bool)} {o : Option (List Nat × Bs × Bs)} (h : ∀ k, g k = f k) (e : EvS f o) : EvS g o := by
  obtain ⟨R, h1, h2⟩ := e
  exact ⟨R, congr h h1, h2⟩
theorem evS_bind {α : Type} {g : Nat → Option α} {f : Nat → α → Option (List Int × Bool × ByteArray × ByteArray × Bool)} {a : α} {o : Option (List Nat × Bs × Bs)} (h : Ev g a) (e : EvS (fun k => f k a) o) : EvS (fun k => (g k).bind (f k)) o := by
  obtain ⟨R, h1, h2⟩ := e
  exact ⟨R, bindE h h1, h2⟩
theorem evS_no (R : List Int × Bool × ByteArray × ByteArray × Bool) (h : R.2.2.2.2 = false) : EvS (fun _ => some R) none := ⟨R, const _, h⟩
theorem preS_ev (ns : List Nat) (u b : Bs) (hu : u.length ≤ 8589934592) (g : Nat → Option (List Int × Bool × ByteArray × ByteArray × Bool)) (hg : ∀ k, g k = if (mk u).toList = ([] : List UInt8) then (some (zs ns, true, (⟨#[]⟩ : ByteArray), mk b, true)) else (if 1 ≤ ((mk u).size : Int) then (if 0 < ((mk u).size : Int) then (if (bt (mk u) 0) = 45 then ((spec_VerIdentifiers.f k ((mk u).extract 1 (mk u).size) true).bind fun t172 => (some (zs ns, true, (mk u).extract 1 (mk u).size, mk b, t172))) else (some (zs ns, true, (mk u).extract 1 (mk u).size, mk b, false))) else (none)) else (none))) : EvS g ((preOf u b).map fun q => (ns, q.1, q.2)) := by
  refine evS_congr hg ?_
  cases u with
  | nil => exact ⟨_, congr (f := fun _ => some (zs ns, true, (⟨#[]⟩ : ByteArray), mk b, true)) (fun k => by rw [if_pos (by rw [toL_mk])]) (const _), rfl⟩
  | cons c p =>
    have q := chI c 45 45 rfl
    have hd : (mk (c :: p)).extract 1 (mk (c :: p)).size = mk p := by rw [dropE]; rfl
    have h0 : ¬ (mk (c :: p)).toList = [] := by rw [toL_mk]; simp
    have h1 : (1 : Int) ≤ ((mk (c :: p)).size : Int) := by rw [sz]; simp only [List.length_cons]; omega
    have h2 : (0 : Int) < ((mk (c :: p)).size : Int) := by rw [sz]; simp
    have hpl : p.length ≤ 8589934592 := by simp only [List.length_cons] at hu; omega
    rw [preOf]
    by_cases hc : c = 45
    · refine evS_congr (f := fun k => (spec_VerIdentifiers.f k (mk p) true).bind fun t172 => (some (zs ns, true, mk p, mk b, t172))) (fun k => by rw [if_neg h0, if_pos h1, if_pos h2, bt_head, if_pos (q.2 hc), hd]) ?_
      refine evS_bind (ids_ev true p hpl) ?_
      cases hi : ids true p with
      | true => rw [if_pos ⟨hc, rfl⟩]; exact ⟨_, const _, rfl⟩
      | false => rw [if_neg (by simp)]; exact ⟨_, const _, rfl⟩
    · rw [if_neg (fun e => hc e.1)]
      exact ⟨_, congr (f := fun _ => some (zs ns, true, mk p, mk b, false)) (fun k => by rw [if_neg h0, if_pos h1, if_pos h2, bt_head, if_neg (fun e => hc (q.1 e)), hd]) (const _), rfl⟩
theorem semTail_ev (F : List Bs) (r : Bs) (hr : r.length ≤ 8589934592) (ns : List Nat) : EvS (fun k => spec_VerSemantic.l1 k (F.map mk) (mk (trimR r)) ((3 : Nat) : Int) (zs ns) true (⟨#[]⟩ : ByteArray) (⟨#[]⟩ : ByteArray)) ((specX r).map fun q => (ns, q.1, q.2)) := by
  have htl : (trimR r).length ≤ r.length := by
    obtain ⟨bl, _, e⟩ := trimR_cut r
    have := congrArg List.length e
    rw [List.length_append] at this; omega
  unfold specX
  generalize trimR r = t at htl
  have hp : Ev (fun k => spec_verPlace.f k (mk t) 43) (idxs 43 0 t) := place_ev 43 t (by omega)
  cases hc : cutAt 43 t with
  | none =>
    have hi : idxs 43 0 t = -1 := by unfold idxs; rw [hc]
    rw [hi] at hp
    obtain ⟨R, h1, h2⟩ := preS_ev ns t [] (by omega) (fun k => if (mk t).toList = ([] : List UInt8) then (some (zs ns, true, (⟨#[]⟩ : ByteArray), mk [], true)) else (if 1 ≤ ((mk t).size : Int) then (if 0 < ((mk t).size : Int) then (if (bt (mk t) 0) = 45 then ((spec_VerIdentifiers.f k ((mk t).extract 1 (mk t).size) true).bind fun t172 => (some (zs ns, true, (mk t).extract 1 (mk t).size, mk [], t172))) else (some (zs ns, true, (mk t).extract 1 (mk t).size, mk [], false))) else (none)) else (none))) (fun k => rfl)
    refine ⟨R, ?_, h2⟩
    refine step (fun k => ?_) (bindE hp (f := fun k t170 => if t170 ≥ 0 then none else (if (mk t).toList = ([] : List UInt8) then (some (zs ns, true, (⟨#[]⟩ : ByteArray), mk [], true)) else (if 1 ≤ ((mk t).size : Int) then (if 0 < ((mk t).size : Int) then (if (bt (mk t) 0) = 45 then ((spec_VerIdentifiers.f k ((mk t).extract 1 (mk t).size) true).bind fun t172 => (some (zs ns, true, (mk t).extract 1 (mk t).size, mk [], t172))) else (some (zs ns, true, (mk t).extract 1 (mk t).size, mk [], false))) else (none)) else (none)))) (congr (fun k => if_neg (by decide)) h1))
    rw [spec_VerSemantic.l1, if_neg (by omega)]
    cases hq : spec_verPlace.f k (mk t) 43 with
    | none => simp only [Option.bind_none]
    | some t170 =>
      have e : t170 = -1 := Evs.uniq (Ev.of (g := fun k => spec_verPlace.f k (mk t) 43) (fun k => spec_verPlace.mono _ _ k) hq) hp
      rw [Option.bind_some, Option.bind_some, e, if_neg (show ¬ ((-1 : Int) ≥ 0) by decide), if_neg (show ¬ ((-1 : Int) ≥ 0) by decide)]
  | some q =>
    obtain ⟨u, b⟩ := q
    have hi : idxs 43 0 t = ((u.length : Nat) : Int) := by unfold idxs; rw [hc]; show ((0 + u.length : Nat) : Int) = _; rw [Nat.zero_add]
    rw [hi] at hp
    obtain ⟨e, hu⟩ := cutAt_some hc
    have hl1 := congrArg List.length e
    rw [List.length_append, List.length_cons] at hl1
    have e1 : (mk t).extract 0 ((u.length : Int).toNat) = mk u := by rw [Int.toNat_natCast, takeE, e, List.take_left]
    have e2 : (mk t).extract ((((u.length + 1 : Nat) : Int)).toNat) (mk t).size = mk b := by
      rw [Int.toNat_natCast, dropE, e, ← List.drop_drop, List.drop_left]; rfl
    have main : EvS (fun k => (spec_VerIdentifiers.f k (mk b) false).bind fun t171 => (if t171 = true then (if (mk u).toList = ([] : List UInt8) then (some (zs ns, true, (⟨#[]⟩ : ByteArray), mk b, true)) else (if 1 ≤ ((mk u).size : Int) then (if 0 < ((mk u).size : Int) then (if (bt (mk u) 0) = 45 then ((spec_VerIdentifiers.f k ((mk u).extract 1 (mk u).size) true).bind fun t172 => (some (zs ns, true, (mk u).extract 1 (mk u).size, mk b, t172))) else (some (zs ns, true, (mk u).extract 1 (mk u).size, mk b, false))) else (none)) else (none))) else (some (([] : List Int), false, (⟨#[]⟩ : ByteArray), (⟨#[]⟩ : ByteArray), false)))) ((if ids false b then preOf u b else none).map fun q => (ns, q.1, q.2)) := by
      refine evS_bind (ids_ev false b (by omega)) ?_
      cases ids false b with
      | true =>
        rw [if_pos rfl]
        refine preS_ev ns u b (by omega) _ (fun k => by rw [if_pos rfl])
      | false =>
        rw [if_neg (by simp)]
        exact evS_congr (fun k => if_neg (by simp)) (evS_no _ rfl)
    refine evS_step (f := fun k => (spec_verPlace.f k (mk t) 43).bind fun t170 => if t170 ≥ 0 then (spec_VerIdentifiers.f k ((mk t).extract ((wrap64 (t170 + 1)) : Int).toNat (mk t).size) false).bind (fun t171 => (if t171 = true then (if ((mk t).extract 0 (t170 : Int).toNat).toList = ([] : List UInt8) then (some (zs ns, true, (⟨#[]⟩ : ByteArray), (mk t).extract ((wrap64 (t170 + 1)) : Int).toNat (mk t).size, true)) else (if 1 ≤ (((mk t).extract 0 (t170 : Int).toNat).size : Int) then (if 0 < (((mk t).extract 0 (t170 : Int).toNat).size : Int) then (if (bt ((mk t).extract 0 (t170 : Int).toNat) 0) = 45 then ((spec_VerIdentifiers.f k (((mk t).extract 0 (t170 : Int).toNat).extract 1 ((mk t).extract 0 (t170 : Int).toNat).size) true).bind fun t172 => (some (zs ns, true, ((mk t).extract 0 (t170 : Int).toNat).extract 1 ((mk t).extract 0 (t170 : Int).toNat).size, (mk t).extract ((wrap64 (t170 + 1)) : Int).toNat (mk t).size, t172))) else (some (zs ns, true, ((mk t).extract 0 (t170 : Int).toNat).extract 1 ((mk t).extract 0 (t170 : Int).toNat).size, (mk t).extract ((wrap64 (t170 + 1)) : Int).toNat (mk t).size, false))) else (none)) else (none))) else (some (([] : List Int), false, (⟨#[]⟩ : ByteArray), (⟨#[]⟩ : ByteArray), false)))) else none) (fun k => ?_) ?_
    · rw [spec_VerSemantic.l1, if_neg (by omega)]
      cases hq : spec_verPlace.f k (mk t) 43 with
      | none => simp only [Option.bind_none]
      | some t170 =>
        have e : t170 = ((u.length : Nat) : Int) := Evs.uniq (Ev.of (g := fun k => spec_verPlace.f k (mk t) 43) (fun k => spec_verPlace.mono _ _ k) hq) hp
        subst e
        rw [Option.bind_some, Option.bind_some, w64s _ (by omega), if_pos (show ((u.length : Nat) : Int) ≥ 0 by omega), if_pos (show ((u.length : Nat) : Int) ≥ 0 by omega), if_pos (show (0 : Int) ≤ ((u.length + 1 : Nat) : Int) by omega), if_pos (show ((u.length + 1 : Nat) : Int) ≤ ((mk t).size : Int) by rw [sz]; omega), if_pos (show (0 : Int) ≤ ((u.length : Nat) : Int) by omega), if_pos (show ((u.length : Nat) : Int) ≤ ((mk t).size : Int) by rw [sz]; omega)]
    · refine evS_bind hp (evS_congr (fun k => ?_) main)
      rw [if_pos (by omega), w64s _ (by omega), e1, e2]
theorem semI_ev (F : List Bs) (h3 : F.length = 3) (r : Bs) (hr : r.length ≤ 8589934592) (hF : ∀ f ∈ F, f ≠ [] ∧ f.length ≤ 8589934592) : ∀ (n i : Nat) (acc : List Nat) (first : Bool), 3 - i = n → i ≤ 3 → acc.length = i → EvS (fun k => spec_VerSemantic.l1 k (F.map mk) (mk (trimR r)) (i : Int) (zs acc) true (⟨#[]⟩ : ByteArray) (⟨#[]⟩ : ByteArray)) (match nums true first (F.drop i) with
    | none => none
    | some ns => (specX r).map fun q => (acc ++ ns, q.1, q.2)) := by
  intro n
  induction n with
  | zero =>
    intro i acc first h1 h2 ha
    obtain rfl : i = 3 := by omega
    rw [List.drop_eq_nil_of_le (by omega)]
    simp only [nums, List.append_nil]
    exact semTail_ev F r hr acc
  | succ n ih =>
    intro i acc first h1 h2 ha
    have hlt : i < F.length := by omega
    obtain ⟨hf0, hfl⟩ := hF _ (List.getElem_mem hlt)
    rw [List.drop_eq_getElem_cons hlt, nums, Bool.or_true, Bool.true_and]
    refine evS_step (f := fun k => (spec_VerUint.f k (mk F[i])).bind fun bt163 => (if bt163.2 = true then ((spec_VerPlainly.f (mk F[i])).bind fun t166 => (if t166 = true then (if (zs acc).length < 17592186044416 then (spec_VerSemantic.l1 k (F.map mk) (mk (trimR r)) ((i + 1 : Nat) : Int) (zs acc ++ [bt163.1]) true (⟨#[]⟩ : ByteArray) (⟨#[]⟩ : ByteArray)) else (none)) else (some (([] : List Int), false, (⟨#[]⟩ : ByteArray), (⟨#[]⟩ : ByteArray), false)))) else (some (([] : List Int), false, (⟨#[]⟩ : ByteArray), (⟨#[]⟩ : ByteArray), false)))) (fun k => by
      rw [spec_VerSemantic.l1, if_pos (by omega), if_pos (by omega), if_pos (by rw [List.length_map]; omega), rdOf_map F i hlt, w64s i (by omega)]) ?_
    refine evS_bind (uint_ev F[i] (by omega)) ?_
    unfold vnR
    rw [plain_f _ hf0]
    cases hv : vn F[i] with
    | none =>
      have e : (if bad F[i] = true then none else match (none : Option Nat) with
          | none => none
          | some n => (nums true false (F.drop (i + 1))).map (n :: ·)) = none := by split <;> rfl
      rw [e]
      exact evS_congr (fun k => if_neg (by simp)) (evS_no _ rfl)
    | some u =>
      cases hb : bad F[i] with
      | true =>
        rw [if_pos rfl]
        exact evS_congr (fun k => by rw [if_pos rfl, Option.bind_some, if_neg (by simp)]) (evS_no _ rfl)
      | false =>
        rw [if_neg (by simp)]
        have hi := ih (i + 1) (acc ++ [u]) false (by omega) (by omega) (by rw [List.length_append, ha]; rfl)
        have e : zs (acc ++ [u]) = zs acc ++ [(u : Int)] := by simp
        rw [e] at hi
        have e2 : (match (nums true false (F.drop (i + 1))).map (u :: ·) with
            | none => (none : Option (List Nat × Bs × Bs))
            | some ns => (specX r).map fun (q : Bs × Bs) => (acc ++ ns, q.1, q.2)) = (match nums true false (F.drop (i + 1)) with
            | none => (none : Option (List Nat × Bs × Bs))
            | some ns => (specX r).map fun (q : Bs × Bs) => (acc ++ [u] ++ ns, q.1, q.2)) := by
          cases nums true false (F.drop (i + 1)) with
          | none => rfl
          | some ns => simp
        simp only
        rw [e2]
        refine evS_congr (fun k => ?_) hi
        rw [if_pos trivial, Option.bind_some, if_pos (by simp), if_pos (by rw [List.length_map]; omega)]
theorem semantic_ev (l : Bs) (hl : l.length ≤ 8589934592) : EvS (fun k => spec_VerSemantic.f k (mk l)) (sSem l) := by
  have hfe := fieldsOf_ev l hl
  obtain ⟨hfs, hfj⟩ := fields_spec l
  have hrl := fields_rest l
  have hal := ahead_len l
  have hF : ∀ f ∈ (fieldsOf l).1, f ≠ [] ∧ f.length ≤ 8589934592 := fun f hf => ⟨(hfs f hf).1, by
    obtain ⟨x, y, e⟩ := spl_sub _ f hf
    have h1 := congrArg List.length e
    have h2 := congrArg List.length hfj
    simp only [List.length_append] at h1 h2
    omega⟩
  have hass : ∀ k, spec_VerSemantic.f k (mk l) = ((spec_verAhead.f k (mk l)).bind fun t => spec_verFields.f k t).bind fun bt156 => (spec_VerSemantic.l0 k bt156.1 bt156.2) := fun k => by
    unfold spec_VerSemantic.f
    cases spec_verAhead.f k (mk l) <;> rfl
  refine evS_congr hass (evS_bind hfe ?_)
  have key : EvS (fun k => spec_VerSemantic.j1 k ((fieldsOf l).1.map mk) (mk (trimR (fieldsOf l).2))) (sSem l) := by
    unfold sSem
    by_cases h3 : (fieldsOf l).1.length = 3
    · rw [if_neg (show ¬ (fieldsOf l).1.length ≠ 3 by omega)]
      have h := semI_ev (fieldsOf l).1 h3 (fieldsOf l).2 (by omega) hF _ 0 [] true rfl (Nat.zero_le _) rfl
      rw [List.drop_zero] at h
      refine evS_step (f := fun k => spec_VerSemantic.l1 k ((fieldsOf l).1.map mk) (mk (trimR (fieldsOf l).2)) ((0 : Nat) : Int) (zs []) true (⟨#[]⟩ : ByteArray) (⟨#[]⟩ : ByteArray)) (fun k => by rw [spec_VerSemantic.j1, if_pos (by rw [List.length_map]; omega)]; rfl) ?_
      have e : (match nums true true (fieldsOf l).1 with
          | none => none
          | some ns => (specX (fieldsOf l).2).map fun q => (([] : List Nat) ++ ns, q.1, q.2)) = (match nums true true (fieldsOf l).1 with
          | none => none
          | some ns => match specX (fieldsOf l).2 with
            | none => none
            | some (p, b) => some (ns, p, b)) := by
        cases nums true true (fieldsOf l).1 with
        | none => rfl
        | some ns => cases specX (fieldsOf l).2 <;> rfl
      rw [e] at h
      exact h
    · rw [if_pos h3]
      exact evS_step (fun k => by rw [spec_VerSemantic.j1, if_neg (by rw [List.length_map]; omega)]) (evS_no _ rfl)
  obtain ⟨R, h1, h2⟩ := key
  exact ⟨R, trim_ev _ R _ _ rfl (by omega) h1, h2⟩
end Go.Proofs.YtomoefldmgfaoaaDoor.Pv.SFnVersionParse
