/- Versions: what is written out of its parts is parsed as these parts: the law in plain Lean. -/
import Derived.Test.YtomoefldmgfaoaaDoorPFnVersionMadex5
import Derived.Test.YtomoefldmgfaoaaDoorPvU
import Derived.Test.YtomoefldmgfaoaaDoorPvM
set_option linter.unusedVariables false
set_option linter.unusedSimpArgs false
namespace Go.Proofs.YtomoefldmgfaoaaDoor.Pv.SFnVersionMade
open Go Go.RowKit Go.Proofs.YtomoefldmgfaoaaDoor Go.Proofs.YtomoefldmgfaoaaDoorW.PrintWords Go.Proofs.YtomoefldmgfaoaaDoor.PFnVersionMade Go.Proofs.YtomoefldmgfaoaaDoor.Txt Go.Proofs.YtomoefldmgfaoaaDoor.Small Go.Proofs.YtomoefldmgfaoaaDoor.Pv

theorem chI (c d : UInt8) (n : Int) (h : (d.toNat : Int) = n) : ((c.toNat : Int) = n) ↔ c = d := by
  rw [← h]
  exact ⟨fun e => UInt8.toNat_inj.1 (by omega), fun e => by rw [e]⟩
theorem mk_Lb (s : ByteArray) : mk (Lb s) = s := ext rfl
theorem toL_mk (l : Bs) : (mk l).toList = l := by rw [toL]
theorem bt_mk (l : Bs) (i : Nat) (h : i < l.length) : bt (mk l) (i : Int) = ((l[i]).toNat : Int) := bt_nat (mk l) i h
theorem bt_head (c : UInt8) (t : Bs) : bt (mk (c :: t)) 0 = (c.toNat : Int) := bt_mk (c :: t) 0 (by simp)
theorem dropE (l : Bs) (a : Nat) : (mk l).extract a (mk l).size = mk (l.drop a) := by
  rw [extract_mk, Lb_mk, size_mk, List.take_of_length_le (by rw [List.length_drop]; omega)]
theorem takeE (l : Bs) (b : Nat) : (mk l).extract 0 b = mk (l.take b) := by rw [extract_mk, Lb_mk, List.drop_zero, Nat.sub_zero]
theorem cell_at {l : Bs} {i : Nat} (h : i < l.length) : ∃ c, l.drop i = c :: l.drop (i + 1) ∧ bt (mk l) (i : Int) = (c.toNat : Int) := ⟨l[i], List.drop_eq_getElem_cons h, bt_mk l i h⟩
theorem sz (l : Bs) : (((mk l).size : Nat) : Int) = (l.length : Int) := by rw [size_mk]
theorem digit_f (c : UInt8) : spec_verDigit.f (c.toNat : Int) = some (dg c) := by
  unfold spec_verDigit.f
  by_cases h : (c.toNat : Int) ≥ 48
  · rw [if_pos h]
    by_cases h2 : (c.toNat : Int) ≤ 57
    · rw [decide_eq_true h2, (dg_iff c).2 (by omega)]
    · rw [decide_eq_false h2]
      rcases hd : dg c with _ | _
      · rfl
      · have := (dg_iff c).1 hd; omega
  · rw [if_neg h]
    rcases hd : dg c with _ | _
    · rfl
    · have := (dg_iff c).1 hd; omega
def idxs (sg : UInt8) (i : Nat) (l : Bs) : Int := match cutAt sg l with
  | some q => ((i + q.1.length : Nat) : Int)
  | none => -1
theorem idxs_cons (sg : UInt8) (i : Nat) (c : UInt8) (l : Bs) : idxs sg i (c :: l) = if c = sg then (i : Int) else idxs sg (i + 1) l := by
  unfold idxs
  rw [cutAt]
  by_cases h : c = sg
  · rw [if_pos h, if_pos h]; rfl
  · rw [if_neg h, if_neg h]
    cases cutAt sg l with
    | none => rfl
    | some q =>
      show ((i + (q.1.length + 1) : Nat) : Int) = ((i + 1 + q.1.length : Nat) : Int)
      congr 1; omega
theorem placeI_ev (sg : UInt8) (l : Bs) (hl : l.length ≤ 4611686018427387904) : ∀ (n i : Nat), l.length - i = n → i ≤ l.length → Ev (fun k => spec_verPlace.l0 k (mk l) (sg.toNat : Int) (i : Int)) (idxs sg i (l.drop i)) := by
  intro n
  induction n with
  | zero =>
    intro i h1 h2
    refine Evs.at1 fun k => ?_
    rw [List.drop_eq_nil_of_le (by omega), spec_verPlace.l0, if_neg (by rw [sz]; omega)]; rfl
  | succ n ih =>
    intro i h1 h2
    obtain ⟨c, hc, hb⟩ := cell_at (l := l) (i := i) (by omega)
    rw [hc, idxs_cons]
    by_cases h : c = sg
    · rw [if_pos h]
      refine Evs.at1 fun k => ?_
      rw [spec_verPlace.l0, if_pos (by rw [sz]; omega), if_pos (by omega), hb, if_pos (by rw [h])]
    · rw [if_neg h]
      refine step (f := fun k => spec_verPlace.l0 k (mk l) (sg.toNat : Int) ((i + 1 : Nat) : Int)) (fun k => ?_) (ih (i + 1) (by omega) (by omega))
      rw [spec_verPlace.l0, if_pos (by rw [sz]; omega), if_pos (by omega), hb, if_neg (fun e => h (UInt8.toNat_inj.1 (by omega))), w64s i (by omega)]
theorem place_ev (sg : UInt8) (l : Bs) (hl : l.length ≤ 4611686018427387904) : Ev (fun k => spec_verPlace.f k (mk l) (sg.toNat : Int)) (idxs sg 0 l) := by
  have h := placeI_ev sg l hl _ 0 rfl (Nat.zero_le _)
  rw [List.drop_zero] at h
  exact h
theorem idxs_mem (sg : UInt8) (l : Bs) : idxs sg 0 l ≥ 0 ↔ sg ∈ l := by
  unfold idxs
  cases hc : cutAt sg l with
  | none =>
    constructor
    · intro h; exact absurd h (by decide)
    · intro h
      obtain ⟨u, b, e⟩ := List.append_of_mem h
      exfalso
      have : ∀ l : Bs, sg ∈ l → cutAt sg l ≠ none := by
        intro l
        induction l with
        | nil => intro h; cases h
        | cons c t ih =>
          intro h
          rw [cutAt]
          by_cases e : c = sg
          · rw [if_pos e]; simp
          · rw [if_neg e]
            have := ih ((List.mem_cons.1 h).resolve_left (fun e' => e e'.symm))
            cases hq : cutAt sg t with
            | none => exact absurd hq this
            | some q => simp
      exact this l h hc
  | some q =>
    obtain ⟨e, _⟩ := cutAt_some (u := q.1) (b := q.2) hc
    constructor
    · intro _; rw [e]; simp
    · intro _; show ((0 + q.1.length : Nat) : Int) ≥ 0; omega
theorem plain_f (l : Bs) (h0 : l ≠ []) : spec_VerPlainly.f (mk l) = some (!bad l) := by
  unfold spec_VerPlainly.f
  rw [sz, toL_mk]
  cases l with
  | nil => exact absurd rfl h0
  | cons c t =>
    by_cases h1 : ((c :: t).length : Int) = 1
    · have ht : t = [] := by simp only [List.length_cons] at h1; exact List.length_eq_zero_iff.1 (by omega)
      subst ht
      rw [if_pos h1]
      unfold bad
      by_cases e : c = 48
      · rw [e]; rfl
      · have : ((([c] : Bs).head? == some 48) : Bool) = false := beq_eq_false_iff_ne.2 (by simpa using e)
        rw [this]; rfl
    · rw [if_neg h1, if_neg (by simp), if_pos (by simp only [List.length_cons]; omega), bt_head]
      congr 1
      unfold bad
      have hl : ((c :: t : Bs) != [48]) = true := bne_iff_ne.2 (by intro e; injection e with _ e; subst e; exact h1 rfl)
      rw [hl, Bool.and_true]
      have q := chI c 48 48 rfl
      by_cases e : c = 48
      · rw [bne_eq_false_iff_eq.2 (q.2 e), e]; rfl
      · rw [bne_iff_ne.2 (fun h => e (q.1 h))]
        have : ((c :: t : Bs).head? == some 48) = false := beq_eq_false_iff_ne.2 (by simpa using e)
        rw [this]; rfl
theorem rdOf_map (F : List Bs) (i : Nat) (h : i < F.length) : rdOf ByteArray.empty (F.map mk) (i : Int) = mk F[i] := by
  unfold rdOf
  rw [Int.toNat_natCast, List.getD_eq_getElem?_getD, List.getElem?_map, List.getElem?_eq_getElem h]; rfl
theorem split_evS : ∀ (n : Nat) (l : Bs), l.length ≤ n → l.length ≤ 8589934592 → Ev (fun k => spec_VerSplit.f k (mk l)) ((spl l).map mk) := by
  intro n
  induction n with
  | zero =>
    intro l h hl
    have h0 : l = [] := List.length_eq_zero_iff.1 (by omega)
    subst h0
    refine step (f := fun k => (spec_verPlace.f k (mk []) 46).bind fun t128 => some [mk []]) (fun k => ?_) (bindE (place_ev 46 [] (by simp)) (const _))
    rw [spec_VerSplit.f]
    cases hp : spec_verPlace.f k (mk []) 46 with
    | none => rfl
    | some t =>
      have : t = -1 := by
        have := Evs.uniq (Ev.of (g := fun k => spec_verPlace.f k (mk []) 46) (fun k => spec_verPlace.mono _ _ k) hp) (place_ev 46 [] (by simp))
        rw [this]; rfl
      subst this
      rfl
  | succ n ih =>
    intro l h hl
    have hp : Ev (fun k => spec_verPlace.f k (mk l) 46) (idxs 46 0 l) := place_ev 46 l (by omega)
    cases hc : cutAt 46 l with
    | none =>
      have hi : idxs 46 0 l = -1 := by unfold idxs; rw [hc]
      rw [hi] at hp
      have h46 : 46 ∉ l := fun hm => by have := (idxs_mem 46 l).2 hm; rw [hi] at this; exact absurd this (by decide)
      rw [spl_one l h46]
      refine step (f := fun k => (spec_verPlace.f k (mk l) 46).bind fun t128 => (if t128 < 0 then (some (([mk l] : List ByteArray))) else (if 0 ≤ t128 then (if t128 ≤ ((mk l).size : Int) then ((some (([(mk l).extract 0 (t128 : Int).toNat] : List ByteArray) : List ByteArray)).bind fun y132 => (if 0 ≤ (wrap64 (t128 + 1)) then (if (wrap64 (t128 + 1)) ≤ ((mk l).size : Int) then ((spec_VerSplit.f k ((mk l).extract ((wrap64 (t128 + 1)) : Int).toNat (mk l).size)).bind fun t135 => (if y132.length + t135.length < 8796093022208 then (some (y132 ++ t135)) else (none))) else (none)) else (none))) else (none)) else (none)))) (fun k => by rw [spec_VerSplit.f]) ?_
      refine bindE hp ?_
      exact congr (f := fun _ => some _) (fun k => if_pos (by decide)) (const _)
    | some q =>
      obtain ⟨u, b⟩ := q
      have hi : idxs 46 0 l = ((u.length : Nat) : Int) := by unfold idxs; rw [hc]; show ((0 + u.length : Nat) : Int) = _; rw [Nat.zero_add]
      rw [hi] at hp
      obtain ⟨e, hu⟩ := cutAt_some hc
      have hl1 := congrArg List.length e
      rw [List.length_append, List.length_cons] at hl1
      have hsp : spl l = u :: spl b := by rw [e]; exact spl_dot u b hu
      have hlen := spl_len b
      have hb := ih b (by omega) (by omega)
      refine step (f := fun k => (spec_verPlace.f k (mk l) 46).bind fun t128 => (if t128 < 0 then (some (([mk l] : List ByteArray))) else (if 0 ≤ t128 then (if t128 ≤ ((mk l).size : Int) then ((some (([(mk l).extract 0 (t128 : Int).toNat] : List ByteArray) : List ByteArray)).bind fun y132 => (if 0 ≤ (wrap64 (t128 + 1)) then (if (wrap64 (t128 + 1)) ≤ ((mk l).size : Int) then ((spec_VerSplit.f k ((mk l).extract ((wrap64 (t128 + 1)) : Int).toNat (mk l).size)).bind fun t135 => (if y132.length + t135.length < 8796093022208 then (some (y132 ++ t135)) else (none))) else (none)) else (none))) else (none)) else (none)))) (fun k => by rw [spec_VerSplit.f]) ?_
      refine bindE hp ?_
      have e1 : (mk l).extract 0 ((u.length : Int).toNat) = mk u := by rw [Int.toNat_natCast, takeE, e, List.take_left]
      have e2 : (mk l).extract ((((u.length + 1 : Nat) : Int)).toNat) (mk l).size = mk b := by
        rw [Int.toNat_natCast, dropE, e, ← List.drop_drop, List.drop_left]; rfl
      refine congr (f := fun k => (spec_VerSplit.f k (mk b)).bind fun t135 => (if ([mk u] : List ByteArray).length + t135.length < 8796093022208 then (some ([mk u] ++ t135)) else none)) (fun k => by
        rw [if_neg (by omega), if_pos (by omega), if_pos (by rw [sz]; omega), Option.bind_some, w64s _ (by omega), if_pos (by omega), if_pos (by rw [sz]; omega), e1, e2]) ?_
      refine bindE hb ?_
      refine congr (f := fun _ => some ((spl l).map mk)) (fun k => ?_) (const _)
      rw [if_pos (by simp only [List.length_cons, List.length_nil, List.length_map]; omega), hsp]; rfl
theorem numericI_ev (l : Bs) (hl : l.length ≤ 8589934592) : ∀ (n i : Nat), l.length - i = n → i ≤ l.length → Ev (fun k => spec_VerNumeric.l0 k (mk l) (i : Int)) ((l.drop i).all dg && l != []) := by
  intro n
  induction n with
  | zero =>
    intro i h1 h2
    refine Evs.at1 fun k => ?_
    rw [List.drop_eq_nil_of_le (by omega), spec_VerNumeric.l0, if_neg (by rw [sz]; omega), toL_mk]; rfl
  | succ n ih =>
    intro i h1 h2
    obtain ⟨c, hc, hb⟩ := cell_at (l := l) (i := i) (by omega)
    rw [hc, List.all_cons]
    by_cases hd : dg c = true
    · rw [hd, Bool.true_and]
      refine step (f := fun k => spec_VerNumeric.l0 k (mk l) ((i + 1 : Nat) : Int)) (fun k => ?_) (ih (i + 1) (by omega) (by omega))
      rw [spec_VerNumeric.l0, if_pos (by rw [sz]; omega), if_pos (by omega), hb, digit_f, Option.bind_some, if_pos hd, w64s i (by omega)]
    · have hd' : dg c = false := by simpa using hd
      rw [hd', Bool.false_and, Bool.false_and]
      refine Evs.at1 fun k => ?_
      rw [spec_VerNumeric.l0, if_pos (by rw [sz]; omega), if_pos (by omega), hb, digit_f, Option.bind_some, if_neg hd]
theorem numeric_ev (l : Bs) (hl : l.length ≤ 8589934592) : Ev (fun k => spec_VerNumeric.f k (mk l)) (numeric l) := by
  have h := numericI_ev l hl _ 0 rfl (Nat.zero_le _)
  rw [List.drop_zero, Bool.and_comm] at h
  exact h
theorem al_chain {α : Type} (c : UInt8) (A B : α) (k : Option α) (hA : k = if al c = true then some A else some B) : k = if al c = true then some A else some B := hA
abbrev okId (plainly : Bool) (c : Bs) : Bool := c.all al && c != [] && !(plainly && numeric c && bad c)
theorem ids_one (plainly : Bool) (F : List Bs) (hF : ∀ f ∈ F, f.length ≤ 8589934592) (i : Nat) (hi : i < F.length) (r : Bool) (hnext : Ev (fun k => spec_VerIdentifiers.l0 k plainly (F.map mk) ((i + 1 : Nat) : Int)) r) (hil : F.length ≤ 17179869184) : ∀ (n j : Nat), F[i].length - j = n → j ≤ F[i].length → (∀ c ∈ F[i].take j, al c = true) → Ev (fun k => spec_VerIdentifiers.l1 k plainly (F.map mk) (i : Int) (j : Int)) (okId plainly F[i] && r) := by
  intro n
  have hfl := hF _ (List.getElem_mem hi)
  have hr : rdOf ByteArray.empty (F.map mk) (i : Int) = mk F[i] := rdOf_map F i hi
  generalize hf : F[i] = f at hfl hr
  induction n with
  | zero =>
    intro j h1 h2 h3
    rw [List.take_of_length_le (by omega)] at h3
    have hall : f.all al = true := List.all_eq_true.2 h3
    unfold okId
    rw [hall, Bool.true_and]
    by_cases h0 : f = []
    · refine Evs.at1 fun k => ?_
      rw [spec_VerIdentifiers.l1, if_pos (by omega), if_pos (by rw [List.length_map]; omega), hr, if_neg (by rw [sz]; omega), if_pos (by rw [toL_mk]; exact h0), h0]; rfl
    · rw [bne_iff_ne.2 h0, Bool.true_and]
      cases plainly with
      | false =>
        rw [Bool.false_and, Bool.false_and, Bool.not_false, Bool.true_and]
        refine step (f := fun k => spec_VerIdentifiers.l0 k false (F.map mk) ((i + 1 : Nat) : Int)) (fun k => ?_) hnext
        rw [spec_VerIdentifiers.l1, if_pos (by omega), if_pos (by rw [List.length_map]; omega), hr, if_neg (by rw [sz]; omega), if_neg (by rw [toL_mk]; exact h0), if_neg (by simp), w64s i (by omega)]
      | true =>
        rw [Bool.true_and]
        refine step (f := fun k => (spec_VerNumeric.f k (mk f)).bind fun t150 => (if t150 = true then ((spec_VerPlainly.f (mk f)).bind fun t152 => (if t152 = true then (spec_VerIdentifiers.l0 k true (F.map mk) ((i + 1 : Nat) : Int)) else (some false))) else (spec_VerIdentifiers.l0 k true (F.map mk) ((i + 1 : Nat) : Int)))) (fun k => ?_) ?_
        · rw [spec_VerIdentifiers.l1, if_pos (by omega), if_pos (by rw [List.length_map]; omega), hr, if_neg (by rw [sz]; omega), if_neg (by rw [toL_mk]; exact h0), if_pos rfl, w64s i (by omega)]
        · refine bindE (numeric_ev f hfl) ?_
          rw [plain_f f h0]
          cases hn : numeric f with
          | false =>
            rw [Bool.false_and, Bool.not_false, Bool.true_and]
            exact congr (fun k => if_neg (by simp)) hnext
          | true =>
            rw [Bool.true_and]
            cases hb : bad f with
            | false =>
              rw [Bool.not_false, Bool.true_and]
              exact congr (fun k => by rw [if_pos rfl, Option.bind_some, if_pos rfl]) hnext
            | true =>
              rw [Bool.not_true, Bool.false_and]
              exact congr (f := fun _ => some false) (fun k => by rw [if_pos rfl, Option.bind_some, if_neg (by simp)]) (const _)
  | succ n ih =>
    intro j h1 h2 h3
    obtain ⟨c, hc, hb⟩ := cell_at (l := f) (i := j) (by omega)
    have hmem : c ∈ f := by
      have : c ∈ f.drop j := by rw [hc]; simp
      exact List.mem_of_mem_drop this
    have ht : f.take (j + 1) = f.take j ++ [c] := by
      rw [List.take_add]
      congr 1
      rw [hc]; rfl
    have dgc := dg_iff c
    have alc := al_iff c
    by_cases hw : al c = true
    · have hw' := alc.1 hw
      refine step (f := fun k => spec_VerIdentifiers.l1 k plainly (F.map mk) (i : Int) ((j + 1 : Nat) : Int)) (fun k => ?_) (ih (j + 1) (by omega) (by omega) (fun d hd => by
        rw [ht] at hd
        rcases List.mem_append.1 hd with hd | hd
        · exact h3 d hd
        · rcases List.mem_cons.1 hd with rfl | hd
          · exact hw
          · cases hd))
      rw [spec_VerIdentifiers.l1, if_pos (by omega), if_pos (by rw [List.length_map]; omega), hr, if_pos (by rw [sz]; omega), if_pos (by omega), hb, digit_f, Option.bind_some, w64s j (by omega)]
      by_cases hd : dg c = true
      · rw [if_pos hd]
      · have hd' : ¬ (48 ≤ c.toNat ∧ c.toNat ≤ 57) := fun h => hd (dgc.2 h)
        rw [if_neg hd]
        repeat' split
        all_goals first | rfl | (exfalso; omega)
    · have hw' := fun h => hw (alc.2 h)
      have hno : okId plainly f = false := by
        have : f.all al = false := by
          rw [← Bool.not_eq_true, List.all_eq_true]
          exact fun h => hw (h c hmem)
        unfold okId; rw [this]; rfl
      rw [hno, Bool.false_and]
      have hd : ¬ dg c = true := fun h => hw (al_of_dg h)
      refine Evs.at1 fun k => ?_
      rw [spec_VerIdentifiers.l1, if_pos (by omega), if_pos (by rw [List.length_map]; omega), hr, if_pos (by rw [sz]; omega), if_pos (by omega), hb, digit_f, Option.bind_some, if_neg hd]
      repeat' split
      all_goals first | rfl | (exfalso; apply hw'; omega)
theorem idsI_ev (plainly : Bool) (F : List Bs) (hF : ∀ f ∈ F, f.length ≤ 8589934592) (hil : F.length ≤ 17179869184) : ∀ (n i : Nat), F.length - i = n → i ≤ F.length → Ev (fun k => spec_VerIdentifiers.l0 k plainly (F.map mk) (i : Int)) ((F.drop i).all (okId plainly)) := by
  intro n
  induction n with
  | zero =>
    intro i h1 h2
    refine Evs.at1 fun k => ?_
    rw [List.drop_eq_nil_of_le (by omega), spec_VerIdentifiers.l0, if_neg (by rw [List.length_map]; omega)]; rfl
  | succ n ih =>
    intro i h1 h2
    have hlt : i < F.length := by omega
    rw [List.drop_eq_getElem_cons hlt, List.all_cons]
    refine step (f := fun k => spec_VerIdentifiers.l1 k plainly (F.map mk) (i : Int) ((0 : Nat) : Int)) (fun k => by rw [spec_VerIdentifiers.l0, if_pos (by rw [List.length_map]; omega)]; rfl) ?_
    exact ids_one plainly F hF i hlt _ (ih (i + 1) (by omega) hlt) hil _ 0 rfl (Nat.zero_le _) (by simp)
theorem ids_ev (plainly : Bool) (x : Bs) (hx : x.length ≤ 8589934592) : Ev (fun k => spec_VerIdentifiers.f k (mk x) plainly) (ids plainly x) := by
  refine bindE (split_evS x.length x (Nat.le_refl _) hx) ?_
  have hlen := spl_len x
  have h := idsI_ev plainly (spl x) (fun f hf => by
    obtain ⟨a, b, e⟩ := spl_sub (spl x) f hf
    rw [join_spl] at e
    have h1 := congrArg List.length e
    simp only [List.length_append] at h1
    omega) (by omega) _ 0 rfl (Nat.zero_le _)
  rw [List.drop_zero] at h
  exact h
theorem longI_ev (l : Bs) (hl : l.length ≤ 8589934592) : ∀ (n i m : Nat), l.length - i = n → i ≤ l.length → m < 20 → Ev (fun k => spec_VerLong.l0 k (mk l) (m : Int) (i : Int)) (long m (l.drop i)) := by
  intro n
  induction n with
  | zero =>
    intro i m h1 h2 hm
    refine Evs.at1 fun k => ?_
    rw [List.drop_eq_nil_of_le (by omega), spec_VerLong.l0, if_neg (by rw [sz]; omega)]; rfl
  | succ n ih =>
    intro i m h1 h2 hm
    obtain ⟨c, hc, hb⟩ := cell_at (l := l) (i := i) (by omega)
    rw [hc, long]
    by_cases hd : dg c = true
    · rw [if_pos hd]
      by_cases h20 : 20 ≤ m + 1
      · rw [decide_eq_true h20, Bool.true_or]
        refine Evs.at1 fun k => ?_
        rw [spec_VerLong.l0, if_pos (by rw [sz]; omega), if_pos (by omega), hb, digit_f, Option.bind_some, if_pos hd, w64s m (by omega), if_pos (by omega)]
      · rw [decide_eq_false h20, Bool.false_or]
        refine step (f := fun k => spec_VerLong.l0 k (mk l) ((m + 1 : Nat) : Int) ((i + 1 : Nat) : Int)) (fun k => ?_) (ih (i + 1) (m + 1) (by omega) (by omega) (by omega))
        rw [spec_VerLong.l0, if_pos (by rw [sz]; omega), if_pos (by omega), hb, digit_f, Option.bind_some, if_pos hd, w64s m (by omega), if_neg (by omega), w64s i (by omega)]
    · rw [if_neg hd]
      refine step (f := fun k => spec_VerLong.l0 k (mk l) ((0 : Nat) : Int) ((i + 1 : Nat) : Int)) (fun k => ?_) (ih (i + 1) 0 (by omega) (by omega) (by omega))
      rw [spec_VerLong.l0, if_pos (by rw [sz]; omega), if_pos (by omega), hb, digit_f, Option.bind_some, if_neg hd, if_neg (by omega), w64s i (by omega)]; rfl
theorem long_ev (l : Bs) (hl : l.length ≤ 8589934592) : Ev (fun k => spec_VerLong.f k (mk l)) (long 0 l) := by
  have h := longI_ev l hl _ 0 0 rfl (Nat.zero_le _) (by omega)
  rw [List.drop_zero] at h
  exact h
theorem emp : (mk [] : ByteArray) = ⟨#[]⟩ := rfl
theorem mk_app (a b : Bs) : mk a ++ mk b = mk (a ++ b) := ext (by rw [data_append])
theorem uintText_ev : ∀ (u : Nat), u < 18446744073709551616 → Ev (fun k => spec_VerUintText.f k (u : Int)) (mk (Lib.decDigits u)) := by
  intro u
  refine dec_induct (fun u => u < 18446744073709551616 → Ev (fun k => spec_VerUintText.f k (u : Int)) (mk (Lib.decDigits u))) ?_ ?_ u
  · intro u h hu
    have e1 : IntKind.u64.wrap (48 + Int.tmod (u : Int) 10) % 256 = ((48 + u : Nat) : Int) := by
      rw [IntKind.wrap_u64, show Int.tmod (u : Int) 10 = ((u % 10 : Nat) : Int) from rfl]; omega
    refine Evs.at1 fun k => ?_
    show spec_VerUintText.f (k + 1) (u : Int) = _
    rw [spec_VerUintText.f, e1, Option.bind_some, if_pos (by omega), Lib.decDigits_one h]
    rfl
  · intro u h ih hu
    have e1 : IntKind.u64.wrap (48 + Int.tmod (u : Int) 10) % 256 = ((48 + u % 10 : Nat) : Int) := by
      rw [IntKind.wrap_u64, show Int.tmod (u : Int) 10 = ((u % 10 : Nat) : Int) from rfl]; omega
    have e2 : IntKind.u64.wrap (Int.tdiv (u : Int) 10) = ((u / 10 : Nat) : Int) := by
      rw [IntKind.wrap_u64, show Int.tdiv (u : Int) 10 = ((u / 10 : Nat) : Int) from rfl]; omega
    have e3 : strOfNums [((48 + u % 10 : Nat) : Int)] = mk [UInt8.ofNat (48 + u % 10)] := rfl
    refine step (f := fun k => (spec_VerUintText.f k ((u / 10 : Nat) : Int)).bind fun t104 => (if t104.size + (mk [UInt8.ofNat (48 + u % 10)]).size ≤ 9223372036854775807 then (some (t104 ++ mk [UInt8.ofNat (48 + u % 10)])) else none)) (fun k => ?_) (bindE (ih (by omega)) ?_)
    · show spec_VerUintText.f (k + 1) (u : Int) = _
      rw [spec_VerUintText.f, e1, Option.bind_some, if_neg (by omega), e2, e3]
    · have hl := dec_len (u / 10) (by omega)
      refine congr (f := fun _ => some (mk (Lib.decDigits u))) (fun k => ?_) (const _)
      rw [if_pos (by rw [size_mk, size_mk]; simp only [List.length_cons, List.length_nil]; omega), mk_app, dec_last u h]
theorem rd_zs (ns : List Nat) (k : Nat) : rd (zs ns) (k : Int) = (pt ns k : Int) := by
  unfold rd pt
  rw [Int.toNat_natCast, List.getD_eq_getElem?_getD, List.getD_eq_getElem?_getD, List.getElem?_map]
  cases ns[k]? <;> rfl
theorem textI_ev (ns : List Nat) (sem : Bool) (p b : Bs) (hns : ∀ n ∈ ns, n < 18446744073709551616) (hl : ns.length ≤ 8589934594) (hp : p.length ≤ 8589934592) (hb : b.length ≤ 8589934592) : ∀ (n i : Nat), ns.length - i = n → i ≤ ns.length → Ev (fun k => spec_Version_Text.l0 k (mk (decs (ns.take i))) (i : Int) (zs ns) sem (mk p) (mk b)) (mk (vtxt ns p b)) := by
  have hJ : ∀ k, k ≤ ns.length → (decs (ns.take k)).length ≤ 21 * ns.length := fun k hk => by
    have := decs_len (ns.take k) (fun n hn => hns n (List.mem_of_mem_take hn))
    rw [List.length_take] at this
    omega
  intro n
  induction n with
  | zero =>
    intro i h1 h2
    obtain rfl : i = ns.length := by omega
    have hj := hJ ns.length (Nat.le_refl _)
    rw [List.take_length] at hj ⊢
    refine Evs.at1 fun k => ?_
    rw [spec_Version_Text.l0, if_neg (by rw [List.length_map]; omega), toL_mk, toL_mk]
    have m45 : (⟨#[45]⟩ : ByteArray) = mk [45] := rfl
    have m43 : (⟨#[43]⟩ : ByteArray) = mk [43] := rfl
    rw [m45, m43]
    simp only [mk_app, size_mk, List.length_append, List.length_cons, List.length_nil]
    unfold vtxt
    by_cases h3 : p = [] <;> by_cases h4 : b = []
    · rw [if_pos h3, if_pos h4, if_pos h3, if_pos h4]; simp
    · rw [if_pos h3, if_neg h4, if_pos (by omega), if_pos (by omega), if_pos h3, if_neg h4]; simp
    · rw [if_neg h3, if_pos (by omega), if_pos (by omega), if_pos h4, if_neg h3, if_pos h4]; simp
    · rw [if_neg h3, if_pos (by omega), if_pos (by omega), if_neg h4, if_pos (by omega), if_pos (by omega), if_neg h3, if_neg h4]; simp
  | succ n ih =>
    intro i h1 h2
    have hlt : i < ns.length := by omega
    have hj := hJ i h2
    have hu := uintText_ev ns[i] (hns _ (List.getElem_mem hlt))
    have hd := dec_len ns[i] (hns _ (List.getElem_mem hlt))
    have hrd : rd (zs ns) (i : Int) = (ns[i] : Int) := by rw [rd_zs, pt_at hlt]
    have hi := ih (i + 1) (by omega) hlt
    have ht : ns.take (i + 1) = ns.take i ++ [ns[i]] := List.take_succ_eq_append_getElem hlt
    have m46 : (⟨#[46]⟩ : ByteArray) = mk [46] := rfl
    by_cases h0 : i = 0
    · subst h0
      have e : decs (ns.take (0 + 1)) = decs (ns.take 0) ++ Lib.decDigits ns[0] := by rw [ht]; rfl
      rw [e] at hi
      refine step (f := fun k => (spec_VerUintText.f k (ns[0] : Int)).bind fun t109 => (if (mk (decs (ns.take 0))).size + t109.size ≤ 9223372036854775807 then (spec_Version_Text.l0 k (mk (decs (ns.take 0)) ++ t109) ((0 + 1 : Nat) : Int) (zs ns) sem (mk p) (mk b)) else (none))) (fun k => ?_) (bindE hu ?_)
      · rw [spec_Version_Text.l0, if_pos (by rw [List.length_map]; omega), if_neg (by omega), if_pos (by omega), hrd, w64s 0 (by omega)]
      · refine congr (fun k => ?_) hi
        rw [if_pos (by rw [size_mk, size_mk]; omega), mk_app]
    · have e : decs (ns.take (i + 1)) = decs (ns.take i) ++ [46] ++ Lib.decDigits ns[i] := by
        rw [ht, decs_snoc _ _ (by intro e; have := congrArg List.length e; rw [List.length_take, List.length_nil] at this; omega)]
      rw [e] at hi
      refine step (f := fun k => (spec_VerUintText.f k (ns[i] : Int)).bind fun t107 => (if (mk (decs (ns.take i)) ++ (⟨#[46]⟩ : ByteArray)).size + t107.size ≤ 9223372036854775807 then (spec_Version_Text.l0 k ((mk (decs (ns.take i)) ++ (⟨#[46]⟩ : ByteArray)) ++ t107) ((i + 1 : Nat) : Int) (zs ns) sem (mk p) (mk b)) else (none))) (fun k => ?_) (bindE hu ?_)
      · rw [spec_Version_Text.l0, if_pos (by rw [List.length_map]; omega), if_pos (by omega), if_pos (by rw [size_mk]; omega), if_pos (by omega), hrd, w64s i (by omega)]
      · refine congr (fun k => ?_) hi
        rw [m46, mk_app, mk_app, if_pos (by rw [size_mk, size_mk, List.length_append]; simp only [List.length_cons, List.length_nil]; omega)]
theorem text_ev (ns : List Nat) (sem : Bool) (p b : Bs) (hns : ∀ n ∈ ns, n < 18446744073709551616) (hl : ns.length ≤ 8589934594) (hp : p.length ≤ 8589934592) (hb : b.length ≤ 8589934592) : Ev (fun k => spec_Version_Text.f k (zs ns) sem (mk p) (mk b)) (mk (vtxt ns p b)) := by
  have h := textI_ev ns sem p b hns hl hp hb _ 0 rfl (Nat.zero_le _)
  exact h
theorem part_f (ns : List Nat) (sem : Bool) (p b : ByteArray) (i : Nat) : spec_Version_part.f (zs ns) sem p b (i : Int) = some (pt ns i : Int) := by
  unfold spec_Version_part.f
  by_cases h : i < ns.length
  · rw [if_pos (by rw [List.length_map]; omega), if_pos (by omega), rd_zs]
  · rw [if_neg (by rw [List.length_map]; omega), pt_no (by omega)]; rfl
theorem sameI_ev (ns : List Nat) (sem : Bool) (p b : ByteArray) (x0 : Bool) (x2 x3 x4 : ByteArray) (x5 x6 : Int) (hl : ns.length ≤ 8589934594) : ∀ (n i : Nat), ns.length - i = n → i ≤ ns.length → Ev (fun k => spec_SameVer.l0 k (i : Int) (zs ns) sem p b x0 (zs ns) x2 x3 x4 x5 x6 (pt ns 2 : Int)) true := by
  intro n
  have h2 := part_f ns sem p b 2
  induction n with
  | zero =>
    intro i h1 h3
    refine Evs.at1 fun k => ?_
    rw [spec_SameVer.l0, if_neg (by rw [List.length_map]; omega)]
    have h2' : spec_Version_part.f (zs ns) sem p b 2 = some (pt ns 2 : Int) := h2
    rw [h2', Option.bind_some]
    have hb : (((pt ns 2 : Int) == (pt ns 2 : Int)) : Bool) = true := beq_self_eq_true _
    rw [hb]
    repeat' split
    all_goals rfl
  | succ n ih =>
    intro i h1 h3
    refine step (f := fun k => spec_SameVer.l0 k ((i + 1 : Nat) : Int) (zs ns) sem p b x0 (zs ns) x2 x3 x4 x5 x6 (pt ns 2 : Int)) (fun k => ?_) (ih (i + 1) (by omega) (by omega))
    rw [spec_SameVer.l0, if_pos (by rw [List.length_map]; omega), if_pos (by omega), if_pos (by rw [List.length_map]; omega), if_pos rfl, w64s i (by omega)]
/-- A version is told as it is. -/
theorem same_ev (ns : List Nat) (sem : Bool) (p b : Bs) (hns : ∀ n ∈ ns, n < 18446744073709551616) (hl : ns.length ≤ 8589934594) (hp : p.length ≤ 8589934592) (hb : b.length ≤ 8589934592) :
    Ev (fun k => spec_SameVer.f k (zs ns) sem (mk p) (mk b) true (zs ns) (mk p) (mk b) (mk (vtxt ns p b)) (pt ns 0 : Int) (pt ns 1 : Int) (pt ns 2 : Int)) true := by
  refine congr (f := fun k => (spec_Version_Text.f k (zs ns) sem (mk p) (mk b)).bind fun t114 => (if (mk (vtxt ns p b)).toList = t114.toList then ((spec_Version_part.f (zs ns) sem (mk p) (mk b) 0).bind fun t115 => (if (pt ns 0 : Int) = t115 then ((spec_Version_part.f (zs ns) sem (mk p) (mk b) 1).bind fun t116 => (spec_SameVer.j0 k ((pt ns 1 : Int) != t116) (zs ns) sem (mk p) (mk b) true (zs ns) (mk p) (mk b) (mk (vtxt ns p b)) (pt ns 0 : Int) (pt ns 1 : Int) (pt ns 2 : Int))) else none)) else none)) (fun k => by
    unfold spec_SameVer.f
    rw [if_pos rfl, if_pos rfl, if_pos rfl, if_pos rfl]) ?_
  refine bindE (text_ev ns sem p b hns hl hp hb) ?_
  have p0 : spec_Version_part.f (zs ns) sem (mk p) (mk b) 0 = some (pt ns 0 : Int) := part_f ns sem _ _ 0
  have p1 : spec_Version_part.f (zs ns) sem (mk p) (mk b) 1 = some (pt ns 1 : Int) := part_f ns sem _ _ 1
  refine congr (f := fun k => spec_SameVer.j0 k false (zs ns) sem (mk p) (mk b) true (zs ns) (mk p) (mk b) (mk (vtxt ns p b)) (pt ns 0 : Int) (pt ns 1 : Int) (pt ns 2 : Int)) (fun k => by
    rw [if_pos rfl, p0, Option.bind_some, if_pos rfl, p1, Option.bind_some, bne_self_eq_false]) ?_
  refine step (f := fun k => spec_SameVer.l0 k ((0 : Nat) : Int) (zs ns) sem (mk p) (mk b) true (zs ns) (mk p) (mk b) (mk (vtxt ns p b)) (pt ns 0 : Int) (pt ns 1 : Int) (pt ns 2 : Int)) (fun k => by rw [spec_SameVer.j0, if_neg (by simp)]; rfl) (sameI_ev ns sem _ _ _ _ _ _ _ _ hl _ 0 rfl (Nat.zero_le _))
theorem wfu {x : Int} (h : (Lit.int .u64 x).wf = true) : 0 ≤ x ∧ x < 18446744073709551616 := by
  simp [Lit.wf, IntKind.min, IntKind.max, IntKind.signed, IntKind.bits] at h
  omega
theorem vtxt_asm (ns : List Nat) (p b bl : Bs) : vtxt ns p b ++ bl = joinP (ns.map Lib.decDigits) ++ asm p b bl := by
  unfold vtxt asm decs
  simp
/-- The text, parsed in both ways, is told as it is. -/
theorem tail_ev (ns : List Nat) (h3 : ns.length = 3) (hns : ∀ n ∈ ns, n < 18446744073709551616) (p b x v bl : Bs) (hx : x.all wh = true) (hv : v = [] ∨ v = [118]) (hbl : bl.all wh = true) (h10 : 10 ∉ bl) (hp : p = [] ∨ ids true p = true) (hb : b = [] ∨ ids false b = true) (hlp : long 0 p = false) (hpl : p.length ≤ 2147483647) (hbL : b.length ≤ 2147483647) (hl : x.length ≤ 10 ∧ v.length ≤ 10 ∧ bl.length ≤ 10) :
    Ev (fun k => laws_FnVersionMade.j3 k (mk (x ++ (v ++ (vtxt ns p b ++ bl)))) (zs ns) true (mk p) (mk b)) true := by
  have hmade := made_parse ns h3 hns x v p b bl hx hv hbl hp hb hlp h10
  rw [← vtxt_asm] at hmade
  have hps : psem (x ++ (v ++ (vtxt ns p b ++ bl))) = some (true, ns, p, b) := by unfold psem; rw [hmade]; rfl
  have hd := decs_len ns hns
  have hvl : (vtxt ns p b).length ≤ 4294967394 := by
    unfold vtxt
    simp only [List.length_append]
    have e1 : (if p = [] then ([] : Bs) else 45 :: p).length ≤ p.length + 1 := by split <;> simp
    have e2 : (if b = [] then ([] : Bs) else 43 :: b).length ≤ b.length + 1 := by split <;> simp
    omega
  have hsz : (mk (x ++ (v ++ (vtxt ns p b ++ bl)))).size ≤ 549755813888 := by
    rw [size_mk]; simp only [List.length_append]; omega
  have f2 : impl_VersionParse.f 2 (mk (x ++ (v ++ (vtxt ns p b ++ bl)))) = some (true, zs ns, mk p, mk b, mk (vtxt ns p b), (pt ns 0 : Int), (pt ns 1 : Int), (pt ns 2 : Int)) := by
    unfold impl_VersionParse.f pkind
    rw [if_pos hsz, if_neg (by decide), if_pos rfl, Lb_mk, hps]
  have f0 : impl_VersionParse.f 0 (mk (x ++ (v ++ (vtxt ns p b ++ bl)))) = some (true, zs ns, mk p, mk b, mk (vtxt ns p b), (pt ns 0 : Int), (pt ns 1 : Int), (pt ns 2 : Int)) := by
    unfold impl_VersionParse.f pkind pany
    rw [if_pos hsz, if_neg (by decide), if_neg (by decide), if_neg (by decide), Lb_mk, hps]
  have hsame := same_ev ns true p b hns (by omega) (by omega) (by omega)
  refine step (f := fun k => (spec_SameVer.f k (zs ns) true (mk p) (mk b) true (zs ns) (mk p) (mk b) (mk (vtxt ns p b)) (pt ns 0 : Int) (pt ns 1 : Int) (pt ns 2 : Int)).bind fun t173 => (if t173 = true then ((spec_SameVer.f k (zs ns) true (mk p) (mk b) true (zs ns) (mk p) (mk b) (mk (vtxt ns p b)) (pt ns 0 : Int) (pt ns 1 : Int) (pt ns 2 : Int)).bind fun t184 => (some t184)) else (some false))) (fun k => ?_) (bindE hsame (congr (fun k => if_pos rfl) (bindE hsame (const _))))
  rw [laws_FnVersionMade.j3, f2, f0]; rfl
theorem core_ev (a0 a1 a2 : Int) (w0 : 0 ≤ a0 ∧ a0 < 18446744073709551616) (w1 : 0 ≤ a1 ∧ a1 < 18446744073709551616) (w2 : 0 ≤ a2 ∧ a2 < 18446744073709551616) (a5 : Int) (p b : Bs) (hp : p = [] ∨ ids true p = true) (hb : b = [] ∨ ids false b = true) (hlp : long 0 p = false) (hpl : p.length ≤ 2147483647) (hbL : b.length ≤ 2147483647) :
    Ev (fun k => laws_FnVersionMade.j1 k a0 a1 a2 (mk p) (mk b) a5 false) true := by
  have hz : [a0, a1, a2] = zs [a0.toNat, a1.toNat, a2.toNat] := by
    simp only [List.map_cons, List.map_nil]
    rw [Int.toNat_of_nonneg w0.1, Int.toNat_of_nonneg w1.1, Int.toNat_of_nonneg w2.1]
  have hns : ∀ n ∈ [a0.toNat, a1.toNat, a2.toNat], n < 18446744073709551616 := by
    intro n hn
    simp only [List.mem_cons, List.not_mem_nil, or_false] at hn
    rcases hn with rfl | rfl | rfl <;> omega
  have ht := text_ev [a0.toNat, a1.toNat, a2.toNat] true p b hns (by simp) (by omega) (by omega)
  have h3 : [a0.toNat, a1.toNat, a2.toNat].length = 3 := rfl
  generalize [a0.toNat, a1.toNat, a2.toNat] = ns at hz hns ht h3
  have hd := decs_len ns hns
  have hvl : (vtxt ns p b).length ≤ 4294967394 := by
    unfold vtxt
    simp only [List.length_append]
    have e1 : (if p = [] then ([] : Bs) else 45 :: p).length ≤ p.length + 1 := by split <;> simp
    have e2 : (if b = [] then ([] : Bs) else 43 :: b).length ≤ b.length + 1 := by split <;> simp
    omega
  have m118 : (⟨#[118]⟩ : ByteArray) = mk [118] := rfl
  have m32 : (⟨#[32, 9]⟩ : ByteArray) = mk [32, 9] := rfl
  have m1 : (⟨#[32]⟩ : ByteArray) = mk [32] := rfl
  have j2 : ∀ v : Bs, (v = [] ∨ v = [118]) → Ev (fun k => laws_FnVersionMade.j2 k a5 (mk (v ++ vtxt ns p b)) (zs ns) true (mk p) (mk b)) true := by
    intro v hv
    have hvl' : v.length ≤ 1 := by rcases hv with rfl | rfl <;> simp
    by_cases h4 : Int.tmod a5 4 > 1
    · have h := tail_ev ns h3 hns p b [32, 9] v [32] rfl hv rfl (by decide) hp hb hlp hpl hbL (by simp; omega)
      refine step (f := fun k => laws_FnVersionMade.j3 k (mk ([32, 9] ++ (v ++ (vtxt ns p b ++ [32])))) (zs ns) true (mk p) (mk b)) (fun k => ?_) h
      rw [laws_FnVersionMade.j2, if_pos h4, m32, m1, mk_app, mk_app, size_mk, size_mk, if_pos (by simp only [List.length_append]; omega), if_pos (by simp only [List.length_append, List.length_cons, List.length_nil]; omega)]
      congr 2; simp
    · have h := tail_ev ns h3 hns p b [] v [] rfl hv rfl (by simp) hp hb hlp hpl hbL (by simp; omega)
      refine step (f := fun k => laws_FnVersionMade.j3 k (mk ([] ++ (v ++ (vtxt ns p b ++ [])))) (zs ns) true (mk p) (mk b)) (fun k => ?_) h
      rw [laws_FnVersionMade.j2, if_neg h4]
      congr 2; simp
  refine step (f := fun k => (spec_Version_Text.f k (zs ns) true (mk p) (mk b)).bind fun t162 => (if (Int.tmod a5 2) = 1 then (if 1 + t162.size ≤ 9223372036854775807 then (laws_FnVersionMade.j2 k a5 ((⟨#[118]⟩ : ByteArray) ++ t162) (zs ns) true (mk p) (mk b)) else (none)) else (laws_FnVersionMade.j2 k a5 t162 (zs ns) true (mk p) (mk b)))) (fun k => by
    rw [laws_FnVersionMade.j1, if_neg (by simp), Option.bind_some, hz]) (bindE ht ?_)
  by_cases h2 : Int.tmod a5 2 = 1
  · refine congr (fun k => ?_) (j2 [118] (Or.inr rfl))
    rw [if_pos h2, size_mk, if_pos (by omega), m118, mk_app]
  · refine congr (fun k => ?_) (j2 [] (Or.inl rfl))
    rw [if_neg h2]; rfl
theorem law_holds : laws_FnVersionMade.Pure := by
  intro a0 a1 a2 a3 a4 a5 w0 w1 w2 _ _ _
  refine Ev.rounds (g := fun k => laws_FnVersionMade.f k a0 a1 a2 a3 a4 a5) ?_
  have yes : Ev (fun k => laws_FnVersionMade.j1 k a0 a1 a2 a3 a4 a5 true) true := Evs.at1 fun k => by rw [laws_FnVersionMade.j1, if_pos rfl]
  have big : Ev (fun k => laws_FnVersionMade.j0 k a0 a1 a2 a3 a4 a5 true) true := Evs.at1 fun k => by rw [laws_FnVersionMade.j0, if_pos rfl]
  have s3 : a3.size = (Lb a3).length := size_len a3
  have s4 : a4.size = (Lb a4).length := size_len a4
  by_cases h3 : (a3.size : Int) > 2147483647
  · exact congr (fun k => by show laws_FnVersionMade.f k a0 a1 a2 a3 a4 a5 = _; unfold laws_FnVersionMade.f; rw [if_pos h3]) big
  · by_cases h4 : (a4.size : Int) > 2147483647
    · exact congr (fun k => by show laws_FnVersionMade.f k a0 a1 a2 a3 a4 a5 = _; unfold laws_FnVersionMade.f; rw [if_neg h3, decide_eq_true h4]) big
    · refine congr (f := fun k => laws_FnVersionMade.j0 k a0 a1 a2 a3 a4 a5 false) (fun k => by show laws_FnVersionMade.f k a0 a1 a2 a3 a4 a5 = _; unfold laws_FnVersionMade.f; rw [if_neg h3, decide_eq_false h4]) ?_
      have l3 := long_ev (Lb a3) (by omega)
      have l4 := long_ev (Lb a4) (by omega)
      have i3 := ids_ev true (Lb a3) (by omega)
      have i4 := ids_ev false (Lb a4) (by omega)
      rw [mk_Lb] at l3 l4 i3 i4
      have longs : (Lb a3 = [] ∨ ids true (Lb a3) = true) → (Lb a4 = [] ∨ ids false (Lb a4) = true) → Ev (fun k => (spec_VerLong.f k a3).bind fun t147 => (if t147 = true then (laws_FnVersionMade.j1 k a0 a1 a2 a3 a4 a5 true) else ((spec_VerLong.f k a4).bind fun t148 => (laws_FnVersionMade.j1 k a0 a1 a2 a3 a4 a5 t148)))) true := by
        intro hp hb
        refine bindE l3 ?_
        cases hl3 : long 0 (Lb a3) with
        | true => exact congr (fun k => if_pos rfl) yes
        | false =>
          refine congr (fun k => if_neg (by simp)) (bindE l4 ?_)
          cases hl4 : long 0 (Lb a4) with
          | true => exact yes
          | false =>
            have := core_ev a0 a1 a2 (wfu w0) (wfu w1) (wfu w2) a5 (Lb a3) (Lb a4) hp hb hl3 (by omega) (by omega)
            rw [mk_Lb, mk_Lb] at this
            exact this
      have e3 : a3.toList = Lb a3 := toL a3
      have e4 : a4.toList = Lb a4 := toL a4
      by_cases n3 : Lb a3 = []
      · by_cases n4 : Lb a4 = []
        · exact step (fun k => by rw [laws_FnVersionMade.j0, if_neg (by simp), e3, if_pos n3, e4, if_pos n4]) (longs (Or.inl n3) (Or.inl n4))
        · refine step (f := fun k => (spec_VerIdentifiers.f k a4 false).bind fun t149 => (if t149 = true then ((spec_VerLong.f k a3).bind fun t150 => (if t150 = true then (laws_FnVersionMade.j1 k a0 a1 a2 a3 a4 a5 true) else ((spec_VerLong.f k a4).bind fun t151 => (laws_FnVersionMade.j1 k a0 a1 a2 a3 a4 a5 t151)))) else (laws_FnVersionMade.j1 k a0 a1 a2 a3 a4 a5 true))) (fun k => by rw [laws_FnVersionMade.j0, if_neg (by simp), e3, if_pos n3, e4, if_neg n4]) (bindE i4 ?_)
          cases hi : ids false (Lb a4) with
          | true => exact congr (fun k => if_pos rfl) (longs (Or.inl n3) (Or.inr hi))
          | false => exact congr (fun k => if_neg (by simp)) yes
      · refine step (f := fun k => (spec_VerIdentifiers.f k a3 true).bind fun t152 => (if t152 = true then (if a4.toList = ([] : List UInt8) then ((spec_VerLong.f k a3).bind fun t153 => (if t153 = true then (laws_FnVersionMade.j1 k a0 a1 a2 a3 a4 a5 true) else ((spec_VerLong.f k a4).bind fun t154 => (laws_FnVersionMade.j1 k a0 a1 a2 a3 a4 a5 t154)))) else ((spec_VerIdentifiers.f k a4 false).bind fun t155 => (if t155 = true then ((spec_VerLong.f k a3).bind fun t156 => (if t156 = true then (laws_FnVersionMade.j1 k a0 a1 a2 a3 a4 a5 true) else ((spec_VerLong.f k a4).bind fun t157 => (laws_FnVersionMade.j1 k a0 a1 a2 a3 a4 a5 t157)))) else (laws_FnVersionMade.j1 k a0 a1 a2 a3 a4 a5 true)))) else (laws_FnVersionMade.j1 k a0 a1 a2 a3 a4 a5 true))) (fun k => by rw [laws_FnVersionMade.j0, if_neg (by simp), e3, if_neg n3]) (bindE i3 ?_)
        cases hi3 : ids true (Lb a3) with
        | false => exact congr (fun k => if_neg (by simp)) yes
        | true =>
          refine congr (fun k => if_pos rfl) ?_
          by_cases n4 : Lb a4 = []
          · exact congr (fun k => by rw [e4, if_pos n4]) (longs (Or.inr hi3) (Or.inl n4))
          · refine congr (fun k => by rw [e4, if_neg n4]) (bindE i4 ?_)
            cases hi : ids false (Lb a4) with
            | true => exact congr (fun k => if_pos rfl) (longs (Or.inr hi3) (Or.inr hi))
            | false => exact congr (fun k => if_neg (by simp)) yes
end Go.Proofs.YtomoefldmgfaoaaDoor.Pv.SFnVersionMade
