/- Versions: the reference's generic version of a text. -/
import Derived.Test.YtomoefldmgfaoaaDoorPFnVersionParsex7
import Derived.Test.YtomoefldmgfaoaaDoorPvU
set_option linter.unusedVariables false
set_option linter.unusedSimpArgs false
namespace Go.Proofs.YtomoefldmgfaoaaDoor.Pv.SFnVersionParse
open Go Go.RowKit Go.Proofs.YtomoefldmgfaoaaDoor Go.Proofs.YtomoefldmgfaoaaDoorW.PrintWords Go.Proofs.YtomoefldmgfaoaaDoor.PFnVersionParse Go.Proofs.YtomoefldmgfaoaaDoor.Txt Go.Proofs.YtomoefldmgfaoaaDoor.Small Go.Proofs.YtomoefldmgfaoaaDoor.Pv

theorem chI (c d : UInt8) (n : Int) (h : (d.toNat : Int) = n) : ((c.toNat : Int) = n) ↔ c = d := by
  rw [← h]
  exact ⟨fun e => UInt8.toNat_inj.1 (by omega), fun e => by rw [e]⟩
theorem mk_Lb (s : ByteArray) : mk (Lb s) = s := ext rfl
theorem toL_mk (l : Bs) : (mk l).toList = l := by rw [toL]
theorem bt_mk (l : Bs) (i : Nat) (h : i < l.length) : bt (mk l) (i : Int) = ((l[i]).toNat : Int) := bt_nat (mk l) i h
theorem bt_head (c : UInt8) (t : Bs) : bt (mk (c :: t)) 0 = (c.toNat : Int) := bt_mk (c :: t) 0 (by simp)
theorem dropE (l : Bs) (a : Nat) : (mk l).extract a (mk l).size = mk (l.drop a) := by
  rw [extract_mk, Lb_mk, size_mk, List.take_of_length_le (by rw [List.length_drop]; omega)]
theorem takeE (l : Bs) (b : Nat) : (mk l).extract 0 b = mk (l.take b) := by rw [extract_mk, Lb_mk, List.drop_zero, Nat.sub_zero]
theorem cell_at {l : Bs} {i : Nat} (h : i < l.length) : ∃ c, l.drop i = c :: l.drop (i + 1) ∧ bt (mk l) (i : Int) = (c.toNat : Int) := ⟨l[i], List.drop_eq_getElem_cons h, bt_mk l i h⟩
theorem sz (l : Bs) : (((mk l).size : Nat) : Int) = (l.length : Int) := by rw [size_mk]
theorem digit_f (c : UInt8) : spec_verDigit.f (c.toNat : Int) = some (dg c) := by
  unfold spec_verDigit.f
  by_cases h : (c.toNat : Int) ≥ 48
  · rw [if_pos h]
    by_cases h2 : (c.toNat : Int) ≤ 57
    · rw [decide_eq_true h2, (dg_iff c).2 (by omega)]
    · rw [decide_eq_false h2]
      rcases hd : dg c with _ | _
      · rfl
      · have := (dg_iff c).1 hd; omega
  · rw [if_neg h]
    rcases hd : dg c with _ | _
    · rfl
    · have := (dg_iff c).1 hd; omega
def idxs (sg : UInt8) (i : Nat) (l : Bs) : Int := match cutAt sg l with
  | some q => ((i + q.1.length : Nat) : Int)
  | none => -1
theorem idxs_cons (sg : UInt8) (i : Nat) (c : UInt8) (l : Bs) : idxs sg i (c :: l) = if c = sg then (i : Int) else idxs sg (i + 1) l := by
  unfold idxs
  rw [cutAt]
  by_cases h : c = sg
  · rw [if_pos h, if_pos h]; rfl
  · rw [if_neg h, if_neg h]
    cases cutAt sg l with
    | none => rfl
    | some q =>
      show ((i + (q.1.length + 1) : Nat) : Int) = ((i + 1 + q.1.length : Nat) : Int)
      congr 1; omega
theorem placeI_ev (sg : UInt8) (l : Bs) (hl : l.length ≤ 4611686018427387904) : ∀ (n i : Nat), l.length - i = n → i ≤ l.length → Ev (fun k => spec_verPlace.l0 k (mk l) (sg.toNat : Int) (i : Int)) (idxs sg i (l.drop i)) := by
  intro n
  induction n with
  | zero =>
    intro i h1 h2
    refine Evs.at1 fun k => ?_
    rw [List.drop_eq_nil_of_le (by omega), spec_verPlace.l0, if_neg (by rw [sz]; omega)]; rfl
  | succ n ih =>
    intro i h1 h2
    obtain ⟨c, hc, hb⟩ := cell_at (l := l) (i := i) (by omega)
    rw [hc, idxs_cons]
    by_cases h : c = sg
    · rw [if_pos h]
      refine Evs.at1 fun k => ?_
      rw [spec_verPlace.l0, if_pos (by rw [sz]; omega), if_pos (by omega), hb, if_pos (by rw [h])]
    · rw [if_neg h]
      refine step (f := fun k => spec_verPlace.l0 k (mk l) (sg.toNat : Int) ((i + 1 : Nat) : Int)) (fun k => ?_) (ih (i + 1) (by omega) (by omega))
      rw [spec_verPlace.l0, if_pos (by rw [sz]; omega), if_pos (by omega), hb, if_neg (fun e => h (UInt8.toNat_inj.1 (by omega))), w64s i (by omega)]
theorem place_ev (sg : UInt8) (l : Bs) (hl : l.length ≤ 4611686018427387904) : Ev (fun k => spec_verPlace.f k (mk l) (sg.toNat : Int)) (idxs sg 0 l) := by
  have h := placeI_ev sg l hl _ 0 rfl (Nat.zero_le _)
  rw [List.drop_zero] at h
  exact h
theorem idxs_mem (sg : UInt8) (l : Bs) : idxs sg 0 l ≥ 0 ↔ sg ∈ l := by
  unfold idxs
  cases hc : cutAt sg l with
  | none =>
    constructor
    · intro h; exact absurd h (by decide)
    · intro h
      obtain ⟨u, b, e⟩ := List.append_of_mem h
      exfalso
      have : ∀ l : Bs, sg ∈ l → cutAt sg l ≠ none := by
        intro l
        induction l with
        | nil => intro h; cases h
        | cons c t ih =>
          intro h
          rw [cutAt]
          by_cases e : c = sg
          · rw [if_pos e]; simp
          · rw [if_neg e]
            have := ih ((List.mem_cons.1 h).resolve_left (fun e' => e e'.symm))
            cases hq : cutAt sg t with
            | none => exact absurd hq this
            | some q => simp
      exact this l h hc
  | some q =>
    obtain ⟨e, _⟩ := cutAt_some (u := q.1) (b := q.2) hc
    constructor
    · intro _; rw [e]; simp
    · intro _; show ((0 + q.1.length : Nat) : Int) ≥ 0; omega
theorem plain_f (l : Bs) (h0 : l ≠ []) : spec_VerPlainly.f (mk l) = some (!bad l) := by
  unfold spec_VerPlainly.f
  rw [sz, toL_mk]
  cases l with
  | nil => exact absurd rfl h0
  | cons c t =>
    by_cases h1 : ((c :: t).length : Int) = 1
    · have ht : t = [] := by simp only [List.length_cons] at h1; exact List.length_eq_zero_iff.1 (by omega)
      subst ht
      rw [if_pos h1]
      unfold bad
      by_cases e : c = 48
      · rw [e]; rfl
      · have : ((([c] : Bs).head? == some 48) : Bool) = false := beq_eq_false_iff_ne.2 (by simpa using e)
        rw [this]; rfl
    · rw [if_neg h1, if_neg (by simp), if_pos (by simp only [List.length_cons]; omega), bt_head]
      congr 1
      unfold bad
      have hl : ((c :: t : Bs) != [48]) = true := bne_iff_ne.2 (by intro e; injection e with _ e; subst e; exact h1 rfl)
      rw [hl, Bool.and_true]
      have q := chI c 48 48 rfl
      by_cases e : c = 48
      · rw [bne_eq_false_iff_eq.2 (q.2 e), e]; rfl
      · rw [bne_iff_ne.2 (fun h => e (q.1 h))]
        have : ((c :: t : Bs).head? == some 48) = false := beq_eq_false_iff_ne.2 (by simpa using e)
        rw [this]; rfl
theorem rdOf_map (F : List Bs) (i : Nat) (h : i < F.length) : rdOf ByteArray.empty (F.map mk) (i : Int) = mk F[i] := by
  unfold rdOf
  rw [Int.toNat_natCast, List.getD_eq_getElem?_getD, List.getElem?_map, List.getElem?_eq_getElem h]; rfl
theorem white_f (c : UInt8) : spec_verWhite.f (c.toNat : Int) = some (wh c) := by
  unfold spec_verWhite.f
  have h := wh_iff c
  rcases hw : wh c with _ | _
  · have h' : ¬ (c.toNat = 32 ∨ c.toNat = 9 ∨ c.toNat = 10 ∨ c.toNat = 12 ∨ c.toNat = 13) := fun e => by rw [h.2 e] at hw; cases hw
    rw [if_neg (by omega), if_neg (by omega), if_neg (by omega), if_neg (by omega), beq_eq_false_iff_ne.2 (by omega)]
  · have h' := h.1 hw
    repeat' split
    all_goals first | rfl | (congr 1; exact beq_iff_eq.2 (by omega))
theorem ahead_cons (c : UInt8) (t : Bs) : ahead (c :: t) = if wh c = true then ahead t else noV (c :: t) := by
  unfold ahead
  by_cases h : wh c = true
  · rw [if_pos h, List.dropWhile_cons_of_pos h]
  · rw [if_neg h, List.dropWhile_cons_of_neg h]
theorem ahead_ev : ∀ (l : Bs), Ev (fun k => spec_verAhead.f k (mk l)) (mk (ahead l))
  | [] => Evs.at1 fun k => by
    show spec_verAhead.l0 (k + 1) (mk []) = _
    rw [spec_verAhead.l0, if_pos (by rw [toL_mk])]; rfl
  | c :: t => by
    have h0 : ¬ (mk (c :: t)).toList = [] := by rw [toL_mk]; simp
    have h1 : (0 : Int) < ((mk (c :: t)).size : Int) := by rw [sz]; simp
    have h2 : (1 : Int) ≤ ((mk (c :: t)).size : Int) := by rw [sz]; simp only [List.length_cons]; omega
    have hd : (mk (c :: t)).extract 1 (mk (c :: t)).size = mk t := by rw [dropE]; rfl
    rw [ahead_cons]
    have q := chI c 118 118 rfl
    by_cases h : wh c = true
    · rw [if_pos h]
      refine step (f := fun k => spec_verAhead.f k (mk t)) (fun k => ?_) (ahead_ev t)
      show spec_verAhead.l0 (k + 1) (mk (c :: t)) = spec_verAhead.l0 k (mk t)
      rw [spec_verAhead.l0, if_neg h0, if_pos h1, bt_head, white_f, Option.bind_some, if_pos h, if_pos h2, hd]
    · rw [if_neg h, noV]
      refine Evs.at1 fun k => ?_
      show spec_verAhead.l0 (k + 1) (mk (c :: t)) = _
      by_cases e : c = 118
      · rw [spec_verAhead.l0, if_neg h0, if_pos h1, bt_head, white_f, Option.bind_some, if_neg h, if_pos (q.2 e), if_pos h2, hd, if_pos e]
      · rw [spec_verAhead.l0, if_neg h0, if_pos h1, bt_head, white_f, Option.bind_some, if_neg h, if_neg (fun h9 => e (q.1 h9)), if_neg e]
theorem scan_ev (l : Bs) (acc : List ByteArray) (hl : l.length ≤ 4611686018427387904) (r : List ByteArray × ByteArray) : ∀ (n i : Nat), l.length - i = n → i ≤ l.length → Ev (fun k => spec_verFields.j2 k (mk l) acc ((i + ((l.drop i).takeWhile dg).length : Nat) : Int)) r → Ev (fun k => spec_verFields.l1 k (mk l) acc (i : Int)) r := by
  intro n
  induction n with
  | zero =>
    intro i h1 h2 hr
    have hd : l.drop i = [] := List.drop_eq_nil_of_le (by omega)
    rw [hd] at hr
    refine step (fun k => ?_) hr
    rw [spec_verFields.l1, if_neg (by rw [sz]; omega)]; rfl
  | succ n ih =>
    intro i h1 h2 hr
    obtain ⟨c, hc, hb⟩ := cell_at (l := l) (i := i) (by omega)
    rw [hc] at hr
    by_cases hw : dg c = true
    · rw [tw_pos hw] at hr
      refine step (f := fun k => spec_verFields.l1 k (mk l) acc ((i + 1 : Nat) : Int)) (fun k => ?_) (ih (i + 1) (by omega) (by omega) hr)
      rw [spec_verFields.l1, if_pos (by rw [sz]; omega), if_pos (by omega), hb, digit_f, Option.bind_some, if_pos hw, w64s i (by omega)]
    · rw [tw_neg hw] at hr
      refine step (fun k => ?_) hr
      rw [spec_verFields.l1, if_pos (by rw [sz]; omega), if_pos (by omega), hb, digit_f, Option.bind_some, if_neg hw]
theorem fields_ev : ∀ (n : Nat) (l : Bs) (acc : List ByteArray), l.length ≤ n → l.length ≤ 4611686018427387904 → acc.length + l.length < 8796093022208 → Ev (fun k => spec_verFields.l0 k (mk l) acc) (acc ++ (flds n l).1.map mk, mk (flds n l).2) := by
  intro n
  induction n with
  | zero =>
    intro l acc h1 h2 h3
    have hl : l = [] := List.length_eq_zero_iff.1 (by omega)
    subst hl
    refine step (f := fun k => spec_verFields.l1 k (mk []) acc ((0 : Nat) : Int)) (fun k => by rw [spec_verFields.l0]; rfl) (scan_ev [] acc (by simp) _ 0 0 rfl (Nat.le_refl _) ?_)
    refine Evs.at1 fun k => ?_
    rw [spec_verFields.j2, if_pos (by simp)]
    simp [flds]
  | succ n ih =>
    intro l acc h1 h2 h3
    refine step (f := fun k => spec_verFields.l1 k (mk l) acc ((0 : Nat) : Int)) (fun k => by rw [spec_verFields.l0]; rfl) (scan_ev l acc h2 _ _ 0 rfl (Nat.zero_le _) ?_)
    rw [List.drop_zero, Nat.zero_add]
    have hle := takeWhile_len_le (p := dg) l
    have hdt := drop_takeWhile (p := dg) l
    have htt := take_takeWhile (p := dg) l
    by_cases h0 : l.takeWhile dg = []
    · refine Evs.at1 fun k => ?_
      rw [spec_verFields.j2, if_pos (by rw [h0]; rfl), flds, if_pos h0]; simp
    · have hm : 0 < (l.takeWhile dg).length := List.length_pos_iff.2 h0
      have hcut := congrArg List.length (List.takeWhile_append_dropWhile (p := dg) (l := l))
      rw [List.length_append] at hcut
      generalize hmm : (l.takeWhile dg).length = m at hle hdt htt hm hcut
      have e1 : (mk l).extract 0 ((m : Int).toNat) = mk (l.takeWhile dg) := by rw [Int.toNat_natCast, takeE, htt]
      have e2 : (mk l).extract ((m : Int).toNat) (mk l).size = mk (l.dropWhile dg) := by rw [Int.toNat_natCast, dropE, hdt]
      have head : ∀ k, spec_verFields.j2 (k + 1) (mk l) acc (m : Int) = (if ((mk (l.dropWhile dg)).size : Int) < 2 then (some (acc ++ [mk (l.takeWhile dg)], mk (l.dropWhile dg))) else (if 0 < ((mk (l.dropWhile dg)).size : Int) then (if (bt (mk (l.dropWhile dg)) 0) = 46 then (if 1 < ((mk (l.dropWhile dg)).size : Int) then ((spec_verDigit.f (bt (mk (l.dropWhile dg)) 1)).bind fun t126 => (if t126 = true then (if 1 ≤ ((mk (l.dropWhile dg)).size : Int) then (spec_verFields.l0 k ((mk (l.dropWhile dg)).extract 1 (mk (l.dropWhile dg)).size) (acc ++ [mk (l.takeWhile dg)])) else (none)) else (some (acc ++ [mk (l.takeWhile dg)], mk (l.dropWhile dg))))) else (none)) else (some (acc ++ [mk (l.takeWhile dg)], mk (l.dropWhile dg)))) else (none))) := fun k => by
        rw [spec_verFields.j2, if_neg (by omega), if_pos (by omega), if_pos (by rw [sz]; omega), if_pos (by omega), Option.bind_some, e1, e2]
      have stop : (flds (n + 1) l) = ([l.takeWhile dg], l.dropWhile dg) → (∀ k, spec_verFields.j2 (k + 1) (mk l) acc (m : Int) = some (acc ++ [mk (l.takeWhile dg)], mk (l.dropWhile dg))) → Ev (fun k => spec_verFields.j2 k (mk l) acc (m : Int)) (acc ++ (flds (n + 1) l).1.map mk, mk (flds (n + 1) l).2) := by
        intro e h
        rw [e]
        exact Evs.at1 h
      cases hr : l.dropWhile dg with
      | nil =>
        rw [hr] at head stop
        refine stop (by rw [flds, if_neg h0, hr]) (fun k => ?_)
        rw [head, if_pos (by rw [sz]; simp)]
      | cons c r =>
        cases r with
        | nil =>
          rw [hr] at head stop
          refine stop (by rw [flds, if_neg h0, hr]; split <;> simp_all) (fun k => ?_)
          rw [head, if_pos (by rw [sz]; simp)]
        | cons d r =>
          have s2 : (((mk (c :: d :: r)).size : Nat) : Int) = (r.length : Int) + 2 := by rw [sz]; simp; omega
          have b1 : bt (mk (c :: d :: r)) 1 = (d.toNat : Int) := bt_mk (c :: d :: r) 1 (by simp)
          have q := chI c 46 46 rfl
          rw [hr] at head stop hcut
          by_cases hc : c = 46
          · by_cases hdg : dg d = true
            · have hf : flds (n + 1) l = (l.takeWhile dg :: (flds n (d :: r)).1, (flds n (d :: r)).2) := by
                rw [flds, if_neg h0, hr, hc]; show (if dg d then _ else _) = _; rw [if_pos hdg]
              rw [hf]
              have hi := ih (d :: r) (acc ++ [mk (l.takeWhile dg)]) (by simp only [List.length_cons] at hcut ⊢; omega) (by simp only [List.length_cons] at hcut ⊢; omega) (by simp only [List.length_cons, List.length_append, List.length_nil] at hcut ⊢; omega)
              have e3 : (acc ++ [mk (l.takeWhile dg)] ++ (flds n (d :: r)).1.map mk, mk (flds n (d :: r)).2) = (acc ++ (l.takeWhile dg :: (flds n (d :: r)).1).map mk, mk (flds n (d :: r)).2) := by simp
              rw [e3] at hi
              refine step (fun k => ?_) hi
              rw [head, if_neg (by omega), if_pos (by omega), bt_head, if_pos (q.2 hc), if_pos (by omega), b1, digit_f, Option.bind_some, if_pos hdg, if_pos (by omega), dropE]; rfl
            · refine stop ?_ (fun k => ?_)
              · rw [flds, if_neg h0, hr, hc]; show (if dg d then _ else _) = _; rw [if_neg hdg]
              · rw [head, if_neg (by omega), if_pos (by omega), bt_head, if_pos (q.2 hc), if_pos (by omega), b1, digit_f, Option.bind_some, if_neg hdg]
          · refine stop ?_ (fun k => ?_)
            · rw [flds, if_neg h0, hr]
              split
              · rename_i h; injection h with h _; exact absurd h hc
              · rfl
            · rw [head, if_neg (by omega), if_pos (by omega), bt_head, if_neg (fun h => hc (q.1 h))]
theorem fieldsOf_ev (l : Bs) (hl : l.length ≤ 8589934592) : Ev (fun k => (spec_verAhead.f k (mk l)).bind fun t => spec_verFields.f k t) ((fieldsOf l).1.map mk, mk (fieldsOf l).2) := by
  have ha := ahead_len l
  refine bindE (ahead_ev l) ?_
  have h := fields_ev l.length (ahead l) [] ha (by omega) (by simp; omega)
  rw [List.nil_append] at h
  exact h
def uintR (l : Bs) (o : Lib.NumEnd Nat) : Int × Bool := match o with
  | .ok u => ((u : Int), l != [])
  | _ => (0, false)
theorem uintI_ev (l : Bs) (hl : l.length ≤ 4611686018427387904) : ∀ (n i a : Nat), l.length - i = n → i ≤ l.length → a < 18446744073709551616 → Ev (fun k => spec_VerUint.l0 k (mk l) (a : Int) (i : Int)) (uintR l (Lib.parseUint10 a (l.drop i))) := by
  intro n
  induction n with
  | zero =>
    intro i a h1 h2 ha
    refine Evs.at1 fun k => ?_
    rw [List.drop_eq_nil_of_le (by omega), spec_VerUint.l0, if_neg (by rw [sz]; omega), toL_mk]; rfl
  | succ n ih =>
    intro i a h1 h2 ha
    obtain ⟨c, hc, hb⟩ := cell_at (l := l) (i := i) (by omega)
    rw [hc, Lib.parseUint10]
    by_cases hd : dg c = true
    · have hd' := (dg_iff c).1 hd
      have hmod : ((c.toNat : Int) - 48) % 256 = ((c.toNat - 48 : Nat) : Int) := by omega
      rw [if_pos hd']
      by_cases ho : 18446744073709551616 ≤ a * 10 + (c.toNat - 48)
      · have e : (if 1844674407370955162 ≤ a then Lib.NumEnd.range else if 18446744073709551616 ≤ a * 10 + (c.toNat - 48) then Lib.NumEnd.range else Lib.parseUint10 (a * 10 + (c.toNat - 48)) (l.drop (i + 1))) = Lib.NumEnd.range := by
          split
          · rfl
          · rfl
        rw [e]
        refine Evs.at1 fun k => ?_
        rw [spec_VerUint.l0, if_pos (by rw [sz]; omega), if_pos (by omega), hb, digit_f, Option.bind_some, if_pos hd, hmod, if_pos (by omega)]; rfl
      · rw [if_neg (by omega), if_neg ho]
        refine step (f := fun k => spec_VerUint.l0 k (mk l) ((a * 10 + (c.toNat - 48) : Nat) : Int) ((i + 1 : Nat) : Int)) (fun k => ?_) (ih (i + 1) (a * 10 + (c.toNat - 48)) (by omega) (by omega) (by omega))
        have e1 : IntKind.u64.wrap (10 * (a : Int)) = 10 * (a : Int) := by rw [IntKind.wrap_u64]; omega
        have e2 : IntKind.u64.wrap (10 * (a : Int) + ((c.toNat - 48 : Nat) : Int)) = ((a * 10 + (c.toNat - 48) : Nat) : Int) := by rw [IntKind.wrap_u64]; omega
        rw [spec_VerUint.l0, if_pos (by rw [sz]; omega), if_pos (by omega), hb, digit_f, Option.bind_some, if_pos hd, hmod, if_neg (by omega), e1, e2, w64s i (by omega)]
    · have hd' : ¬ (48 ≤ c.toNat ∧ c.toNat ≤ 57) := fun h => hd ((dg_iff c).2 h)
      rw [if_neg hd']
      refine Evs.at1 fun k => ?_
      rw [spec_VerUint.l0, if_pos (by rw [sz]; omega), if_pos (by omega), hb, digit_f, Option.bind_some, if_neg hd]; rfl
def vnR (l : Bs) : Int × Bool := match vn l with
  | some u => ((u : Int), true)
  | none => (0, false)
theorem uint_ev (l : Bs) (hl : l.length ≤ 4611686018427387904) : Ev (fun k => spec_VerUint.f k (mk l)) (vnR l) := by
  have h := uintI_ev l hl _ 0 0 rfl (Nat.zero_le _) (by omega)
  rw [List.drop_zero] at h
  have e : uintR l (Lib.parseUint10 0 l) = vnR l := by
    unfold vnR vn Lib.parseMag
    by_cases h0 : l = []
    · subst h0; rfl
    · rw [if_neg h0]
      cases Lib.parseUint10 0 l with
      | ok u => show ((u : Int), l != []) = ((u : Int), true); rw [bne_iff_ne.2 h0]
      | _ => rfl
  rw [e] at h
  exact h
abbrev genR (l : Bs) : List Int × Bool × ByteArray × ByteArray × Bool × Bool :=
  if 10 ∈ (fieldsOf l).2 then ([], false, ⟨#[]⟩, ⟨#[]⟩, false, false)
  else match sGen l with
    | none => ([], false, ⟨#[]⟩, ⟨#[]⟩, false, true)
    | some ns => (zs ns, false, ⟨#[]⟩, ⟨#[]⟩, true, true)
theorem genI_ev (F : List Bs) (hF : ∀ f ∈ F, f.length ≤ 4611686018427387904) (hl : F.length ≤ 8589934592) : ∀ (n i : Nat) (acc : List Nat), F.length - i = n → i ≤ F.length → acc.length = i → Ev (fun k => spec_VerGeneric.l0 k (F.map mk) (i : Int) (zs acc) false (⟨#[]⟩ : ByteArray) (⟨#[]⟩ : ByteArray)) (match nums false false (F.drop i) with
    | none => ([], false, ⟨#[]⟩, ⟨#[]⟩, false, true)
    | some ns => (zs (acc ++ ns), false, ⟨#[]⟩, ⟨#[]⟩, true, true)) := by
  intro n
  induction n with
  | zero =>
    intro i acc h1 h2 h3
    refine Evs.at1 fun k => ?_
    rw [List.drop_eq_nil_of_le (by omega), spec_VerGeneric.l0, if_neg (by rw [List.length_map]; omega)]
    simp [nums]
  | succ n ih =>
    intro i acc h1 h2 h3
    have hlt : i < F.length := by omega
    have hu := uint_ev F[i] (hF _ (List.getElem_mem hlt))
    rw [List.drop_eq_getElem_cons hlt, nums, Bool.or_self, Bool.false_and, if_neg (by simp)]
    refine step (f := fun k => (spec_VerUint.f k (mk F[i])).bind fun bt184 => (if bt184.2 = true then (if (zs acc).length < 17592186044416 then (spec_VerGeneric.l0 k (F.map mk) ((i + 1 : Nat) : Int) (zs acc ++ [bt184.1]) false (⟨#[]⟩ : ByteArray) (⟨#[]⟩ : ByteArray)) else (none)) else (some (([] : List Int), false, (⟨#[]⟩ : ByteArray), (⟨#[]⟩ : ByteArray), false, true)))) (fun k => by
      rw [spec_VerGeneric.l0, if_pos (by rw [List.length_map]; omega), if_pos (by omega), rdOf_map F i hlt, w64s i (by omega)]) ?_
    refine bindE hu ?_
    unfold vnR
    cases hv : vn F[i] with
    | none => exact congr (f := fun _ => some _) (fun k => if_neg (by simp)) (const _)
    | some u =>
      have hi := ih (i + 1) (acc ++ [u]) (by omega) hlt (by rw [List.length_append, h3]; rfl)
      have e : zs (acc ++ [u]) = zs acc ++ [(u : Int)] := by simp
      rw [e] at hi
      have e2 : (match (nums false false (F.drop (i + 1))).map (u :: ·) with
          | none => (([] : List Int), false, (⟨#[]⟩ : ByteArray), (⟨#[]⟩ : ByteArray), false, true)
          | some ns => (zs (acc ++ ns), false, ⟨#[]⟩, ⟨#[]⟩, true, true)) = (match nums false false (F.drop (i + 1)) with
          | none => ([], false, ⟨#[]⟩, ⟨#[]⟩, false, true)
          | some ns => (zs (acc ++ [u] ++ ns), false, ⟨#[]⟩, ⟨#[]⟩, true, true)) := by
        cases nums false false (F.drop (i + 1)) with
        | none => rfl
        | some ns => simp
      simp only
      rw [e2]
      refine congr (fun k => ?_) hi
      rw [if_pos trivial, if_pos (by rw [List.length_map]; omega)]
theorem generic_ev (l : Bs) (hl : l.length ≤ 8589934592) : Ev (fun k => spec_VerGeneric.f k (mk l)) (genR l) := by
  have hfe := fieldsOf_ev l hl
  have hfl := fields_len l
  obtain ⟨hfs, hfj⟩ := fields_spec l
  have hrl := fields_rest l
  have hal := ahead_len l
  have hF : ∀ f ∈ (fieldsOf l).1, f.length ≤ 4611686018427387904 := fun f hf => by
    obtain ⟨x, y, e⟩ := spl_sub _ f hf
    have h1 := congrArg List.length e
    have h2 := congrArg List.length hfj
    simp only [List.length_append] at h1 h2
    omega
  have hass : ∀ k, spec_VerGeneric.f k (mk l) = ((spec_verAhead.f k (mk l)).bind fun t => spec_verFields.f k t).bind fun bt176 => ((spec_verPlace.f k bt176.2 10).bind fun t180 => (if t180 ≥ 0 then (some (([] : List Int), false, (⟨#[]⟩ : ByteArray), (⟨#[]⟩ : ByteArray), false, false)) else (if (bt176.1.length : Int) < 2 then (spec_VerGeneric.j0 k bt176.1 true false (⟨#[]⟩ : ByteArray) (⟨#[]⟩ : ByteArray)) else (if 0 < (bt176.1.length : Int) then ((spec_VerPlainly.f (rdOf ByteArray.empty bt176.1 0)).bind fun t182 => (spec_VerGeneric.j0 k bt176.1 (!t182) false (⟨#[]⟩ : ByteArray) (⟨#[]⟩ : ByteArray))) else (none))))) := fun k => by
    unfold spec_VerGeneric.f
    cases spec_verAhead.f k (mk l) <;> rfl
  refine congr hass (bindE hfe ?_)
  refine bindE (place_ev 10 (fieldsOf l).2 (by omega)) ?_
  have hmem := idxs_mem 10 (fieldsOf l).2
  unfold genR sGen
  by_cases h10 : 10 ∈ (fieldsOf l).2
  · rw [if_pos h10]
    exact congr (f := fun _ => some _) (fun k => if_pos (hmem.2 h10)) (const _)
  · rw [if_neg h10]
    by_cases h2 : (fieldsOf l).1.length < 2
    · rw [if_pos h2]
      refine congr (f := fun k => spec_VerGeneric.j0 k ((fieldsOf l).1.map mk) true false (⟨#[]⟩ : ByteArray) (⟨#[]⟩ : ByteArray)) (fun k => by
        rw [if_neg (fun h => h10 (hmem.1 h)), if_pos (by simp only [List.length_map]; omega)]) ?_
      exact Evs.at1 fun k => by rw [spec_VerGeneric.j0, if_pos rfl]
    · rw [if_neg h2]
      generalize hFF : (fieldsOf l).1 = F at hfs hF hfl h2 ⊢
      cases F with
      | nil => exact absurd (by simp) h2
      | cons f F =>
        have hf0 := (hfs f (by simp)).1
        refine congr (f := fun k => spec_VerGeneric.j0 k ((f :: F).map mk) (bad f) false (⟨#[]⟩ : ByteArray) (⟨#[]⟩ : ByteArray)) (fun k => by
          rw [if_neg (fun h => h10 (hmem.1 h)), if_neg (by simp only [List.length_map]; omega), if_pos (by simp only [List.length_map, List.length_cons]; omega), show rdOf ByteArray.empty ((f :: F).map mk) 0 = mk f from rfl, plain_f f hf0, Option.bind_some, Bool.not_not]) ?_
        rw [nums, Bool.or_false, Bool.true_and]
        cases hb : bad f with
        | true => rw [if_pos rfl]; exact Evs.at1 fun k => by rw [spec_VerGeneric.j0, if_pos rfl]
        | false =>
          rw [if_neg (by simp)]
          have h := genI_ev (f :: F) hF (by omega) _ 0 [] rfl (Nat.zero_le _) rfl
          rw [List.drop_zero, nums, Bool.or_self, Bool.false_and, if_neg (by simp)] at h
          refine step (f := fun k => spec_VerGeneric.l0 k ((f :: F).map mk) ((0 : Nat) : Int) (zs []) false (⟨#[]⟩ : ByteArray) (⟨#[]⟩ : ByteArray)) (fun k => by rw [spec_VerGeneric.j0, if_neg (by simp)]; rfl) ?_
          exact h
end Go.Proofs.YtomoefldmgfaoaaDoor.Pv.SFnVersionParse
