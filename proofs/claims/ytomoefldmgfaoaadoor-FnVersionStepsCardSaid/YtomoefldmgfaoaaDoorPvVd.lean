/- Versions: the reference's generic version of a text. -/
import Derived.Test.YtomoefldmgfaoaaDoorPvU
import Derived.Test.YtomoefldmgfaoaaDoorPFnVersionStepsx8
import Derived.Test.YtomoefldmgfaoaaDoorPFnVersionStepsx1
set_option linter.unusedVariables false
set_option linter.unusedSimpArgs false
namespace Go.Proofs.YtomoefldmgfaoaaDoor.Pv.SFnVersionSteps
open Go Go.RowKit Go.Proofs.YtomoefldmgfaoaaDoor Go.Proofs.YtomoefldmgfaoaaDoorW.PrintWords Go.Proofs.YtomoefldmgfaoaaDoor.PFnVersionSteps Go.Proofs.YtomoefldmgfaoaaDoor.Txt Go.Proofs.YtomoefldmgfaoaaDoor.Small Go.Proofs.YtomoefldmgfaoaaDoor.Pv

theorem chI (c d : UInt8) (n : Int) (h : (d.toNat : Int) = n) : ((c.toNat : Int) = n) ↔ c = d := by
  rw [← h]
  exact ⟨fun e => UInt8.toNat_inj.1 (by omega), fun e => by rw [e]⟩
theorem toL_mk (l : Bs) : (mk l).toList = l := by rw [toL]
theorem bt_mk (l : Bs) (i : Nat) (h : i < l.length) : bt (mk l) (i : Int) = ((l[i]).toNat : Int) := bt_nat (mk l) i h
theorem bt_head (c : UInt8) (t : Bs) : bt (mk (c :: t)) 0 = (c.toNat : Int) := bt_mk (c :: t) 0 (by simp)
theorem dropE (l : Bs) (a : Nat) : (mk l).extract a (mk l).size = mk (l.drop a) := by
  rw [extract_mk, Lb_mk, size_mk, List.take_of_length_le (by rw [List.length_drop]; omega)]
theorem takeE (l : Bs) (b : Nat) : (mk l).extract 0 b = mk (l.take b) := by rw [extract_mk, Lb_mk, List.drop_zero, Nat.sub_zero]
theorem cell_at {l : Bs} {i : Nat} (h : i < l.length) : ∃ c, l.drop i = c :: l.drop (i + 1) ∧ bt (mk l) (i : Int) = (c.toNat : Int) := ⟨l[i], List.drop_eq_getElem_cons h, bt_mk l i h⟩
theorem sz (l : Bs) : (((mk l).size : Nat) : Int) = (l.length : Int) := by rw [size_mk]
theorem digit_f (c : UInt8) : spec_verDigit.f (c.toNat : Int) = some (dg c) := by
  unfold spec_verDigit.f
  by_cases h : (c.toNat : Int) ≥ 48
  · rw [if_pos h]
    by_cases h2 : (c.toNat : Int) ≤ 57
    · rw [decide_eq_true h2, (dg_iff c).2 (by omega)]
    · rw [decide_eq_false h2]
      rcases hd : dg c with _ | _
      · rfl
      · have := (dg_iff c).1 hd; omega
  · rw [if_neg h]
    rcases hd : dg c with _ | _
    · rfl
    · have := (dg_iff c).1 hd; omega
def idxs (sg : UInt8) (i : Nat) (l : Bs) : Int := match cutAt sg l with
  | some q => ((i + q.1.length : Nat) : Int)
  | none => -1
theorem idxs_cons (sg : UInt8) (i : Nat) (c : UInt8) (l : Bs) : idxs sg i (c :: l) = if c = sg then (i : Int) else idxs sg (i + 1) l := by
  unfold idxs
  rw [cutAt]
  by_cases h : c = sg
  · rw [if_pos h, if_pos h]; rfl
  · rw [if_neg h, if_neg h]
    cases cutAt sg l with
    | none => rfl
    | some q =>
      show ((i + (q.1.length + 1) : Nat) : Int) = ((i + 1 + q.1.length : Nat) : Int)
      congr 1; omega
theorem placeI_ev (sg : UInt8) (l : Bs) (hl : l.length ≤ 4611686018427387904) : ∀ (n i : Nat), l.length - i = n → i ≤ l.length → Ev (fun k => spec_verPlace.l0 k (mk l) (sg.toNat : Int) (i : Int)) (idxs sg i (l.drop i)) := by
  intro n
  induction n with
  | zero =>
    intro i h1 h2
    refine Evs.at1 fun k => ?_
    rw [List.drop_eq_nil_of_le (by omega), spec_verPlace.l0, if_neg (by rw [sz]; omega)]; rfl
  | succ n ih =>
    intro i h1 h2
    obtain ⟨c, hc, hb⟩ := cell_at (l := l) (i := i) (by omega)
    rw [hc, idxs_cons]
    by_cases h : c = sg
    · rw [if_pos h]
      refine Evs.at1 fun k => ?_
      rw [spec_verPlace.l0, if_pos (by rw [sz]; omega), if_pos (by omega), hb, if_pos (by rw [h])]
    · rw [if_neg h]
      refine step (f := fun k => spec_verPlace.l0 k (mk l) (sg.toNat : Int) ((i + 1 : Nat) : Int)) (fun k => ?_) (ih (i + 1) (by omega) (by omega))
      rw [spec_verPlace.l0, if_pos (by rw [sz]; omega), if_pos (by omega), hb, if_neg (fun e => h (UInt8.toNat_inj.1 (by omega))), w64s i (by omega)]
theorem place_ev (sg : UInt8) (l : Bs) (hl : l.length ≤ 4611686018427387904) : Ev (fun k => spec_verPlace.f k (mk l) (sg.toNat : Int)) (idxs sg 0 l) := by
  have h := placeI_ev sg l hl _ 0 rfl (Nat.zero_le _)
  rw [List.drop_zero] at h
  exact h
theorem idxs_mem (sg : UInt8) (l : Bs) : idxs sg 0 l ≥ 0 ↔ sg ∈ l := by
  unfold idxs
  cases hc : cutAt sg l with
  | none =>
    constructor
    · intro h; exact absurd h (by decide)
    · intro h
      obtain ⟨u, b, e⟩ := List.append_of_mem h
      exfalso
      have : ∀ l : Bs, sg ∈ l → cutAt sg l ≠ none := by
        intro l
        induction l with
        | nil => intro h; cases h
        | cons c t ih =>
          intro h
          rw [cutAt]
          by_cases e : c = sg
          · rw [if_pos e]; simp
          · rw [if_neg e]
            have := ih ((List.mem_cons.1 h).resolve_left (fun e' => e e'.symm))
            cases hq : cutAt sg t with
            | none => exact absurd hq this
            | some q => simp
      exact this l h hc
  | some q =>
    obtain ⟨e, _⟩ := cutAt_some (u := q.1) (b := q.2) hc
    constructor
    · intro _; rw [e]; simp
    · intro _; show ((0 + q.1.length : Nat) : Int) ≥ 0; omega
theorem plain_f (l : Bs) (h0 : l ≠ []) : spec_VerPlainly.f (mk l) = some (!bad l) := by
  unfold spec_VerPlainly.f
  rw [sz, toL_mk]
  cases l with
  | nil => exact absurd rfl h0
  | cons c t =>
    by_cases h1 : ((c :: t).length : Int) = 1
    · have ht : t = [] := by simp only [List.length_cons] at h1; exact List.length_eq_zero_iff.1 (by omega)
      subst ht
      rw [if_pos h1]
      unfold bad
      by_cases e : c = 48
      · rw [e]; rfl
      · have : ((([c] : Bs).head? == some 48) : Bool) = false := beq_eq_false_iff_ne.2 (by simpa using e)
        rw [this]; rfl
    · rw [if_neg h1, if_neg (by simp), if_pos (by simp only [List.length_cons]; omega), bt_head]
      congr 1
      unfold bad
      have hl : ((c :: t : Bs) != [48]) = true := bne_iff_ne.2 (by intro e; injection e with _ e; subst e; exact h1 rfl)
      rw [hl, Bool.and_true]
      have q := chI c 48 48 rfl
      by_cases e : c = 48
      · rw [bne_eq_false_iff_eq.2 (q.2 e), e]; rfl
      · rw [bne_iff_ne.2 (fun h => e (q.1 h))]
        have : ((c :: t : Bs).head? == some 48) = false := beq_eq_false_iff_ne.2 (by simpa using e)
        rw [this]; rfl
theorem rdOf_map (F : List Bs) (i : Nat) (h : i < F.length) : rdOf ByteArray.empty (F.map mk) (i : Int) = mk F[i] := by
  unfold rdOf
  rw [Int.toNat_natCast, List.getD_eq_getElem?_getD, List.getElem?_map, List.getElem?_eq_getElem h]; rfl
theorem white_f (c : UInt8) : spec_verWhite.f (c.toNat : Int) = some (wh c) := by
  unfold spec_verWhite.f
  have h := wh_iff c
  rcases hw : wh c with _ | _
  · have h' : ¬ (c.toNat = 32 ∨ c.toNat = 9 ∨ c.toNat = 10 ∨ c.toNat = 12 ∨ c.toNat = 13) := fun e => by rw [h.2 e] at hw; cases hw
    rw [if_neg (by omega), if_neg (by omega), if_neg (by omega), if_neg (by omega), beq_eq_false_iff_ne.2 (by omega)]
  · have h' := h.1 hw
    repeat' split
    all_goals first | rfl | (congr 1; exact beq_iff_eq.2 (by omega))
theorem ahead_cons (c : UInt8) (t : Bs) : ahead (c :: t) = if wh c = true then ahead t else noV (c :: t) := by
  unfold ahead
  by_cases h : wh c = true
  · rw [if_pos h, List.dropWhile_cons_of_pos h]
  · rw [if_neg h, List.dropWhile_cons_of_neg h]
theorem ahead_ev : ∀ (l : Bs), Ev (fun k => spec_verAhead.f k (mk l)) (mk (ahead l))
  | [] => Evs.at1 fun k => by
    show spec_verAhead.l0 (k + 1) (mk []) = _
    rw [spec_verAhead.l0, if_pos (by rw [toL_mk])]; rfl
  | c :: t => by
    have h0 : ¬ (mk (c :: t)).toList = [] := by rw [toL_mk]; simp
    have h1 : (0 : Int) < ((mk (c :: t)).size : Int) := by rw [sz]; simp
    have h2 : (1 : Int) ≤ ((mk (c :: t)).size : Int) := by rw [sz]; simp only [List.length_cons]; omega
    have hd : (mk (c :: t)).extract 1 (mk (c :: t)).size = mk t := by rw [dropE]; rfl
    rw [ahead_cons]
    have q := chI c 118 118 rfl
    by_cases h : wh c = true
    · rw [if_pos h]
      refine step (f := fun k => spec_verAhead.f k (mk t)) (fun k => ?_) (ahead_ev t)
      show spec_verAhead.l0 (k + 1) (mk (c :: t)) = spec_verAhead.l0 k (mk t)
      rw [spec_verAhead.l0, if_neg h0, if_pos h1, bt_head, white_f, Option.bind_some, if_pos h, if_pos h2, hd]
    · rw [if_neg h, noV]
      refine Evs.at1 fun k => ?_
      show spec_verAhead.l0 (k + 1) (mk (c :: t)) = _
      by_cases e : c = 118
      · rw [spec_verAhead.l0, if_neg h0, if_pos h1, bt_head, white_f, Option.bind_some, if_neg h, if_pos (q.2 e), if_pos h2, hd, if_pos e]
      · rw [spec_verAhead.l0, if_neg h0, if_pos h1, bt_head, white_f, Option.bind_some, if_neg h, if_neg (fun h9 => e (q.1 h9)), if_neg e]
theorem scan_ev (l : Bs) (acc : List ByteArray) (hl : l.length ≤ 4611686018427387904) (r : List ByteArray × ByteArray) : ∀ (n i : Nat), l.length - i = n → i ≤ l.length → Ev (fun k => spec_verFields.j2 k (mk l) acc ((i + ((l.drop i).takeWhile dg).length : Nat) : Int)) r → Ev (fun k => spec_verFields.l1 k (mk l) acc (i : Int)) r := by
  intro n
  induction n with
  | zero =>
    intro i h1 h2 hr
    have hd : l.drop i = [] := List.drop_eq_nil_of_le (by omega)
    rw [hd] at hr
    refine step (fun k => ?_) hr
    rw [spec_verFields.l1, if_neg (by rw [sz]; omega)]; rfl
  | succ n ih =>
    intro i h1 h2 hr
    obtain ⟨c, hc, hb⟩ := cell_at (l := l) (i := i) (by omega)
    rw [hc] at hr
    by_cases hw : dg c = true
    · rw [tw_pos hw] at hr
      refine step (f := fun k => spec_verFields.l1 k (mk l) acc ((i + 1 : Nat) : Int)) (fun k => ?_) (ih (i + 1) (by omega) (by omega) hr)
      rw [spec_verFields.l1, if_pos (by rw [sz]; omega), if_pos (by omega), hb, digit_f, Option.bind_some, if_pos hw, w64s i (by omega)]
    · rw [tw_neg hw] at hr
      refine step (fun k => ?_) hr
      rw [spec_verFields.l1, if_pos (by rw [sz]; omega), if_pos (by omega), hb, digit_f, Option.bind_some, if_neg hw]
theorem fields_ev : ∀ (n : Nat) (l : Bs) (acc : List ByteArray), l.length ≤ n → l.length ≤ 4611686018427387904 → acc.length + l.length < 8796093022208 → Ev (fun k => spec_verFields.l0 k (mk l) acc) (acc ++ (flds n l).1.map mk, mk (flds n l).2) := by
  intro n
  induction n with
  | zero =>
    intro l acc h1 h2 h3
    have hl : l = [] := List.length_eq_zero_iff.1 (by omega)
    subst hl
    refine step (f := fun k => spec_verFields.l1 k (mk []) acc ((0 : Nat) : Int)) (fun k => by rw [spec_verFields.l0]; rfl) (scan_ev [] acc (by simp) _ 0 0 rfl (Nat.le_refl _) ?_)
    refine Evs.at1 fun k => ?_
    rw [spec_verFields.j2, if_pos (by simp)]
    simp [flds]
  | succ n ih =>
    intro l acc h1 h2 h3
    refine step (f := fun k => spec_verFields.l1 k (mk l) acc ((0 : Nat) : Int)) (fun k => by rw [spec_verFields.l0]; rfl) (scan_ev l acc h2 _ _ 0 rfl (Nat.zero_le _) ?_)
    rw [List.drop_zero, Nat.zero_add]
    have hle := takeWhile_len_le (p := dg) l
    have hdt := drop_takeWhile (p := dg) l
    have htt := take_takeWhile (p := dg) l
    by_cases h0 : l.takeWhile dg = []
    · refine Evs.at1 fun k => ?_
      rw [spec_verFields.j2, if_pos (by rw [h0]; rfl), flds, if_pos h0]; simp
    · have hm : 0 < (l.takeWhile dg).length := List.length_pos_iff.2 h0
      have hcut := congrArg List.length (List.takeWhile_append_dropWhile (p := dg) (l := l))
      rw [List.length_append] at hcut
      generalize hmm : (l.takeWhile dg).length = m at hle hdt htt hm hcut
      have e1 : (mk l).extract 0 ((m : Int).toNat) = mk (l.takeWhile dg) := by rw [Int.toNat_natCast, takeE, htt]
      have e2 : (mk l).extract ((m : Int).toNat) (mk l).size = mk (l.dropWhile dg) := by rw [Int.toNat_natCast, dropE, hdt]
      have head : ∀ k, spec_verFields.j2 (k + 1) (mk l) acc (m : Int) = (if ((mk (l.dropWhile dg)).size : Int) < 2 then (some (acc ++ [mk (l.takeWhile dg)], mk (l.dropWhile dg))) else (if 0 < ((mk (l.dropWhile dg)).size : Int) then (if (bt (mk (l.dropWhile dg)) 0) = 46 then (if 1 < ((mk (l.dropWhile dg)).size : Int) then ((spec_verDigit.f (bt (mk (l.dropWhile dg)) 1)).bind fun t126 => (if t126 = true then (if 1 ≤ ((mk (l.dropWhile dg)).size : Int) then (spec_verFields.l0 k ((mk (l.dropWhile dg)).extract 1 (mk (l.dropWhile dg)).size) (acc ++ [mk (l.takeWhile dg)])) else (none)) else (some (acc ++ [mk (l.takeWhile dg)], mk (l.dropWhile dg))))) else (none)) else (some (acc ++ [mk (l.takeWhile dg)], mk (l.dropWhile dg)))) else (none))) := fun k => by
        rw [spec_verFields.j2, if_neg (by omega), if_pos (by omega), if_pos (by rw [sz]; omega), if_pos (by omega), Option.bind_some, e1, e2]
      have stop : (flds (n + 1) l) = ([l.takeWhile dg], l.dropWhile dg) → (∀ k, spec_verFields.j2 (k + 1) (mk l) acc (m : Int) = some (acc ++ [mk (l.takeWhile dg)], mk (l.dropWhile dg))) → Ev (fun k => spec_verFields.j2 k (mk l) acc (m : Int)) (acc ++ (flds (n + 1) l).1.map mk, mk (flds (n + 1) l).2) := by
        intro e h
        rw [e]
        exact Evs.at1 h
      cases hr : l.dropWhile dg with
      | nil =>
        rw [hr] at head stop
        refine stop (by rw [flds, if_neg h0, hr]) (fun k => ?_)
        rw [head, if_pos (by rw [sz]; simp)]
      | cons c r =>
        cases r with
        | nil =>
          rw [hr] at head stop
          refine stop (by rw [flds, if_neg h0, hr]; split <;> simp_all) (fun k => ?_)
          rw [head, if_pos (by rw [sz]; simp)]
        | cons d r =>
          have s2 : (((mk (c :: d :: r)).size : Nat) : Int) = (r.length : Int) + 2 := by rw [sz]; simp; omega
          have b1 : bt (mk (c :: d :: r)) 1 = (d.toNat : Int) := bt_mk (c :: d :: r) 1 (by simp)
          have q := chI c 46 46 rfl
          rw [hr] at head stop hcut
          by_cases hc : c = 46
          · by_cases hdg : dg d = true
            · have hf : flds (n + 1) l = (l.takeWhile dg :: (flds n (d :: r)).1, (flds n (d :: r)).2) := by
                rw [flds, if_neg h0, hr, hc]; show (if dg d then _ else _) = _; rw [if_pos hdg]
              rw [hf]
              have hi := ih (d :: r) (acc ++ [mk (l.takeWhile dg)]) (by simp only [List.length_cons] at hcut ⊢; omega) (by simp only [List.length_cons] at hcut ⊢; omega) (by simp only [List.length_cons, List.length_append, List.length_nil] at hcut ⊢; omega)
              have e3 : (acc ++ [mk (l.takeWhile dg)] ++ (flds n (d :: r)).1.map mk, mk (flds n (d :: r)).2) = (acc ++ (l.takeWhile dg :: (flds n (d :: r)).1).map mk, mk (flds n (d :: r)).2) := by simp
              rw [e3] at hi
              refine step (fun k => ?_) hi
              rw [head, if_neg (by omega), if_pos (by omega), bt_head, if_pos (q.2 hc), if_pos (by omega), b1, digit_f, Option.bind_some, if_pos hdg, if_pos (by omega), dropE]; rfl
            · refine stop ?_ (fun k => ?_)
              · rw [flds, if_neg h0, hr, hc]; show (if dg d then _ else _) = _; rw [if_neg hdg]
              · rw [head, if_neg (by omega), if_pos (by omega), bt_head, if_pos (q.2 hc), if_pos (by omega), b1, digit_f, Option.bind_some, if_neg hdg]
          · refine stop ?_ (fun k => ?_)
            · rw [flds, if_neg h0, hr]
              split
              · rename_i h; injection h with h _; exact absurd h hc
              · rfl
            · rw [head, if_neg (by omega), if_pos (by omega), bt_head, if_neg (fun h => hc (q.1 h))]
theorem fieldsOf_ev (l : Bs) (hl : l.length ≤ 8589934592) : Ev (fun k => (spec_verAhead.f k (mk l)).bind fun t => spec_verFields.f k t) ((fieldsOf l).1.map mk, mk (fieldsOf l).2) := by
  have ha := ahead_len l
  refine bindE (ahead_ev l) ?_
  have h := fields_ev l.length (ahead l) [] ha (by omega) (by simp; omega)
  rw [List.nil_append] at h
  exact h
def uintR (l : Bs) (o : Lib.NumEnd Nat) : Int × Bool := match o with
  | .ok u => ((u : Int), l != [])
  | _ => (0, false)
theorem uintI_ev (l : Bs) (hl : l.length ≤ 4611686018427387904) : ∀ (n i a : Nat), l.length - i = n → i ≤ l.length → a < 18446744073709551616 → Ev (fun k => spec_VerUint.l0 k (mk l) (a : Int) (i : Int)) (uintR l (Lib.parseUint10 a (l.drop i))) := by
  intro n
  induction n with
  | zero =>
    intro i a h1 h2 ha
    refine Evs.at1 fun k => ?_
    rw [List.drop_eq_nil_of_le (by omega), spec_VerUint.l0, if_neg (by rw [sz]; omega), toL_mk]; rfl
  | succ n ih =>
    intro i a h1 h2 ha
    obtain ⟨c, hc, hb⟩ := cell_at (l := l) (i := i) (by omega)
    rw [hc, Lib.parseUint10]
    by_cases hd : dg c = true
    · have hd' := (dg_iff c).1 hd
      have hmod : ((c.toNat : Int) - 48) % 256 = ((c.toNat - 48 : Nat) : Int) := by omega
      rw [if_pos hd']
      by_cases ho : 18446744073709551616 ≤ a * 10 + (c.toNat - 48)
      · have e : (if 1844674407370955162 ≤ a then Lib.NumEnd.range else if 18446744073709551616 ≤ a * 10 + (c.toNat - 48) then Lib.NumEnd.range else Lib.parseUint10 (a * 10 + (c.toNat - 48)) (l.drop (i + 1))) = Lib.NumEnd.range := by
          split
          · rfl
          · rfl
        rw [e]
        refine Evs.at1 fun k => ?_
        rw [spec_VerUint.l0, if_pos (by rw [sz]; omega), if_pos (by omega), hb, digit_f, Option.bind_some, if_pos hd, hmod, if_pos (by omega)]; rfl
      · rw [if_neg (by omega), if_neg ho]
        refine step (f := fun k => spec_VerUint.l0 k (mk l) ((a * 10 + (c.toNat - 48) : Nat) : Int) ((i + 1 : Nat) : Int)) (fun k => ?_) (ih (i + 1) (a * 10 + (c.toNat - 48)) (by omega) (by omega) (by omega))
        have e1 : IntKind.u64.wrap (10 * (a : Int)) = 10 * (a : Int) := by rw [IntKind.wrap_u64]; omega
        have e2 : IntKind.u64.wrap (10 * (a : Int) + ((c.toNat - 48 : Nat) : Int)) = ((a * 10 + (c.toNat - 48) : Nat) : Int) := by rw [IntKind.wrap_u64]; omega
        rw [spec_VerUint.l0, if_pos (by rw [sz]; omega), if_pos (by omega), hb, digit_f, Option.bind_some, if_pos hd, hmod, if_neg (by omega), e1, e2, w64s i (by omega)]
    · have hd' : ¬ (48 ≤ c.toNat ∧ c.toNat ≤ 57) := fun h => hd ((dg_iff c).2 h)
      rw [if_neg hd']
      refine Evs.at1 fun k => ?_
      rw [spec_VerUint.l0, if_pos (by rw [sz]; omega), if_pos (by omega), hb, digit_f, Option.bind_some, if_neg hd]; rfl
def vnR (l : Bs) : Int × Bool := match vn l with
  | some u => ((u : Int), true)
  | none => (0, false)
theorem uint_ev (l : Bs) (hl : l.length ≤ 4611686018427387904) : Ev (fun k => spec_VerUint.f k (mk l)) (vnR l) := by
  have h := uintI_ev l hl _ 0 0 rfl (Nat.zero_le _) (by omega)
  rw [List.drop_zero] at h
  have e : uintR l (Lib.parseUint10 0 l) = vnR l := by
    unfold vnR vn Lib.parseMag
    by_cases h0 : l = []
    · subst h0; rfl
    · rw [if_neg h0]
      cases Lib.parseUint10 0 l with
      | ok u => show ((u : Int), l != []) = ((u : Int), true); rw [bne_iff_ne.2 h0]
      | _ => rfl
  rw [e] at h
  exact h
abbrev genR (l : Bs) : List Int × Bool × ByteArray × ByteArray × Bool × Bool :=
  if 10 ∈ (fieldsOf l).2 then ([], false, ⟨#[]⟩, ⟨#[]⟩, false, false)
  else match sGen l with
    | none => ([], false, ⟨#[]⟩, ⟨#[]⟩, false, true)
    | some ns => (zs ns, false, ⟨#[]⟩, ⟨#[]⟩, true, true)
theorem genI_ev (F : List Bs) (hF : ∀ f ∈ F, f.length ≤ 4611686018427387904) (hl : F.length ≤ 8589934592) : ∀ (n i : Nat) (acc : List Nat), F.length - i = n → i ≤ F.length → acc.length = i → Ev (fun k => spec_VerGeneric.l0 k (F.map mk) (i : Int) (zs acc) false (⟨#[]⟩ : ByteArray) (⟨#[]⟩ : ByteArray)) (match nums false false (F.drop i) with
    | none => ([], false, ⟨#[]⟩, ⟨#[]⟩, false, true)
    | some ns => (zs (acc ++ ns), false, ⟨#[]⟩, ⟨#[]⟩, true, true)) := by
  intro n
  induction n with
  | zero =>
    intro i acc h1 h2 h3
    refine Evs.at1 fun k => ?_
    rw [List.drop_eq_nil_of_le (by omega), spec_VerGeneric.l0, if_neg (by rw [List.length_map]; omega)]
    simp [nums]
  | succ n ih =>
    intro i acc h1 h2 h3
    have hlt : i < F.length := by omega
    have hu := uint_ev F[i] (hF _ (List.getElem_mem hlt))
    rw [List.drop_eq_getElem_cons hlt, nums, Bool.or_self, Bool.false_and, if_neg (by simp)]
    refine step (f := fun k => (spec_VerUint.f k (mk F[i])).bind fun bt184 => (if bt184.2 = true then (if (zs acc).length < 17592186044416 then (spec_VerGeneric.l0 k (F.map mk) ((i + 1 : Nat) : Int) (zs acc ++ [bt184.1]) false (⟨#[]⟩ : ByteArray) (⟨#[]⟩ : ByteArray)) else (none)) else (some (([] : List Int), false, (⟨#[]⟩ : ByteArray), (⟨#[]⟩ : ByteArray), false, true)))) (fun k => by
      rw [spec_VerGeneric.l0, if_pos (by rw [List.length_map]; omega), if_pos (by omega), rdOf_map F i hlt, w64s i (by omega)]) ?_
    refine bindE hu ?_
    unfold vnR
    cases hv : vn F[i] with
    | none => exact congr (f := fun _ => some _) (fun k => if_neg (by simp)) (const _)
    | some u =>
      have hi := ih (i + 1) (acc ++ [u]) (by omega) hlt (by rw [List.length_append, h3]; rfl)
      have e : zs (acc ++ [u]) = zs acc ++ [(u : Int)] := by simp
      rw [e] at hi
      have e2 : (match (nums false false (F.drop (i + 1))).map (u :: ·) with
          | none => (([] : List Int), false, (⟨#[]⟩ : ByteArray), (⟨#[]⟩ : ByteArray), false, true)
          | some ns => (zs (acc ++ ns), false, ⟨#[]⟩, ⟨#[]⟩, true, true)) = (match nums false false (F.drop (i + 1)) with
          | none => ([], false, ⟨#[]⟩, ⟨#[]⟩, false, true)
          | some ns => (zs (acc ++ [u] ++ ns), false, ⟨#[]⟩, ⟨#[]⟩, true, true)) := by
        cases nums false false (F.drop (i + 1)) with
        | none => rfl
        | some ns => simp
      simp only
      rw [e2]
      refine congr (fun k => ?_) hi
      rw [if_pos trivial, if_pos (by rw [List.length_map]; omega)]
theorem generic_ev (l : Bs) (hl : l.length ≤ 8589934592) : Ev (fun k => spec_VerGeneric.f k (mk l)) (genR l) := by
  have hfe := fieldsOf_ev l hl
  have hfl := fields_len l
  obtain ⟨hfs, hfj⟩ := fields_spec l
  have hrl := fields_rest l
  have hal := ahead_len l
  have hF : ∀ f ∈ (fieldsOf l).1, f.length ≤ 4611686018427387904 := fun f hf => by
    obtain ⟨x, y, e⟩ := spl_sub _ f hf
    have h1 := congrArg List.length e
    have h2 := congrArg List.length hfj
    simp only [List.length_append] at h1 h2
    omega
  have hass : ∀ k, spec_VerGeneric.f k (mk l) = ((spec_verAhead.f k (mk l)).bind fun t => spec_verFields.f k t).bind fun bt176 => ((spec_verPlace.f k bt176.2 10).bind fun t180 => (if t180 ≥ 0 then (some (([] : List Int), false, (⟨#[]⟩ : ByteArray), (⟨#[]⟩ : ByteArray), false, false)) else (if (bt176.1.length : Int) < 2 then (spec_VerGeneric.j0 k bt176.1 true false (⟨#[]⟩ : ByteArray) (⟨#[]⟩ : ByteArray)) else (if 0 < (bt176.1.length : Int) then ((spec_VerPlainly.f (rdOf ByteArray.empty bt176.1 0)).bind fun t182 => (spec_VerGeneric.j0 k bt176.1 (!t182) false (⟨#[]⟩ : ByteArray) (⟨#[]⟩ : ByteArray))) else (none))))) := fun k => by
    unfold spec_VerGeneric.f
    cases spec_verAhead.f k (mk l) <;> rfl
  refine congr hass (bindE hfe ?_)
  refine bindE (place_ev 10 (fieldsOf l).2 (by omega)) ?_
  have hmem := idxs_mem 10 (fieldsOf l).2
  unfold genR sGen
  by_cases h10 : 10 ∈ (fieldsOf l).2
  · rw [if_pos h10]
    exact congr (f := fun _ => some _) (fun k => if_pos (hmem.2 h10)) (const _)
  · rw [if_neg h10]
    by_cases h2 : (fieldsOf l).1.length < 2
    · rw [if_pos h2]
      refine congr (f := fun k => spec_VerGeneric.j0 k ((fieldsOf l).1.map mk) true false (⟨#[]⟩ : ByteArray) (⟨#[]⟩ : ByteArray)) (fun k => by
        rw [if_neg (fun h => h10 (hmem.1 h)), if_pos (by simp only [List.length_map]; omega)]) ?_
      exact Evs.at1 fun k => by rw [spec_VerGeneric.j0, if_pos rfl]
    · rw [if_neg h2]
      generalize hFF : (fieldsOf l).1 = F at hfs hF hfl h2 ⊢
      cases F with
      | nil => exact absurd (by simp) h2
      | cons f F =>
        have hf0 := (hfs f (by simp)).1
        refine congr (f := fun k => spec_VerGeneric.j0 k ((f :: F).map mk) (bad f) false (⟨#[]⟩ : ByteArray) (⟨#[]⟩ : ByteArray)) (fun k => by
          rw [if_neg (fun h => h10 (hmem.1 h)), if_neg (by simp only [List.length_map]; omega), if_pos (by simp only [List.length_map, List.length_cons]; omega), show rdOf ByteArray.empty ((f :: F).map mk) 0 = mk f from rfl, plain_f f hf0, Option.bind_some, Bool.not_not]) ?_
        rw [nums, Bool.or_false, Bool.true_and]
        cases hb : bad f with
        | true => rw [if_pos rfl]; exact Evs.at1 fun k => by rw [spec_VerGeneric.j0, if_pos rfl]
        | false =>
          rw [if_neg (by simp)]
          have h := genI_ev (f :: F) hF (by omega) _ 0 [] rfl (Nat.zero_le _) rfl
          rw [List.drop_zero, nums, Bool.or_self, Bool.false_and, if_neg (by simp)] at h
          refine step (f := fun k => spec_VerGeneric.l0 k ((f :: F).map mk) ((0 : Nat) : Int) (zs []) false (⟨#[]⟩ : ByteArray) (⟨#[]⟩ : ByteArray)) (fun k => by rw [spec_VerGeneric.j0, if_neg (by simp)]; rfl) ?_
          exact h
end Go.Proofs.YtomoefldmgfaoaaDoor.Pv.SFnVersionSteps

/- Versions: the reference's semantic version of a text. -/
set_option linter.unusedVariables false
set_option linter.unusedSimpArgs false
namespace Go.Proofs.YtomoefldmgfaoaaDoor.Pv.SFnVersionSteps
open Go Go.RowKit Go.Proofs.YtomoefldmgfaoaaDoor Go.Proofs.YtomoefldmgfaoaaDoorW.PrintWords Go.Proofs.YtomoefldmgfaoaaDoor.PFnVersionSteps Go.Proofs.YtomoefldmgfaoaaDoor.Txt Go.Proofs.YtomoefldmgfaoaaDoor.Small Go.Proofs.YtomoefldmgfaoaaDoor.Pv

theorem split_evS : ∀ (n : Nat) (l : Bs), l.length ≤ n → l.length ≤ 8589934592 → Ev (fun k => spec_VerSplit.f k (mk l)) ((spl l).map mk) := by
  intro n
  induction n with
  | zero =>
    intro l h hl
    have h0 : l = [] := List.length_eq_zero_iff.1 (by omega)
    subst h0
    refine step (f := fun k => (spec_verPlace.f k (mk []) 46).bind fun t128 => some [mk []]) (fun k => ?_) (bindE (place_ev 46 [] (by simp)) (const _))
    rw [spec_VerSplit.f]
    cases hp : spec_verPlace.f k (mk []) 46 with
    | none => rfl
    | some t =>
      have : t = -1 := by
        have := Evs.uniq (Ev.of (g := fun k => spec_verPlace.f k (mk []) 46) (fun k => spec_verPlace.mono _ _ k) hp) (place_ev 46 [] (by simp))
        rw [this]; rfl
      subst this
      rfl
  | succ n ih =>
    intro l h hl
    have hp : Ev (fun k => spec_verPlace.f k (mk l) 46) (idxs 46 0 l) := place_ev 46 l (by omega)
    cases hc : cutAt 46 l with
    | none =>
      have hi : idxs 46 0 l = -1 := by unfold idxs; rw [hc]
      rw [hi] at hp
      have h46 : 46 ∉ l := fun hm => by have := (idxs_mem 46 l).2 hm; rw [hi] at this; exact absurd this (by decide)
      rw [spl_one l h46]
      refine step (f := fun k => (spec_verPlace.f k (mk l) 46).bind fun t128 => (if t128 < 0 then (some (([mk l] : List ByteArray))) else (if 0 ≤ t128 then (if t128 ≤ ((mk l).size : Int) then ((some (([(mk l).extract 0 (t128 : Int).toNat] : List ByteArray) : List ByteArray)).bind fun y132 => (if 0 ≤ (wrap64 (t128 + 1)) then (if (wrap64 (t128 + 1)) ≤ ((mk l).size : Int) then ((spec_VerSplit.f k ((mk l).extract ((wrap64 (t128 + 1)) : Int).toNat (mk l).size)).bind fun t135 => (if y132.length + t135.length < 8796093022208 then (some (y132 ++ t135)) else (none))) else (none)) else (none))) else (none)) else (none)))) (fun k => by rw [spec_VerSplit.f]) ?_
      refine bindE hp ?_
      exact congr (f := fun _ => some _) (fun k => if_pos (by decide)) (const _)
    | some q =>
      obtain ⟨u, b⟩ := q
      have hi : idxs 46 0 l = ((u.length : Nat) : Int) := by unfold idxs; rw [hc]; show ((0 + u.length : Nat) : Int) = _; rw [Nat.zero_add]
      rw [hi] at hp
      obtain ⟨e, hu⟩ := cutAt_some hc
      have hl1 := congrArg List.length e
      rw [List.length_append, List.length_cons] at hl1
      have hsp : spl l = u :: spl b := by rw [e]; exact spl_dot u b hu
      have hlen := spl_len b
      have hb := ih b (by omega) (by omega)
      refine step (f := fun k => (spec_verPlace.f k (mk l) 46).bind fun t128 => (if t128 < 0 then (some (([mk l] : List ByteArray))) else (if 0 ≤ t128 then (if t128 ≤ ((mk l).size : Int) then ((some (([(mk l).extract 0 (t128 : Int).toNat] : List ByteArray) : List ByteArray)).bind fun y132 => (if 0 ≤ (wrap64 (t128 + 1)) then (if (wrap64 (t128 + 1)) ≤ ((mk l).size : Int) then ((spec_VerSplit.f k ((mk l).extract ((wrap64 (t128 + 1)) : Int).toNat (mk l).size)).bind fun t135 => (if y132.length + t135.length < 8796093022208 then (some (y132 ++ t135)) else (none))) else (none)) else (none))) else (none)) else (none)))) (fun k => by rw [spec_VerSplit.f]) ?_
      refine bindE hp ?_
      have e1 : (mk l).extract 0 ((u.length : Int).toNat) = mk u := by rw [Int.toNat_natCast, takeE, e, List.take_left]
      have e2 : (mk l).extract ((((u.length + 1 : Nat) : Int)).toNat) (mk l).size = mk b := by
        rw [Int.toNat_natCast, dropE, e, ← List.drop_drop, List.drop_left]; rfl
      refine congr (f := fun k => (spec_VerSplit.f k (mk b)).bind fun t135 => (if ([mk u] : List ByteArray).length + t135.length < 8796093022208 then (some ([mk u] ++ t135)) else none)) (fun k => by
        rw [if_neg (by omega), if_pos (by omega), if_pos (by rw [sz]; omega), Option.bind_some, w64s _ (by omega), if_pos (by omega), if_pos (by rw [sz]; omega), e1, e2]) ?_
      refine bindE hb ?_
      refine congr (f := fun _ => some ((spl l).map mk)) (fun k => ?_) (const _)
      rw [if_pos (by simp only [List.length_cons, List.length_nil, List.length_map]; omega), hsp]; rfl
theorem numericI_ev (l : Bs) (hl : l.length ≤ 8589934592) : ∀ (n i : Nat), l.length - i = n → i ≤ l.length → Ev (fun k => spec_VerNumeric.l0 k (mk l) (i : Int)) ((l.drop i).all dg && l != []) := by
  intro n
  induction n with
  | zero =>
    intro i h1 h2
    refine Evs.at1 fun k => ?_
    rw [List.drop_eq_nil_of_le (by omega), spec_VerNumeric.l0, if_neg (by rw [sz]; omega), toL_mk]; rfl
  | succ n ih =>
    intro i h1 h2
    obtain ⟨c, hc, hb⟩ := cell_at (l := l) (i := i) (by omega)
    rw [hc, List.all_cons]
    by_cases hd : dg c = true
    · rw [hd, Bool.true_and]
      refine step (f := fun k => spec_VerNumeric.l0 k (mk l) ((i + 1 : Nat) : Int)) (fun k => ?_) (ih (i + 1) (by omega) (by omega))
      rw [spec_VerNumeric.l0, if_pos (by rw [sz]; omega), if_pos (by omega), hb, digit_f, Option.bind_some, if_pos hd, w64s i (by omega)]
    · have hd' : dg c = false := by simpa using hd
      rw [hd', Bool.false_and, Bool.false_and]
      refine Evs.at1 fun k => ?_
      rw [spec_VerNumeric.l0, if_pos (by rw [sz]; omega), if_pos (by omega), hb, digit_f, Option.bind_some, if_neg hd]
theorem numeric_ev (l : Bs) (hl : l.length ≤ 8589934592) : Ev (fun k => spec_VerNumeric.f k (mk l)) (numeric l) := by
  have h := numericI_ev l hl _ 0 rfl (Nat.zero_le _)
  rw [List.drop_zero, Bool.and_comm] at h
  exact h
abbrev okId (plainly : Bool) (c : Bs) : Bool := c.all al && c != [] && !(plainly && numeric c && bad c)
theorem ids_one (plainly : Bool) (F : List Bs) (hF : ∀ f ∈ F, f.length ≤ 8589934592) (i : Nat) (hi : i < F.length) (r : Bool) (hnext : Ev (fun k => spec_VerIdentifiers.l0 k plainly (F.map mk) ((i + 1 : Nat) : Int)) r) (hil : F.length ≤ 17179869184) : ∀ (n j : Nat), F[i].length - j = n → j ≤ F[i].length → (∀ c ∈ F[i].take j, al c = true) → Ev (fun k => spec_VerIdentifiers.l1 k plainly (F.map mk) (i : Int) (j : Int)) (okId plainly F[i] && r) := by
  intro n
  have hfl := hF _ (List.getElem_mem hi)
  have hr : rdOf ByteArray.empty (F.map mk) (i : Int) = mk F[i] := rdOf_map F i hi
  generalize hf : F[i] = f at hfl hr
  induction n with
  | zero =>
    intro j h1 h2 h3
    rw [List.take_of_length_le (by omega)] at h3
    have hall : f.all al = true := List.all_eq_true.2 h3
    unfold okId
    rw [hall, Bool.true_and]
    by_cases h0 : f = []
    · refine Evs.at1 fun k => ?_
      rw [spec_VerIdentifiers.l1, if_pos (by omega), if_pos (by rw [List.length_map]; omega), hr, if_neg (by rw [sz]; omega), if_pos (by rw [toL_mk]; exact h0), h0]; rfl
    · rw [bne_iff_ne.2 h0, Bool.true_and]
      cases plainly with
      | false =>
        rw [Bool.false_and, Bool.false_and, Bool.not_false, Bool.true_and]
        refine step (f := fun k => spec_VerIdentifiers.l0 k false (F.map mk) ((i + 1 : Nat) : Int)) (fun k => ?_) hnext
        rw [spec_VerIdentifiers.l1, if_pos (by omega), if_pos (by rw [List.length_map]; omega), hr, if_neg (by rw [sz]; omega), if_neg (by rw [toL_mk]; exact h0), if_neg (by simp), w64s i (by omega)]
      | true =>
        rw [Bool.true_and]
        refine step (f := fun k => (spec_VerNumeric.f k (mk f)).bind fun t150 => (if t150 = true then ((spec_VerPlainly.f (mk f)).bind fun t152 => (if t152 = true then (spec_VerIdentifiers.l0 k true (F.map mk) ((i + 1 : Nat) : Int)) else (some false))) else (spec_VerIdentifiers.l0 k true (F.map mk) ((i + 1 : Nat) : Int)))) (fun k => ?_) ?_
        · rw [spec_VerIdentifiers.l1, if_pos (by omega), if_pos (by rw [List.length_map]; omega), hr, if_neg (by rw [sz]; omega), if_neg (by rw [toL_mk]; exact h0), if_pos rfl, w64s i (by omega)]
        · refine bindE (numeric_ev f hfl) ?_
          rw [plain_f f h0]
          cases hn : numeric f with
          | false =>
            rw [Bool.false_and, Bool.not_false, Bool.true_and]
            exact congr (fun k => if_neg (by simp)) hnext
          | true =>
            rw [Bool.true_and]
            cases hb : bad f with
            | false =>
              rw [Bool.not_false, Bool.true_and]
              exact congr (fun k => by rw [if_pos rfl, Option.bind_some, if_pos rfl]) hnext
            | true =>
              rw [Bool.not_true, Bool.false_and]
              exact congr (f := fun _ => some false) (fun k => by rw [if_pos rfl, Option.bind_some, if_neg (by simp)]) (const _)
  | succ n ih =>
    intro j h1 h2 h3
    obtain ⟨c, hc, hb⟩ := cell_at (l := f) (i := j) (by omega)
    have hmem : c ∈ f := by
      have : c ∈ f.drop j := by rw [hc]; simp
      exact List.mem_of_mem_drop this
    have ht : f.take (j + 1) = f.take j ++ [c] := by
      rw [List.take_add]
      congr 1
      rw [hc]; rfl
    have dgc := dg_iff c
    have alc := al_iff c
    by_cases hw : al c = true
    · have hw' := alc.1 hw
      refine step (f := fun k => spec_VerIdentifiers.l1 k plainly (F.map mk) (i : Int) ((j + 1 : Nat) : Int)) (fun k => ?_) (ih (j + 1) (by omega) (by omega) (fun d hd => by
        rw [ht] at hd
        rcases List.mem_append.1 hd with hd | hd
        · exact h3 d hd
        · rcases List.mem_cons.1 hd with rfl | hd
          · exact hw
          · cases hd))
      rw [spec_VerIdentifiers.l1, if_pos (by omega), if_pos (by rw [List.length_map]; omega), hr, if_pos (by rw [sz]; omega), if_pos (by omega), hb, digit_f, Option.bind_some, w64s j (by omega)]
      by_cases hd : dg c = true
      · rw [if_pos hd]
      · have hd' : ¬ (48 ≤ c.toNat ∧ c.toNat ≤ 57) := fun h => hd (dgc.2 h)
        rw [if_neg hd]
        repeat' split
        all_goals first | rfl | (exfalso; omega)
    · have hw' := fun h => hw (alc.2 h)
      have hno : okId plainly f = false := by
        have : f.all al = false := by
          rw [← Bool.not_eq_true, List.all_eq_true]
          exact fun h => hw (h c hmem)
        unfold okId; rw [this]; rfl
      rw [hno, Bool.false_and]
      have hd : ¬ dg c = true := fun h => hw (al_of_dg h)
      refine Evs.at1 fun k => ?_
      rw [spec_VerIdentifiers.l1, if_pos (by omega), if_pos (by rw [List.length_map]; omega), hr, if_pos (by rw [sz]; omega), if_pos (by omega), hb, digit_f, Option.bind_some, if_neg hd]
      repeat' split
      all_goals first | rfl | (exfalso; apply hw'; omega)
theorem idsI_ev (plainly : Bool) (F : List Bs) (hF : ∀ f ∈ F, f.length ≤ 8589934592) (hil : F.length ≤ 17179869184) : ∀ (n i : Nat), F.length - i = n → i ≤ F.length → Ev (fun k => spec_VerIdentifiers.l0 k plainly (F.map mk) (i : Int)) ((F.drop i).all (okId plainly)) := by
  intro n
  induction n with
  | zero =>
    intro i h1 h2
    refine Evs.at1 fun k => ?_
    rw [List.drop_eq_nil_of_le (by omega), spec_VerIdentifiers.l0, if_neg (by rw [List.length_map]; omega)]; rfl
  | succ n ih =>
    intro i h1 h2
    have hlt : i < F.length := by omega
    rw [List.drop_eq_getElem_cons hlt, List.all_cons]
    refine step (f := fun k => spec_VerIdentifiers.l1 k plainly (F.map mk) (i : Int) ((0 : Nat) : Int)) (fun k => by rw [spec_VerIdentifiers.l0, if_pos (by rw [List.length_map]; omega)]; rfl) ?_
    exact ids_one plainly F hF i hlt _ (ih (i + 1) (by omega) hlt) hil _ 0 rfl (Nat.zero_le _) (by simp)
theorem ids_ev (plainly : Bool) (x : Bs) (hx : x.length ≤ 8589934592) : Ev (fun k => spec_VerIdentifiers.f k (mk x) plainly) (ids plainly x) := by
  refine bindE (split_evS x.length x (Nat.le_refl _) hx) ?_
  have hlen := spl_len x
  have h := idsI_ev plainly (spl x) (fun f hf => by
    obtain ⟨a, b, e⟩ := spl_sub (spl x) f hf
    rw [join_spl] at e
    have h1 := congrArg List.length e
    simp only [List.length_append] at h1
    omega) (by omega) _ 0 rfl (Nat.zero_le _)
  rw [List.drop_zero] at h
  exact h
theorem longI_ev (l : Bs) (hl : l.length ≤ 8589934592) : ∀ (n i m : Nat), l.length - i = n → i ≤ l.length → m < 20 → Ev (fun k => spec_VerLong.l0 k (mk l) (m : Int) (i : Int)) (long m (l.drop i)) := by
  intro n
  induction n with
  | zero =>
    intro i m h1 h2 hm
    refine Evs.at1 fun k => ?_
    rw [List.drop_eq_nil_of_le (by omega), spec_VerLong.l0, if_neg (by rw [sz]; omega)]; rfl
  | succ n ih =>
    intro i m h1 h2 hm
    obtain ⟨c, hc, hb⟩ := cell_at (l := l) (i := i) (by omega)
    rw [hc, long]
    by_cases hd : dg c = true
    · rw [if_pos hd]
      by_cases h20 : 20 ≤ m + 1
      · rw [decide_eq_true h20, Bool.true_or]
        refine Evs.at1 fun k => ?_
        rw [spec_VerLong.l0, if_pos (by rw [sz]; omega), if_pos (by omega), hb, digit_f, Option.bind_some, if_pos hd, w64s m (by omega), if_pos (by omega)]
      · rw [decide_eq_false h20, Bool.false_or]
        refine step (f := fun k => spec_VerLong.l0 k (mk l) ((m + 1 : Nat) : Int) ((i + 1 : Nat) : Int)) (fun k => ?_) (ih (i + 1) (m + 1) (by omega) (by omega) (by omega))
        rw [spec_VerLong.l0, if_pos (by rw [sz]; omega), if_pos (by omega), hb, digit_f, Option.bind_some, if_pos hd, w64s m (by omega), if_neg (by omega), w64s i (by omega)]
    · rw [if_neg hd]
      refine step (f := fun k => spec_VerLong.l0 k (mk l) ((0 : Nat) : Int) ((i + 1 : Nat) : Int)) (fun k => ?_) (ih (i + 1) 0 (by omega) (by omega) (by omega))
      rw [spec_VerLong.l0, if_pos (by rw [sz]; omega), if_pos (by omega), hb, digit_f, Option.bind_some, if_neg hd, if_neg (by omega), w64s i (by omega)]; rfl
theorem long_ev (l : Bs) (hl : l.length ≤ 8589934592) : Ev (fun k => spec_VerLong.f k (mk l)) (long 0 l) := by
  have h := longI_ev l hl _ 0 0 rfl (Nat.zero_le _) (by omega)
  rw [List.drop_zero] at h
  exact h
theorem trimR_snoc (x : Bs) (c : UInt8) : trimR (x ++ [c]) = if wh c = true then trimR x else x ++ [c] := by
  by_cases h : wh c = true
  · rw [if_pos h]
    induction x with
    | nil => simp [trimR, h]
    | cons d x ih => rw [List.cons_append, trimR, trimR, ih]
  · rw [if_neg h]
    exact trimR_last x c [] rfl (by simpa using h)
theorem trim_ev (F : List ByteArray) (R : List Int × Bool × ByteArray × ByteArray × Bool) : ∀ (n : Nat) (r : Bs), r.length = n → n ≤ 8589934592 → Ev (fun k => spec_VerSemantic.j1 k F (mk (trimR r))) R → Ev (fun k => spec_VerSemantic.l0 k F (mk r)) R := by
  intro n
  induction n with
  | zero =>
    intro r h hn hr
    have h0 : r = [] := List.length_eq_zero_iff.1 h
    subst h0
    exact step (f := fun k => spec_VerSemantic.j1 k F (mk [])) (fun k => by rw [spec_VerSemantic.l0, if_pos (by rw [toL_mk])]) hr
  | succ n ih =>
    intro r h hn hr
    have hne : r ≠ [] := by intro e; rw [e] at h; simp at h
    obtain ⟨x, c, e⟩ : ∃ x c, r = x ++ [c] := ⟨r.dropLast, r.getLast hne, (List.dropLast_concat_getLast hne).symm⟩
    have hxl : x.length = n := by rw [e, List.length_append] at h; simpa using h
    have hb : bt (mk r) (n : Int) = (c.toNat : Int) := by
      rw [bt_mk r n (by omega)]
      congr 2
      simp only [e]
      rw [List.getElem_append_right (by omega)]
      simp [hxl]
    have hw1 : wrap64 (((mk r).size : Int) - 1) = (n : Int) := by rw [sz, h, w64 _ (by omega) (by omega)]; omega
    have hex : (mk r).extract 0 ((n : Int).toNat) = mk x := by rw [Int.toNat_natCast, takeE, e, ← hxl, List.take_left]
    rw [e, trimR_snoc] at hr
    by_cases hw : wh c = true
    · rw [if_pos hw] at hr
      refine step (f := fun k => spec_VerSemantic.l0 k F (mk x)) (fun k => ?_) (ih x hxl (by omega) hr)
      rw [spec_VerSemantic.l0, if_neg (by rw [toL_mk]; exact hne), hw1, if_pos (by omega), if_pos (by rw [sz]; omega), hb, white_f, Option.bind_some, if_pos hw, if_pos (by rw [sz]; omega), hex]
    · rw [if_neg hw, ← e] at hr
      refine step (f := fun k => spec_VerSemantic.j1 k F (mk r)) (fun k => ?_) hr
      rw [spec_VerSemantic.l0, if_neg (by rw [toL_mk]; exact hne), hw1, if_pos (by omega), if_pos (by rw [sz]; omega), hb, white_f, Option.bind_some, if_neg hw]
/-- What the reference says of a semantic version: the version, or that there is none. -/
def SemSays (R : List Int × Bool × ByteArray × ByteArray × Bool) : Option (List Nat × Bs × Bs) → Prop
  | none => R.2.2.2.2 = false
  | some q => R = (zs q.1, true, mk q.2.1, mk q.2.2, true)
def EvS (g : Nat → Option (List Int × Bool × ByteArray × ByteArray × Bool)) (o : Option (List Nat × Bs × Bs)) : Prop := ∃ R, Ev g R ∧ SemSays R o
theorem evS_step {g f : Nat → Option (List Int × Bool × ByteArray × ByteArray × Bool)} {o : Option (List Nat × Bs × Bs)} (h : ∀ k, g (k + 1) = f k) (e : EvS f o) : EvS g o := by
  obtain ⟨R, h1, h2⟩ := e
  exact ⟨R, step h h1, h2⟩
theorem evS_congr {g f : Nat → Option (List Int × Bool × ByteArray × ByteArray × Bool)} {o : Option (List Nat × Bs × Bs)} (h : ∀ k, g k = f k) (e : EvS f o) : EvS g o := by
  obtain ⟨R, h1, h2⟩ := e
  exact ⟨R, congr h h1, h2⟩
theorem evS_bind {α : Type} {g : Nat → Option α} {f : Nat → α → Option (List Int × Bool × ByteArray × ByteArray × Bool)} {a : α} {o : Option (List Nat × Bs × Bs)} (h : Ev g a) (e : EvS (fun k => f k a) o) : EvS (fun k => (g k).bind (f k)) o := by
  obtain ⟨R, h1, h2⟩ := e
  exact ⟨R, bindE h h1, h2⟩
theorem evS_no (R : List Int × Bool × ByteArray × ByteArray × Bool) (h : R.2.2.2.2 = false) : EvS (fun _ => some R) none := ⟨R, const _, h⟩
theorem preS_ev (ns : List Nat) (u b : Bs) (hu : u.length ≤ 8589934592) (g : Nat → Option (List Int × Bool × ByteArray × ByteArray × Bool)) (hg : ∀ k, g k = if (mk u).toList = ([] : List UInt8) then (some (zs ns, true, (⟨#[]⟩ : ByteArray), mk b, true)) else (if 1 ≤ ((mk u).size : Int) then (if 0 < ((mk u).size : Int) then (if (bt (mk u) 0) = 45 then ((spec_VerIdentifiers.f k ((mk u).extract 1 (mk u).size) true).bind fun t172 => (some (zs ns, true, (mk u).extract 1 (mk u).size, mk b, t172))) else (some (zs ns, true, (mk u).extract 1 (mk u).size, mk b, false))) else (none)) else (none))) : EvS g ((preOf u b).map fun q => (ns, q.1, q.2)) := by
  refine evS_congr hg ?_
  cases u with
  | nil => exact ⟨_, congr (f := fun _ => some (zs ns, true, (⟨#[]⟩ : ByteArray), mk b, true)) (fun k => by rw [if_pos (by rw [toL_mk])]) (const _), rfl⟩
  | cons c p =>
    have q := chI c 45 45 rfl
    have hd : (mk (c :: p)).extract 1 (mk (c :: p)).size = mk p := by rw [dropE]; rfl
    have h0 : ¬ (mk (c :: p)).toList = [] := by rw [toL_mk]; simp
    have h1 : (1 : Int) ≤ ((mk (c :: p)).size : Int) := by rw [sz]; simp only [List.length_cons]; omega
    have h2 : (0 : Int) < ((mk (c :: p)).size : Int) := by rw [sz]; simp
    have hpl : p.length ≤ 8589934592 := by simp only [List.length_cons] at hu; omega
    rw [preOf]
    by_cases hc : c = 45
    · refine evS_congr (f := fun k => (spec_VerIdentifiers.f k (mk p) true).bind fun t172 => (some (zs ns, true, mk p, mk b, t172))) (fun k => by rw [if_neg h0, if_pos h1, if_pos h2, bt_head, if_pos (q.2 hc), hd]) ?_
      refine evS_bind (ids_ev true p hpl) ?_
      cases hi : ids true p with
      | true => rw [if_pos ⟨hc, rfl⟩]; exact ⟨_, const _, rfl⟩
      | false => rw [if_neg (by simp)]; exact ⟨_, const _, rfl⟩
    · rw [if_neg (fun e => hc e.1)]
      exact ⟨_, congr (f := fun _ => some (zs ns, true, mk p, mk b, false)) (fun k => by rw [if_neg h0, if_pos h1, if_pos h2, bt_head, if_neg (fun e => hc (q.1 e)), hd]) (const _), rfl⟩
theorem semTail_ev (F : List Bs) (r : Bs) (hr : r.length ≤ 8589934592) (ns : List Nat) : EvS (fun k => spec_VerSemantic.l1 k (F.map mk) (mk (trimR r)) ((3 : Nat) : Int) (zs ns) true (⟨#[]⟩ : ByteArray) (⟨#[]⟩ : ByteArray)) ((specX r).map fun q => (ns, q.1, q.2)) := by
  have htl : (trimR r).length ≤ r.length := by
    obtain ⟨bl, _, e⟩ := trimR_cut r
    have := congrArg List.length e
    rw [List.length_append] at this; omega
  unfold specX
  generalize trimR r = t at htl
  have hp : Ev (fun k => spec_verPlace.f k (mk t) 43) (idxs 43 0 t) := place_ev 43 t (by omega)
  cases hc : cutAt 43 t with
  | none =>
    have hi : idxs 43 0 t = -1 := by unfold idxs; rw [hc]
    rw [hi] at hp
    obtain ⟨R, h1, h2⟩ := preS_ev ns t [] (by omega) (fun k => if (mk t).toList = ([] : List UInt8) then (some (zs ns, true, (⟨#[]⟩ : ByteArray), mk [], true)) else (if 1 ≤ ((mk t).size : Int) then (if 0 < ((mk t).size : Int) then (if (bt (mk t) 0) = 45 then ((spec_VerIdentifiers.f k ((mk t).extract 1 (mk t).size) true).bind fun t172 => (some (zs ns, true, (mk t).extract 1 (mk t).size, mk [], t172))) else (some (zs ns, true, (mk t).extract 1 (mk t).size, mk [], false))) else (none)) else (none))) (fun k => rfl)
    refine ⟨R, ?_, h2⟩
    refine step (fun k => ?_) (bindE hp (f := fun k t170 => if t170 ≥ 0 then none else (if (mk t).toList = ([] : List UInt8) then (some (zs ns, true, (⟨#[]⟩ : ByteArray), mk [], true)) else (if 1 ≤ ((mk t).size : Int) then (if 0 < ((mk t).size : Int) then (if (bt (mk t) 0) = 45 then ((spec_VerIdentifiers.f k ((mk t).extract 1 (mk t).size) true).bind fun t172 => (some (zs ns, true, (mk t).extract 1 (mk t).size, mk [], t172))) else (some (zs ns, true, (mk t).extract 1 (mk t).size, mk [], false))) else (none)) else (none)))) (congr (fun k => if_neg (by decide)) h1))
    rw [spec_VerSemantic.l1, if_neg (by omega)]
    cases hq : spec_verPlace.f k (mk t) 43 with
    | none => simp only [Option.bind_none]
    | some t170 =>
      have e : t170 = -1 := Evs.uniq (Ev.of (g := fun k => spec_verPlace.f k (mk t) 43) (fun k => spec_verPlace.mono _ _ k) hq) hp
      rw [Option.bind_some, Option.bind_some, e, if_neg (show ¬ ((-1 : Int) ≥ 0) by decide), if_neg (show ¬ ((-1 : Int) ≥ 0) by decide)]
  | some q =>
    obtain ⟨u, b⟩ := q
    have hi : idxs 43 0 t = ((u.length : Nat) : Int) := by unfold idxs; rw [hc]; show ((0 + u.length : Nat) : Int) = _; rw [Nat.zero_add]
    rw [hi] at hp
    obtain ⟨e, hu⟩ := cutAt_some hc
    have hl1 := congrArg List.length e
    rw [List.length_append, List.length_cons] at hl1
    have e1 : (mk t).extract 0 ((u.length : Int).toNat) = mk u := by rw [Int.toNat_natCast, takeE, e, List.take_left]
    have e2 : (mk t).extract ((((u.length + 1 : Nat) : Int)).toNat) (mk t).size = mk b := by
      rw [Int.toNat_natCast, dropE, e, ← List.drop_drop, List.drop_left]; rfl
    have main : EvS (fun k => (spec_VerIdentifiers.f k (mk b) false).bind fun t171 => (if t171 = true then (if (mk u).toList = ([] : List UInt8) then (some (zs ns, true, (⟨#[]⟩ : ByteArray), mk b, true)) else (if 1 ≤ ((mk u).size : Int) then (if 0 < ((mk u).size : Int) then (if (bt (mk u) 0) = 45 then ((spec_VerIdentifiers.f k ((mk u).extract 1 (mk u).size) true).bind fun t172 => (some (zs ns, true, (mk u).extract 1 (mk u).size, mk b, t172))) else (some (zs ns, true, (mk u).extract 1 (mk u).size, mk b, false))) else (none)) else (none))) else (some (([] : List Int), false, (⟨#[]⟩ : ByteArray), (⟨#[]⟩ : ByteArray), false)))) ((if ids false b then preOf u b else none).map fun q => (ns, q.1, q.2)) := by
      refine evS_bind (ids_ev false b (by omega)) ?_
      cases ids false b with
      | true =>
        rw [if_pos rfl]
        refine preS_ev ns u b (by omega) _ (fun k => by rw [if_pos rfl])
      | false =>
        rw [if_neg (by simp)]
        exact evS_congr (fun k => if_neg (by simp)) (evS_no _ rfl)
    refine evS_step (f := fun k => (spec_verPlace.f k (mk t) 43).bind fun t170 => if t170 ≥ 0 then (spec_VerIdentifiers.f k ((mk t).extract ((wrap64 (t170 + 1)) : Int).toNat (mk t).size) false).bind (fun t171 => (if t171 = true then (if ((mk t).extract 0 (t170 : Int).toNat).toList = ([] : List UInt8) then (some (zs ns, true, (⟨#[]⟩ : ByteArray), (mk t).extract ((wrap64 (t170 + 1)) : Int).toNat (mk t).size, true)) else (if 1 ≤ (((mk t).extract 0 (t170 : Int).toNat).size : Int) then (if 0 < (((mk t).extract 0 (t170 : Int).toNat).size : Int) then (if (bt ((mk t).extract 0 (t170 : Int).toNat) 0) = 45 then ((spec_VerIdentifiers.f k (((mk t).extract 0 (t170 : Int).toNat).extract 1 ((mk t).extract 0 (t170 : Int).toNat).size) true).bind fun t172 => (some (zs ns, true, ((mk t).extract 0 (t170 : Int).toNat).extract 1 ((mk t).extract 0 (t170 : Int).toNat).size, (mk t).extract ((wrap64 (t170 + 1)) : Int).toNat (mk t).size, t172))) else (some (zs ns, true, ((mk t).extract 0 (t170 : Int).toNat).extract 1 ((mk t).extract 0 (t170 : Int).toNat).size, (mk t).extract ((wrap64 (t170 + 1)) : Int).toNat (mk t).size, false))) else (none)) else (none))) else (some (([] : List Int), false, (⟨#[]⟩ : ByteArray), (⟨#[]⟩ : ByteArray), false)))) else none) (fun k => ?_) ?_
    · rw [spec_VerSemantic.l1, if_neg (by omega)]
      cases hq : spec_verPlace.f k (mk t) 43 with
      | none => simp only [Option.bind_none]
      | some t170 =>
        have e : t170 = ((u.length : Nat) : Int) := Evs.uniq (Ev.of (g := fun k => spec_verPlace.f k (mk t) 43) (fun k => spec_verPlace.mono _ _ k) hq) hp
        subst e
        rw [Option.bind_some, Option.bind_some, w64s _ (by omega), if_pos (show ((u.length : Nat) : Int) ≥ 0 by omega), if_pos (show ((u.length : Nat) : Int) ≥ 0 by omega), if_pos (show (0 : Int) ≤ ((u.length + 1 : Nat) : Int) by omega), if_pos (show ((u.length + 1 : Nat) : Int) ≤ ((mk t).size : Int) by rw [sz]; omega), if_pos (show (0 : Int) ≤ ((u.length : Nat) : Int) by omega), if_pos (show ((u.length : Nat) : Int) ≤ ((mk t).size : Int) by rw [sz]; omega)]
    · refine evS_bind hp (evS_congr (fun k => ?_) main)
      rw [if_pos (by omega), w64s _ (by omega), e1, e2]
theorem semI_ev (F : List Bs) (h3 : F.length = 3) (r : Bs) (hr : r.length ≤ 8589934592) (hF : ∀ f ∈ F, f ≠ [] ∧ f.length ≤ 8589934592) : ∀ (n i : Nat) (acc : List Nat) (first : Bool), 3 - i = n → i ≤ 3 → acc.length = i → EvS (fun k => spec_VerSemantic.l1 k (F.map mk) (mk (trimR r)) (i : Int) (zs acc) true (⟨#[]⟩ : ByteArray) (⟨#[]⟩ : ByteArray)) (match nums true first (F.drop i) with
    | none => none
    | some ns => (specX r).map fun q => (acc ++ ns, q.1, q.2)) := by
  intro n
  induction n with
  | zero =>
    intro i acc first h1 h2 ha
    obtain rfl : i = 3 := by omega
    rw [List.drop_eq_nil_of_le (by omega)]
    simp only [nums, List.append_nil]
    exact semTail_ev F r hr acc
  | succ n ih =>
    intro i acc first h1 h2 ha
    have hlt : i < F.length := by omega
    obtain ⟨hf0, hfl⟩ := hF _ (List.getElem_mem hlt)
    rw [List.drop_eq_getElem_cons hlt, nums, Bool.or_true, Bool.true_and]
    refine evS_step (f := fun k => (spec_VerUint.f k (mk F[i])).bind fun bt163 => (if bt163.2 = true then ((spec_VerPlainly.f (mk F[i])).bind fun t166 => (if t166 = true then (if (zs acc).length < 17592186044416 then (spec_VerSemantic.l1 k (F.map mk) (mk (trimR r)) ((i + 1 : Nat) : Int) (zs acc ++ [bt163.1]) true (⟨#[]⟩ : ByteArray) (⟨#[]⟩ : ByteArray)) else (none)) else (some (([] : List Int), false, (⟨#[]⟩ : ByteArray), (⟨#[]⟩ : ByteArray), false)))) else (some (([] : List Int), false, (⟨#[]⟩ : ByteArray), (⟨#[]⟩ : ByteArray), false)))) (fun k => by
      rw [spec_VerSemantic.l1, if_pos (by omega), if_pos (by omega), if_pos (by rw [List.length_map]; omega), rdOf_map F i hlt, w64s i (by omega)]) ?_
    refine evS_bind (uint_ev F[i] (by omega)) ?_
    unfold vnR
    rw [plain_f _ hf0]
    cases hv : vn F[i] with
    | none =>
      have e : (if bad F[i] = true then none else match (none : Option Nat) with
          | none => none
          | some n => (nums true false (F.drop (i + 1))).map (n :: ·)) = none := by split <;> rfl
      rw [e]
      exact evS_congr (fun k => if_neg (by simp)) (evS_no _ rfl)
    | some u =>
      cases hb : bad F[i] with
      | true =>
        rw [if_pos rfl]
        exact evS_congr (fun k => by rw [if_pos rfl, Option.bind_some, if_neg (by simp)]) (evS_no _ rfl)
      | false =>
        rw [if_neg (by simp)]
        have hi := ih (i + 1) (acc ++ [u]) false (by omega) (by omega) (by rw [List.length_append, ha]; rfl)
        have e : zs (acc ++ [u]) = zs acc ++ [(u : Int)] := by simp
        rw [e] at hi
        have e2 : (match (nums true false (F.drop (i + 1))).map (u :: ·) with
            | none => (none : Option (List Nat × Bs × Bs))
            | some ns => (specX r).map fun (q : Bs × Bs) => (acc ++ ns, q.1, q.2)) = (match nums true false (F.drop (i + 1)) with
            | none => (none : Option (List Nat × Bs × Bs))
            | some ns => (specX r).map fun (q : Bs × Bs) => (acc ++ [u] ++ ns, q.1, q.2)) := by
          cases nums true false (F.drop (i + 1)) with
          | none => rfl
          | some ns => simp
        simp only
        rw [e2]
        refine evS_congr (fun k => ?_) hi
        rw [if_pos trivial, Option.bind_some, if_pos (by simp), if_pos (by rw [List.length_map]; omega)]
theorem semantic_ev (l : Bs) (hl : l.length ≤ 8589934592) : EvS (fun k => spec_VerSemantic.f k (mk l)) (sSem l) := by
  have hfe := fieldsOf_ev l hl
  obtain ⟨hfs, hfj⟩ := fields_spec l
  have hrl := fields_rest l
  have hal := ahead_len l
  have hF : ∀ f ∈ (fieldsOf l).1, f ≠ [] ∧ f.length ≤ 8589934592 := fun f hf => ⟨(hfs f hf).1, by
    obtain ⟨x, y, e⟩ := spl_sub _ f hf
    have h1 := congrArg List.length e
    have h2 := congrArg List.length hfj
    simp only [List.length_append] at h1 h2
    omega⟩
  have hass : ∀ k, spec_VerSemantic.f k (mk l) = ((spec_verAhead.f k (mk l)).bind fun t => spec_verFields.f k t).bind fun bt156 => (spec_VerSemantic.l0 k bt156.1 bt156.2) := fun k => by
    unfold spec_VerSemantic.f
    cases spec_verAhead.f k (mk l) <;> rfl
  refine evS_congr hass (evS_bind hfe ?_)
  have key : EvS (fun k => spec_VerSemantic.j1 k ((fieldsOf l).1.map mk) (mk (trimR (fieldsOf l).2))) (sSem l) := by
    unfold sSem
    by_cases h3 : (fieldsOf l).1.length = 3
    · rw [if_neg (show ¬ (fieldsOf l).1.length ≠ 3 by omega)]
      have h := semI_ev (fieldsOf l).1 h3 (fieldsOf l).2 (by omega) hF _ 0 [] true rfl (Nat.zero_le _) rfl
      rw [List.drop_zero] at h
      refine evS_step (f := fun k => spec_VerSemantic.l1 k ((fieldsOf l).1.map mk) (mk (trimR (fieldsOf l).2)) ((0 : Nat) : Int) (zs []) true (⟨#[]⟩ : ByteArray) (⟨#[]⟩ : ByteArray)) (fun k => by rw [spec_VerSemantic.j1, if_pos (by rw [List.length_map]; omega)]; rfl) ?_
      have e : (match nums true true (fieldsOf l).1 with
          | none => none
          | some ns => (specX (fieldsOf l).2).map fun q => (([] : List Nat) ++ ns, q.1, q.2)) = (match nums true true (fieldsOf l).1 with
          | none => none
          | some ns => match specX (fieldsOf l).2 with
            | none => none
            | some (p, b) => some (ns, p, b)) := by
        cases nums true true (fieldsOf l).1 with
        | none => rfl
        | some ns => cases specX (fieldsOf l).2 <;> rfl
      rw [e] at h
      exact h
    · rw [if_pos h3]
      exact evS_step (fun k => by rw [spec_VerSemantic.j1, if_neg (by rw [List.length_map]; omega)]) (evS_no _ rfl)
  obtain ⟨R, h1, h2⟩ := key
  exact ⟨R, trim_ev _ R _ _ rfl (by omega) h1, h2⟩
end Go.Proofs.YtomoefldmgfaoaaDoor.Pv.SFnVersionSteps

/- Versions: a version is told as it is. -/
set_option linter.unusedVariables false
set_option linter.unusedSimpArgs false
namespace Go.Proofs.YtomoefldmgfaoaaDoor.Pv.SFnVersionSteps
open Go Go.RowKit Go.Proofs.YtomoefldmgfaoaaDoor Go.Proofs.YtomoefldmgfaoaaDoorW.PrintWords Go.Proofs.YtomoefldmgfaoaaDoor.PFnVersionSteps Go.Proofs.YtomoefldmgfaoaaDoor.Txt Go.Proofs.YtomoefldmgfaoaaDoor.Small Go.Proofs.YtomoefldmgfaoaaDoor.Pv

theorem mk_app (a b : Bs) : mk a ++ mk b = mk (a ++ b) := ext (by rw [data_append])
theorem uintText_ev : ∀ (u : Nat), u < 18446744073709551616 → Ev (fun k => spec_VerUintText.f k (u : Int)) (mk (Lib.decDigits u)) := by
  intro u
  refine dec_induct (fun u => u < 18446744073709551616 → Ev (fun k => spec_VerUintText.f k (u : Int)) (mk (Lib.decDigits u))) ?_ ?_ u
  · intro u h hu
    have e1 : IntKind.u64.wrap (48 + Int.tmod (u : Int) 10) % 256 = ((48 + u : Nat) : Int) := by
      rw [IntKind.wrap_u64, show Int.tmod (u : Int) 10 = ((u % 10 : Nat) : Int) from rfl]; omega
    refine Evs.at1 fun k => ?_
    show spec_VerUintText.f (k + 1) (u : Int) = _
    rw [spec_VerUintText.f, e1, Option.bind_some, if_pos (by omega), Lib.decDigits_one h]
    rfl
  · intro u h ih hu
    have e1 : IntKind.u64.wrap (48 + Int.tmod (u : Int) 10) % 256 = ((48 + u % 10 : Nat) : Int) := by
      rw [IntKind.wrap_u64, show Int.tmod (u : Int) 10 = ((u % 10 : Nat) : Int) from rfl]; omega
    have e2 : IntKind.u64.wrap (Int.tdiv (u : Int) 10) = ((u / 10 : Nat) : Int) := by
      rw [IntKind.wrap_u64, show Int.tdiv (u : Int) 10 = ((u / 10 : Nat) : Int) from rfl]; omega
    have e3 : strOfNums [((48 + u % 10 : Nat) : Int)] = mk [UInt8.ofNat (48 + u % 10)] := rfl
    refine step (f := fun k => (spec_VerUintText.f k ((u / 10 : Nat) : Int)).bind fun t104 => (if t104.size + (mk [UInt8.ofNat (48 + u % 10)]).size ≤ 9223372036854775807 then (some (t104 ++ mk [UInt8.ofNat (48 + u % 10)])) else none)) (fun k => ?_) (bindE (ih (by omega)) ?_)
    · show spec_VerUintText.f (k + 1) (u : Int) = _
      rw [spec_VerUintText.f, e1, Option.bind_some, if_neg (by omega), e2, e3]
    · have hl := dec_len (u / 10) (by omega)
      refine congr (f := fun _ => some (mk (Lib.decDigits u))) (fun k => ?_) (const _)
      rw [if_pos (by rw [size_mk, size_mk]; simp only [List.length_cons, List.length_nil]; omega), mk_app, dec_last u h]
theorem rd_zs (ns : List Nat) (k : Nat) : rd (zs ns) (k : Int) = (pt ns k : Int) := by
  unfold rd pt
  rw [Int.toNat_natCast, List.getD_eq_getElem?_getD, List.getD_eq_getElem?_getD, List.getElem?_map]
  cases ns[k]? <;> rfl
theorem textI_ev (ns : List Nat) (sem : Bool) (p b : Bs) (hns : ∀ n ∈ ns, n < 18446744073709551616) (hl : ns.length ≤ 8589934594) (hp : p.length ≤ 8589934592) (hb : b.length ≤ 8589934592) : ∀ (n i : Nat), ns.length - i = n → i ≤ ns.length → Ev (fun k => spec_Version_Text.l0 k (mk (decs (ns.take i))) (i : Int) (zs ns) sem (mk p) (mk b)) (mk (vtxt ns p b)) := by
  have hJ : ∀ k, k ≤ ns.length → (decs (ns.take k)).length ≤ 21 * ns.length := fun k hk => by
    have := decs_len (ns.take k) (fun n hn => hns n (List.mem_of_mem_take hn))
    rw [List.length_take] at this
    omega
  intro n
  induction n with
  | zero =>
    intro i h1 h2
    obtain rfl : i = ns.length := by omega
    have hj := hJ ns.length (Nat.le_refl _)
    rw [List.take_length] at hj ⊢
    refine Evs.at1 fun k => ?_
    rw [spec_Version_Text.l0, if_neg (by rw [List.length_map]; omega), toL_mk, toL_mk]
    have m45 : (⟨#[45]⟩ : ByteArray) = mk [45] := rfl
    have m43 : (⟨#[43]⟩ : ByteArray) = mk [43] := rfl
    rw [m45, m43]
    simp only [mk_app, size_mk, List.length_append, List.length_cons, List.length_nil]
    unfold vtxt
    by_cases h3 : p = [] <;> by_cases h4 : b = []
    · rw [if_pos h3, if_pos h4, if_pos h3, if_pos h4]; simp
    · rw [if_pos h3, if_neg h4, if_pos (by omega), if_pos (by omega), if_pos h3, if_neg h4]; simp
    · rw [if_neg h3, if_pos (by omega), if_pos (by omega), if_pos h4, if_neg h3, if_pos h4]; simp
    · rw [if_neg h3, if_pos (by omega), if_pos (by omega), if_neg h4, if_pos (by omega), if_pos (by omega), if_neg h3, if_neg h4]; simp
  | succ n ih =>
    intro i h1 h2
    have hlt : i < ns.length := by omega
    have hj := hJ i h2
    have hu := uintText_ev ns[i] (hns _ (List.getElem_mem hlt))
    have hd := dec_len ns[i] (hns _ (List.getElem_mem hlt))
    have hrd : rd (zs ns) (i : Int) = (ns[i] : Int) := by rw [rd_zs, pt_at hlt]
    have hi := ih (i + 1) (by omega) hlt
    have ht : ns.take (i + 1) = ns.take i ++ [ns[i]] := List.take_succ_eq_append_getElem hlt
    have m46 : (⟨#[46]⟩ : ByteArray) = mk [46] := rfl
    by_cases h0 : i = 0
    · subst h0
      have e : decs (ns.take (0 + 1)) = decs (ns.take 0) ++ Lib.decDigits ns[0] := by rw [ht]; rfl
      rw [e] at hi
      refine step (f := fun k => (spec_VerUintText.f k (ns[0] : Int)).bind fun t109 => (if (mk (decs (ns.take 0))).size + t109.size ≤ 9223372036854775807 then (spec_Version_Text.l0 k (mk (decs (ns.take 0)) ++ t109) ((0 + 1 : Nat) : Int) (zs ns) sem (mk p) (mk b)) else (none))) (fun k => ?_) (bindE hu ?_)
      · rw [spec_Version_Text.l0, if_pos (by rw [List.length_map]; omega), if_neg (by omega), if_pos (by omega), hrd, w64s 0 (by omega)]
      · refine congr (fun k => ?_) hi
        rw [if_pos (by rw [size_mk, size_mk]; omega), mk_app]
    · have e : decs (ns.take (i + 1)) = decs (ns.take i) ++ [46] ++ Lib.decDigits ns[i] := by
        rw [ht, decs_snoc _ _ (by intro e; have := congrArg List.length e; rw [List.length_take, List.length_nil] at this; omega)]
      rw [e] at hi
      refine step (f := fun k => (spec_VerUintText.f k (ns[i] : Int)).bind fun t107 => (if (mk (decs (ns.take i)) ++ (⟨#[46]⟩ : ByteArray)).size + t107.size ≤ 9223372036854775807 then (spec_Version_Text.l0 k ((mk (decs (ns.take i)) ++ (⟨#[46]⟩ : ByteArray)) ++ t107) ((i + 1 : Nat) : Int) (zs ns) sem (mk p) (mk b)) else (none))) (fun k => ?_) (bindE hu ?_)
      · rw [spec_Version_Text.l0, if_pos (by rw [List.length_map]; omega), if_pos (by omega), if_pos (by rw [size_mk]; omega), if_pos (by omega), hrd, w64s i (by omega)]
      · refine congr (fun k => ?_) hi
        rw [m46, mk_app, mk_app, if_pos (by rw [size_mk, size_mk, List.length_append]; simp only [List.length_cons, List.length_nil]; omega)]
theorem text_ev (ns : List Nat) (sem : Bool) (p b : Bs) (hns : ∀ n ∈ ns, n < 18446744073709551616) (hl : ns.length ≤ 8589934594) (hp : p.length ≤ 8589934592) (hb : b.length ≤ 8589934592) : Ev (fun k => spec_Version_Text.f k (zs ns) sem (mk p) (mk b)) (mk (vtxt ns p b)) := by
  have h := textI_ev ns sem p b hns hl hp hb _ 0 rfl (Nat.zero_le _)
  exact h
end Go.Proofs.YtomoefldmgfaoaaDoor.Pv.SFnVersionSteps

/- Versions: the reference's version of a text, and the law: in plain Lean. -/
set_option linter.unusedVariables false
set_option linter.unusedSimpArgs false
namespace Go.Proofs.YtomoefldmgfaoaaDoor.Pv.SFnVersionSteps
open Go Go.RowKit Go.Proofs.YtomoefldmgfaoaaDoor Go.Proofs.YtomoefldmgfaoaaDoorW.PrintWords Go.Proofs.YtomoefldmgfaoaaDoor.PFnVersionSteps Go.Proofs.YtomoefldmgfaoaaDoor.Txt Go.Proofs.YtomoefldmgfaoaaDoor.Small Go.Proofs.YtomoefldmgfaoaaDoor.Pv

/-- What the reference says of a text: nothing, that it is no version, or the version. -/
def ParsedSays (R : List Int × Bool × ByteArray × ByteArray × Bool × Bool) (o : Option Pd) : Prop :=
  R.2.2.2.2.2 = false ∨ (R.2.2.2.2.2 = true ∧ match o with
    | none => R.2.2.2.2.1 = false
    | some q => R = (zs q.2.1, q.1, mk q.2.2.1, mk q.2.2.2, true, true))
theorem pgen_eq {l : Bs} (h : 10 ∉ (fieldsOf l).2) : pgen l = (sGen l).map fun ns => (false, ns, [], []) := by
  unfold pgen
  rw [pparse_gen h]
  cases sGen l <;> rfl
theorem psem_eq {l : Bs} (h : 10 ∉ (fieldsOf l).2) (hl : long 0 (fieldsOf l).2 = false) : psem l = (sSem l).map fun q => (true, q.1, q.2.1, q.2.2) := by
  unfold psem
  rw [pparse_sem h hl]
theorem sGen_len {l : Bs} {ns : List Nat} (h : sGen l = some ns) : 2 ≤ ns.length := by
  unfold sGen at h
  by_cases c : (fieldsOf l).1.length < 2
  · rw [if_pos c] at h; cases h
  · rw [if_neg c] at h
    have := nums_len h
    omega
theorem take_two {ns : List Nat} (h : 2 ≤ ns.length) : (zs ns).take 2 = zs [pt ns 0, pt ns 1] := by
  match ns, h with
  | a :: b :: t, _ => rfl
abbrev gtail (kind : Int) (bt : List Int × Bool × ByteArray × ByteArray × Bool × Bool) : Option (List Int × Bool × ByteArray × ByteArray × Bool × Bool) :=
  if bt.2.2.2.2.1 = true then (if kind = 3 then (if 2 ≤ (bt.1.length : Int) then (some ((bt.1.take (2 : Int).toNat), bt.2.1, bt.2.2.1, bt.2.2.2.1, bt.2.2.2.2.1, bt.2.2.2.2.2)) else (none)) else (some (bt.1, bt.2.1, bt.2.2.1, bt.2.2.2.1, bt.2.2.2.2.1, bt.2.2.2.2.2))) else (some (bt.1, bt.2.1, bt.2.2.1, bt.2.2.2.1, bt.2.2.2.2.1, bt.2.2.2.2.2))
theorem gen_says (l : Bs) (h10 : 10 ∉ (fieldsOf l).2) (kind : Int) : ∃ R, gtail kind (genR l) = some R ∧ ParsedSays R (if kind = 3 then ptwo l else pgen l) := by
  unfold genR gtail
  rw [if_neg h10]
  unfold ptwo
  rw [pgen_eq h10]
  cases hs : sGen l with
  | none =>
    refine ⟨_, rfl, Or.inr ⟨rfl, ?_⟩⟩
    by_cases h3 : kind = 3
    · rw [if_pos h3]; rfl
    · rw [if_neg h3]; rfl
  | some ns =>
    have h2 := sGen_len hs
    by_cases h3 : kind = 3
    · simp only [if_pos h3]
      refine ⟨(zs [pt ns 0, pt ns 1], false, ⟨#[]⟩, ⟨#[]⟩, true, true), ?_, Or.inr ⟨rfl, rfl⟩⟩
      have ht := take_two h2
      show (if (true : Bool) = true then (if 2 ≤ ((zs ns).length : Int) then some ((zs ns).take 2, false, (⟨#[]⟩ : ByteArray), (⟨#[]⟩ : ByteArray), true, true) else none) else some (zs ns, false, (⟨#[]⟩ : ByteArray), (⟨#[]⟩ : ByteArray), true, true)) = _
      rw [if_pos rfl, if_pos (by rw [List.length_map]; omega), ht]
    · simp only [if_neg h3]
      exact ⟨_, rfl, Or.inr ⟨rfl, rfl⟩⟩
theorem parsed_ev (kind : Int) (l : Bs) (hl : l.length ≤ 8589934592) : ∃ R, Ev (fun k => spec_VerParsed.f k kind (mk l)) R ∧ ParsedSays R (pkind kind l) := by
  have hfe := fieldsOf_ev l hl
  have hrl := fields_rest l
  have hass : ∀ k, spec_VerParsed.f k kind (mk l) = ((spec_verAhead.f k (mk l)).bind fun t => spec_verFields.f k t).bind fun bt191 => ((spec_verPlace.f k bt191.2 10).bind fun t195 => (if t195 ≥ 0 then (spec_VerParsed.j0 k kind (mk l) true) else (if kind = 1 then (spec_VerParsed.j0 k kind (mk l) false) else (if kind = 3 then (spec_VerParsed.j0 k kind (mk l) false) else ((spec_VerLong.f k bt191.2).bind fun t196 => (spec_VerParsed.j0 k kind (mk l) t196)))))) := fun k => by
    unfold spec_VerParsed.f
    cases spec_verAhead.f k (mk l) <;> rfl
  have hp : Ev (fun k => spec_verPlace.f k (mk (fieldsOf l).2) 10) (idxs 10 0 (fieldsOf l).2) := place_ev 10 (fieldsOf l).2 (by omega)
  have hmem := idxs_mem 10 (fieldsOf l).2
  have no : Ev (fun k => spec_VerParsed.j0 k kind (mk l) true) ([], false, ⟨#[]⟩, ⟨#[]⟩, false, false) := Evs.at1 fun k => by rw [spec_VerParsed.j0, if_pos rfl]
  have wrapE : ∀ R, Ev (fun k => if idxs 10 0 (fieldsOf l).2 ≥ 0 then (spec_VerParsed.j0 k kind (mk l) true) else (if kind = 1 then (spec_VerParsed.j0 k kind (mk l) false) else (if kind = 3 then (spec_VerParsed.j0 k kind (mk l) false) else ((spec_VerLong.f k (mk (fieldsOf l).2)).bind fun t196 => (spec_VerParsed.j0 k kind (mk l) t196))))) R → Ev (fun k => spec_VerParsed.f k kind (mk l)) R := fun R h => congr hass (bindE hfe (bindE hp h))
  by_cases h10 : 10 ∈ (fieldsOf l).2
  · exact ⟨_, wrapE _ (congr (fun k => if_pos (hmem.2 h10)) no), Or.inl rfl⟩
  · have hge : ¬ idxs 10 0 (fieldsOf l).2 ≥ 0 := fun h => h10 (hmem.1 h)
    have hgen := generic_ev l hl
    obtain ⟨R0, hR0, hS0⟩ := gen_says l h10 kind
    -- a generic one
    have genj : Ev (fun k => spec_VerParsed.j1 k kind (mk l) false) R0 := by
      refine step (f := fun k => (spec_VerGeneric.f k (mk l)).bind fun bt => gtail kind bt) (fun k => by rw [spec_VerParsed.j1, if_neg (by simp)]) (bindE hgen ?_)
      exact congr (f := fun _ => some R0) (fun k => hR0) (const _)
    have genk : Ev (fun k => (spec_VerGeneric.f k (mk l)).bind fun bt => gtail kind bt) R0 := bindE hgen (congr (f := fun _ => some R0) (fun k => hR0) (const _))
    by_cases k1 : kind = 1
    · have e : pkind kind l = (if kind = 3 then ptwo l else pgen l) := by unfold pkind; rw [if_pos k1, if_neg (by omega)]
      rw [e]
      refine ⟨R0, wrapE _ (congr (fun k => by rw [if_neg hge, if_pos k1]) ?_), hS0⟩
      exact step (f := fun k => spec_VerParsed.j1 k kind (mk l) false) (fun k => by rw [spec_VerParsed.j0, if_neg (by simp), if_pos k1]) genj
    · by_cases k3 : kind = 3
      · have e : pkind kind l = (if kind = 3 then ptwo l else pgen l) := by unfold pkind; rw [if_neg k1, if_neg (by omega), if_pos k3, if_pos k3]
        rw [e]
        refine ⟨R0, wrapE _ (congr (fun k => by rw [if_neg hge, if_neg k1, if_pos k3]) ?_), hS0⟩
        exact step (f := fun k => spec_VerParsed.j1 k kind (mk l) false) (fun k => by rw [spec_VerParsed.j0, if_neg (by simp), if_neg k1, show (kind != 3) = false from bne_eq_false_iff_eq.2 k3]) genj
      · rw [if_neg k3] at hS0
        have hlong := long_ev (fieldsOf l).2 (by omega)
        have wrapL : ∀ R, Ev (fun k => spec_VerParsed.j0 k kind (mk l) (long 0 (fieldsOf l).2)) R → Ev (fun k => spec_VerParsed.f k kind (mk l)) R := fun R h => wrapE _ (congr (fun k => by rw [if_neg hge, if_neg k1, if_neg k3]) (bindE hlong h))
        cases hlg : long 0 (fieldsOf l).2 with
        | true => rw [hlg] at wrapL; exact ⟨_, wrapL _ no, Or.inl rfl⟩
        | false =>
          rw [hlg] at wrapL
          obtain ⟨S, hS, hSay⟩ := semantic_ev l hl
          have hps := psem_eq h10 hlg
          have wrapS : ∀ R, Ev (fun k => if S.2.2.2.2 = true then (spec_VerParsed.j2 k kind (mk l) S.2.2.2.2 true S.1 S.2.1 S.2.2.1 S.2.2.2.1) else (spec_VerParsed.j2 k kind (mk l) S.2.2.2.2 (kind == 2) S.1 S.2.1 S.2.2.1 S.2.2.2.1)) R → Ev (fun k => spec_VerParsed.f k kind (mk l)) R := fun R h => by
            refine wrapL _ (step (f := fun k => spec_VerParsed.j1 k kind (mk l) true) (fun k => by rw [spec_VerParsed.j0, if_neg (by simp), if_neg k1, bne_iff_ne.2 k3]) ?_)
            exact step (f := fun k => (spec_VerSemantic.f k (mk l)).bind fun bt197 => (if bt197.2.2.2.2 = true then (spec_VerParsed.j2 k kind (mk l) bt197.2.2.2.2 true bt197.1 bt197.2.1 bt197.2.2.1 bt197.2.2.2.1) else (spec_VerParsed.j2 k kind (mk l) bt197.2.2.2.2 (kind == 2) bt197.1 bt197.2.1 bt197.2.2.1 bt197.2.2.2.1))) (fun k => by rw [spec_VerParsed.j1, if_pos rfl]) (bindE hS h)
          cases hss : sSem l with
          | some q =>
            rw [hss] at hSay hps
            have hSay' : S = (zs q.1, true, mk q.2.1, mk q.2.2, true) := hSay
            subst hSay'
            have e : pkind kind l = some (true, q.1, q.2.1, q.2.2) := by
              unfold pkind pany
              rw [if_neg k1, if_neg k3, hps]
              split <;> rfl
            rw [e]
            refine ⟨(zs q.1, true, mk q.2.1, mk q.2.2, true, true), wrapS _ (congr (fun k => if_pos rfl) (Evs.at1 fun k => by rw [spec_VerParsed.j2, if_pos rfl])), Or.inr ⟨rfl, rfl⟩⟩
          | none =>
            rw [hss] at hSay hps
            have hno : S.2.2.2.2 = false := hSay
            by_cases k2 : kind = 2
            · have e : pkind kind l = none := by unfold pkind; rw [if_neg k1, if_pos k2, hps]; rfl
              rw [e]
              refine ⟨(S.1, S.2.1, S.2.2.1, S.2.2.2.1, S.2.2.2.2, true), wrapS _ (congr (fun k => if_neg (by rw [hno]; simp)) (Evs.at1 fun k => by rw [spec_VerParsed.j2, beq_iff_eq.2 k2, if_pos rfl])), Or.inr ⟨rfl, hno⟩⟩
            · have e : pkind kind l = pgen l := by unfold pkind pany; rw [if_neg k1, if_neg k2, if_neg k3, hps]; rfl
              rw [e]
              refine ⟨R0, wrapS _ (congr (fun k => if_neg (by rw [hno]; simp)) ?_), hS0⟩
              exact step (f := fun k => (spec_VerGeneric.f k (mk l)).bind fun bt => gtail kind bt) (fun k => by rw [spec_VerParsed.j2, beq_eq_false_iff_ne.2 k2, if_neg (by simp)]) genk
end Go.Proofs.YtomoefldmgfaoaaDoor.Pv.SFnVersionSteps
