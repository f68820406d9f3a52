/- Versions: the reference's greatest version of a list, and the law: in plain Lean. -/
import Derived.Test.YtomoefldmgfaoaaDoorPvCg
import Derived.Test.YtomoefldmgfaoaaDoorPFnVersionHighestx4
set_option linter.unusedVariables false
set_option linter.unusedSimpArgs false
namespace Go.Proofs.YtomoefldmgfaoaaDoor.Pv.SFnVersionHighest
open Go Go.RowKit Go.Proofs.YtomoefldmgfaoaaDoor Go.Proofs.YtomoefldmgfaoaaDoorW.PrintWords Go.Proofs.YtomoefldmgfaoaaDoor.PFnVersionHighest Go.Proofs.YtomoefldmgfaoaaDoor.Txt Go.Proofs.YtomoefldmgfaoaaDoor.Small Go.Proofs.YtomoefldmgfaoaaDoor.Pv

theorem chI (c d : UInt8) (n : Int) (h : (d.toNat : Int) = n) : ((c.toNat : Int) = n) ↔ c = d := by
  rw [← h]
  exact ⟨fun e => UInt8.toNat_inj.1 (by omega), fun e => by rw [e]⟩
theorem mk_Lb (s : ByteArray) : mk (Lb s) = s := ext rfl
theorem toL_mk (l : Bs) : (mk l).toList = l := by rw [toL]
theorem bt_mk (l : Bs) (i : Nat) (h : i < l.length) : bt (mk l) (i : Int) = ((l[i]).toNat : Int) := bt_nat (mk l) i h
theorem bt_head (c : UInt8) (t : Bs) : bt (mk (c :: t)) 0 = (c.toNat : Int) := bt_mk (c :: t) 0 (by simp)
theorem dropE (l : Bs) (a : Nat) : (mk l).extract a (mk l).size = mk (l.drop a) := by
  rw [extract_mk, Lb_mk, size_mk, List.take_of_length_le (by rw [List.length_drop]; omega)]
theorem takeE (l : Bs) (b : Nat) : (mk l).extract 0 b = mk (l.take b) := by rw [extract_mk, Lb_mk, List.drop_zero, Nat.sub_zero]
theorem cell_at {l : Bs} {i : Nat} (h : i < l.length) : ∃ c, l.drop i = c :: l.drop (i + 1) ∧ bt (mk l) (i : Int) = (c.toNat : Int) := ⟨l[i], List.drop_eq_getElem_cons h, bt_mk l i h⟩
theorem sz (l : Bs) : (((mk l).size : Nat) : Int) = (l.length : Int) := by rw [size_mk]
theorem digit_f (c : UInt8) : spec_verDigit.f (c.toNat : Int) = some (dg c) := by
  unfold spec_verDigit.f
  by_cases h : (c.toNat : Int) ≥ 48
  · rw [if_pos h]
    by_cases h2 : (c.toNat : Int) ≤ 57
    · rw [decide_eq_true h2, (dg_iff c).2 (by omega)]
    · rw [decide_eq_false h2]
      rcases hd : dg c with _ | _
      · rfl
      · have := (dg_iff c).1 hd; omega
  · rw [if_neg h]
    rcases hd : dg c with _ | _
    · rfl
    · have := (dg_iff c).1 hd; omega
def idxs (sg : UInt8) (i : Nat) (l : Bs) : Int := match cutAt sg l with
  | some q => ((i + q.1.length : Nat) : Int)
  | none => -1
theorem idxs_cons (sg : UInt8) (i : Nat) (c : UInt8) (l : Bs) : idxs sg i (c :: l) = if c = sg then (i : Int) else idxs sg (i + 1) l := by
  unfold idxs
  rw [cutAt]
  by_cases h : c = sg
  · rw [if_pos h, if_pos h]; rfl
  · rw [if_neg h, if_neg h]
    cases cutAt sg l with
    | none => rfl
    | some q =>
      show ((i + (q.1.length + 1) : Nat) : Int) = ((i + 1 + q.1.length : Nat) : Int)
      congr 1; omega
theorem placeI_ev (sg : UInt8) (l : Bs) (hl : l.length ≤ 4611686018427387904) : ∀ (n i : Nat), l.length - i = n → i ≤ l.length → Ev (fun k => spec_verPlace.l0 k (mk l) (sg.toNat : Int) (i : Int)) (idxs sg i (l.drop i)) := by
  intro n
  induction n with
  | zero =>
    intro i h1 h2
    refine Evs.at1 fun k => ?_
    rw [List.drop_eq_nil_of_le (by omega), spec_verPlace.l0, if_neg (by rw [sz]; omega)]; rfl
  | succ n ih =>
    intro i h1 h2
    obtain ⟨c, hc, hb⟩ := cell_at (l := l) (i := i) (by omega)
    rw [hc, idxs_cons]
    by_cases h : c = sg
    · rw [if_pos h]
      refine Evs.at1 fun k => ?_
      rw [spec_verPlace.l0, if_pos (by rw [sz]; omega), if_pos (by omega), hb, if_pos (by rw [h])]
    · rw [if_neg h]
      refine step (f := fun k => spec_verPlace.l0 k (mk l) (sg.toNat : Int) ((i + 1 : Nat) : Int)) (fun k => ?_) (ih (i + 1) (by omega) (by omega))
      rw [spec_verPlace.l0, if_pos (by rw [sz]; omega), if_pos (by omega), hb, if_neg (fun e => h (UInt8.toNat_inj.1 (by omega))), w64s i (by omega)]
theorem place_ev (sg : UInt8) (l : Bs) (hl : l.length ≤ 4611686018427387904) : Ev (fun k => spec_verPlace.f k (mk l) (sg.toNat : Int)) (idxs sg 0 l) := by
  have h := placeI_ev sg l hl _ 0 rfl (Nat.zero_le _)
  rw [List.drop_zero] at h
  exact h
theorem idxs_mem (sg : UInt8) (l : Bs) : idxs sg 0 l ≥ 0 ↔ sg ∈ l := by
  unfold idxs
  cases hc : cutAt sg l with
  | none =>
    constructor
    · intro h; exact absurd h (by decide)
    · intro h
      obtain ⟨u, b, e⟩ := List.append_of_mem h
      exfalso
      have : ∀ l : Bs, sg ∈ l → cutAt sg l ≠ none := by
        intro l
        induction l with
        | nil => intro h; cases h
        | cons c t ih =>
          intro h
          rw [cutAt]
          by_cases e : c = sg
          · rw [if_pos e]; simp
          · rw [if_neg e]
            have := ih ((List.mem_cons.1 h).resolve_left (fun e' => e e'.symm))
            cases hq : cutAt sg t with
            | none => exact absurd hq this
            | some q => simp
      exact this l h hc
  | some q =>
    obtain ⟨e, _⟩ := cutAt_some (u := q.1) (b := q.2) hc
    constructor
    · intro _; rw [e]; simp
    · intro _; show ((0 + q.1.length : Nat) : Int) ≥ 0; omega
theorem plain_f (l : Bs) (h0 : l ≠ []) : spec_VerPlainly.f (mk l) = some (!bad l) := by
  unfold spec_VerPlainly.f
  rw [sz, toL_mk]
  cases l with
  | nil => exact absurd rfl h0
  | cons c t =>
    by_cases h1 : ((c :: t).length : Int) = 1
    · have ht : t = [] := by simp only [List.length_cons] at h1; exact List.length_eq_zero_iff.1 (by omega)
      subst ht
      rw [if_pos h1]
      unfold bad
      by_cases e : c = 48
      · rw [e]; rfl
      · have : ((([c] : Bs).head? == some 48) : Bool) = false := beq_eq_false_iff_ne.2 (by simpa using e)
        rw [this]; rfl
    · rw [if_neg h1, if_neg (by simp), if_pos (by simp only [List.length_cons]; omega), bt_head]
      congr 1
      unfold bad
      have hl : ((c :: t : Bs) != [48]) = true := bne_iff_ne.2 (by intro e; injection e with _ e; subst e; exact h1 rfl)
      rw [hl, Bool.and_true]
      have q := chI c 48 48 rfl
      by_cases e : c = 48
      · rw [bne_eq_false_iff_eq.2 (q.2 e), e]; rfl
      · rw [bne_iff_ne.2 (fun h => e (q.1 h))]
        have : ((c :: t : Bs).head? == some 48) = false := beq_eq_false_iff_ne.2 (by simpa using e)
        rw [this]; rfl
theorem rdOf_map (F : List Bs) (i : Nat) (h : i < F.length) : rdOf ByteArray.empty (F.map mk) (i : Int) = mk F[i] := by
  unfold rdOf
  rw [Int.toNat_natCast, List.getD_eq_getElem?_getD, List.getElem?_map, List.getElem?_eq_getElem h]; rfl
theorem white_f (c : UInt8) : spec_verWhite.f (c.toNat : Int) = some (wh c) := by
  unfold spec_verWhite.f
  have h := wh_iff c
  rcases hw : wh c with _ | _
  · have h' : ¬ (c.toNat = 32 ∨ c.toNat = 9 ∨ c.toNat = 10 ∨ c.toNat = 12 ∨ c.toNat = 13) := fun e => by rw [h.2 e] at hw; cases hw
    rw [if_neg (by omega), if_neg (by omega), if_neg (by omega), if_neg (by omega), beq_eq_false_iff_ne.2 (by omega)]
  · have h' := h.1 hw
    repeat' split
    all_goals first | rfl | (congr 1; exact beq_iff_eq.2 (by omega))
theorem ahead_cons (c : UInt8) (t : Bs) : ahead (c :: t) = if wh c = true then ahead t else noV (c :: t) := by
  unfold ahead
  by_cases h : wh c = true
  · rw [if_pos h, List.dropWhile_cons_of_pos h]
  · rw [if_neg h, List.dropWhile_cons_of_neg h]
theorem ahead_ev : ∀ (l : Bs), Ev (fun k => spec_verAhead.f k (mk l)) (mk (ahead l))
  | [] => Evs.at1 fun k => by
    show spec_verAhead.l0 (k + 1) (mk []) = _
    rw [spec_verAhead.l0, if_pos (by rw [toL_mk])]; rfl
  | c :: t => by
    have h0 : ¬ (mk (c :: t)).toList = [] := by rw [toL_mk]; simp
    have h1 : (0 : Int) < ((mk (c :: t)).size : Int) := by rw [sz]; simp
    have h2 : (1 : Int) ≤ ((mk (c :: t)).size : Int) := by rw [sz]; simp only [List.length_cons]; omega
    have hd : (mk (c :: t)).extract 1 (mk (c :: t)).size = mk t := by rw [dropE]; rfl
    rw [ahead_cons]
    have q := chI c 118 118 rfl
    by_cases h : wh c = true
    · rw [if_pos h]
      refine step (f := fun k => spec_verAhead.f k (mk t)) (fun k => ?_) (ahead_ev t)
      show spec_verAhead.l0 (k + 1) (mk (c :: t)) = spec_verAhead.l0 k (mk t)
      rw [spec_verAhead.l0, if_neg h0, if_pos h1, bt_head, white_f, Option.bind_some, if_pos h, if_pos h2, hd]
    · rw [if_neg h, noV]
      refine Evs.at1 fun k => ?_
      show spec_verAhead.l0 (k + 1) (mk (c :: t)) = _
      by_cases e : c = 118
      · rw [spec_verAhead.l0, if_neg h0, if_pos h1, bt_head, white_f, Option.bind_some, if_neg h, if_pos (q.2 e), if_pos h2, hd, if_pos e]
      · rw [spec_verAhead.l0, if_neg h0, if_pos h1, bt_head, white_f, Option.bind_some, if_neg h, if_neg (fun h9 => e (q.1 h9)), if_neg e]
theorem scan_ev (l : Bs) (acc : List ByteArray) (hl : l.length ≤ 4611686018427387904) (r : List ByteArray × ByteArray) : ∀ (n i : Nat), l.length - i = n → i ≤ l.length → Ev (fun k => spec_verFields.j2 k (mk l) acc ((i + ((l.drop i).takeWhile dg).length : Nat) : Int)) r → Ev (fun k => spec_verFields.l1 k (mk l) acc (i : Int)) r := by
  intro n
  induction n with
  | zero =>
    intro i h1 h2 hr
    have hd : l.drop i = [] := List.drop_eq_nil_of_le (by omega)
    rw [hd] at hr
    refine step (fun k => ?_) hr
    rw [spec_verFields.l1, if_neg (by rw [sz]; omega)]; rfl
  | succ n ih =>
    intro i h1 h2 hr
    obtain ⟨c, hc, hb⟩ := cell_at (l := l) (i := i) (by omega)
    rw [hc] at hr
    by_cases hw : dg c = true
    · rw [tw_pos hw] at hr
      refine step (f := fun k => spec_verFields.l1 k (mk l) acc ((i + 1 : Nat) : Int)) (fun k => ?_) (ih (i + 1) (by omega) (by omega) hr)
      rw [spec_verFields.l1, if_pos (by rw [sz]; omega), if_pos (by omega), hb, digit_f, Option.bind_some, if_pos hw, w64s i (by omega)]
    · rw [tw_neg hw] at hr
      refine step (fun k => ?_) hr
      rw [spec_verFields.l1, if_pos (by rw [sz]; omega), if_pos (by omega), hb, digit_f, Option.bind_some, if_neg hw]
theorem fields_ev : ∀ (n : Nat) (l : Bs) (acc : List ByteArray), l.length ≤ n → l.length ≤ 4611686018427387904 → acc.length + l.length < 8796093022208 → Ev (fun k => spec_verFields.l0 k (mk l) acc) (acc ++ (flds n l).1.map mk, mk (flds n l).2) := by
  intro n
  induction n with
  | zero =>
    intro l acc h1 h2 h3
    have hl : l = [] := List.length_eq_zero_iff.1 (by omega)
    subst hl
    refine step (f := fun k => spec_verFields.l1 k (mk []) acc ((0 : Nat) : Int)) (fun k => by rw [spec_verFields.l0]; rfl) (scan_ev [] acc (by simp) _ 0 0 rfl (Nat.le_refl _) ?_)
    refine Evs.at1 fun k => ?_
    rw [spec_verFields.j2, if_pos (by simp)]
    simp [flds]
  | succ n ih =>
    intro l acc h1 h2 h3
    refine step (f := fun k => spec_verFields.l1 k (mk l) acc ((0 : Nat) : Int)) (fun k => by rw [spec_verFields.l0]; rfl) (scan_ev l acc h2 _ _ 0 rfl (Nat.zero_le _) ?_)
    rw [List.drop_zero, Nat.zero_add]
    have hle := takeWhile_len_le (p := dg) l
    have hdt := drop_takeWhile (p := dg) l
    have htt := take_takeWhile (p := dg) l
    by_cases h0 : l.takeWhile dg = []
    · refine Evs.at1 fun k => ?_
      rw [spec_verFields.j2, if_pos (by rw [h0]; rfl), flds, if_pos h0]; simp
    · have hm : 0 < (l.takeWhile dg).length := List.length_pos_iff.2 h0
      have hcut := congrArg List.length (List.takeWhile_append_dropWhile (p := dg) (l := l))
      rw [List.length_append] at hcut
      generalize hmm : (l.takeWhile dg).length = m at hle hdt htt hm hcut
      have e1 : (mk l).extract 0 ((m : Int).toNat) = mk (l.takeWhile dg) := by rw [Int.toNat_natCast, takeE, htt]
      have e2 : (mk l).extract ((m : Int).toNat) (mk l).size = mk (l.dropWhile dg) := by rw [Int.toNat_natCast, dropE, hdt]
      have head : ∀ k, spec_verFields.j2 (k + 1) (mk l) acc (m : Int) = (if ((mk (l.dropWhile dg)).size : Int) < 2 then (some (acc ++ [mk (l.takeWhile dg)], mk (l.dropWhile dg))) else (if 0 < ((mk (l.dropWhile dg)).size : Int) then (if (bt (mk (l.dropWhile dg)) 0) = 46 then (if 1 < ((mk (l.dropWhile dg)).size : Int) then ((spec_verDigit.f (bt (mk (l.dropWhile dg)) 1)).bind fun t126 => (if t126 = true then (if 1 ≤ ((mk (l.dropWhile dg)).size : Int) then (spec_verFields.l0 k ((mk (l.dropWhile dg)).extract 1 (mk (l.dropWhile dg)).size) (acc ++ [mk (l.takeWhile dg)])) else (none)) else (some (acc ++ [mk (l.takeWhile dg)], mk (l.dropWhile dg))))) else (none)) else (some (acc ++ [mk (l.takeWhile dg)], mk (l.dropWhile dg)))) else (none))) := fun k => by
        rw [spec_verFields.j2, if_neg (by omega), if_pos (by omega), if_pos (by rw [sz]; omega), if_pos (by omega), Option.bind_some, e1, e2]
      have stop : (flds (n + 1) l) = ([l.takeWhile dg], l.dropWhile dg) → (∀ k, spec_verFields.j2 (k + 1) (mk l) acc (m : Int) = some (acc ++ [mk (l.takeWhile dg)], mk (l.dropWhile dg))) → Ev (fun k => spec_verFields.j2 k (mk l) acc (m : Int)) (acc ++ (flds (n + 1) l).1.map mk, mk (flds (n + 1) l).2) := by
        intro e h
        rw [e]
        exact Evs.at1 h
      cases hr : l.dropWhile dg with
      | nil =>
        rw [hr] at head stop
        refine stop (by rw [flds, if_neg h0, hr]) (fun k => ?_)
        rw [head, if_pos (by rw [sz]; simp)]
      | cons c r =>
        cases r with
        | nil =>
          rw [hr] at head stop
          refine stop (by rw [flds, if_neg h0, hr]; split <;> simp_all) (fun k => ?_)
          rw [head, if_pos (by rw [sz]; simp)]
        | cons d r =>
          have s2 : (((mk (c :: d :: r)).size : Nat) : Int) = (r.length : Int) + 2 := by rw [sz]; simp; omega
          have b1 : bt (mk (c :: d :: r)) 1 = (d.toNat : Int) := bt_mk (c :: d :: r) 1 (by simp)
          have q := chI c 46 46 rfl
          rw [hr] at head stop hcut
          by_cases hc : c = 46
          · by_cases hdg : dg d = true
            · have hf : flds (n + 1) l = (l.takeWhile dg :: (flds n (d :: r)).1, (flds n (d :: r)).2) := by
                rw [flds, if_neg h0, hr, hc]; show (if dg d then _ else _) = _; rw [if_pos hdg]
              rw [hf]
              have hi := ih (d :: r) (acc ++ [mk (l.takeWhile dg)]) (by simp only [List.length_cons] at hcut ⊢; omega) (by simp only [List.length_cons] at hcut ⊢; omega) (by simp only [List.length_cons, List.length_append, List.length_nil] at hcut ⊢; omega)
              have e3 : (acc ++ [mk (l.takeWhile dg)] ++ (flds n (d :: r)).1.map mk, mk (flds n (d :: r)).2) = (acc ++ (l.takeWhile dg :: (flds n (d :: r)).1).map mk, mk (flds n (d :: r)).2) := by simp
              rw [e3] at hi
              refine step (fun k => ?_) hi
              rw [head, if_neg (by omega), if_pos (by omega), bt_head, if_pos (q.2 hc), if_pos (by omega), b1, digit_f, Option.bind_some, if_pos hdg, if_pos (by omega), dropE]; rfl
            · refine stop ?_ (fun k => ?_)
              · rw [flds, if_neg h0, hr, hc]; show (if dg d then _ else _) = _; rw [if_neg hdg]
              · rw [head, if_neg (by omega), if_pos (by omega), bt_head, if_pos (q.2 hc), if_pos (by omega), b1, digit_f, Option.bind_some, if_neg hdg]
          · refine stop ?_ (fun k => ?_)
            · rw [flds, if_neg h0, hr]
              split
              · rename_i h; injection h with h _; exact absurd h hc
              · rfl
            · rw [head, if_neg (by omega), if_pos (by omega), bt_head, if_neg (fun h => hc (q.1 h))]
theorem fieldsOf_ev (l : Bs) (hl : l.length ≤ 8589934592) : Ev (fun k => (spec_verAhead.f k (mk l)).bind fun t => spec_verFields.f k t) ((fieldsOf l).1.map mk, mk (fieldsOf l).2) := by
  have ha := ahead_len l
  refine bindE (ahead_ev l) ?_
  have h := fields_ev l.length (ahead l) [] ha (by omega) (by simp; omega)
  rw [List.nil_append] at h
  exact h
def uintR (l : Bs) (o : Lib.NumEnd Nat) : Int × Bool := match o with
  | .ok u => ((u : Int), l != [])
  | _ => (0, false)
theorem uintI_ev (l : Bs) (hl : l.length ≤ 4611686018427387904) : ∀ (n i a : Nat), l.length - i = n → i ≤ l.length → a < 18446744073709551616 → Ev (fun k => spec_VerUint.l0 k (mk l) (a : Int) (i : Int)) (uintR l (Lib.parseUint10 a (l.drop i))) := by
  intro n
  induction n with
  | zero =>
    intro i a h1 h2 ha
    refine Evs.at1 fun k => ?_
    rw [List.drop_eq_nil_of_le (by omega), spec_VerUint.l0, if_neg (by rw [sz]; omega), toL_mk]; rfl
  | succ n ih =>
    intro i a h1 h2 ha
    obtain ⟨c, hc, hb⟩ := cell_at (l := l) (i := i) (by omega)
    rw [hc, Lib.parseUint10]
    by_cases hd : dg c = true
    · have hd' := (dg_iff c).1 hd
      have hmod : ((c.toNat : Int) - 48) % 256 = ((c.toNat - 48 : Nat) : Int) := by omega
      rw [if_pos hd']
      by_cases ho : 18446744073709551616 ≤ a * 10 + (c.toNat - 48)
      · have e : (if 1844674407370955162 ≤ a then Lib.NumEnd.range else if 18446744073709551616 ≤ a * 10 + (c.toNat - 48) then Lib.NumEnd.range else Lib.parseUint10 (a * 10 + (c.toNat - 48)) (l.drop (i + 1))) = Lib.NumEnd.range := by
          split
          · rfl
          · rfl
        rw [e]
        refine Evs.at1 fun k => ?_
        rw [spec_VerUint.l0, if_pos (by rw [sz]; omega), if_pos (by omega), hb, digit_f, Option.bind_some, if_pos hd, hmod, if_pos (by omega)]; rfl
      · rw [if_neg (by omega), if_neg ho]
        refine step (f := fun k => spec_VerUint.l0 k (mk l) ((a * 10 + (c.toNat - 48) : Nat) : Int) ((i + 1 : Nat) : Int)) (fun k => ?_) (ih (i + 1) (a * 10 + (c.toNat - 48)) (by omega) (by omega) (by omega))
        have e1 : IntKind.u64.wrap (10 * (a : Int)) = 10 * (a : Int) := by rw [IntKind.wrap_u64]; omega
        have e2 : IntKind.u64.wrap (10 * (a : Int) + ((c.toNat - 48 : Nat) : Int)) = ((a * 10 + (c.toNat - 48) : Nat) : Int) := by rw [IntKind.wrap_u64]; omega
        rw [spec_VerUint.l0, if_pos (by rw [sz]; omega), if_pos (by omega), hb, digit_f, Option.bind_some, if_pos hd, hmod, if_neg (by omega), e1, e2, w64s i (by omega)]
    · have hd' : ¬ (48 ≤ c.toNat ∧ c.toNat ≤ 57) := fun h => hd ((dg_iff c).2 h)
      rw [if_neg hd']
      refine Evs.at1 fun k => ?_
      rw [spec_VerUint.l0, if_pos (by rw [sz]; omega), if_pos (by omega), hb, digit_f, Option.bind_some, if_neg hd]; rfl
def vnR (l : Bs) : Int × Bool := match vn l with
  | some u => ((u : Int), true)
  | none => (0, false)
theorem uint_ev (l : Bs) (hl : l.length ≤ 4611686018427387904) : Ev (fun k => spec_VerUint.f k (mk l)) (vnR l) := by
  have h := uintI_ev l hl _ 0 0 rfl (Nat.zero_le _) (by omega)
  rw [List.drop_zero] at h
  have e : uintR l (Lib.parseUint10 0 l) = vnR l := by
    unfold vnR vn Lib.parseMag
    by_cases h0 : l = []
    · subst h0; rfl
    · rw [if_neg h0]
      cases Lib.parseUint10 0 l with
      | ok u => show ((u : Int), l != []) = ((u : Int), true); rw [bne_iff_ne.2 h0]
      | _ => rfl
  rw [e] at h
  exact h
abbrev genR (l : Bs) : List Int × Bool × ByteArray × ByteArray × Bool × Bool :=
  if 10 ∈ (fieldsOf l).2 then ([], false, ⟨#[]⟩, ⟨#[]⟩, false, false)
  else match sGen l with
    | none => ([], false, ⟨#[]⟩, ⟨#[]⟩, false, true)
    | some ns => (zs ns, false, ⟨#[]⟩, ⟨#[]⟩, true, true)
theorem genI_ev (F : List Bs) (hF : ∀ f ∈ F, f.length ≤ 4611686018427387904) (hl : F.length ≤ 8589934592) : ∀ (n i : Nat) (acc : List Nat), F.length - i = n → i ≤ F.length → acc.length = i → Ev (fun k => spec_VerGeneric.l0 k (F.map mk) (i : Int) (zs acc) false (⟨#[]⟩ : ByteArray) (⟨#[]⟩ : ByteArray)) (match nums false false (F.drop i) with
    | none => ([], false, ⟨#[]⟩, ⟨#[]⟩, false, true)
    | some ns => (zs (acc ++ ns), false, ⟨#[]⟩, ⟨#[]⟩, true, true)) := by
  intro n
  induction n with
  | zero =>
    intro i acc h1 h2 h3
    refine Evs.at1 fun k => ?_
    rw [List.drop_eq_nil_of_le (by omega), spec_VerGeneric.l0, if_neg (by rw [List.length_map]; omega)]
    simp [nums]
  | succ n ih =>
    intro i acc h1 h2 h3
    have hlt : i < F.length := by omega
    have hu := uint_ev F[i] (hF _ (List.getElem_mem hlt))
    rw [List.drop_eq_getElem_cons hlt, nums, Bool.or_self, Bool.false_and, if_neg (by simp)]
    refine step (f := fun k => (spec_VerUint.f k (mk F[i])).bind fun bt184 => (if bt184.2 = true then (if (zs acc).length < 17592186044416 then (spec_VerGeneric.l0 k (F.map mk) ((i + 1 : Nat) : Int) (zs acc ++ [bt184.1]) false (⟨#[]⟩ : ByteArray) (⟨#[]⟩ : ByteArray)) else (none)) else (some (([] : List Int), false, (⟨#[]⟩ : ByteArray), (⟨#[]⟩ : ByteArray), false, true)))) (fun k => by
      rw [spec_VerGeneric.l0, if_pos (by rw [List.length_map]; omega), if_pos (by omega), rdOf_map F i hlt, w64s i (by omega)]) ?_
    refine bindE hu ?_
    unfold vnR
    cases hv : vn F[i] with
    | none => exact congr (f := fun _ => some _) (fun k => if_neg (by simp)) (const _)
    | some u =>
      have hi := ih (i + 1) (acc ++ [u]) (by omega) hlt (by rw [List.length_append, h3]; rfl)
      have e : zs (acc ++ [u]) = zs acc ++ [(u : Int)] := by simp
      rw [e] at hi
      have e2 : (match (nums false false (F.drop (i + 1))).map (u :: ·) with
          | none => (([] : List Int), false, (⟨#[]⟩ : ByteArray), (⟨#[]⟩ : ByteArray), false, true)
          | some ns => (zs (acc ++ ns), false, ⟨#[]⟩, ⟨#[]⟩, true, true)) = (match nums false false (F.drop (i + 1)) with
          | none => ([], false, ⟨#[]⟩, ⟨#[]⟩, false, true)
          | some ns => (zs (acc ++ [u] ++ ns), false, ⟨#[]⟩, ⟨#[]⟩, true, true)) := by
        cases nums false false (F.drop (i + 1)) with
        | none => rfl
        | some ns => simp
      simp only
      rw [e2]
      refine congr (fun k => ?_) hi
      rw [if_pos trivial, if_pos (by rw [List.length_map]; omega)]
theorem generic_ev (l : Bs) (hl : l.length ≤ 8589934592) : Ev (fun k => spec_VerGeneric.f k (mk l)) (genR l) := by
  have hfe := fieldsOf_ev l hl
  have hfl := fields_len l
  obtain ⟨hfs, hfj⟩ := fields_spec l
  have hrl := fields_rest l
  have hal := ahead_len l
  have hF : ∀ f ∈ (fieldsOf l).1, f.length ≤ 4611686018427387904 := fun f hf => by
    obtain ⟨x, y, e⟩ := spl_sub _ f hf
    have h1 := congrArg List.length e
    have h2 := congrArg List.length hfj
    simp only [List.length_append] at h1 h2
    omega
  have hass : ∀ k, spec_VerGeneric.f k (mk l) = ((spec_verAhead.f k (mk l)).bind fun t => spec_verFields.f k t).bind fun bt176 => ((spec_verPlace.f k bt176.2 10).bind fun t180 => (if t180 ≥ 0 then (some (([] : List Int), false, (⟨#[]⟩ : ByteArray), (⟨#[]⟩ : ByteArray), false, false)) else (if (bt176.1.length : Int) < 2 then (spec_VerGeneric.j0 k bt176.1 true false (⟨#[]⟩ : ByteArray) (⟨#[]⟩ : ByteArray)) else (if 0 < (bt176.1.length : Int) then ((spec_VerPlainly.f (rdOf ByteArray.empty bt176.1 0)).bind fun t182 => (spec_VerGeneric.j0 k bt176.1 (!t182) false (⟨#[]⟩ : ByteArray) (⟨#[]⟩ : ByteArray))) else (none))))) := fun k => by
    unfold spec_VerGeneric.f
    cases spec_verAhead.f k (mk l) <;> rfl
  refine congr hass (bindE hfe ?_)
  refine bindE (place_ev 10 (fieldsOf l).2 (by omega)) ?_
  have hmem := idxs_mem 10 (fieldsOf l).2
  unfold genR sGen
  by_cases h10 : 10 ∈ (fieldsOf l).2
  · rw [if_pos h10]
    exact congr (f := fun _ => some _) (fun k => if_pos (hmem.2 h10)) (const _)
  · rw [if_neg h10]
    by_cases h2 : (fieldsOf l).1.length < 2
    · rw [if_pos h2]
      refine congr (f := fun k => spec_VerGeneric.j0 k ((fieldsOf l).1.map mk) true false (⟨#[]⟩ : ByteArray) (⟨#[]⟩ : ByteArray)) (fun k => by
        rw [if_neg (fun h => h10 (hmem.1 h)), if_pos (by simp only [List.length_map]; omega)]) ?_
      exact Evs.at1 fun k => by rw [spec_VerGeneric.j0, if_pos rfl]
    · rw [if_neg h2]
      generalize hFF : (fieldsOf l).1 = F at hfs hF hfl h2 ⊢
      cases F with
      | nil => exact absurd (by simp) h2
      | cons f F =>
        have hf0 := (hfs f (by simp)).1
        refine congr (f := fun k => spec_VerGeneric.j0 k ((f :: F).map mk) (bad f) false (⟨#[]⟩ : ByteArray) (⟨#[]⟩ : ByteArray)) (fun k => by
          rw [if_neg (fun h => h10 (hmem.1 h)), if_neg (by simp only [List.length_map]; omega), if_pos (by simp only [List.length_map, List.length_cons]; omega), show rdOf ByteArray.empty ((f :: F).map mk) 0 = mk f from rfl, plain_f f hf0, Option.bind_some, Bool.not_not]) ?_
        rw [nums, Bool.or_false, Bool.true_and]
        cases hb : bad f with
        | true => rw [if_pos rfl]; exact Evs.at1 fun k => by rw [spec_VerGeneric.j0, if_pos rfl]
        | false =>
          rw [if_neg (by simp)]
          have h := genI_ev (f :: F) hF (by omega) _ 0 [] rfl (Nat.zero_le _) rfl
          rw [List.drop_zero, nums, Bool.or_self, Bool.false_and, if_neg (by simp)] at h
          refine step (f := fun k => spec_VerGeneric.l0 k ((f :: F).map mk) ((0 : Nat) : Int) (zs []) false (⟨#[]⟩ : ByteArray) (⟨#[]⟩ : ByteArray)) (fun k => by rw [spec_VerGeneric.j0, if_neg (by simp)]; rfl) ?_
          exact h
theorem rd_zs (ns : List Nat) (k : Nat) : rd (zs ns) (k : Int) = (pt ns k : Int) := by
  unfold rd pt
  rw [Int.toNat_natCast, List.getD_eq_getElem?_getD, List.getD_eq_getElem?_getD, List.getElem?_map]
  cases ns[k]? <;> rfl
theorem part_f (ns : List Nat) (sem : Bool) (p b : ByteArray) (i : Nat) : spec_Version_part.f (zs ns) sem p b (i : Int) = some (pt ns i : Int) := by
  unfold spec_Version_part.f
  by_cases h : i < ns.length
  · rw [if_pos (by rw [List.length_map]; omega), if_pos (by omega), rd_zs]
  · rw [if_neg (by rw [List.length_map]; omega), pt_no (by omega)]; rfl
theorem pgen_eq {l : Bs} (h : 10 ∉ (fieldsOf l).2) : pgen l = (sGen l).map fun ns => (false, ns, [], []) := by
  unfold pgen
  rw [pparse_gen h]
  cases sGen l <;> rfl
theorem sGen_len {l : Bs} {ns : List Nat} (h : sGen l = some ns) : 2 ≤ ns.length := by
  unfold sGen at h
  by_cases c : (fieldsOf l).1.length < 2
  · rw [if_pos c] at h; cases h
  · rw [if_neg c] at h
    have := nums_len h
    omega
theorem versionsI_ev (ns ms : List Nat) (sa sb : Bool) (pa ba pb bb : ByteArray) (hs : (sa && sb) = false) (hl : ns.length ≤ 8589934594) (hm : ms.length ≤ 8589934594) : ∀ (n i : Nat), max ns.length ms.length - i = n → i ≤ max ns.length ms.length → Ev (fun k => spec_Versions.l0 k (i : Int) (zs ns) sa pa ba (zs ms) sb pb bb) (cmpN n (fun t => pt ns (t + i)) (fun t => pt ms (t + i))) := by
  intro n
  induction n with
  | zero =>
    intro i h1 h2
    refine step (f := fun k => spec_Versions.j1 k (i : Int) false (zs ns) sa pa ba (zs ms) sb pb bb) (fun k => ?_) (Evs.at1 fun k => ?_)
    · rw [spec_Versions.l0, if_neg (by rw [List.length_map]; omega), decide_eq_false (by rw [List.length_map]; omega)]
    · rw [spec_Versions.j1, if_neg (by simp)]
      cases sa with
      | false => rw [if_neg (by simp)]; rfl
      | true =>
        have hb : sb = false := by simpa using hs
        rw [if_pos rfl, if_neg (by rw [hb]; simp)]; rfl
  | succ n ih =>
    intro i h1 h2
    have hi := ih (i + 1) (by omega) (by omega)
    have pa1 := part_f ns sa pa ba i
    have pb1 := part_f ms sb pb bb i
    refine step (f := fun k => spec_Versions.j1 k (i : Int) true (zs ns) sa pa ba (zs ms) sb pb bb) (fun k => ?_) ?_
    · rw [spec_Versions.l0]
      by_cases hlt : i < ns.length
      · rw [if_pos (by rw [List.length_map]; omega)]
      · rw [if_neg (by rw [List.length_map]; omega), decide_eq_true (by rw [List.length_map]; omega)]
    · have hj : ∀ k, spec_Versions.j1 (k + 1) (i : Int) true (zs ns) sa pa ba (zs ms) sb pb bb = if (pt ns i : Int) < (pt ms i : Int) then some (-1) else if (pt ns i : Int) > (pt ms i : Int) then some 1 else spec_Versions.l0 k ((i + 1 : Nat) : Int) (zs ns) sa pa ba (zs ms) sb pb bb := fun k => by
        rw [spec_Versions.j1, if_pos rfl, pa1, Option.bind_some, pb1, Option.bind_some, Option.bind_some, Option.bind_some, w64s i (by omega)]
      rw [cmpN]
      simp only [Nat.zero_add]
      by_cases c1 : pt ms i < pt ns i
      · rw [if_pos c1]
        exact Evs.at1 fun k => by rw [hj, if_neg (by omega), if_pos (by omega)]
      · rw [if_neg c1]
        by_cases c2 : pt ns i < pt ms i
        · rw [if_pos c2]
          exact Evs.at1 fun k => by rw [hj, if_pos (by omega)]
        · rw [if_neg c2]
          have e : ∀ xs : List Nat, (fun t => pt xs (t + 1 + i)) = fun t => pt xs (t + (i + 1)) := fun xs => by funext t; congr 1; omega
          rw [e, e]
          exact step (fun k => by rw [hj, if_neg (by omega), if_neg (by omega)]) hi
theorem versions_ev (ns ms : List Nat) (sa sb : Bool) (pa ba pb bb : ByteArray) (hs : (sa && sb) = false) (hl : ns.length ≤ 8589934594) (hm : ms.length ≤ 8589934594) : Ev (fun k => spec_Versions.f k (zs ns) sa pa ba (zs ms) sb pb bb) (vcmp ns ms) := by
  have h := versionsI_ev ns ms sa sb pa ba pb bb hs hl hm _ 0 rfl (Nat.zero_le _)
  rw [vcmp_eq (max ns.length ms.length) ns ms (by omega) (by omega)]
  exact h
theorem zs_nil {ns : List Nat} : zs ns = [] ↔ ns = [] := by cases ns <;> simp
abbrev hR (o : Option (List Nat)) : List Int × Bool × ByteArray × ByteArray × Bool × Bool := (zs (o.getD []), false, ⟨#[]⟩, ⟨#[]⟩, ((pt (o.getD []) 0 : Int) == 1), true)
theorem highest_ev : ∀ (ls : List ByteArray) (o : Option (List Nat)), (∀ s ∈ ls, s.size ≤ 2147483647) → (∀ h, o = some h → 2 ≤ h.length ∧ h.length ≤ 8589934594) → ∃ R, Ev (fun k => spec_VerHighest.l0 k ls (zs (o.getD [])) false (⟨#[]⟩ : ByteArray) (⟨#[]⟩ : ByteArray)) R ∧ (R.2.2.2.2.2 = false ∨ R = hR (sfold o (ls.map Lb)))
  | [], o, _, _ => by
    refine ⟨hR o, ⟨0, fun k _ => ?_⟩, Or.inr rfl⟩
    have e : spec_Version_part.f (zs (o.getD [])) false (⟨#[]⟩ : ByteArray) (⟨#[]⟩ : ByteArray) 0 = some (pt (o.getD []) 0 : Int) := part_f _ _ _ _ 0
    show spec_VerHighest.l0 k [] (zs (o.getD [])) false (⟨#[]⟩ : ByteArray) (⟨#[]⟩ : ByteArray) = _
    rw [spec_VerHighest.l0, e]; rfl
  | x :: ls, o, hs, ho => by
    have hx := hs x (by simp)
    have hsz : x.size = (Lb x).length := size_len x
    have hg := generic_ev (Lb x) (by omega)
    rw [mk_Lb] at hg
    have hs' : ∀ s ∈ ls, s.size ≤ 2147483647 := fun s h => hs s (List.mem_cons_of_mem _ h)
    have hgf := fun q (h : pgen (Lb x) = some q) => pgen_fit h
    have wr : ∀ (R : List Int × Bool × ByteArray × ByteArray × Bool × Bool), Ev (fun k => if (genR (Lb x)).2.2.2.2.2 = true then (if (genR (Lb x)).2.2.2.2.1 = true then (if (genR (Lb x)).1 = [] then none else (spec_Version_part.f (genR (Lb x)).1 (genR (Lb x)).2.1 (genR (Lb x)).2.2.1 (genR (Lb x)).2.2.2.1 0).bind fun t => if t ≤ 1 then (if zs (o.getD []) = [] then spec_VerHighest.l0 k ls (genR (Lb x)).1 (genR (Lb x)).2.1 (genR (Lb x)).2.2.1 (genR (Lb x)).2.2.2.1 else (spec_Versions.f k (zs (o.getD [])) false (⟨#[]⟩ : ByteArray) (⟨#[]⟩ : ByteArray) (genR (Lb x)).1 (genR (Lb x)).2.1 (genR (Lb x)).2.2.1 (genR (Lb x)).2.2.2.1).bind fun c => if c < 0 then spec_VerHighest.l0 k ls (genR (Lb x)).1 (genR (Lb x)).2.1 (genR (Lb x)).2.2.1 (genR (Lb x)).2.2.2.1 else spec_VerHighest.l0 k ls (zs (o.getD [])) false (⟨#[]⟩ : ByteArray) (⟨#[]⟩ : ByteArray)) else spec_VerHighest.l0 k ls (zs (o.getD [])) false (⟨#[]⟩ : ByteArray) (⟨#[]⟩ : ByteArray)) else spec_VerHighest.l0 k ls (zs (o.getD [])) false (⟨#[]⟩ : ByteArray) (⟨#[]⟩ : ByteArray)) else some ([], false, (⟨#[]⟩ : ByteArray), (⟨#[]⟩ : ByteArray), false, false)) R → Ev (fun k => spec_VerHighest.l0 k (x :: ls) (zs (o.getD [])) false (⟨#[]⟩ : ByteArray) (⟨#[]⟩ : ByteArray)) R := fun R h => by
      refine congr (fun k => by rw [spec_VerHighest.l0]) (bindE hg h)
    rw [List.map_cons, sfold]
    by_cases h10 : 10 ∈ (fieldsOf (Lb x)).2
    · have e : genR (Lb x) = ([], false, ⟨#[]⟩, ⟨#[]⟩, false, false) := if_pos h10
      rw [e] at wr
      exact ⟨([], false, ⟨#[]⟩, ⟨#[]⟩, false, false), wr _ (congr (f := fun _ => some _) (fun k => if_neg (by simp)) (const _)), Or.inl rfl⟩
    · rw [pgen_eq h10] at hgf ⊢
      cases hg9 : sGen (Lb x) with
      | none =>
        have e : genR (Lb x) = ([], false, ⟨#[]⟩, ⟨#[]⟩, false, true) := by unfold genR; rw [if_neg h10, hg9]
        rw [e] at wr
        obtain ⟨R, h1, h2⟩ := highest_ev ls o hs' ho
        exact ⟨R, wr _ (congr (fun k => by rw [if_pos rfl, if_neg (by simp)]) h1), h2⟩
      | some ns =>
        have e : genR (Lb x) = (zs ns, false, ⟨#[]⟩, ⟨#[]⟩, true, true) := by unfold genR; rw [if_neg h10, hg9]
        rw [e] at wr
        rw [hg9] at hgf
        obtain ⟨f1, f2, -⟩ := hgf _ rfl
        have f1' : 2 ≤ ns.length := f1
        have f2' : ns.length ≤ (Lb x).length + 2 := f2
        have hne : zs ns ≠ [] := fun h => by rw [zs_nil.1 h] at f1'; simp at f1'
        have hp : spec_Version_part.f (zs ns) false (⟨#[]⟩ : ByteArray) (⟨#[]⟩ : ByteArray) 0 = some (pt ns 0 : Int) := part_f _ _ _ _ 0
        have hnew : ∀ h, some ns = some h → 2 ≤ h.length ∧ h.length ≤ 8589934594 := fun h hh => by injection hh with hh; subst hh; omega
        show ∃ R, _ ∧ (_ ∨ R = hR (if pt ns 0 ≤ 1 then _ else _))
        by_cases c1 : pt ns 0 ≤ 1
        · rw [if_pos c1]
          cases o with
          | none =>
            obtain ⟨R, h1, h2⟩ := highest_ev ls (some ns) hs' hnew
            exact ⟨R, wr _ (congr (fun k => by rw [if_pos rfl, if_pos rfl, if_neg hne]; simp only [hp, Option.bind_some]; rw [if_pos (by omega), if_pos (show zs ((none : Option (List Nat)).getD []) = [] from rfl)]; rfl) h1), h2⟩
          | some b =>
            obtain ⟨b1, b2⟩ := ho b rfl
            have hbn : zs b ≠ [] := fun h => by rw [zs_nil.1 h] at b1; simp at b1
            have hv := versions_ev b ns false false ⟨#[]⟩ ⟨#[]⟩ ⟨#[]⟩ ⟨#[]⟩ rfl b2 (by omega)
            simp only
            by_cases c2 : vcmp b ns < 0
            · rw [if_pos c2]
              obtain ⟨R, h1, h2⟩ := highest_ev ls (some ns) hs' hnew
              refine ⟨R, wr _ (congr (fun k => by rw [if_pos rfl, if_pos rfl, if_neg hne]; simp only [hp, Option.bind_some]; rw [if_pos (by omega), if_neg (show ¬ zs ((some b).getD []) = [] from hbn)]; rfl) (bindE hv ?_)), h2⟩
              exact congr (fun k => by rw [if_pos c2]; rfl) h1
            · rw [if_neg c2]
              obtain ⟨R, h1, h2⟩ := highest_ev ls (some b) hs' ho
              refine ⟨R, wr _ (congr (fun k => by rw [if_pos rfl, if_pos rfl, if_neg hne]; simp only [hp, Option.bind_some]; rw [if_pos (by omega), if_neg (show ¬ zs ((some b).getD []) = [] from hbn)]; rfl) (bindE hv ?_)), h2⟩
              exact congr (fun k => by rw [if_neg c2]) h1
        · rw [if_neg c1]
          obtain ⟨R, h1, h2⟩ := highest_ev ls o hs' ho
          exact ⟨R, wr _ (congr (fun k => by rw [if_pos rfl, if_pos rfl, if_neg hne]; simp only [hp, Option.bind_some]; rw [if_neg (by omega)]) h1), h2⟩
theorem fitsI_ev (ls : List ByteArray) (hl : ls.length ≤ 2147483647) : ∀ (n i : Nat), ls.length - i = n → i ≤ ls.length → ∃ b, Ev (fun k => laws_zzFits4.l0 k ls (ls.length : Int) (i : Int)) b ∧ (b = true → ∀ s ∈ ls.drop i, s.size ≤ 2147483647) := by
  intro n
  induction n with
  | zero =>
    intro i h1 h2
    exact ⟨true, Evs.at1 fun k => by rw [laws_zzFits4.l0, if_neg (by omega)], fun _ s hs => by rw [List.drop_eq_nil_of_le (by omega)] at hs; cases hs⟩
  | succ n ih =>
    intro i h1 h2
    have hlt : i < ls.length := by omega
    have hr : rdOf ByteArray.empty ls (i : Int) = ls[i] := by
      unfold rdOf
      rw [Int.toNat_natCast, List.getD_eq_getElem?_getD, List.getElem?_eq_getElem hlt]; rfl
    obtain ⟨b, hb, hq⟩ := ih (i + 1) (by omega) hlt
    by_cases c : ((ls[i]).size : Int) > 2147483647
    · exact ⟨false, Evs.at1 fun k => by rw [laws_zzFits4.l0, if_pos (by omega), if_pos (by omega), if_pos (by omega), hr, if_pos c], fun h => by cases h⟩
    · refine ⟨b, step (fun k => by rw [laws_zzFits4.l0, if_pos (by omega), if_pos (by omega), if_pos (by omega), hr, if_neg c, w64s i (by omega)]) hb, fun h s hs => ?_⟩
      rw [List.drop_eq_getElem_cons hlt] at hs
      rcases List.mem_cons.1 hs with hs | hs
      · subst hs; omega
      · exact hq h s hs
theorem fits_ev (ls : List ByteArray) : ∃ b, Ev (fun k => laws_zzFits4.f k ls) b ∧ (b = true → ls.length ≤ 2147483647 ∧ ∀ s ∈ ls, s.size ≤ 2147483647) := by
  by_cases h : (ls.length : Int) > 2147483647
  · exact ⟨false, congr (f := fun _ => some false) (fun k => by unfold laws_zzFits4.f; rw [if_pos h]) (const _), fun h => by cases h⟩
  · obtain ⟨b, hb, hq⟩ := fitsI_ev ls (by omega) _ 0 rfl (Nat.zero_le _)
    exact ⟨b, congr (fun k => by unfold laws_zzFits4.f; rw [if_neg h]; rfl) hb, fun hh => ⟨by omega, by have := hq hh; rw [List.drop_zero] at this; exact this⟩⟩
theorem law_holds : laws_FnVersionHighest.Pure := by
  intro l0 _
  refine Ev.rounds (g := fun k => laws_FnVersionHighest.f k l0) ?_
  obtain ⟨b, hb, hq⟩ := fits_ev l0
  refine congr (f := fun k => (laws_zzFits4.f k l0).bind fun t139 => (if t139 = true then ((spec_VerHighest.f k l0).bind fun bt140 => (if bt140.2.2.2.2.2 = true then ((impl_VersionHighest.f l0).bind fun bt149 => (if bt140.2.2.2.2.1 = true then (if bt149.2.2.2.2.2.2.2.2 = true then (if bt149.1 = true then ((spec_Versions.f k bt140.1 bt140.2.1 bt140.2.2.1 bt140.2.2.2.1 bt149.2.1 false (⟨#[]⟩ : ByteArray) (⟨#[]⟩ : ByteArray)).bind fun t161 => (some (t161 == 0))) else (some false)) else (some false)) else (if bt149.2.2.2.2.2.2.2.2 = true then (some false) else (some (!bt149.1))))) else (some true))) else (some true))) (fun k => by unfold laws_FnVersionHighest.f; rfl) (bindE hb ?_)
  cases b with
  | false => exact congr (f := fun _ => some true) (fun k => if_neg (by simp)) (const _)
  | true =>
    obtain ⟨hl, hs⟩ := hq rfl
    obtain ⟨R, hR1, hR2⟩ := highest_ev l0 none hs (fun h hh => by cases hh)
    refine congr (fun k => if_pos rfl) (bindE (g := fun k => spec_VerHighest.f k l0) hR1 ?_)
    rcases hR2 with h0 | h0
    · exact congr (f := fun _ => some true) (fun k => if_neg (by rw [h0]; simp)) (const _)
    · subst h0
      have hi : impl_VersionHighest.f l0 = match Pv.hres (l0.map Pv.Lb) with
          | none => some (false, [], ⟨#[]⟩, ⟨#[]⟩, ⟨#[]⟩, 0, 0, 0, false)
          | some q => some (true, Pv.zs q.2.1, Pv.mk q.2.2.1, Pv.mk q.2.2.2, Pv.mk (Pv.vtxt q.2.1 q.2.2.1 q.2.2.2), (Pv.pt q.2.1 0 : Int), (Pv.pt q.2.1 1 : Int), (Pv.pt q.2.1 2 : Int), true) := by
        unfold impl_VersionHighest.f
        rw [if_pos ⟨by omega, List.all_eq_true.2 fun s h => decide_eq_true (by have := hs s h; omega)⟩]; rfl
      have ht := same_top (l0.map Lb)
      have hfit := fun q (h : hscan (l0.map Lb) = some q) => hscan_fit (M := 2147483647) (l0.map Lb) (fun l hl => by obtain ⟨s, hm, rfl⟩ := List.mem_map.1 hl; have := hs s hm; have e : s.size = (Lb s).length := size_len s; omega) q h
      have htop := sfold_top (l0.map Lb) none [] rfl
      cases hf : sfold none (l0.map Lb) with
      | none =>
        rw [hf] at ht
        cases hc : hscan (l0.map Lb) with
        | some q => rw [hc] at ht; exact ht.elim
        | none =>
          have e : hres (l0.map Lb) = none := by unfold hres; rw [hc]
          rw [e] at hi
          refine congr (f := fun _ => some true) (fun k => ?_) (const _)
          rw [if_pos rfl, hi]; rfl
      | some h =>
        rw [hf] at ht
        cases hc : hscan (l0.map Lb) with
        | none => rw [hc] at ht; exact ht.elim
        | some q =>
          rw [hc] at ht
          have ht' : vcmp h q.2.1 = 0 := ht
          have hz := vcmp_zero _ _ ht'
          obtain ⟨-, g1, g2, -⟩ := hfit q hc
          by_cases c1 : pt q.2.1 0 = 1
          · have e : hres (l0.map Lb) = some q := by unfold hres; rw [hc]; simp only; rw [if_pos c1]
            rw [e] at hi
            have hh : ∀ x, sfold none (l0.map Lb) = some x → x.length ≤ 8589934594 := fun x hx => by
              rw [hx] at htop
              have hm := htop.1
              rw [List.nil_append] at hm
              have : ∀ (ls : List Bs), (∀ l ∈ ls, l.length ≤ 2147483647) → x ∈ cand ls → x.length ≤ 8589934594 := by
                intro ls
                induction ls with
                | nil => intro _ h; cases h
                | cons l t ih =>
                  intro hl h
                  rw [cand] at h
                  cases hp : pgen l with
                  | none => rw [hp] at h; exact ih (fun a ha => hl a (List.mem_cons_of_mem _ ha)) h
                  | some y =>
                    rw [hp] at h
                    simp only at h
                    by_cases c9 : pt y.2.1 0 ≤ 1
                    · rw [if_pos c9] at h
                      rcases List.mem_cons.1 h with h | h
                      · obtain ⟨-, k2, -⟩ := pgen_fit hp
                        have := hl l (by simp)
                        rw [h]; omega
                      · exact ih (fun a ha => hl a (List.mem_cons_of_mem _ ha)) h
                    · rw [if_neg c9] at h; exact ih (fun a ha => hl a (List.mem_cons_of_mem _ ha)) h
              exact this _ (fun l hl => by obtain ⟨s, hm, rfl⟩ := List.mem_map.1 hl; have := hs s hm; have e : s.size = (Lb s).length := size_len s; omega) hm
            have hv := versions_ev h q.2.1 false false ⟨#[]⟩ ⟨#[]⟩ ⟨#[]⟩ ⟨#[]⟩ rfl (hh h hf) (by omega)
            rw [ht'] at hv
            refine congr (f := fun k => (spec_Versions.f k (zs h) false (⟨#[]⟩ : ByteArray) (⟨#[]⟩ : ByteArray) (zs q.2.1) false (⟨#[]⟩ : ByteArray) (⟨#[]⟩ : ByteArray)).bind fun t161 => some (t161 == 0)) (fun k => ?_) (bindE hv (const _))
            rw [if_pos rfl, hi]
            show (if ((pt h 0 : Int) == 1) = true then _ else _) = _
            rw [if_pos (by rw [hz, c1]; rfl)]; rfl
          · have e : hres (l0.map Lb) = none := by unfold hres; rw [hc]; simp only; rw [if_neg c1]
            rw [e] at hi
            refine congr (f := fun _ => some true) (fun k => ?_) (const _)
            rw [if_pos rfl, hi]
            show (if ((pt h 0 : Int) == 1) = true then _ else _) = _
            rw [if_neg (by rw [hz]; intro h9; exact c1 (by have := beq_iff_eq.1 h9; omega))]; rfl
end Go.Proofs.YtomoefldmgfaoaaDoor.Pv.SFnVersionHighest
