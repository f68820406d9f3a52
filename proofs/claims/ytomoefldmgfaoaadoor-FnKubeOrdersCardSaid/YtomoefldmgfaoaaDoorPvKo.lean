/- The order of versions of kinds is one: the law in plain Lean. -/
import Derived.Test.YtomoefldmgfaoaaDoorPFnKubeOrdersx3
import Derived.Test.YtomoefldmgfaoaaDoorPvKp
set_option linter.unusedVariables false
set_option linter.unusedVariables false
set_option linter.unusedSimpArgs false
namespace Go.Proofs.YtomoefldmgfaoaaDoor.Pv.SFnKubeOrders
open Go Go.RowKit Go.Proofs.YtomoefldmgfaoaaDoor Go.Proofs.YtomoefldmgfaoaaDoorW.PrintWords Go.Proofs.YtomoefldmgfaoaaDoor.PFnKubeOrders Go.Proofs.YtomoefldmgfaoaaDoor.Txt Go.Proofs.YtomoefldmgfaoaaDoor.Small Go.Proofs.YtomoefldmgfaoaaDoor.Pv

theorem mk_Lb (s : ByteArray) : mk (Lb s) = s := ext rfl
theorem toL_mk (l : Bs) : (mk l).toList = l := by rw [toL]
theorem bt_mk (l : Bs) (i : Nat) (h : i < l.length) : bt (mk l) (i : Int) = ((l[i]).toNat : Int) := bt_nat (mk l) i h
theorem bt_head (c : UInt8) (t : Bs) : bt (mk (c :: t)) 0 = (c.toNat : Int) := bt_mk (c :: t) 0 (by simp)
theorem dropE (l : Bs) (a : Nat) : (mk l).extract a (mk l).size = mk (l.drop a) := by
  rw [extract_mk, Lb_mk, size_mk, List.take_of_length_le (by rw [List.length_drop]; omega)]
theorem takeE (l : Bs) (b : Nat) : (mk l).extract 0 b = mk (l.take b) := by rw [extract_mk, Lb_mk, List.drop_zero, Nat.sub_zero]
theorem cell_at {l : Bs} {i : Nat} (h : i < l.length) : ∃ c, l.drop i = c :: l.drop (i + 1) ∧ bt (mk l) (i : Int) = (c.toNat : Int) := ⟨l[i], List.drop_eq_getElem_cons h, bt_mk l i h⟩
theorem sz (l : Bs) : (((mk l).size : Nat) : Int) = (l.length : Int) := by rw [size_mk]
theorem digit_f (c : UInt8) : spec_verDigit.f (c.toNat : Int) = some (dg c) := by
  unfold spec_verDigit.f
  by_cases h : (c.toNat : Int) ≥ 48
  · rw [if_pos h]
    by_cases h2 : (c.toNat : Int) ≤ 57
    · rw [decide_eq_true h2, (dg_iff c).2 (by omega)]
    · rw [decide_eq_false h2]
      rcases hd : dg c with _ | _
      · rfl
      · have := (dg_iff c).1 hd; omega
  · rw [if_neg h]
    rcases hd : dg c with _ | _
    · rfl
    · have := (dg_iff c).1 hd; omega
theorem digitsI_ev (l : Bs) (hl : l.length ≤ 4611686018427387904) : ∀ (n i : Nat), l.length - i = n → i ≤ l.length → Ev (fun k => spec_verDigits.l0 k (mk l) (i : Int)) (mk (l.take (i + ((l.drop i).takeWhile dg).length)), mk (l.drop (i + ((l.drop i).takeWhile dg).length))) := by
  intro n
  induction n with
  | zero =>
    intro i h1 h2
    refine Evs.at1 fun k => ?_
    rw [List.drop_eq_nil_of_le (show l.length ≤ i by omega), spec_verDigits.l0, if_neg (by rw [sz]; omega), if_pos (by omega), if_pos (by rw [sz]; omega), Int.toNat_natCast, takeE, dropE]; rfl
  | succ n ih =>
    intro i h1 h2
    obtain ⟨c, hc, hb⟩ := cell_at (l := l) (i := i) (by omega)
    by_cases h : dg c = true
    · rw [hc, tw_pos h]
      refine step (f := fun k => spec_verDigits.l0 k (mk l) ((i + 1 : Nat) : Int)) (fun k => ?_) (ih (i + 1) (by omega) (by omega))
      rw [spec_verDigits.l0, if_pos (by rw [sz]; omega), if_pos (by omega), hb, digit_f, Option.bind_some, if_pos h, w64s i (by omega)]
    · rw [hc, tw_neg h]
      refine Evs.at1 fun k => ?_
      rw [spec_verDigits.l0, if_pos (by rw [sz]; omega), if_pos (by omega), hb, digit_f, Option.bind_some, if_neg h, if_pos (by rw [sz]; omega), Int.toNat_natCast, takeE, dropE]
theorem vdigits_ev (l : Bs) (hl : l.length ≤ 4611686018427387904) : Ev (fun k => spec_verDigits.f k (mk l)) (mk (l.takeWhile dg), mk (l.dropWhile dg)) := by
  have h := digitsI_ev l hl _ 0 rfl (Nat.zero_le _)
  rw [List.drop_zero, Nat.zero_add, take_takeWhile, drop_takeWhile] at h
  exact h
theorem head_f (l p : Bs) : spec_VerHead.f (mk l) (mk p) = some (l.take p.length == p) := by
  unfold spec_VerHead.f
  rw [sz, sz]
  by_cases h : p.length ≤ l.length
  · rw [if_pos (by omega), if_pos (by omega), if_pos (by omega), Int.toNat_natCast, takeE, toL_mk, toL_mk]
  · rw [if_neg (by omega)]
    have : (l.take p.length == p) = false := beq_eq_false_iff_ne.2 (fun e => by have := congrArg List.length e; rw [List.length_take] at this; omega)
    rw [this]
theorem dropWhile_nil {x : Bs} : x.dropWhile dg = [] ↔ x.all dg = true := by
  constructor
  · intro h
    refine take_all ?_
    have := congrArg List.length (List.takeWhile_append_dropWhile (p := dg) (l := x))
    rw [h, List.append_nil] at this
    exact this
  · intro h
    have := List.takeWhile_append_dropWhile (p := dg) (l := x)
    rw [all_take h] at this
    exact List.append_cancel_left (by rw [this, List.append_nil])
/-- What the specification tells of a text. -/
abbrev kubeT : Option (Nat × Bs × Bs) → Int × ByteArray × ByteArray × Bool × Bool
  | none => (0, (⟨#[]⟩ : ByteArray), (⟨#[]⟩ : ByteArray), false, true)
  | some q => ((q.1 : Int), mk q.2.1, mk q.2.2, true, decide (q.2.1.length ≤ 18) && decide (q.2.2.length ≤ 18))
abbrev rest (lv : Nat) (d x : Bs) : Option (Nat × Bs × Bs) := if d ≠ [] ∧ x ≠ [] ∧ x.all dg = true then some (lv, d, x) else none
abbrev tailT (lv : Int) (c : Prop) [Decidable c] (d m r : ByteArray) : Option (Int × ByteArray × ByteArray × Bool × Bool) :=
  if d.toList = ([] : List UInt8) then (some (0, (⟨#[]⟩ : ByteArray), (⟨#[]⟩ : ByteArray), false, true)) else (if r.toList = ([] : List UInt8) then (if c then (if m.toList = ([] : List UInt8) then (some (0, (⟨#[]⟩ : ByteArray), (⟨#[]⟩ : ByteArray), false, true)) else (if (d.size : Int) ≤ 18 then (some (lv, d, m, true, decide ((m.size : Int) ≤ 18))) else (some (lv, d, m, true, false)))) else (if (d.size : Int) ≤ 18 then (some (lv, d, m, true, decide ((m.size : Int) ≤ 18))) else (some (lv, d, m, true, false)))) else (some (0, (⟨#[]⟩ : ByteArray), (⟨#[]⟩ : ByteArray), false, true)))
theorem sizes (lv : Nat) (d x : Bs) : (if ((mk d).size : Int) ≤ 18 then (some ((lv : Int), mk d, mk x, true, decide (((mk x).size : Int) ≤ 18))) else (some ((lv : Int), mk d, mk x, true, false))) = some (kubeT (some (lv, d, x))) := by
  have e : decide (((mk x).size : Int) ≤ 18) = decide (x.length ≤ 18) := decide_eq_decide.2 (by rw [sz]; omega)
  rw [e]
  by_cases h : d.length ≤ 18
  · rw [if_pos (by rw [sz]; omega)]
    show _ = some ((lv : Int), mk d, mk x, true, decide (d.length ≤ 18) && decide (x.length ≤ 18))
    rw [decide_eq_true h, Bool.true_and]
  · rw [if_neg (by rw [sz]; omega)]
    show _ = some ((lv : Int), mk d, mk x, true, decide (d.length ≤ 18) && decide (x.length ≤ 18))
    rw [decide_eq_false h, Bool.false_and]
theorem tail_f (lv : Nat) (c : Prop) [Decidable c] (hc : c) (d x : Bs) : tailT (lv : Int) c (mk d) (mk (x.takeWhile dg)) (mk (x.dropWhile dg)) = some (kubeT (rest lv d x)) := by
  unfold tailT rest
  by_cases hd : d = []
  · rw [if_pos (by rw [toL_mk]; exact hd), if_neg (fun h => h.1 hd)]
  · rw [if_neg (by rw [toL_mk]; exact hd)]
    by_cases ha : x.all dg = true
    · rw [if_pos (by rw [toL_mk]; exact dropWhile_nil.2 ha), if_pos hc, all_take ha]
      by_cases hx : x = []
      · rw [if_pos (by rw [toL_mk]; exact hx), if_neg (fun h => h.2.1 hx)]
      · rw [if_neg (by rw [toL_mk]; exact hx), sizes, if_pos ⟨hd, hx, ha⟩]
    · rw [if_neg (by rw [toL_mk]; exact fun h => ha (dropWhile_nil.1 h)), if_neg (fun h => ha h.2.2)]
theorem tail_g (lv : Nat) (c : Prop) [Decidable c] (hc : ¬ c) (d r : Bs) : tailT (lv : Int) c (mk d) (⟨#[]⟩ : ByteArray) (mk r) = some (kubeT (if d ≠ [] ∧ r = [] then some (lv, d, []) else none)) := by
  unfold tailT
  by_cases hd : d = []
  · rw [if_pos (by rw [toL_mk]; exact hd), if_neg (fun h => h.1 hd)]
  · rw [if_neg (by rw [toL_mk]; exact hd)]
    by_cases ha : r = []
    · rw [if_pos (by rw [toL_mk]; exact ha), if_neg hc, if_pos (show d ≠ [] ∧ r = [] from ⟨hd, ha⟩)]
      exact sizes lv d []
    · rw [if_neg (by rw [toL_mk]; exact ha), if_neg (fun h => ha h.2)]
theorem kube_v (t : Bs) : kube (118 :: t) = if t.takeWhile dg ≠ [] then kubeR (t.takeWhile dg) (t.dropWhile dg) else none := by
  rw [kube]
  by_cases h : t.takeWhile dg ≠ []
  · rw [if_pos ⟨rfl, h⟩, if_pos h]
  · rw [if_neg (fun q => h q.2), if_neg h]
theorem kube_n {c : UInt8} (t : Bs) (h : c ≠ 118) : kube (c :: t) = none := by rw [kube, if_neg (fun q => h q.1)]
theorem pureE {α : Type} {g : Nat → Option α} {r : α} (h : ∀ k, g k = some r) : Ev g r := ⟨0, fun k _ => h k⟩
theorem kubeT_ev (l : Bs) (hl : l.length ≤ 4611686018427387904) : Ev (fun k => spec_Kube.f k (mk l)) (kubeT (kube l)) := by
  cases l with
  | nil =>
    refine congr (f := fun k => spec_Kube.j0 k (mk []) (⟨#[]⟩ : ByteArray) true) (fun k => by unfold spec_Kube.f; rw [if_pos (by rw [toL_mk])]) ?_
    exact Evs.at1 fun k => by rw [spec_Kube.j0, if_pos rfl]; rfl
  | cons c t =>
    refine congr (f := fun k => spec_Kube.j0 k (mk (c :: t)) (⟨#[]⟩ : ByteArray) ((c.toNat : Int) != 118)) (fun k => by unfold spec_Kube.f; rw [if_neg (by rw [toL_mk]; simp), if_pos (by rw [sz]; simp only [List.length_cons]; omega), bt_head]) ?_
    by_cases hc : c = 118
    · subst hc
      have hA : (⟨#[97, 108, 112, 104, 97]⟩ : ByteArray) = mk alphaB := rfl
      have hB : (⟨#[98, 101, 116, 97]⟩ : ByteArray) = mk betaB := rfl
      have hr : (t.dropWhile dg).length ≤ t.length := by
        have := congrArg List.length (List.takeWhile_append_dropWhile (p := dg) (l := t))
        rw [List.length_append] at this; omega
      have ht : t.length ≤ 4611686018427387904 := by simp only [List.length_cons] at hl; omega
      have hE : (mk (118 :: t)).extract 1 (mk (118 :: t)).size = mk t := dropE (118 :: t) 1
      rw [kube_v]
      generalize hd : t.takeWhile dg = d
      generalize hR : t.dropWhile dg = r at hr
      have hV := vdigits_ev t ht
      rw [hd, hR] at hV
      have hk : (if d ≠ [] then kubeR d r else none) = if r.take 5 = alphaB then rest 0 d (r.drop 5) else if r.take 4 = betaB then rest 1 d (r.drop 4) else if d ≠ [] ∧ r = [] then some (2, d, []) else none := by
        unfold kubeR rest
        by_cases h0 : d ≠ []
        · rw [if_pos h0]
          by_cases h1 : r = []
          · subst h1; rw [if_pos rfl, if_neg (by decide), if_neg (by decide), if_pos ⟨h0, rfl⟩]
          · rw [if_neg h1]
            simp only [h0, h1, ne_eq, not_false_eq_true, true_and, and_false, if_false]
        · rw [if_neg h0]
          simp only [h0, false_and, if_false, ite_self]
      rw [hk]
      refine step (f := fun k => (spec_verDigits.f k (mk t)).bind fun bt102 => ((spec_VerHead.f bt102.2 (mk alphaB)).bind fun t104 => (if t104 = true then (if 5 ≤ (bt102.2.size : Int) then ((spec_verDigits.f k (bt102.2.extract 5 bt102.2.size)).bind fun bt105 => tailT 0 (0 < 2) bt102.1 bt105.1 bt105.2) else (none)) else ((spec_VerHead.f bt102.2 (mk betaB)).bind fun t107 => (if t107 = true then (if 4 ≤ (bt102.2.size : Int) then ((spec_verDigits.f k (bt102.2.extract 4 bt102.2.size)).bind fun bt108 => tailT 1 (1 < 2) bt102.1 bt108.1 bt108.2) else (none)) else tailT 2 (2 < 2) bt102.1 (⟨#[]⟩ : ByteArray) bt102.2))))) (fun k => by
        rw [spec_Kube.j0, if_neg (by decide), if_pos (by rw [sz]; simp only [List.length_cons]; omega), hE]) ?_
      refine bindE hV ?_
      simp only [head_f, Option.bind_some]
      by_cases h5 : r.take 5 = alphaB
      · have hlen : 5 ≤ r.length := by have := congrArg List.length h5; rw [List.length_take] at this; simp only [List.length_cons, List.length_nil] at this; omega
        rw [if_pos h5]
        refine Evs.yes (beq_iff_eq.2 h5) (Evs.yes (by rw [sz]; omega) ?_)
        rw [dropE]
        refine bindE (vdigits_ev (r.drop 5) (by rw [List.length_drop]; omega)) ?_
        exact pureE fun k => tail_f 0 (0 < 2) (by decide) d (r.drop 5)
      · rw [if_neg h5]
        refine Evs.no (fun h => h5 (beq_iff_eq.1 h)) ?_
        by_cases h4 : r.take 4 = betaB
        · have hlen : 4 ≤ r.length := by have := congrArg List.length h4; rw [List.length_take] at this; simp only [List.length_cons, List.length_nil] at this; omega
          rw [if_pos h4]
          refine Evs.yes (beq_iff_eq.2 h4) (Evs.yes (by rw [sz]; omega) ?_)
          rw [dropE]
          refine bindE (vdigits_ev (r.drop 4) (by rw [List.length_drop]; omega)) ?_
          exact pureE fun k => tail_f 1 (1 < 2) (by decide) d (r.drop 4)
        · rw [if_neg h4]
          refine Evs.no (fun h => h4 (beq_iff_eq.1 h)) ?_
          exact pureE fun k => tail_g 2 (2 < 2) (by decide) d r
    · rw [kube_n t hc]
      have hb : (((c.toNat : Int) != 118) : Bool) = true := bne_iff_ne.2 (fun h => hc (UInt8.toNat_inj.1 (show c.toNat = 118 by omega)))
      exact Evs.at1 fun k => by rw [hb, spec_Kube.j0, if_pos rfl]
theorem kubeT_ask (l : Bs) : (kubeT (kube l)).2.2.2.2 = kaskB l := by
  unfold kaskB
  cases kube l <;> rfl
theorem numI_ex (x y : Bs) (hl : x.length ≤ 4611686018427387904) (hxy : x.length = y.length) : ∀ (n i : Nat), x.length - i = n → i ≤ x.length → ∃ v, Ev (fun k => spec_NumOrder.l0 k (mk x) (mk y) (i : Int)) v := by
  intro n
  induction n with
  | zero =>
    intro i h1 h2
    exact ⟨0, Evs.at1 fun k => by rw [spec_NumOrder.l0, if_neg (by rw [sz]; omega)]⟩
  | succ n ih =>
    intro i h1 h2
    by_cases hb : bt (mk x) (i : Int) = bt (mk y) (i : Int)
    · obtain ⟨v, hv⟩ := ih (i + 1) (by omega) (by omega)
      exact ⟨v, step (f := fun k => spec_NumOrder.l0 k (mk x) (mk y) ((i + 1 : Nat) : Int)) (fun k => by rw [spec_NumOrder.l0, if_pos (by rw [sz]; omega), if_pos (by omega), if_pos (by rw [sz]; omega), if_pos hb, w64s i (by omega)]) hv⟩
    · by_cases hlt : bt (mk x) (i : Int) < bt (mk y) (i : Int)
      · exact ⟨-1, Evs.at1 fun k => by rw [spec_NumOrder.l0, if_pos (by rw [sz]; omega), if_pos (by omega), if_pos (by rw [sz]; omega), if_neg hb, if_pos hlt]⟩
      · exact ⟨1, Evs.at1 fun k => by rw [spec_NumOrder.l0, if_pos (by rw [sz]; omega), if_pos (by omega), if_pos (by rw [sz]; omega), if_neg hb, if_neg hlt]⟩
theorem num_ex (x y : Bs) (hl : x.length ≤ 4611686018427387904) : ∃ v, Ev (fun k => spec_NumOrder.f k (mk x) (mk y)) v := by
  by_cases h : x.length = y.length
  · obtain ⟨v, hv⟩ := numI_ex x y hl h _ 0 rfl (Nat.zero_le _)
    exact ⟨v, congr (fun k => by unfold spec_NumOrder.f; rw [if_pos (by rw [sz, sz]; omega)]; rfl) hv⟩
  · by_cases h2 : x.length < y.length
    · exact ⟨-1, pureE fun k => by unfold spec_NumOrder.f; rw [if_neg (by rw [sz, sz]; omega), if_pos (by rw [sz, sz]; omega)]⟩
    · exact ⟨1, pureE fun k => by unfold spec_NumOrder.f; rw [if_neg (by rw [sz, sz]; omega), if_neg (by rw [sz, sz]; omega)]⟩
theorem l1_ex (x : Bs) (hl : x.length ≤ 4611686018427387904) : ∀ (y : Bs), ∃ v, Ev (fun k => spec_verNumber.l1 k (mk x) (mk y)) v
  | [] => by
    obtain ⟨v, hv⟩ := num_ex x [] hl
    exact ⟨v, step (f := fun k => (spec_NumOrder.f k (mk x) (mk [])).bind fun t111 => (some t111)) (fun k => by rw [spec_verNumber.l1, if_neg (by rw [sz]; simp)]) (bindE hv (const _))⟩
  | c :: t => by
    by_cases h : bt (mk (c :: t)) 0 = 48
    · obtain ⟨v, hv⟩ := l1_ex x hl t
      exact ⟨v, step (f := fun k => spec_verNumber.l1 k (mk x) (mk t)) (fun k => by rw [spec_verNumber.l1, if_pos (by rw [sz]; simp only [List.length_cons]; omega), if_pos (by rw [sz]; simp only [List.length_cons]; omega), if_pos h, if_pos (by rw [sz]; simp only [List.length_cons]; omega), dropE]; rfl) hv⟩
    · obtain ⟨v, hv⟩ := num_ex x (c :: t) hl
      exact ⟨v, step (f := fun k => (spec_NumOrder.f k (mk x) (mk (c :: t))).bind fun t110 => (some t110)) (fun k => by rw [spec_verNumber.l1, if_pos (by rw [sz]; simp only [List.length_cons]; omega), if_pos (by rw [sz]; simp only [List.length_cons]; omega), if_neg h]) (bindE hv (const _))⟩
theorem l0_ex (y : Bs) : ∀ (x : Bs), x.length ≤ 4611686018427387904 → ∃ v, Ev (fun k => spec_verNumber.l0 k (mk x) (mk y)) v
  | [], _ => by
    obtain ⟨v, hv⟩ := l1_ex [] (by simp) y
    exact ⟨v, step (f := fun k => spec_verNumber.j1 k (mk []) (mk y)) (fun k => by rw [spec_verNumber.l0, if_neg (by rw [sz]; simp)]) (step (fun k => by rw [spec_verNumber.j1]) hv)⟩
  | c :: t, hl => by
    by_cases h : bt (mk (c :: t)) 0 = 48
    · obtain ⟨v, hv⟩ := l0_ex y t (by simp only [List.length_cons] at hl; omega)
      exact ⟨v, step (f := fun k => spec_verNumber.l0 k (mk t) (mk y)) (fun k => by rw [spec_verNumber.l0, if_pos (by rw [sz]; simp only [List.length_cons]; omega), if_pos (by rw [sz]; simp only [List.length_cons]; omega), if_pos h, if_pos (by rw [sz]; simp only [List.length_cons]; omega), dropE]; rfl) hv⟩
    · obtain ⟨v, hv⟩ := l1_ex (c :: t) hl y
      exact ⟨v, step (f := fun k => spec_verNumber.j1 k (mk (c :: t)) (mk y)) (fun k => by rw [spec_verNumber.l0, if_pos (by rw [sz]; simp only [List.length_cons]; omega), if_pos (by rw [sz]; simp only [List.length_cons]; omega), if_neg h]) (step (fun k => by rw [spec_verNumber.j1]) hv)⟩
theorem vnum_ex (x y : Bs) (hl : x.length ≤ 4611686018427387904) : ∃ v, Ev (fun k => spec_verNumber.f k (mk x) (mk y)) v := l0_ex y x hl
def sgn (x : Int) : Int := if x < 0 then -1 else if x > 0 then 1 else 0
theorem sign_f (x : Int) : spec_verSign.f x = some (sgn x) := by
  unfold spec_verSign.f sgn
  split
  · rfl
  · split <;> rfl
theorem j4_ex (x6 x11 : Int) (p q r s : Bs) (hp : p.length ≤ 4611686018427387904) (hq : q.length ≤ 4611686018427387904) (x9 x60 : Bool) : ∃ v, Ev (fun k => spec_KubeOrder.j4 k x6 (mk p) (mk q) x9 x11 (mk r) (mk s) x60) (v, true) := by
  cases x60 with
  | true => exact ⟨-1, Evs.at1 fun k => by rw [spec_KubeOrder.j4, if_pos rfl]⟩
  | false =>
    cases x9 with
    | false => exact ⟨0, Evs.at1 fun k => by rw [spec_KubeOrder.j4, if_neg (by decide), if_neg (by decide)]⟩
    | true =>
      by_cases h : x6 = x11
      · obtain ⟨v, hv⟩ := vnum_ex p r hp
        have st : ∀ k, spec_KubeOrder.j4 (k + 1) x6 (mk p) (mk q) true x11 (mk r) (mk s) false = (spec_verNumber.f k (mk p) (mk r)).bind fun t123 => (if t123 = 0 then ((spec_verNumber.f k (mk q) (mk s)).bind fun t124 => (some (t124, true))) else (some (t123, true))) := fun k => by
          rw [spec_KubeOrder.j4, if_neg (by decide), if_pos rfl, if_pos h]
        by_cases h0 : v = 0
        · obtain ⟨u, hu⟩ := vnum_ex q s hq
          exact ⟨u, step st (bindE hv (Evs.yes h0 (bindE hu (const _))))⟩
        · exact ⟨v, step st (bindE hv (Evs.no h0 (const _)))⟩
      · refine ⟨sgn (wrap64 (x6 - x11)), Evs.at1 fun k => ?_⟩
        rw [spec_KubeOrder.j4, if_neg (by decide), if_pos rfl, if_neg h, sign_f]; rfl
theorem j3_ex (a b : ByteArray) (x6 x11 : Int) (p q r s : Bs) (hp : p.length ≤ 4611686018427387904) (hq : q.length ≤ 4611686018427387904) (x9 x : Bool) : ∃ v, Ev (fun k => spec_KubeOrder.j3 k a b x6 (mk p) (mk q) x9 x11 (mk r) (mk s) x) (v, true) := by
  cases x with
  | true => exact ⟨1, Evs.at1 fun k => by rw [spec_KubeOrder.j3, if_pos rfl]⟩
  | false =>
    cases x9 with
    | false =>
      obtain ⟨v, hv⟩ := j4_ex x6 x11 p q r s hp hq false (Op.bytesLess b.toList a.toList)
      exact ⟨v, step (fun k => by rw [spec_KubeOrder.j3, if_neg (by decide), if_neg (by decide)]) hv⟩
    | true =>
      obtain ⟨v, hv⟩ := j4_ex x6 x11 p q r s hp hq true false
      exact ⟨v, step (fun k => by rw [spec_KubeOrder.j3, if_neg (by decide), if_pos rfl]) hv⟩
theorem j2_ex (a b : ByteArray) (x6 x11 : Int) (p q r s : Bs) (hp : p.length ≤ 4611686018427387904) (hq : q.length ≤ 4611686018427387904) (x9 x : Bool) : ∃ v, Ev (fun k => spec_KubeOrder.j2 k a b x6 (mk p) (mk q) x9 x11 (mk r) (mk s) x) (v, true) := by
  cases x with
  | true => exact ⟨-1, Evs.at1 fun k => by rw [spec_KubeOrder.j2, if_pos rfl]⟩
  | false =>
    cases x9 with
    | false =>
      obtain ⟨v, hv⟩ := j3_ex a b x6 x11 p q r s hp hq false (Op.bytesLess a.toList b.toList)
      exact ⟨v, step (fun k => by rw [spec_KubeOrder.j2, if_neg (by decide), if_neg (by decide)]) hv⟩
    | true =>
      obtain ⟨v, hv⟩ := j3_ex a b x6 x11 p q r s hp hq true false
      exact ⟨v, step (fun k => by rw [spec_KubeOrder.j2, if_neg (by decide), if_pos rfl]) hv⟩
theorem j1_ex (a b : ByteArray) (x6 x11 : Int) (p q r s : Bs) (hp : p.length ≤ 4611686018427387904) (hq : q.length ≤ 4611686018427387904) (x9 x14 x : Bool) : ∃ v, Ev (fun k => spec_KubeOrder.j1 k a b x6 (mk p) (mk q) x9 x11 (mk r) (mk s) x14 x) (v, true) := by
  cases x with
  | true => exact ⟨1, Evs.at1 fun k => by rw [spec_KubeOrder.j1, if_pos rfl]⟩
  | false =>
    cases x9 with
    | false =>
      obtain ⟨v, hv⟩ := j2_ex a b x6 x11 p q r s hp hq false x14
      exact ⟨v, step (fun k => by rw [spec_KubeOrder.j1, if_neg (by decide), if_neg (by decide)]) hv⟩
    | true =>
      obtain ⟨v, hv⟩ := j2_ex a b x6 x11 p q r s hp hq true false
      exact ⟨v, step (fun k => by rw [spec_KubeOrder.j1, if_neg (by decide), if_pos rfl]) hv⟩
theorem j0_ex (a b : ByteArray) (x6 x11 : Int) (p q r s : Bs) (hp : p.length ≤ 4611686018427387904) (hq : q.length ≤ 4611686018427387904) (x9 x14 x : Bool) : ∃ v, Ev (fun k => spec_KubeOrder.j0 k a b x6 (mk p) (mk q) x9 x11 (mk r) (mk s) x14 x) (v, !x) := by
  cases x with
  | true => exact ⟨0, Evs.at1 fun k => by rw [spec_KubeOrder.j0, if_pos rfl]; rfl⟩
  | false =>
    cases x9 with
    | false =>
      obtain ⟨v, hv⟩ := j1_ex a b x6 x11 p q r s hp hq false x14 false
      exact ⟨v, step (fun k => by rw [spec_KubeOrder.j0, if_neg (by decide), if_neg (by decide)]) hv⟩
    | true =>
      obtain ⟨v, hv⟩ := j1_ex a b x6 x11 p q r s hp hq true x14 (!x14)
      exact ⟨v, step (fun k => by rw [spec_KubeOrder.j0, if_neg (by decide), if_pos rfl]) hv⟩
theorem kubeT_mk (l : Bs) : ∃ (n : Int) (p q : Bs) (b : Bool), kubeT (kube l) = (n, mk p, mk q, b, kaskB l) ∧ p.length ≤ l.length ∧ q.length ≤ l.length := by
  cases h : kube l with
  | none => exact ⟨0, [], [], false, by rw [← kubeT_ask, h], Nat.zero_le _, Nat.zero_le _⟩
  | some x =>
    have hk := kube_some h
    exact ⟨x.1, x.2.1, x.2.2, true, by rw [← kubeT_ask, h], hk.2.2.2.2.1, hk.2.2.2.2.2⟩
theorem order_ex (a b : Bs) (ha : a.length ≤ 4611686018427387904) (hb : b.length ≤ 4611686018427387904) : ∃ v, Ev (fun k => spec_KubeOrder.f k (mk a) (mk b)) (v, kaskB a && kaskB b) := by
  have e1 := kubeT_ev a ha
  have e2 := kubeT_ev b hb
  obtain ⟨n, p, q, x, h1, hp, hq⟩ := kubeT_mk a
  obtain ⟨m, r, s, y, h2, -, -⟩ := kubeT_mk b
  rw [h1] at e1
  rw [h2] at e2
  cases ka : kaskB a with
  | true =>
    rw [ka] at e1
    obtain ⟨v, hv⟩ := j0_ex (mk a) (mk b) n m p q r s (by omega) (by omega) x y (!kaskB b)
    refine ⟨v, ?_⟩
    rw [Bool.true_and]
    rw [Bool.not_not] at hv
    exact bindE e1 (bindE e2 (Evs.yes rfl hv))
  | false =>
    rw [ka] at e1
    obtain ⟨v, hv⟩ := j0_ex (mk a) (mk b) n m p q r s (by omega) (by omega) x y true
    exact ⟨v, bindE e1 (bindE e2 (Evs.no (fun h => Bool.false_ne_true h) hv))⟩
theorem sgn_neg (x : Int) : sgn (-x) = -sgn x := by unfold sgn; split <;> split <;> (try split) <;> omega
theorem sgn_range (x : Int) : -1 ≤ sgn x ∧ sgn x ≤ 1 := by unfold sgn; split <;> (try split) <;> omega
theorem sgn_nn (x : Int) : 0 ≤ sgn x ↔ 0 ≤ x := by unfold sgn; split <;> (try split) <;> omega
theorem cmp_f (a b : Bs) (ha : a.length ≤ 2147483647) (hb : b.length ≤ 2147483647) (ka : kaskB a = true) (kb : kaskB b = true) : impl_KubeCompare.f (mk a) (mk b) = some (kcmp a b) := by
  unfold impl_KubeCompare.f
  rw [Lb_mk, Lb_mk, if_pos ⟨⟨by rw [size_mk]; omega, by rw [size_mk]; omega⟩, ka, kb⟩]
theorem Sign_f (x : Int) : spec_Sign.f x = some (sgn x) := by unfold spec_Sign.f; rw [sign_f]; rfl
theorem core (a b c : Bs) (ha : a.length ≤ 2147483647) (hb : b.length ≤ 2147483647) (hc : c.length ≤ 2147483647) (ka : kaskB a = true) (kb : kaskB b = true) (kc : kaskB c = true) : Ev (fun k => laws_FnKubeOrders.j1 k (mk a) (mk b) (mk c) false) true := by
  refine Evs.at1 fun k => ?_
  rw [laws_FnKubeOrders.j1, if_neg (by decide), cmp_f a b ha hb ka kb, Option.bind_some, Sign_f, Option.bind_some, cmp_f b a hb ha kb ka, Option.bind_some, Sign_f, Option.bind_some, cmp_f b c hb hc kb kc, Option.bind_some, Sign_f, Option.bind_some, cmp_f a c ha hc ka kc, Option.bind_some, Sign_f, Option.bind_some]
  have hn : sgn (kcmp a b) = wrap64 (-sgn (kcmp b a)) := by
    rw [kcmp_neg a b, sgn_neg]
    have := sgn_range (kcmp b a)
    obtain ⟨h1, h2⟩ := this
    exact (w64 (-sgn (kcmp b a)) (by omega) (by omega)).symm
  have hfin : (if sgn (kcmp a b) < 0 then ((laws_verAwake.f).bind fun t138 => (some t138)) else (if sgn (kcmp b c) < 0 then ((laws_verAwake.f).bind fun t139 => (some t139)) else (if sgn (kcmp a c) ≥ 0 then ((laws_verAwake.f).bind fun t140 => (some t140)) else (some false)))) = some true := by
    by_cases h1 : sgn (kcmp a b) < 0
    · rw [if_pos h1]; rfl
    · rw [if_neg h1]
      by_cases h2 : sgn (kcmp b c) < 0
      · rw [if_pos h2]; rfl
      · rw [if_neg h2, if_pos ((sgn_nn _).2 (kcmp_trans a b c ((sgn_nn _).1 (by omega)) ((sgn_nn _).1 (by omega))))]; rfl
  rw [if_pos hn]
  by_cases he : a = b
  · rw [if_pos (by rw [he]), if_pos (by rw [he, kcmp_self]; rfl)]
    exact hfin
  · rw [if_neg (by rw [toL_mk, toL_mk]; exact he)]
    exact hfin
theorem law_ev (a b c : Bs) : Ev (fun k => laws_FnKubeOrders.f k (mk a) (mk b) (mk c)) true := by
  have no : Ev (fun k => laws_FnKubeOrders.j0 k (mk a) (mk b) (mk c) true) true := Evs.at1 fun k => by rw [laws_FnKubeOrders.j0, if_pos rfl]
  have no1 : Ev (fun k => laws_FnKubeOrders.j1 k (mk a) (mk b) (mk c) true) true := Evs.at1 fun k => by rw [laws_FnKubeOrders.j1, if_pos rfl]
  by_cases ha : a.length ≤ 2147483647
  · by_cases hb : b.length ≤ 2147483647
    · refine congr (f := fun k => laws_FnKubeOrders.j0 k (mk a) (mk b) (mk c) (decide (((mk c).size : Int) > 2147483647))) (fun k => by unfold laws_FnKubeOrders.f; rw [if_neg (by rw [sz]; omega), if_neg (by rw [sz]; omega)]) ?_
      by_cases hc : c.length ≤ 2147483647
      · rw [decide_eq_false (by rw [sz]; omega)]
        obtain ⟨v, hv⟩ := order_ex a b (by omega) (by omega)
        obtain ⟨u, hu⟩ := order_ex b c (by omega) (by omega)
        refine step (f := fun k => (spec_KubeOrder.f k (mk a) (mk b)).bind fun bt126 => ((spec_KubeOrder.f k (mk b) (mk c)).bind fun bt128 => (if bt126.2 = true then (laws_FnKubeOrders.j1 k (mk a) (mk b) (mk c) (!bt128.2)) else (laws_FnKubeOrders.j1 k (mk a) (mk b) (mk c) true)))) (fun k => by rw [laws_FnKubeOrders.j0, if_neg (by decide)]) ?_
        refine bindE hv (bindE hu ?_)
        cases ka : kaskB a with
        | false => exact Evs.no (by simp) no1
        | true =>
          cases kb : kaskB b with
          | false => exact Evs.no (by simp) no1
          | true =>
            cases kc : kaskB c with
            | false => exact Evs.yes rfl no1
            | true => exact Evs.yes rfl (core a b c ha hb hc ka kb kc)
      · rw [decide_eq_true (by rw [sz]; omega)]; exact no
    · exact congr (fun k => by unfold laws_FnKubeOrders.f; rw [if_neg (by rw [sz]; omega), if_pos (by rw [sz]; omega)]) no
  · exact congr (fun k => by unfold laws_FnKubeOrders.f; rw [if_pos (by rw [sz]; omega)]) no
theorem law_holds : laws_FnKubeOrders.Pure := by
  intro a0 a1 a2 _ _ _
  have h := law_ev (Lb a0) (Lb a1) (Lb a2)
  rw [mk_Lb, mk_Lb, mk_Lb] at h
  obtain ⟨K, hK⟩ := h
  exact ⟨K, hK K (Nat.le_refl _)⟩
end Go.Proofs.YtomoefldmgfaoaaDoor.Pv.SFnKubeOrders
