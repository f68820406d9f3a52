/- The highest supported version of a list: what it is, and that the program finds it. -/
import Derived.Test.YtomoefldmgfaoaaDoorPvK
set_option linter.unusedVariables false
set_option linter.unusedSimpArgs false
set_option linter.unusedVariables false
set_option linter.unusedSimpArgs false
namespace Go.Proofs.YtomoefldmgfaoaaDoor.Pv
open Go Go.RowKit Go.Proofs.YtomoefldmgfaoaaDoor Go.Proofs.YtomoefldmgfaoaaDoorW.PrintWords Go.Proofs.YtomoefldmgfaoaaDoor.PvH Go.Proofs.YtomoefldmgfaoaaDoor.Txt Go.Proofs.YtomoefldmgfaoaaDoor.Small

set_option maxRecDepth 100000 in
theorem lessG_calls (ga ca : Nat) (na : List Nat) (sa : Bool) (pa ba : ByteArray) (gb cb : Nat) (nb : List Nat) (sb : Bool) (pb bb : ByteArray) (hs : (sa && sb) = false) (hla : na.length ≤ 1099511627776) (hlb : nb.length ≤ 1099511627776) (w : World) (hA : IsVer w ga ca na sa pa ba) (hB : IsVer w gb cb nb sb pb bb) :
    Calls Tryd.prog 73 #[.pointer (some ⟨ga, 0, none⟩), .pointer (some ⟨gb, 0, none⟩)] w fun e w' => e = .returned (.bool (vcmp na nb == -1)) ∧ Below w.heap.size w w' := by
  have HC := Aside0.mk (fun w hA hB => cmp_calls ga ca na sa pa ba gb cb nb sb pb bb hs hla hlb w hA hB)
  have VA := Aside0.mk hA
  have VB := Aside0.mk hB
  clear hs hla hlb hA hB
  go_enter Tryd.func73, Tryd.ntmps73
  go_wp2_with (go_at_call 87; (with_reducible refine (HC.out _ VA.out VB.out).mono ?_); rintro e w1 ⟨rfl, hb⟩)
  go_ret
  exact ⟨by first | rfl | (simp; done), hb⟩
/-- One text more, ahead of the others. -/
def hstep (o : Option Pd) (l : Bs) : Option Pd := match pgen l with
  | none => o
  | some q => if 1 < pt q.2.1 0 then o else match o with
    | none => some q
    | some h => if vcmp h.2.1 q.2.1 = -1 then some q else some h
def hscan : List Bs → Option Pd
  | [] => none
  | l :: t => hstep (hscan t) l
def hres (ls : List Bs) : Option Pd := match hscan ls with
  | none => none
  | some q => if pt q.2.1 0 = 1 then some q else none
theorem pgen_false {l : Bs} {q : Pd} (h : pgen l = some q) : q.1 = false := by
  unfold pgen at h
  cases hp : pparse false l with
  | none => rw [hp] at h; cases h
  | some x => rw [hp] at h; injection h with h; rw [← h]
theorem hscan_fit {M : Nat} : ∀ (ls : List Bs), (∀ l ∈ ls, l.length ≤ M) → ∀ q, hscan ls = some q → q.1 = false ∧ FitP M q
  | [], _, q, h => by cases h
  | l :: t, hl, q, h => by
    have ih := hscan_fit t (fun x hx => hl x (List.mem_cons_of_mem _ hx))
    have key : ∀ x, pgen l = some x → x.1 = false ∧ FitP M x := fun x hx => by
      obtain ⟨f1, f2, f3, f4, f5⟩ := pgen_fit hx
      have := hl l (List.mem_cons_self ..)
      exact ⟨pgen_false hx, f1, by omega, f3, by omega, by omega⟩
    rw [hscan, hstep] at h
    cases hp : pgen l with
    | none => rw [hp] at h; exact ih q h
    | some x =>
      rw [hp] at h
      simp only at h
      by_cases c : 1 < pt x.2.1 0
      · rw [if_pos c] at h; exact ih q h
      · rw [if_neg c] at h
        cases ho : hscan t with
        | none => rw [ho] at h; injection h with h; subst h; exact key _ hp
        | some y =>
          rw [ho] at h
          simp only at h
          by_cases c2 : vcmp y.2.1 x.2.1 = -1
          · rw [if_pos c2] at h; injection h with h; subst h; exact key _ hp
          · rw [if_neg c2] at h; injection h with h; subst h; exact ih _ ho
theorem hres_fit {M : Nat} (ls : List Bs) (hl : ∀ l ∈ ls, l.length ≤ M) (q : Pd) (h : hres ls = some q) : q.1 = false ∧ FitP M q := by
  unfold hres at h
  cases ho : hscan ls with
  | none => rw [ho] at h; cases h
  | some x =>
    rw [ho] at h
    simp only at h
    by_cases c : pt x.2.1 0 = 1
    · rw [if_pos c] at h; injection h with h; subst h; exact hscan_fit ls hl _ ho
    · rw [if_neg c] at h; cases h
/-- The greatest one so far. -/
def HPtr (w : World) (base : Nat) (v : Value) : Option Pd → Prop
  | none => v = .pointer none
  | some q => ∃ g c, v = .pointer (some ⟨g, 0, none⟩) ∧ IsVer w g c q.2.1 q.1 (mk q.2.2.1) (mk q.2.2.2) ∧ base ≤ g ∧ base ≤ c
theorem HPtr.below {w w' : World} {base : Nat} {v : Value} {o : Option Pd} (h : HPtr w base v o) (hb : Below w.heap.size w w') : HPtr w' base v o := by
  cases o with
  | none => exact h
  | some q =>
    obtain ⟨g, c, h1, h2, h3, h4⟩ := h
    exact ⟨g, c, h1, h2.below hb, h3, h4⟩
set_option maxHeartbeats 64000000 in
set_option maxRecDepth 1000000 in
theorem high_calls (A : Option Addr) (cp : Nat) (ls : List ByteArray) (w : World) (hr : Kd.C Kd.string w A ls.length ls) (hc : ls.length ≤ cp) (hs : ∀ s ∈ ls, s.size ≤ 549755813888) (hl : ls.length ≤ 1099511627776) (hg : Good w) :
    Calls Tryd.prog 51 #[.slice A ls.length cp] w fun e w' => ToldK w w' e (hres (ls.map Lb)) ∧ Below w.heap.size w w' := by
  have mixed : Tryd.prog.follows .mixedOrders = true := by kernel_rfl
  have HR := Aside0.mk hr
  have HG := Aside0.mk hg
  have HL := Aside0.mk hl
  have HS := Aside0.mk hs
  have HF := Aside0.mk (fun (t : List Bs) (ht : ∀ l ∈ t, l.length ≤ 549755813888) q (h : hscan t = some q) => hscan_fit t ht q h)
  clear hr hg hs
  by_cases h0 : ls.length = 0
  · have hn : ls = [] := List.length_eq_zero_iff.1 h0
    subst hn
    clear h0 hl hc
    go_enter Tryd.func51, Tryd.ntmps51
    go_wp2_with (go_at_call 72; (with_reducible refine (errors_New.calls _ _).mono ?_); rintro e w2 ⟨⟨x, rfl⟩, hb⟩)
    go_ret2
    exact ⟨⟨_, _, rfl⟩, hb⟩
  · have n0 : ((ls.length : Int) = 0) = False := eq_false (by omega)
    have n1 : ((ls.length : Int) == 0) = false := beq_eq_false_iff_ne.2 (by omega)
    have n2 : (ls.length = 0) = False := eq_false h0
    have w9 : wrap64 ((ls.length : Int) - 1) = (ls.length : Int) - 1 := w64 _ (by omega) (by omega)
    have W9 := Aside0.mk w9
    clear h0 hl w9
    go_enter Tryd.func51, Tryd.ntmps51
    go_wp2
    go_loopw [4, 5] (fun h i wr => ∃ k : Nat, k ≤ ls.length ∧ i = .int .i64 ((k : Int) - 1) ∧ Aside0 (HPtr wr w.heap.size h (hscan ((ls.map Lb).drop k))) ∧ Aside0 (Below w.heap.size w wr)) (fun _ i _ => (intOf i + 1).toNat)
    case atStart => exact ⟨ls.length, Nat.le_refl _, by rw [W9.out], ⟨by rw [List.drop_eq_nil_of_le (by rw [List.length_map]; omega)]; rfl⟩, ⟨Below.refl _ _⟩⟩
    case round =>
      clear n0 n1 n2
      obtain ⟨k, hk, rfl, HP, HB⟩ := hrel
      cases k with
      | zero =>
        have p : ((0 : Int) ≤ ((0 : Nat) : Int) - 1) = False := eq_false (by omega)
        have p' : decide ((0 : Int) ≤ ((0 : Nat) : Int) - 1) = false := decide_eq_false (by omega)
        have e0 : ((0 : Nat) : Int) - 1 = -1 := rfl
        rw [e0]
        have hp := HP.out
        rw [List.drop_zero] at hp
        clear HP e0 p p'
        cases ho : hscan (ls.map Lb) with
        | none =>
          have HO : Aside0 (hres (ls.map Lb) = none) := ⟨by unfold hres; rw [ho]⟩
          rw [ho] at hp
          obtain rfl := hp
          clear ho
          go_wp2_with (go_at_call 72; (with_reducible refine (errors_New.calls _ _).mono ?_); rintro e w2 ⟨⟨x, rfl⟩, hb⟩; have B2 := Aside0.mk (below_step HB.out hb); clear hb)
          go_ret2
          exact ⟨by rw [HO.out]; exact ⟨_, _, rfl⟩, B2.out⟩
        | some q =>
          rw [ho] at hp
          obtain ⟨g, c, rfl, hv, hgb, hcb⟩ := hp
          have HV := Aside0.mk hv
          have GB := Aside0.mk hgb
          have CB := Aside0.mk hcb
          have hf := HF.out _ (fun l hl => by obtain ⟨s, hs, rfl⟩ := List.mem_map.1 hl; have := HS.out s hs; have e : s.size = (Lb s).length := size_len s; omega) q ho
          have HM := Aside0.mk (fun w hv => major_calls g c q.2.1 q.1 (mk q.2.2.1) (mk q.2.2.2) w hv hf.2.1)
          clear hv hgb hcb
          by_cases c1 : pt q.2.1 0 = 1
          · have HO : Aside0 (hres (ls.map Lb) = some q) := ⟨by unfold hres; rw [ho]; simp only; rw [if_pos c1]⟩
            rw [c1] at HM
            clear ho hf c1
            go_wp2_with (go_at_call 63; (with_reducible refine (HM.out _ HV.out).mono ?_); rintro e w2 ⟨rfl, rfl⟩)
            go_ret2
            exact ⟨by rw [HO.out]; exact ⟨g, c, rfl, HV.out, GB.out, CB.out⟩, HB.out⟩
          · have HO : Aside0 (hres (ls.map Lb) = none) := ⟨by unfold hres; rw [ho]; simp only; rw [if_neg c1]⟩
            generalize pt q.2.1 0 = u at HM c1
            have d1 : ((u : Int) = 1) = False := eq_false (by omega)
            have d2 : ((u : Int) == 1) = false := beq_eq_false_iff_ne.2 (by omega)
            have d3 : ((u : Int) != 1) = true := bne_iff_ne.2 (by omega)
            have d4 : (u = 1) = False := eq_false c1
            clear ho hf c1
            go_wp2_with (first
              | (go_at_call 63; (with_reducible refine (HM.out _ HV.out).mono ?_); rintro e w2 ⟨rfl, rfl⟩)
              | (go_at_call 72; (with_reducible refine (errors_New.calls _ _).mono ?_); rintro e w3 ⟨⟨x, rfl⟩, hb⟩; have B2 := Aside0.mk (below_step HB.out hb); clear hb))
            go_ret2
            exact ⟨by rw [HO.out]; exact ⟨_, _, rfl⟩, B2.out⟩
      | succ j =>
        have e1 : (((j + 1 : Nat) : Int) - 1) = (j : Int) := by omega
        rw [e1]
        have p : (0 ≤ (j : Int)) = True := eq_true (by omega)
        have p' : decide ((0 : Int) ≤ (j : Int)) = true := decide_eq_true (by omega)
        have q' : ((j : Int) < (ls.length : Int)) = True := eq_true (by omega)
        have w9 : wrap64 ((j : Int) - 1) = (j : Int) - 1 := w64 _ (by omega) (by have := HL.out; omega)
        have W8 := Aside0.mk w9
        obtain ⟨ad, eA, hx⟩ := Kd.at_string (Kd.C_below HR.out HB.out) (j : Int) (by omega) (by omega)
        cases eA
        have hm : rdOf ByteArray.empty ls (j : Int) ∈ ls := by
          rw [rdOf, Int.toNat_natCast, List.getD_eq_getElem?_getD, List.getElem?_eq_getElem (show j < ls.length by omega)]; exact List.getElem_mem ..
        have hd : hscan ((ls.map Lb).drop j) = hstep (hscan ((ls.map Lb).drop (j + 1))) (Lb (rdOf ByteArray.empty ls (j : Int))) := by
          rw [List.drop_eq_getElem_cons (show j < (ls.map Lb).length by rw [List.length_map]; omega), hscan, List.getElem_map]
          congr 2
          rw [rdOf, Int.toNat_natCast, List.getD_eq_getElem?_getD, List.getElem?_eq_getElem (show j < ls.length by omega)]; rfl
        have hfO := HF.out ((ls.map Lb).drop (j + 1)) (fun l hl => by obtain ⟨s, hs, rfl⟩ := List.mem_map.1 (List.mem_of_mem_drop hl); have := HS.out s hs; have e : s.size = (Lb s).length := size_len s; omega)
        have hsz := HS.out _ hm
        rw [Int.toNat_natCast] at hx
        generalize rdOf ByteArray.empty ls (j : Int) = s at hx hm hd hsz
        have HP' := HP
        clear HP
        generalize hscan ((ls.map Lb).drop (j + 1)) = O at HP' hd hfO
        have HC := Aside0.mk (fun w hg => gen_calls s (by omega) w hg)
        have hfq := fun q (h : pgen (Lb s) = some q) => (⟨pgen_false h, pgen_fit h⟩ : q.1 = false ∧ FitP (Lb s).length q)
        have hlen : (Lb s).length ≤ 549755813888 := by have e : s.size = (Lb s).length := size_len s; omega
        have HK := Aside0.mk (show j ≤ ls.length by omega)
        have HMz := Aside0.mk (show ((j : Int) - 1 + 1).toNat < ((j : Int) + 1).toNat by omega)
        clear hm hsz w9 e1 hk
        unfold hstep at hd
        cases hp : pgen (Lb s) with
        | none =>
          have H1 := Aside0.mk hp
          rw [hp] at hd
          simp only at hd
          have HD := Aside0.mk hd
          clear hd hp hfq hfO hlen
          go_wp2_with (go_at_call 66; (with_reducible refine (HC.out _ (HG.out.below HB.out)).mono ?_); rintro e w1 ⟨ht, hb⟩; rw [H1.out] at ht; obtain ⟨T, x, rfl⟩ := ht; have B1 := Aside0.mk (below_step HB.out hb); have P1 := Aside0.mk (HP'.out.below hb); clear hb)
          go_roundw
          case measure => rw [W8.out]; exact HMz.out
          case rel => exact ⟨j, HK.out, by rw [W8.out], ⟨by rw [HD.out]; exact P1.out⟩, B1⟩
        | some q =>
          have H1 := Aside0.mk hp
          rw [hp] at hd
          simp only at hd
          obtain ⟨hq1, hq2, hq3, hq4, hq5, hq6⟩ := hfq q hp
          have HM := Aside0.mk (fun g c w hv => major_calls g c q.2.1 q.1 (mk q.2.2.1) (mk q.2.2.2) w hv hq2)
          by_cases c1 : 1 < pt q.2.1 0
          · rw [if_pos c1] at hd
            have HD := Aside0.mk hd
            generalize pt q.2.1 0 = u at HM c1
            have d1 : ((1 : Int) < (u : Int)) = True := eq_true (by omega)
            have d2 : (1 < u) = True := eq_true c1
            have d3 : decide ((1 : Int) < (u : Int)) = true := decide_eq_true (by omega)
            clear hd hp hfq hfO hlen c1 hq1 hq2 hq3 hq4 hq5 hq6
            go_wp2_with (first
              | (go_at_call 66; (with_reducible refine (HC.out _ (HG.out.below HB.out)).mono ?_); rintro e w1 ⟨ht, hb⟩; rw [H1.out] at ht; obtain ⟨g, c, rfl, hv, h1, h2⟩ := ht; have V1 := Aside0.mk hv; have B1 := Aside0.mk (below_step HB.out hb); have P1 := Aside0.mk (HP'.out.below hb); clear hb hv h1 h2)
              | (go_at_call 63; (with_reducible refine (HM.out _ _ _ V1.out).mono ?_); rintro e w2 ⟨rfl, rfl⟩))
            go_roundw
            case measure => rw [W8.out]; exact HMz.out
            case rel => exact ⟨j, HK.out, by rw [W8.out], ⟨by rw [HD.out]; exact P1.out⟩, B1⟩
          · rw [if_neg c1] at hd
            cases O with
            | none =>
              simp only at hd
              have HD := Aside0.mk hd
              have hp' := HP'.out
              obtain rfl := hp'
              clear HP'
              generalize hU : pt q.2.1 0 = u at HM c1
              have d1 : ((1 : Int) < (u : Int)) = False := eq_false (by omega)
              have d2 : (1 < u) = False := eq_false c1
              have d3 : decide ((1 : Int) < (u : Int)) = false := decide_eq_false (by omega)
              clear hd hp hfq hfO hlen c1 hq1 hq2 hq3 hq4 hq5 hq6 hU
              go_wp2_with (first
                | (go_at_call 66; (with_reducible refine (HC.out _ (HG.out.below HB.out)).mono ?_); rintro e w1 ⟨ht, hb⟩; rw [H1.out] at ht; obtain ⟨g, c, rfl, hv, h1, h2⟩ := ht; have V1 := Aside0.mk hv; have B1 := Aside0.mk (below_step HB.out hb); have G1 := Aside0.mk (Nat.le_trans HB.out.size h1); have G2 := Aside0.mk (Nat.le_trans HB.out.size h2); clear hb hv h1 h2)
                | (go_at_call 63; (with_reducible refine (HM.out _ _ _ V1.out).mono ?_); rintro e w2 ⟨rfl, rfl⟩))
              go_roundw
              case measure => rw [W8.out]; exact HMz.out
              case rel => exact ⟨j, HK.out, by rw [W8.out], ⟨by rw [HD.out]; exact ⟨g, c, rfl, V1.out, G1.out, G2.out⟩⟩, B1⟩
            | some r =>
              simp only at hd
              obtain ⟨hr1, hr2, hr3, hr4, hr5, hr6⟩ := hfO r rfl
              obtain ⟨gr, cr, rfl, hvr, hgr, hcr⟩ := HP'.out
              have VR := Aside0.mk hvr
              have GR := Aside0.mk hgr
              have CR := Aside0.mk hcr
              have HLs := Aside0.mk (fun g c w hA hB => lessG_calls gr cr r.2.1 r.1 (mk r.2.2.1) (mk r.2.2.2) g c q.2.1 q.1 (mk q.2.2.1) (mk q.2.2.2) (by rw [hr1]; rfl) (by omega) (by omega) w hA hB)
              generalize hU : pt q.2.1 0 = u at HM c1
              have d1 : ((1 : Int) < (u : Int)) = False := eq_false (by omega)
              have d2 : (1 < u) = False := eq_false c1
              have d3 : decide ((1 : Int) < (u : Int)) = false := decide_eq_false (by omega)
              clear hp hfq hfO hlen c1 hq1 hq2 hq3 hq4 hq5 hq6 hr1 hr2 hr3 hr4 hr5 hr6 hvr hgr hcr HP' hU
              by_cases c2 : vcmp r.2.1 q.2.1 = -1
              · rw [if_pos c2] at hd
                have HD := Aside0.mk hd
                rw [c2] at HLs
                clear hd c2
                go_wp2_with (first
                  | (go_at_call 66; (with_reducible refine (HC.out _ (HG.out.below HB.out)).mono ?_); rintro e w1 ⟨ht, hb⟩; rw [H1.out] at ht; obtain ⟨g, c, rfl, hv, h1, h2⟩ := ht; have V1 := Aside0.mk hv; have VR1 := Aside0.mk (VR.out.below hb); have B1 := Aside0.mk (below_step HB.out hb); have G1 := Aside0.mk (Nat.le_trans HB.out.size h1); have G2 := Aside0.mk (Nat.le_trans HB.out.size h2); clear hb hv h1 h2)
                  | (go_at_call 63; (with_reducible refine (HM.out _ _ _ V1.out).mono ?_); rintro e w2 ⟨rfl, rfl⟩)
                  | (go_at_call 73; (with_reducible refine (HLs.out _ _ _ VR1.out V1.out).mono ?_); rintro e w3 ⟨rfl, hb⟩; have V3 := Aside0.mk (V1.out.below hb); have B3 := Aside0.mk (below_step B1.out hb); clear hb))
                go_roundw
                case measure => rw [W8.out]; exact HMz.out
                case rel => exact ⟨j, HK.out, by rw [W8.out], ⟨by rw [HD.out]; exact ⟨g, c, rfl, V3.out, G1.out, G2.out⟩⟩, B3⟩
              · rw [if_neg c2] at hd
                have HD := Aside0.mk hd
                rw [beq_eq_false_iff_ne.2 c2] at HLs
                clear hd c2
                go_wp2_with (first
                  | (go_at_call 66; (with_reducible refine (HC.out _ (HG.out.below HB.out)).mono ?_); rintro e w1 ⟨ht, hb⟩; rw [H1.out] at ht; obtain ⟨g, c, rfl, hv, h1, h2⟩ := ht; have V1 := Aside0.mk hv; have VR1 := Aside0.mk (VR.out.below hb); have B1 := Aside0.mk (below_step HB.out hb); clear hb hv h1 h2)
                  | (go_at_call 63; (with_reducible refine (HM.out _ _ _ V1.out).mono ?_); rintro e w2 ⟨rfl, rfl⟩)
                  | (go_at_call 73; (with_reducible refine (HLs.out _ _ _ VR1.out V1.out).mono ?_); rintro e w3 ⟨rfl, hb⟩; have V3 := Aside0.mk (VR1.out.below hb); have B3 := Aside0.mk (below_step B1.out hb); clear hb))
                go_roundw
                case measure => rw [W8.out]; exact HMz.out
                case rel => exact ⟨j, HK.out, by rw [W8.out], ⟨by rw [HD.out]; exact ⟨gr, cr, rfl, V3.out, GR.out, CR.out⟩⟩, B3⟩
end Go.Proofs.YtomoefldmgfaoaaDoor.Pv
