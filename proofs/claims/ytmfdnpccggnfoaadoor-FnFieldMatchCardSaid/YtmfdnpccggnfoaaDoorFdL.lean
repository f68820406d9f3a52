/- Fields match a selector's text just as its terms say: the law's walk. -/
import Derived.Test.YtmfdnpccggnfoaaDoorFdF
import Derived.Test.YtmfdnpccggnfoaaDoorFdR
import Derived.Test.YtmfdnpccggnfoaaDoorFdT
set_option linter.unusedVariables false
set_option linter.unusedSimpArgs false
namespace Go.Proofs.YtmfdnpccggnfoaaDoor.FdL
open Go Go.RowKit Go.Proofs.YtmfdnpccggnfoaaDoor.PFnFieldMatch Go.Proofs.YtmfdnpccggnfoaaDoorW.PrintWords Go.Proofs.YtmfdnpccggnfoaaDoor.Txt Go.Proofs.YtmfdnpccggnfoaaDoor Go.Proofs.YtmfdnpccggnfoaaDoor.FdN Go.Proofs.YtmfdnpccggnfoaaDoor.FdC Go.Proofs.YtmfdnpccggnfoaaDoor.FdS Go.Proofs.YtmfdnpccggnfoaaDoor.Fd Go.Proofs.YtmfdnpccggnfoaaDoor.FdR

theorem items_bound {M : Nat} : ∀ (ps : List (List UInt8)) (I : List Tm), (∀ p ∈ ps, p.length ≤ M) → items ps = some I → I.length ≤ ps.length ∧ ∀ t ∈ I, t.2.1.size ≤ M ∧ t.2.2.size ≤ M
  | [], I, _, h => by rw [items] at h; injection h with h; subst h; exact ⟨Nat.le_refl _, fun t ht => by cases ht⟩
  | p :: ps, I, hp, h => by
    have ih := items_bound (M := M) ps
    have hp' : ∀ q ∈ ps, q.length ≤ M := fun q hq => hp q (List.mem_cons_of_mem _ hq)
    by_cases h0 : p = []
    · rw [items_skip h0] at h
      obtain ⟨i1, i2⟩ := ih I hp' h
      exact ⟨by rw [List.length_cons]; omega, i2⟩
    · cases hc : cutOp p with
      | none => rw [items_no h0 hc] at h; cases h
      | some q =>
        obtain ⟨a, o, b⟩ := q
        cases hu : un b with
        | none => rw [items_bad h0 hc hu] at h; cases h
        | some v =>
          rw [items_yes h0 hc hu] at h
          obtain ⟨J, hJ, rfl⟩ := Option.map_eq_some_iff.1 h
          obtain ⟨i1, i2⟩ := ih J hp' hJ
          obtain ⟨hj, -⟩ := cut_join p a o b hc
          have hpl := hp p List.mem_cons_self
          have hl := congrArg List.length hj
          rw [List.length_append, List.length_append] at hl
          have hv := un_len _ b v (Nat.le_refl _) hu
          refine ⟨by rw [List.length_cons, List.length_cons]; omega, fun t ht => ?_⟩
          rcases List.mem_cons.1 ht with rfl | ht
          · exact ⟨by rw [mk_size]; omega, by rw [mk_size]; omega⟩
          · exact i2 t ht
theorem vok_of {p : List UInt8} (h : EscN.Val p) : VOk p := fun a o b hc => by
  obtain ⟨hj, ho⟩ := cut_join p a o b hc
  have : ∃ x, a ++ o = x ++ [61] := by
    rcases ho with rfl | rfl | rfl
    · exact ⟨a ++ [33], by simp⟩
    · exact ⟨a ++ [61], by simp⟩
    · exact ⟨a, rfl⟩
  obtain ⟨x, hx⟩ := this
  rw [hj, hx, List.append_assoc] at h
  exact (Val.split _ x 61 b (Nat.le_refl _) h (by decide)).2
theorem ends {w : World} {e : Ending} {w' : World} {b : Bool} (h : b = true) (he : e = .returned (.bool b)) : e = .returned (.bool true) := by rw [he, h]
set_option maxRecDepth 1000000 in
set_option maxHeartbeats 12800000 in
theorem law_walk (s : ByteArray) (A1 : Option Addr) (c1 : Nat) (L : List S33) (w : World) (hr : Kd.C k33 w A1 L.length L) (hc1 : L.length ≤ c1) (hs0 : s.size ≤ 9223372036854775807) :
    Calls Tryd.prog 3 #[.string s, .slice A1 L.length c1] w fun e w' => e = .returned (.bool true) ∧ Below w.heap.size w w' := by
  have mixed : Tryd.prog.follows .mixedOrders = true := by kernel_rfl
  by_cases hs : s.size ≤ 2147483647
  rotate_left
  · have d1 : ((2147483647 : Int) < (s.size : Int)) = True := eq_true (by omega)
    have d2 : decide ((2147483647 : Int) < (s.size : Int)) = true := decide_eq_true (by omega)
    clear hr hs
    go_enter Tryd.func3, Tryd.ntmps3
    go_wp2
    go_ret
    exact ⟨rfl, Below.refl _ _⟩
  have d1 : ((2147483647 : Int) < (s.size : Int)) = False := eq_false (by omega)
  have d2 : decide ((2147483647 : Int) < (s.size : Int)) = false := decide_eq_false (by omega)
  have d3 : (2147483647 < s.size) = False := eq_false (by omega)
  obtain ⟨b2, h2, q2⟩ := fits2_f L
  have H2 : Aside0 (Calls Tryd.prog 4 #[.slice A1 L.length c1] w fun e w' => e = .returned (.bool b2) ∧ Below w.heap.size w w') := ⟨by
    obtain ⟨K, hK⟩ := h2
    refine (laws_zzFits2.calls K A1 c1 L b2 w hr hc1 (hK K (Nat.le_refl _))).mono fun e w' hq => ?_
    exact ⟨hq.1, by first | exact hq.2 | exact hq.2.below⟩⟩
  cases b2 with
  | false =>
    clear hr h2 q2 hs
    go_enter Tryd.func3, Tryd.ntmps3
    go_wp2_with (first | (go_at_call 4; (with_reducible refine (H2.out).mono ?_); rintro e w1 ⟨rfl, hb⟩; have B1 := Aside0.mk hb; clear hb))
    go_ret
    exact ⟨rfl, B1.out⟩
  | true =>
    obtain ⟨hL, hLs⟩ := q2 rfl
    obtain ⟨b3, q3, h3⟩ := FdT.plain_any s (by omega)
    have H3 := Aside0.mk h3
    cases b3 with
    | false =>
      clear hr h2 q2 hs hL hLs q3 h3
      go_enter Tryd.func3, Tryd.ntmps3
      go_wp2_with (first
        | (go_at_call 4; (with_reducible refine (H2.out).mono ?_); rintro e w1 ⟨rfl, hb⟩; have B1 := Aside0.mk hb; clear hb)
        | (go_at_call 5; (with_reducible refine (H3.out _).mono ?_); rintro e w2 ⟨rfl, hb⟩; have B2 := Aside0.mk (below_step B1.out hb); clear hb))
      go_ret
      exact ⟨rfl, B2.out⟩
    | true =>
      have hval := q3 rfl
      obtain ⟨r, e1, e2, e3⟩ := FdQ.pieces_ev s hs
      obtain ⟨K1, hK1⟩ := e1
      have hts := hK1 K1 (Nat.le_refl _)
      have hpv := FdQ.pieces_val s K1 r hts hval
      have hft := fieldTerms_ev s r e2 (by omega) (fun p hp => by have := (hpv p hp).2; omega)
      have hib : ∀ I, items (srt (r.map fun s => s.data.toList)) = some I → I.length ≤ 4294967296 ∧ ∀ t ∈ I, t.2.1.size ≤ 4294967296 := fun I hI => by
        have hlen : (srt (r.map fun s => s.data.toList)).length = r.length := by rw [srt_len, List.length_map]
        obtain ⟨i1, i2⟩ := items_bound (M := 2147483647) _ I (fun p hp => by
          have := (List.mergeSort_perm (r.map fun s => s.data.toList) leB).mem_iff.1 hp
          obtain ⟨t, ht, rfl⟩ := List.mem_map.1 this
          have := (hpv t ht).2
          have e := size_len t
          omega) hI
        exact ⟨by omega, fun t ht => by have := (i2 t ht).1; omega⟩
      have H5 := Aside0.mk (fun (w1 : World) (x : Below w.heap.size w w1) => fieldMatch_any s K1 r hts (fun p hp => vok_of (hpv p hp).1) (fun p hp => by have := (hpv p hp).2; omega) (by omega) A1 c1 L w1 (Kd.C_below hr x) (by omega) (fun y hy => by have := hLs y hy; omega) hib)
      cases hi : items (srt (r.map fun s => s.data.toList)) with
      | none =>
        rw [hi] at H5 hft
        have H4 : Aside0 (∀ w1, Calls Tryd.prog 6 #[.string s] w1 fun e w' => (∃ v, e = .returned (.tuple #[v, .bool false])) ∧ Below w1.heap.size w1 w') := ⟨fun w1 => by
          obtain ⟨K, hK⟩ := hft
          refine (spec_FieldTerms.calls K s [] false w1 (hK K (Nat.le_refl _))).mono fun e w' hq => ?_
          obtain ⟨v, he, -, hb⟩ := hq
          exact ⟨⟨v, he⟩, hb⟩⟩
        clear hr h2 q2 hs hL hLs q3 h3 hval e2 e3 hK1 hts hpv hft hib hi
        go_enter Tryd.func3, Tryd.ntmps3
        go_wp2_with (first
          | (go_at_call 4; (with_reducible refine (H2.out).mono ?_); rintro e w1 ⟨rfl, hb⟩; have B1 := Aside0.mk hb; clear hb)
          | (go_at_call 5; (with_reducible refine (H3.out _).mono ?_); rintro e w2 ⟨rfl, hb⟩; have B2 := Aside0.mk (below_step B1.out hb); clear hb)
          | (go_at_call 6; (with_reducible refine (H4.out _).mono ?_); rintro e w3 ⟨⟨v, rfl⟩, hb⟩; have B3 := Aside0.mk (below_step B2.out hb); clear hb)
          | (go_at_call 7; (with_reducible refine (H5.out _ B3.out).mono ?_); rintro e w4 ⟨ht, hb⟩; replace ht : e = .returned (.tuple #[.bool false, .bool false, .bool true]) := ht; subst ht; have B4 := Aside0.mk (below_step B3.out hb); clear hb))
        go_ret
        exact ⟨rfl, B4.out⟩
      | some I =>
        rw [hi] at H5 hft
        obtain ⟨hI1, hI2⟩ := hib I hi
        have hkl : (keep I).length ≤ 4294967296 := Nat.le_trans (keep_len I) hI1
        have hme := fieldMatch_ev L (by omega) (keep I) hkl
        have hml : ((keep I).map tmS).length = (keep I).length := List.length_map ..
        have H4 : Aside0 (∀ w1, Calls Tryd.prog 6 #[.string s] w1 fun e w' => (∃ A c, e = .returned (.tuple #[.slice A ((keep I).map tmS).length c, .bool true]) ∧ Kd.C k44 w' A ((keep I).map tmS).length ((keep I).map tmS) ∧ ((keep I).map tmS).length ≤ c) ∧ Below w1.heap.size w1 w') := ⟨fun w1 => by
          obtain ⟨K, hK⟩ := hft
          refine (spec_FieldTerms.calls K s ((keep I).map tmS) true w1 (hK K (Nat.le_refl _))).mono fun e w' hq => ?_
          obtain ⟨v, he, hR, hb⟩ := hq
          obtain ⟨A, c, rfl, hl, hC⟩ := Kd.R_reads hR
          exact ⟨⟨A, c, he, hC, hl⟩, hb⟩⟩
        have H6 : Aside0 (∀ (A : Option Addr) (c : Nat) (w1 : World), Below w.heap.size w w1 → Kd.C k44 w1 A ((keep I).map tmS).length ((keep I).map tmS) → ((keep I).map tmS).length ≤ c → Calls Tryd.prog 8 #[.slice A ((keep I).map tmS).length c, .slice A1 L.length c1] w1 fun e w' => e = .returned (.bool ((keep I).all (matchT L))) ∧ Below w1.heap.size w1 w') := ⟨fun A c w1 x hC hc => by
          obtain ⟨K, hK⟩ := hme
          refine (spec_FieldMatch.calls K A c ((keep I).map tmS) A1 c1 L _ w1 hC hc (Kd.C_below hr x) hc1 (hK K (Nat.le_refl _))).mono fun e w' hq => ?_
          exact ⟨hq.1, by first | exact hq.2 | exact hq.2.below⟩⟩
        have H5' : Aside0 (∀ (w1 : World), Below w.heap.size w w1 → Calls Tryd.prog 7 #[.string s, .slice A1 L.length c1] w1 fun e w' => e = .returned (.tuple #[.bool ((keep I).all (matchT L)), .bool (keep I).isEmpty, .bool false]) ∧ Below w1.heap.size w1 w') := H5
        have hemp : ((((keep I).map tmS).length : Int) == 0) = (keep I).isEmpty := by
          rw [hml]
          cases keep I with
          | nil => rfl
          | cons a b => exact beq_eq_false_iff_ne.2 (by simp only [List.length_cons]; omega)
        have HEMP := Aside0.mk hemp
        generalize (keep I).all (matchT L) = mm at H5' H6
        generalize (keep I).isEmpty = ee at H5' HEMP
        generalize (keep I).map tmS = TS at H4 H6 HEMP
        have f1 : (mm == mm) = true := beq_self_eq_true _
        have f2 : (ee == ee) = true := beq_self_eq_true _
        have hee := HEMP.out
        clear hr h2 q2 hs hL hLs q3 h3 hval e2 e3 hK1 hts hpv hft hib hi H5 hI1 hI2 hkl hme hml hemp
        go_enter Tryd.func3, Tryd.ntmps3
        go_wp2_with (first
          | (go_at_call 4; (with_reducible refine (H2.out).mono ?_); rintro e w1 ⟨rfl, hb⟩; have B1 := Aside0.mk hb; clear hb)
          | (go_at_call 5; (with_reducible refine (H3.out _).mono ?_); rintro e w2 ⟨rfl, hb⟩; have B2 := Aside0.mk (below_step B1.out hb); clear hb)
          | (go_at_call 6; (with_reducible refine (H4.out _).mono ?_); rintro e w3 ⟨⟨A, c, rfl, hC, hc⟩, hb⟩; have B3 := Aside0.mk (below_step B2.out hb); have C3 := Aside0.mk hC; have L3 := Aside0.mk hc; clear hb hC hc)
          | (go_at_call 7; (with_reducible refine (H5'.out _ B3.out).mono ?_); rintro e w4 ⟨rfl, hb⟩; have B4 := Aside0.mk (below_step B3.out hb); have C4 := Aside0.mk (Kd.C_below C3.out hb); clear hb)
          | (go_at_call 8; (with_reducible refine (H6.out _ _ _ B4.out C4.out L3.out).mono ?_); rintro e w5 ⟨rfl, hb⟩; have B5 := Aside0.mk (below_step B4.out hb); clear hb))
        go_ret
        exact ⟨by first | rfl | (simp; done) | (simp [hee]; done), B5.out⟩
end Go.Proofs.YtmfdnpccggnfoaaDoor.FdL
