/- A text is parsed to its terms, and written again: the law's walk. -/
import Derived.Test.YtmehecpmhijfmaaDoorFdH
import Derived.Test.YtmehecpmhijfmaaDoorFdG
import Derived.Test.YtmehecpmhijfmaaDoorFdR
import Derived.Test.YtmehecpmhijfmaaDoorFdT
set_option linter.unusedVariables false
set_option linter.unusedSimpArgs false
namespace Go.Proofs.YtmehecpmhijfmaaDoor.FdW
open Go Go.RowKit Go.Proofs.YtmehecpmhijfmaaDoor.PFnFieldParse Go.Proofs.YtmehecpmhijfmaaDoorW.PrintWords Go.Proofs.YtmehecpmhijfmaaDoor.Txt Go.Proofs.YtmehecpmhijfmaaDoor Go.Proofs.YtmehecpmhijfmaaDoor.EscN Go.Proofs.YtmehecpmhijfmaaDoor.FdN Go.Proofs.YtmehecpmhijfmaaDoor.FdC Go.Proofs.YtmehecpmhijfmaaDoor.FdS Go.Proofs.YtmehecpmhijfmaaDoor.Fd Go.Proofs.YtmehecpmhijfmaaDoor.FdR

theorem items_bound {M : Nat} : ∀ (ps : List (List UInt8)) (I : List Tm), (∀ p ∈ ps, p.length ≤ M) → items ps = some I → I.length ≤ ps.length ∧ ∀ t ∈ I, t.2.1.size ≤ M ∧ t.2.2.size ≤ M
  | [], I, _, h => by rw [items] at h; injection h with h; subst h; exact ⟨Nat.le_refl _, fun t ht => by cases ht⟩
  | p :: ps, I, hp, h => by
    have ih := items_bound (M := M) ps
    have hp' : ∀ q ∈ ps, q.length ≤ M := fun q hq => hp q (List.mem_cons_of_mem _ hq)
    by_cases h0 : p = []
    · rw [items_skip h0] at h
      obtain ⟨i1, i2⟩ := ih I hp' h
      exact ⟨by rw [List.length_cons]; omega, i2⟩
    · cases hc : cutOp p with
      | none => rw [items_no h0 hc] at h; cases h
      | some q =>
        obtain ⟨a, o, b⟩ := q
        cases hu : un b with
        | none => rw [items_bad h0 hc hu] at h; cases h
        | some v =>
          rw [items_yes h0 hc hu] at h
          obtain ⟨J, hJ, rfl⟩ := Option.map_eq_some_iff.1 h
          obtain ⟨i1, i2⟩ := ih J hp' hJ
          obtain ⟨hj, -⟩ := cut_join p a o b hc
          have hpl := hp p List.mem_cons_self
          have hl := congrArg List.length hj
          rw [List.length_append, List.length_append] at hl
          have hv := un_len _ b v (Nat.le_refl _) hu
          refine ⟨by rw [List.length_cons, List.length_cons]; omega, fun t ht => ?_⟩
          rcases List.mem_cons.1 ht with rfl | ht
          · exact ⟨by rw [mk_size]; omega, by rw [mk_size]; omega⟩
          · exact i2 t ht
theorem vok_of {p : List UInt8} (h : EscN.Val p) : VOk p := fun a o b hc => by
  obtain ⟨hj, ho⟩ := cut_join p a o b hc
  have : ∃ x, a ++ o = x ++ [61] := by
    rcases ho with rfl | rfl | rfl
    · exact ⟨a ++ [33], by simp⟩
    · exact ⟨a ++ [61], by simp⟩
    · exact ⟨a, rfl⟩
  obtain ⟨x, hx⟩ := this
  rw [hj, hx, List.append_assoc] at h
  exact (Val.split _ x 61 b (Nat.le_refl _) h (by decide)).2

/-- The pieces' lengths together. -/
theorem spl_sum (s : ByteArray) : ∀ (k : Nat) (ts : List ByteArray) (st : Nat) (sl : Bool) (pos : Nat) (r : List ByteArray), spl s k ts st sl pos = some r → (r.map (·.size)).sum + r.length ≤ (ts.map (·.size)).sum + ts.length + (s.size - st) + 1 := by
  intro k
  induction k with
  | zero => intro ts st sl pos r h; cases h
  | succ k ih =>
    intro ts st sl pos r h
    unfold spl at h
    by_cases h1 : pos < s.size
    · rw [if_pos h1] at h
      by_cases h2 : sl = true
      · rw [if_pos h2] at h; exact ih _ _ _ _ _ h
      · rw [if_neg h2] at h
        by_cases h3 : (Utf8.decode s pos).1 = 92
        · rw [if_pos h3] at h; exact ih _ _ _ _ _ h
        · rw [if_neg h3] at h
          by_cases h4 : (Utf8.decode s pos).1 = 44
          · rw [if_pos h4] at h
            by_cases h5 : st ≤ pos ∧ ts.length < 8796093022207
            · rw [if_pos h5] at h
              have := ih _ _ _ _ _ h
              rw [List.map_append, List.sum_append, List.length_append] at this
              simp only [List.map_cons, List.map_nil, List.sum_cons, List.sum_nil, List.length_cons, List.length_nil] at this
              have hz : (s.extract st pos).size = pos - st := by rw [ByteArray.size_extract]; omega
              rw [hz] at this
              omega
            · rw [if_neg h5] at h; cases h
          · rw [if_neg h4] at h; exact ih _ _ _ _ _ h
    · rw [if_neg h1] at h
      by_cases h5 : st ≤ s.size ∧ ts.length < 8796093022207
      · rw [if_pos h5] at h
        injection h with h
        subst h
        rw [List.map_append, List.sum_append, List.length_append]
        simp only [List.map_cons, List.map_nil, List.sum_cons, List.sum_nil, List.length_cons, List.length_nil]
        have hz : (s.extract st s.size).size = s.size - st := by rw [ByteArray.size_extract]; omega
        rw [hz]
        omega
      · rw [if_neg h5] at h; cases h
theorem parts_sum (s : ByteArray) (K : Nat) (r : List ByteArray) (h : fields_splitTerms.f K s = some r) : (r.map (·.size)).sum + r.length ≤ s.size + 1 := by
  unfold fields_splitTerms.f at h
  by_cases h0 : s.size = 0
  · rw [if_pos h0] at h; injection h with h; subst h; simp
  · rw [if_neg h0] at h
    by_cases h1 : s.size ≤ 9223372036854775806
    · rw [if_pos h1] at h
      have := spl_sum s _ _ _ _ _ _ h
      simpa using this
    · rw [if_neg h1] at h; cases h
theorem items_tot : ∀ (ps : List (List UInt8)) (I : List Tm), items ps = some I → tot I ≤ (ps.map fun p => 2 * p.length + 3).sum
  | [], I, h => by rw [items] at h; injection h with h; subst h; exact Nat.le_refl _
  | p :: ps, I, h => by
    have ih := items_tot ps
    rw [List.map_cons, List.sum_cons]
    by_cases h0 : p = []
    · rw [items_skip h0] at h
      have := ih I h
      omega
    · cases hc : cutOp p with
      | none => rw [items_no h0 hc] at h; cases h
      | some q =>
        obtain ⟨a, o, b⟩ := q
        cases hu : un b with
        | none => rw [items_bad h0 hc hu] at h; cases h
        | some v =>
          rw [items_yes h0 hc hu] at h
          obtain ⟨J, hJ, rfl⟩ := Option.map_eq_some_iff.1 h
          have hj := ih J hJ
          obtain ⟨hp, ho⟩ := cut_join p a o b hc
          have hl := congrArg List.length hp
          rw [List.length_append, List.length_append] at hl
          have hv := un_len _ b v (Nat.le_refl _) hu
          unfold tot at hj ⊢
          rw [List.map_cons, List.sum_cons, txt_size]
          have he := esc_len v
          have h1 : (mk (esc (mk v).data.toList)).size = (esc v).length := by rw [mk_size]
          have h2 : (mk a).size = a.length := mk_size a
          have h3 : ∀ b, (opB b).size ≤ 2 := fun b => by cases b <;> decide
          have h3' := h3 (!(o == [33, 61]))
          have h4 : 1 ≤ o.length := by rcases ho with rfl | rfl | rfl <;> decide
          have h5 : o = [33, 61] → o.length = 2 := fun h => by rw [h]; rfl
          simp only [h1, h2]
          omega
theorem tot_keep (I : List Tm) : tot (keep I) ≤ tot I := by
  unfold keep
  induction I with
  | nil => exact Nat.le_refl _
  | cons t r ih =>
    rw [List.filter_cons]
    split
    · unfold tot at ih ⊢; rw [List.map_cons, List.map_cons, List.sum_cons, List.sum_cons]; omega
    · unfold tot at ih ⊢; rw [List.map_cons, List.sum_cons]; omega
theorem perm_sum {a b : List Nat} (h : a.Perm b) : a.sum = b.sum := by
  induction h with
  | nil => rfl
  | cons x _ ih => rw [List.sum_cons, List.sum_cons, ih]
  | swap x y l => simp only [List.sum_cons]; omega
  | trans _ _ h1 h2 => rw [h1, h2]
theorem sum_pieces : ∀ r : List ByteArray, ((r.map fun s => s.data.toList).map fun p => 2 * p.length + 3).sum ≤ 3 * ((r.map (·.size)).sum + r.length)
  | [] => Nat.le_refl _
  | x :: r => by
    have := sum_pieces r
    have hz := size_len x
    simp only [List.map_cons, List.sum_cons, List.length_cons] at this ⊢
    omega
theorem tms_tmd (M : List Tm) : M.map tmS = M.map tmD := List.map_congr_left fun t _ => by
  unfold tmS tmD opB
  rfl
/-- The text at which the law looks besides. -/
def mkT : ByteArray := ⟨#[98, 61, 99, 44, 97, 33, 61, 100]⟩
def mkR : List ByteArray := [⟨#[98, 61, 99]⟩, ⟨#[97, 33, 61, 100]⟩]
def mkI : List Tm := [(false, ⟨#[97]⟩, ⟨#[100]⟩), (true, ⟨#[98]⟩, ⟨#[99]⟩)]
theorem mk_parts : fields_splitTerms.f 20 mkT = some mkR := by kernel_rfl
theorem mk_items : items (srt (mkR.map fun s => s.data.toList)) = some mkI := by
  have h : items ((FdQ.insAll [] mkR).map fun s => s.data.toList) = some mkI := by kernel_rfl
  rw [FdQ.insAll_srt] at h
  exact h
theorem mk_text : joinT (keep mkI) = ⟨#[97, 33, 61, 100, 44, 98, 61, 99]⟩ := by kernel_rfl
theorem val_low : ∀ l : List UInt8, (∀ c ∈ l, c.toNat < 128) → Val l
  | [], _ => Val.nil
  | c :: r, h => by
    have hc := h c List.mem_cons_self
    have hd := EscN.decode_ascii r hc
    refine Val.cons _ (by simp) ?_ ?_
    · rw [hd]; intro h; have := h.1; simp only at this; omega
    · rw [hd]; exact val_low r fun x hx => h x (List.mem_cons_of_mem _ hx)
theorem mark_any (w : World) : Calls Tryd.prog 5 #[.string mkT] w fun e w' => (∃ v, e = .returned (.tuple #[v, .string ⟨#[97, 33, 61, 100, 44, 98, 61, 99]⟩, .bool false])) ∧ Below w.heap.size w w' := by
  have hI : ∀ I, items (srt (mkR.map fun s => s.data.toList)) = some I → I.length ≤ 4294967296 ∧ (∀ t ∈ I, t.2.1.size ≤ 2147483647 ∧ t.2.2.size ≤ 2147483647) ∧ (joinT (keep I)).size ≤ 140737488355328 := fun I h => by
    rw [mk_items] at h
    injection h with h
    subst h
    refine ⟨by decide, fun t ht => ?_, by rw [mk_text]; decide⟩
    rcases List.mem_cons.1 ht with rfl | ht
    · decide
    · rw [List.mem_singleton.1 ht]; decide
  have := fieldParse_any mkT 20 mkR mk_parts (fun p hp => vok_of (val_low _ (by
    rcases List.mem_cons.1 hp with rfl | hp
    · decide
    · rw [List.mem_singleton.1 hp]; decide))) (fun p hp => by
    rcases List.mem_cons.1 hp with rfl | hp
    · decide
    · rw [List.mem_singleton.1 hp]; decide) (by decide) w hI
  rw [mk_items] at this
  refine this.mono ?_
  rintro e w' ⟨⟨A, c, he, -, -⟩, hb⟩
  rw [mk_text] at he
  exact ⟨⟨_, he⟩, hb⟩
set_option maxRecDepth 1000000 in
set_option maxHeartbeats 12800000 in
theorem law_walk (s : ByteArray) (w : World) (hs0 : s.size ≤ 9223372036854775807) :
    Calls Tryd.prog 3 #[.string s] w fun e w' => e = .returned (.bool true) ∧ Below w.heap.size w w' := by
  have mixed : Tryd.prog.follows .mixedOrders = true := by kernel_rfl
  by_cases hs : s.size ≤ 2147483647
  rotate_left
  · have d1 : ((2147483647 : Int) < (s.size : Int)) = True := eq_true (by omega)
    have d2 : decide ((2147483647 : Int) < (s.size : Int)) = true := decide_eq_true (by omega)
    clear hs
    go_enter Tryd.func3, Tryd.ntmps3
    go_wp2
    go_ret
    exact ⟨rfl, Below.refl _ _⟩
  have d1 : ((2147483647 : Int) < (s.size : Int)) = False := eq_false (by omega)
  have d2 : decide ((2147483647 : Int) < (s.size : Int)) = false := decide_eq_false (by omega)
  have d3 : (2147483647 < s.size) = False := eq_false (by omega)
  obtain ⟨b3, q3, h3⟩ := FdT.plain_any s (by omega)
  have H3 := Aside0.mk h3
  cases b3 with
  | false =>
    clear q3 h3 hs
    go_enter Tryd.func3, Tryd.ntmps3
    go_wp2_with (first
      | (go_at_call 4; (with_reducible refine (H3.out _).mono ?_); rintro e w2 ⟨rfl, hb⟩; have B2 := Aside0.mk hb; clear hb))
    go_ret
    exact ⟨rfl, B2.out⟩
  | true =>
    have hval := q3 rfl
    obtain ⟨r, e1, e2, e3⟩ := FdQ.pieces_ev s hs
    obtain ⟨K1, hK1⟩ := e1
    have hts := hK1 K1 (Nat.le_refl _)
    have hpv := FdQ.pieces_val s K1 r hts hval
    have hft := fieldTerms_ev s r e2 (by omega) (fun p hp => by have := (hpv p hp).2; omega)
    have hps := parts_sum s K1 r hts
    have hperm := List.mergeSort_perm (r.map fun s => s.data.toList) leB
    have hib : ∀ I, items (srt (r.map fun s => s.data.toList)) = some I → I.length ≤ 4294967296 ∧ (∀ t ∈ I, t.2.1.size ≤ 2147483647 ∧ t.2.2.size ≤ 2147483647) ∧ tot (keep I) ≤ 140737488355328 := fun I hI => by
      have hlen : (srt (r.map fun s => s.data.toList)).length = r.length := by rw [srt_len, List.length_map]
      obtain ⟨i1, i2⟩ := items_bound (M := 2147483647) _ I (fun p hp => by
        have := hperm.mem_iff.1 hp
        obtain ⟨t, ht, rfl⟩ := List.mem_map.1 this
        have := (hpv t ht).2
        have e := size_len t
        omega) hI
      have ht := items_tot _ I hI
      have hk := tot_keep I
      have hp2 := perm_sum (hperm.map fun p => 2 * p.length + 3)
      have hsp := sum_pieces r
      unfold srt at ht
      exact ⟨by omega, i2, by omega⟩
    have hibJ : ∀ I, items (srt (r.map fun s => s.data.toList)) = some I → I.length ≤ 4294967296 ∧ (∀ t ∈ I, t.2.1.size ≤ 2147483647 ∧ t.2.2.size ≤ 2147483647) ∧ (joinT (keep I)).size ≤ 140737488355328 := fun I hI => by
      obtain ⟨i1, i2, i3⟩ := hib I hI
      exact ⟨i1, i2, Nat.le_trans (joinT_le _) i3⟩
    have H5 := Aside0.mk (fun (w1 : World) => fieldParse_any s K1 r hts (fun p hp => vok_of (hpv p hp).1) (fun p hp => by have := (hpv p hp).2; omega) (by omega) w1 hibJ)
    have HMK := Aside0.mk mark_any
    cases hi : items (srt (r.map fun s => s.data.toList)) with
    | none =>
      rw [hi] at H5 hft
      have H4 : Aside0 (∀ w1, Calls Tryd.prog 6 #[.string s] w1 fun e w' => (∃ v, e = .returned (.tuple #[v, .bool false])) ∧ Below w1.heap.size w1 w') := ⟨fun w1 => by
        obtain ⟨K, hK⟩ := hft
        refine (spec_FieldTerms.calls K s [] false w1 (hK K (Nat.le_refl _))).mono fun e w' hq => ?_
        obtain ⟨v, he, -, hb⟩ := hq
        exact ⟨⟨v, he⟩, hb⟩⟩
      clear q3 h3 hval e2 e3 hK1 hts hpv hft hib hi hps hperm hibJ hs
      go_enter Tryd.func3, Tryd.ntmps3
      go_wp2_with (first
        | (go_at_call 4; (with_reducible refine (H3.out _).mono ?_); rintro e w2 ⟨rfl, hb⟩; have B2 := Aside0.mk hb; clear hb)
        | (go_at_call 5; (with_reducible refine (H5.out _).mono ?_); rintro e w3 ⟨ht, hb⟩; replace ht : e = .returned (.tuple #[.slice none 0 0, .string ⟨#[]⟩, .bool true]) := ht; subst ht; have B3 := Aside0.mk (below_step B2.out hb); clear hb)
        | (go_at_call 6; (with_reducible refine (H4.out _).mono ?_); rintro e w4 ⟨⟨v, rfl⟩, hb⟩; have B4 := Aside0.mk (below_step B3.out hb); clear hb)
        | (go_at_call 5; refine (HMK.out _).mono ?_; rintro e w5 ⟨⟨v2, rfl⟩, hb⟩; have B5 := Aside0.mk (below_step B4.out hb); clear hb))
      go_ret
      exact ⟨rfl, B5.out⟩
    | some I =>
      rw [hi] at H5 hft
      obtain ⟨hI1, hI2, hI3⟩ := hib I hi
      have hkl : (keep I).length ≤ 4294967296 := Nat.le_trans (keep_len I) hI1
      have hks : ∀ t ∈ keep I, t.2.2.size ≤ 2147483647 := fun t ht => (hI2 t (List.mem_filter.1 ht).1).2
      have H4 : Aside0 (∀ w1, Calls Tryd.prog 6 #[.string s] w1 fun e w' => (∃ A c, e = .returned (.tuple #[.slice A ((keep I).map tmD).length c, .bool true]) ∧ kT.C w' A ((keep I).map tmD).length ((keep I).map tmD) ∧ ((keep I).map tmD).length ≤ c) ∧ Below w1.heap.size w1 w') := ⟨fun w1 => by
        obtain ⟨K, hK⟩ := hft
        refine (spec_FieldTerms.calls K s ((keep I).map tmS) true w1 (hK K (Nat.le_refl _))).mono fun e w' hq => ?_
        obtain ⟨v, he, hR, hb⟩ := hq
        obtain ⟨A, c, rfl, hl, hC⟩ := Kd.R_reads hR
        rw [tms_tmd] at he hC hl
        exact ⟨⟨A, c, he, hC, hl⟩, hb⟩⟩
      have H6 : Aside0 (∀ (A B : Option Addr) (c d : Nat) (w1 : World), kT.C w1 A ((keep I).map tmD).length ((keep I).map tmD) → ((keep I).map tmD).length ≤ c → kT.C w1 B ((keep I).map tmD).length ((keep I).map tmD) → ((keep I).map tmD).length ≤ d → Calls Tryd.prog 7 #[.slice A ((keep I).map tmD).length c, .slice B ((keep I).map tmD).length d] w1 fun e w' => e = .returned (.bool true) ∧ Below w1.heap.size w1 w') := ⟨fun A B c d w1 hA hc hB hd => by
        obtain ⟨K, hK⟩ := same_ev ((keep I).map tmD) (by rw [List.length_map]; exact hkl)
        refine (spec_TermsSame.calls K A c _ B d _ true w1 hA hc hB hd (hK K (Nat.le_refl _))).mono fun e w' hq => ?_
        exact ⟨hq.1, by first | exact hq.2 | exact hq.2.below⟩⟩
      have H7 : Aside0 (∀ (A : Option Addr) (c : Nat) (w1 : World), kT.C w1 A ((keep I).map tmD).length ((keep I).map tmD) → Calls Tryd.prog 8 #[.slice A ((keep I).map tmD).length c] w1 fun e w' => e = .returned (.string (joinT (keep I))) ∧ Below w1.heap.size w1 w') := ⟨fun A c w1 hA => fieldText_any A c _ (keep I) _ w1 rfl rfl hA hkl hks hI3⟩
      have H5' : Aside0 (∀ (w1 : World), Calls Tryd.prog 5 #[.string s] w1 fun e w' => (∃ A c, e = .returned (.tuple #[.slice A ((keep I).map tmD).length c, .string (joinT (keep I)), .bool false]) ∧ kT.C w' A ((keep I).map tmD).length ((keep I).map tmD) ∧ ((keep I).map tmD).length ≤ c) ∧ Below w1.heap.size w1 w') := H5
      generalize joinT (keep I) = tx at H5' H7
      generalize (keep I).map tmD = TS at H4 H5' H6 H7
      clear q3 h3 hval e2 e3 hK1 hts hpv hft hib hi hps hperm hibJ hs H5 hI1 hI2 hI3 hkl hks
      go_enter Tryd.func3, Tryd.ntmps3
      go_wp2_with (first
        | (go_at_call 4; (with_reducible refine (H3.out _).mono ?_); rintro e w2 ⟨rfl, hb⟩; have B2 := Aside0.mk hb; clear hb)
        | (go_at_call 5; (with_reducible refine (H5'.out _).mono ?_); rintro e w3 ⟨⟨A, c, rfl, hC, hl⟩, hb⟩; have B3 := Aside0.mk (below_step B2.out hb); have C3 := Aside0.mk hC; have L3 := Aside0.mk hl; clear hb hC hl)
        | (go_at_call 6; (with_reducible refine (H4.out _).mono ?_); rintro e w4 ⟨⟨D, d, rfl, hC, hl⟩, hb⟩; have B4 := Aside0.mk (below_step B3.out hb); have C4 := Aside0.mk (Kd.C_below C3.out hb); have D4 := Aside0.mk hC; have L4 := Aside0.mk hl; clear hb hC hl)
        | (go_at_call 5; refine (HMK.out _).mono ?_; rintro e w5 ⟨⟨v2, rfl⟩, hb⟩; have B5 := Aside0.mk (below_step B4.out hb); have C5 := Aside0.mk (Kd.C_below C4.out hb); have D5 := Aside0.mk (Kd.C_below D4.out hb); clear hb)
        | (go_at_call 7; (with_reducible refine (H6.out _ _ _ _ _ C5.out L3.out D5.out L4.out).mono ?_); rintro e w6 ⟨rfl, hb⟩; have B6 := Aside0.mk (below_step B5.out hb); have D6 := Aside0.mk (Kd.C_below D5.out hb); clear hb)
        | (go_at_call 8; (with_reducible refine (H7.out _ _ _ D6.out).mono ?_); rintro e w7 ⟨rfl, hb⟩; have B7 := Aside0.mk (below_step B6.out hb); clear hb))
      go_ret
      exact ⟨by first | rfl | (simp; done), B7.out⟩
end Go.Proofs.YtmehecpmhijfmaaDoor.FdW
