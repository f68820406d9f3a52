/- A selector turned: the law's walk. -/
import Derived.Test.YthejejeginnbdaaGreatDoorFdTd
import Derived.Test.YthejejeginnbdaaGreatDoorFdG
import Derived.Test.YthejejeginnbdaaGreatDoorFdT
set_option linter.unusedVariables false
set_option linter.unusedSimpArgs false
namespace Go.Proofs.YthejejeginnbdaaGreatDoor.FdTL
open Go Go.RowKit Go.Proofs.YthejejeginnbdaaGreatDoor.PFnFieldTurn Go.Proofs.YthejejeginnbdaaGreatDoorW.PrintWords Go.Proofs.YthejejeginnbdaaGreatDoor.Txt Go.Proofs.YthejejeginnbdaaGreatDoor Go.Proofs.YthejejeginnbdaaGreatDoor.EscN Go.Proofs.YthejejeginnbdaaGreatDoor.FdN Go.Proofs.YthejejeginnbdaaGreatDoor.FdC Go.Proofs.YthejejeginnbdaaGreatDoor.FdS Go.Proofs.YthejejeginnbdaaGreatDoor.Fd Go.Proofs.YthejejeginnbdaaGreatDoor.FdR Go.Proofs.YthejejeginnbdaaGreatDoor.FdTd

theorem items_bound {M : Nat} : ∀ (ps : List (List UInt8)) (I : List Tm), (∀ p ∈ ps, p.length ≤ M) → items ps = some I → I.length ≤ ps.length ∧ ∀ t ∈ I, t.2.1.size ≤ M ∧ t.2.2.size ≤ M
  | [], I, _, h => by rw [items] at h; injection h with h; subst h; exact ⟨Nat.le_refl _, fun t ht => by cases ht⟩
  | p :: ps, I, hp, h => by
    have ih := items_bound (M := M) ps
    have hp' : ∀ q ∈ ps, q.length ≤ M := fun q hq => hp q (List.mem_cons_of_mem _ hq)
    by_cases h0 : p = []
    · rw [items_skip h0] at h
      obtain ⟨i1, i2⟩ := ih I hp' h
      exact ⟨by rw [List.length_cons]; omega, i2⟩
    · cases hc : cutOp p with
      | none => rw [items_no h0 hc] at h; cases h
      | some q =>
        obtain ⟨a, o, b⟩ := q
        cases hu : un b with
        | none => rw [items_bad h0 hc hu] at h; cases h
        | some v =>
          rw [items_yes h0 hc hu] at h
          obtain ⟨J, hJ, rfl⟩ := Option.map_eq_some_iff.1 h
          obtain ⟨i1, i2⟩ := ih J hp' hJ
          obtain ⟨hj, -⟩ := cut_join p a o b hc
          have hpl := hp p List.mem_cons_self
          have hl := congrArg List.length hj
          rw [List.length_append, List.length_append] at hl
          have hv := un_len _ b v (Nat.le_refl _) hu
          refine ⟨by rw [List.length_cons, List.length_cons]; omega, fun t ht => ?_⟩
          rcases List.mem_cons.1 ht with rfl | ht
          · exact ⟨by rw [mk_size]; omega, by rw [mk_size]; omega⟩
          · exact i2 t ht
theorem vok_of {p : List UInt8} (h : EscN.Val p) : VOk p := fun a o b hc => by
  obtain ⟨hj, ho⟩ := cut_join p a o b hc
  have : ∃ x, a ++ o = x ++ [61] := by
    rcases ho with rfl | rfl | rfl
    · exact ⟨a ++ [33], by simp⟩
    · exact ⟨a ++ [61], by simp⟩
    · exact ⟨a, rfl⟩
  obtain ⟨x, hx⟩ := this
  rw [hj, hx, List.append_assoc] at h
  exact (Val.split _ x 61 b (Nat.le_refl _) h (by decide)).2

theorem find_mem : ∀ (N : List S43) (f n : ByteArray), findP N f = some n → ∃ x ∈ N, n = x.f1
  | [], _, _, h => by cases h
  | x :: r, f, n, h => by
    rw [findP] at h
    cases hq : findP r f with
    | some m =>
      rw [hq] at h
      injection h with h
      obtain ⟨y, hy, e⟩ := find_mem r f m hq
      exact ⟨y, List.mem_cons_of_mem _ hy, by rw [← h]; exact e⟩
    | none =>
      rw [hq] at h
      simp only at h
      split at h
      · injection h with h; exact ⟨x, List.mem_cons_self, h.symm⟩
      · cases h
theorem turn_bound {tx : Tm → Option (ByteArray × ByteArray)} {M : Nat} : ∀ (l R : List Tm), turnL tx l = some R → (∀ t ∈ l, ∀ p, tx t = some p → p.1.size ≤ M ∧ p.2.size ≤ M) → R.length ≤ l.length ∧ ∀ t ∈ R, t.2.1.size ≤ M ∧ t.2.2.size ≤ M
  | [], R, h, _ => by rw [turnL] at h; injection h with h; subst h; exact ⟨Nat.le_refl _, fun t ht => by cases ht⟩
  | t :: l, R, h, hp => by
    cases hx : tx t with
    | none => rw [turn_no hx] at h; cases h
    | some p =>
      rw [turn_yes hx] at h
      obtain ⟨Q, hQ, rfl⟩ := Option.map_eq_some_iff.1 h
      obtain ⟨i1, i2⟩ := turn_bound l Q hQ (fun u hu => hp u (List.mem_cons_of_mem _ hu))
      have hpt := hp t List.mem_cons_self p hx
      by_cases hn : none_ (t.1, p.1, p.2) = true
      · rw [if_pos hn]; exact ⟨by rw [List.nil_append, List.length_cons]; omega, i2⟩
      · rw [if_neg hn]
        refine ⟨by simp only [List.length_append, List.length_cons, List.length_nil]; omega, fun u hu => ?_⟩
        rcases List.mem_cons.1 hu with rfl | hu
        · exact hpt
        · exact i2 u hu
theorem tot_bound {M : Nat} : ∀ R : List Tm, (∀ t ∈ R, t.2.1.size ≤ M ∧ t.2.2.size ≤ M) → tot R ≤ R.length * (3 * M + 3)
  | [], _ => Nat.zero_le _
  | t :: R, h => by
    have ih := tot_bound R fun u hu => h u (List.mem_cons_of_mem _ hu)
    obtain ⟨h1, h2⟩ := h t List.mem_cons_self
    have h3 := txt_size t
    have h4 : ∀ b, (opB b).size ≤ 2 := fun b => by cases b <;> decide
    have h5 := h4 t.1
    have h6 : (mk (esc t.2.2.data.toList)).size ≤ 2 * t.2.2.size := by rw [mk_size]; have := esc_len t.2.2.data.toList; rw [← size_len] at this; exact this
    unfold tot at ih ⊢
    rw [List.map_cons, List.sum_cons, List.length_cons, Nat.succ_mul]
    omega
theorem tms_tmd (M : List Tm) : M.map tmS = M.map tmD := List.map_congr_left fun t _ => by
  unfold tmS tmD opB
  rfl
/-- The text at which the law looks besides. -/
def mkT : ByteArray := ⟨#[97, 61, 98]⟩
def mkI : List Tm := [(true, ⟨#[97]⟩, ⟨#[98]⟩)]
theorem mk_parts : fields_splitTerms.f 20 mkT = some [mkT] := by kernel_rfl
theorem mk_items : items (srt ([mkT].map fun s => s.data.toList)) = some mkI := by
  have h : items ((FdQ.insAll [] [mkT]).map fun s => s.data.toList) = some mkI := by kernel_rfl
  rw [FdQ.insAll_srt] at h
  exact h
theorem mk_turn : turnL (tfx [] ⟨#[120]⟩ ⟨#[121]⟩) (keep mkI) = some mkI := by kernel_rfl
theorem mk_text : joinT mkI = ⟨#[97, 61, 98]⟩ := by kernel_rfl
theorem val_low : ∀ l : List UInt8, (∀ c ∈ l, c.toNat < 128) → Val l
  | [], _ => Val.nil
  | c :: r, h => by
    have hc := h c List.mem_cons_self
    have hd := EscN.decode_ascii r hc
    refine Val.cons _ (by simp) ?_ ?_
    · rw [hd]; intro h; have := h.1; simp only at this; omega
    · rw [hd]; exact val_low r fun x hx => h x (List.mem_cons_of_mem _ hx)
theorem mark_any (w : World) : Calls Tryz.prog 14 #[.string mkT, .slice none 0 0, .string ⟨#[120]⟩, .string ⟨#[121]⟩] w fun e w' => (∃ v, e = .returned (.tuple #[v, .string ⟨#[97, 61, 98]⟩, .bool false])) ∧ Below w.heap.size w w' := by
  have hz : ∀ t ∈ mkI, t.2.1.size ≤ 2147483647 ∧ t.2.2.size ≤ 2147483647 := fun t ht => by rw [List.mem_singleton.1 ht]; decide
  have := fieldTurn_any mkT 20 [mkT] mk_parts (fun p hp => vok_of (val_low _ (by rw [List.mem_singleton.1 hp]; decide))) (fun p hp => by rw [List.mem_singleton.1 hp]; decide) (by decide) none 0 [] ⟨#[120]⟩ ⟨#[121]⟩ w ⟨rfl, by simp, fun h => absurd h (Nat.lt_irrefl 0)⟩ (by simp) (fun x hx => by cases hx) (fun I h => by
    rw [mk_items] at h
    injection h with h
    subst h
    refine ⟨by decide, fun t ht => (hz t ht).1, fun R hR => ?_⟩
    rw [mk_turn] at hR
    injection hR with hR
    subst hR
    exact ⟨hz, by decide, by rw [mk_text]; decide⟩)
  rw [mk_items, Option.bind_some, mk_turn] at this
  refine this.mono ?_
  rintro e w' ⟨⟨A, c, he, -, -⟩, hb⟩
  rw [mk_text] at he
  exact ⟨⟨_, he⟩, hb⟩
set_option maxRecDepth 1000000 in
set_option maxHeartbeats 25600000 in
theorem law_walk (s : ByteArray) (A1 : Option Addr) (c1 : Nat) (N : List S43) (drop fail : ByteArray) (w : World) (hr : Kd.C k43 w A1 N.length N) (hc1 : N.length ≤ c1) (hs : s.size ≤ 1048576) (hN : N.length ≤ 1048576) (hNs : ∀ x ∈ N, x.f0.size ≤ 1048576 ∧ x.f1.size ≤ 1048576) (hd : drop.size ≤ 1048576) (hf : fail.size ≤ 1048576) :
    Calls Tryz.prog 4 #[.string s, .slice A1 N.length c1, .string drop, .string fail] w fun e w' => e = .returned (.bool true) ∧ Below w.heap.size w w' := by
  have mixed : Tryz.prog.follows .mixedOrders = true := by kernel_rfl
  have d1 : ((2147483647 : Int) < (s.size : Int)) = False := eq_false (by omega)
  have d2 : decide ((2147483647 : Int) < (s.size : Int)) = false := decide_eq_false (by omega)
  have d3 : (2147483647 < s.size) = False := eq_false (by omega)
  have f1 : ((2147483647 : Int) < (drop.size : Int)) = False := eq_false (by omega)
  have f2 : decide ((2147483647 : Int) < (drop.size : Int)) = false := decide_eq_false (by omega)
  have f3 : (2147483647 < drop.size) = False := eq_false (by omega)
  have g1 : ((2147483647 : Int) < (fail.size : Int)) = False := eq_false (by omega)
  have g2 : decide ((2147483647 : Int) < (fail.size : Int)) = false := decide_eq_false (by omega)
  have g3 : (2147483647 < fail.size) = False := eq_false (by omega)
  obtain ⟨b2, h2, q2⟩ := fits2_f N
  have H2 : Aside0 (Calls Tryz.prog 5 #[.slice A1 N.length c1] w fun e w' => e = .returned (.bool b2) ∧ Below w.heap.size w w') := ⟨by
    obtain ⟨K, hK⟩ := h2
    refine (laws_zzFits2.calls K A1 c1 N b2 w hr hc1 (hK K (Nat.le_refl _))).mono fun e w' hq => ?_
    exact ⟨hq.1, by first | exact hq.2 | exact hq.2.below⟩⟩
  cases b2 with
  | false =>
    clear hr h2 q2 hs hN hNs hd hf
    go_enter Tryz.func4, Tryz.ntmps4
    go_wp2_with (first | (go_at_call 5; (with_reducible refine (H2.out).mono ?_); rintro e w1 ⟨rfl, hb⟩; have B1 := Aside0.mk hb; clear hb))
    go_ret
    exact ⟨rfl, B1.out⟩
  | true =>
  obtain ⟨b3, q3, h3⟩ := FdT.plain_any s (by omega)
  have H3 := Aside0.mk h3
  cases b3 with
  | false =>
    clear hr h2 q2 hs hN hNs hd hf q3 h3
    go_enter Tryz.func4, Tryz.ntmps4
    go_wp2_with (first
      | (go_at_call 5; (with_reducible refine (H2.out).mono ?_); rintro e w1 ⟨rfl, hb⟩; have B1 := Aside0.mk hb; clear hb)
      | (go_at_call 6; (with_reducible refine (H3.out _).mono ?_); rintro e w2 ⟨rfl, hb⟩; have B2 := Aside0.mk (below_step B1.out hb); clear hb))
    go_ret
    exact ⟨rfl, B2.out⟩
  | true =>
  have hval := q3 rfl
  obtain ⟨r, e1, e2, e3⟩ := FdQ.pieces_ev s (by omega)
  obtain ⟨K1, hK1⟩ := e1
  have hts := hK1 K1 (Nat.le_refl _)
  have hpv := FdQ.pieces_val s K1 r hts hval
  have hft := fieldTerms_ev s r e2 (by omega) (fun p hp => by have := (hpv p hp).2; omega)
  have hperm := List.mergeSort_perm (r.map fun s => s.data.toList) leB
  have hib : ∀ I, items (srt (r.map fun s => s.data.toList)) = some I → I.length ≤ 1048577 ∧ ∀ t ∈ I, t.2.1.size ≤ 1048576 ∧ t.2.2.size ≤ 1048576 := fun I hI => by
    have hlen : (srt (r.map fun s => s.data.toList)).length = r.length := by rw [srt_len, List.length_map]
    obtain ⟨i1, i2⟩ := items_bound (M := 1048576) _ I (fun p hp => by
      have := hperm.mem_iff.1 hp
      obtain ⟨t, ht, rfl⟩ := List.mem_map.1 this
      have := (hpv t ht).2
      have e := size_len t
      omega) hI
    exact ⟨by omega, i2⟩
  have hturn : ∀ I R, items (srt (r.map fun s => s.data.toList)) = some I → turnL (tfx N drop fail) (keep I) = some R → (R.length ≤ 1048577 ∧ ∀ t ∈ R, t.2.1.size ≤ 1048576 ∧ t.2.2.size ≤ 1048576) ∧ tot R ≤ 140737488355328 := fun I R hI hR => by
    obtain ⟨i1, i2⟩ := hib I hI
    obtain ⟨j1, j2⟩ := turn_bound (M := 1048576) _ R hR (fun t ht p hp => by
      obtain ⟨t1, t2⟩ := i2 t (List.mem_filter.1 ht).1
      unfold tfx tf at hp
      split at hp
      · cases hp
      · split at hp
        · injection hp with hp; subst hp; exact ⟨Nat.zero_le _, Nat.zero_le _⟩
        · split at hp
          · next n0 hn0 =>
            injection hp with hp; subst hp
            obtain ⟨x, hx, e⟩ := find_mem N _ _ hn0
            exact ⟨by show n0.size ≤ _; rw [e]; exact (hNs x hx).2, t2⟩
          · injection hp with hp; subst hp; exact ⟨t1, t2⟩)
    have hk := keep_len I
    have ht := tot_bound R j2
    have hm : R.length * (3 * 1048576 + 3) ≤ 1048577 * (3 * 1048576 + 3) := Nat.mul_le_mul_right _ (by omega)
    exact ⟨⟨by omega, j2⟩, by omega⟩
  have HFT := Aside0.mk (fun (w1 : World) (x : Below w.heap.size w w1) => fieldTurn_any s K1 r hts (fun p hp => vok_of (hpv p hp).1) (fun p hp => by have := (hpv p hp).2; omega) (by omega) A1 c1 N drop fail w1 (Kd.C_below hr x) (by omega) (fun y hy => by have := hNs y hy; omega) (fun I hI => by
    obtain ⟨i1, i2⟩ := hib I hI
    refine ⟨by omega, fun t ht => by have := (i2 t ht).1; omega, fun R hR => ?_⟩
    obtain ⟨⟨j1, j2⟩, j3⟩ := hturn I R hI hR
    exact ⟨fun t ht => by have := j2 t ht; omega, by omega, Nat.le_trans (joinT_le _) j3⟩))
  have HMK := Aside0.mk mark_any
  cases hi : items (srt (r.map fun s => s.data.toList)) with
  | none =>
    rw [hi] at HFT hft
    have H4 : Aside0 (∀ w1, Calls Tryz.prog 13 #[.string s] w1 fun e w' => (∃ v, e = .returned (.tuple #[v, .bool false])) ∧ Below w1.heap.size w1 w') := ⟨fun w1 => by
      obtain ⟨K, hK⟩ := hft
      refine (spec_FieldTerms.calls K s [] false w1 (hK K (Nat.le_refl _))).mono fun e w' hq => ?_
      obtain ⟨v, he, -, hb⟩ := hq
      exact ⟨⟨v, he⟩, hb⟩⟩
    clear hr h2 q2 hs hN hNs hd hf q3 h3 hval e2 e3 hK1 hts hpv hft hperm hib hturn hi
    go_enter Tryz.func4, Tryz.ntmps4
    go_wp2_with (first
      | (go_at_call 5; (with_reducible refine (H2.out).mono ?_); rintro e w1 ⟨rfl, hb⟩; have B1 := Aside0.mk hb; clear hb)
      | (go_at_call 6; (with_reducible refine (H3.out _).mono ?_); rintro e w2 ⟨rfl, hb⟩; have B2 := Aside0.mk (below_step B1.out hb); clear hb)
      | (go_at_call 13; (with_reducible refine (H4.out _).mono ?_); rintro e w3 ⟨⟨v, rfl⟩, hb⟩; have B3 := Aside0.mk (below_step B2.out hb); clear hb)
      | (go_at_call 14; (with_reducible refine (HFT.out _ B3.out).mono ?_); rintro e w4 ⟨ht, hb⟩; replace ht : e = .returned (.tuple #[.slice none 0 0, .string ⟨#[]⟩, .bool true]) := ht; subst ht; have B4 := Aside0.mk (below_step B3.out hb); clear hb))
    go_ret
    exact ⟨rfl, B4.out⟩
  | some I =>
    rw [hi] at HFT hft
    obtain ⟨hI1, hI2⟩ := hib I hi
    have hkl := keep_len I
    have htv := fieldTurn_ev N (by omega) drop fail (keep I) (by omega)
    rw [tms_tmd] at htv
    have H4 : Aside0 (∀ w1, Calls Tryz.prog 13 #[.string s] w1 fun e w' => (∃ A c, e = .returned (.tuple #[.slice A ((keep I).map tmD).length c, .bool true]) ∧ kT.C w' A ((keep I).map tmD).length ((keep I).map tmD) ∧ ((keep I).map tmD).length ≤ c) ∧ Below w1.heap.size w1 w') := ⟨fun w1 => by
      obtain ⟨K, hK⟩ := hft
      refine (spec_FieldTerms.calls K s ((keep I).map tmS) true w1 (hK K (Nat.le_refl _))).mono fun e w' hq => ?_
      obtain ⟨v, he, hR, hb⟩ := hq
      obtain ⟨A, c, rfl, hl, hC⟩ := Kd.R_reads hR
      rw [tms_tmd] at he hC hl
      exact ⟨⟨A, c, he, hC, hl⟩, hb⟩⟩
    cases ht : turnL (tfx N drop fail) (keep I) with
    | none =>
      rw [ht] at htv
      rw [Option.bind_some, ht] at HFT
      have H5 : Aside0 (∀ (A : Option Addr) (c : Nat) (w1 : World), Below w.heap.size w w1 → kT.C w1 A ((keep I).map tmD).length ((keep I).map tmD) → ((keep I).map tmD).length ≤ c → Calls Tryz.prog 15 #[.slice A ((keep I).map tmD).length c, .slice A1 N.length c1, .string drop, .string fail] w1 fun e w' => (∃ v, e = .returned (.tuple #[v, .bool false])) ∧ Below w1.heap.size w1 w') := ⟨fun A c w1 x hA hc => by
        obtain ⟨K, hK⟩ := htv
        refine (spec_FieldTurn.calls K A c _ A1 c1 N drop fail [] false w1 hA hc (Kd.C_below hr x) hc1 (hK K (Nat.le_refl _))).mono fun e w' hq => ?_
        obtain ⟨v, he, -, hb⟩ := hq
        exact ⟨⟨v, he⟩, hb⟩⟩
      generalize (keep I).map tmD = TS at H4 H5
      clear hr h2 q2 hs hN hNs hd hf q3 h3 hval e2 e3 hK1 hts hpv hft hperm hib hturn hi hI1 hI2 hkl htv ht
      go_enter Tryz.func4, Tryz.ntmps4
      go_wp2_with (first
        | (go_at_call 5; (with_reducible refine (H2.out).mono ?_); rintro e w1 ⟨rfl, hb⟩; have B1 := Aside0.mk hb; clear hb)
        | (go_at_call 6; (with_reducible refine (H3.out _).mono ?_); rintro e w2 ⟨rfl, hb⟩; have B2 := Aside0.mk (below_step B1.out hb); clear hb)
        | (go_at_call 13; (with_reducible refine (H4.out _).mono ?_); rintro e w3 ⟨⟨D, d, rfl, hC, hl⟩, hb⟩; have B3 := Aside0.mk (below_step B2.out hb); have D3 := Aside0.mk hC; have L3 := Aside0.mk hl; clear hb hC hl)
        | (go_at_call 14; (with_reducible refine (HFT.out _ B3.out).mono ?_); rintro e w4 ⟨ht, hb⟩; replace ht : e = .returned (.tuple #[.slice none 0 0, .string ⟨#[]⟩, .bool true]) := ht; subst ht; have B4 := Aside0.mk (below_step B3.out hb); have D4 := Aside0.mk (Kd.C_below D3.out hb); clear hb)
        | (go_at_call 15; (with_reducible refine (H5.out _ _ _ B4.out D4.out L3.out).mono ?_); rintro e w5 ⟨⟨v5, rfl⟩, hb⟩; have B5 := Aside0.mk (below_step B4.out hb); clear hb)
        | (go_at_call 14; refine (HMK.out _).mono ?_; rintro e w6 ⟨⟨v6, rfl⟩, hb⟩; have B6 := Aside0.mk (below_step B5.out hb); clear hb))
      go_ret
      exact ⟨rfl, B6.out⟩
    | some R =>
      obtain ⟨⟨hR1, hR2⟩, hR3⟩ := hturn I R hi ht
      rw [ht] at htv
      rw [Option.bind_some, ht] at HFT
      have HFT2 : Aside0 (∀ (w1 : World), Below w.heap.size w w1 → Calls Tryz.prog 14 #[.string s, .slice A1 N.length c1, .string drop, .string fail] w1 fun e w' => (∃ A c, e = .returned (.tuple #[.slice A (R.map tmD).length c, .string (joinT R), .bool false]) ∧ kT.C w' A (R.map tmD).length (R.map tmD) ∧ (R.map tmD).length ≤ c) ∧ Below w1.heap.size w1 w') := HFT
      have H5 : Aside0 (∀ (A : Option Addr) (c : Nat) (w1 : World), Below w.heap.size w w1 → kT.C w1 A ((keep I).map tmD).length ((keep I).map tmD) → ((keep I).map tmD).length ≤ c → Calls Tryz.prog 15 #[.slice A ((keep I).map tmD).length c, .slice A1 N.length c1, .string drop, .string fail] w1 fun e w' => (∃ B d, e = .returned (.tuple #[.slice B (R.map tmD).length d, .bool true]) ∧ kT.C w' B (R.map tmD).length (R.map tmD) ∧ (R.map tmD).length ≤ d) ∧ Below w1.heap.size w1 w') := ⟨fun A c w1 x hA hc => by
        obtain ⟨K, hK⟩ := htv
        refine (spec_FieldTurn.calls K A c _ A1 c1 N drop fail (R.map tmS) true w1 hA hc (Kd.C_below hr x) hc1 (hK K (Nat.le_refl _))).mono fun e w' hq => ?_
        obtain ⟨v, he, hR, hb⟩ := hq
        obtain ⟨B, d, rfl, hl, hC⟩ := Kd.R_reads hR
        rw [tms_tmd] at he hC hl
        exact ⟨⟨B, d, he, hC, hl⟩, hb⟩⟩
      have H6 : Aside0 (∀ (A B : Option Addr) (c d : Nat) (w1 : World), kT.C w1 A (R.map tmD).length (R.map tmD) → (R.map tmD).length ≤ c → kT.C w1 B (R.map tmD).length (R.map tmD) → (R.map tmD).length ≤ d → Calls Tryz.prog 8 #[.slice A (R.map tmD).length c, .slice B (R.map tmD).length d] w1 fun e w' => e = .returned (.bool true) ∧ Below w1.heap.size w1 w') := ⟨fun A B c d w1 hA hc hB hd => by
        obtain ⟨K, hK⟩ := same_ev (R.map tmD) (by rw [List.length_map]; omega)
        refine (spec_TermsSame.calls K A c _ B d _ true w1 hA hc hB hd (hK K (Nat.le_refl _))).mono fun e w' hq => ?_
        exact ⟨hq.1, by first | exact hq.2 | exact hq.2.below⟩⟩
      have H7 : Aside0 (∀ (A : Option Addr) (c : Nat) (w1 : World), kT.C w1 A (R.map tmD).length (R.map tmD) → Calls Tryz.prog 9 #[.slice A (R.map tmD).length c] w1 fun e w' => e = .returned (.string (joinT R)) ∧ Below w1.heap.size w1 w') := ⟨fun A c w1 hA => fieldText_any A c _ R _ w1 rfl rfl hA (by omega) (fun t ht => by have := (hR2 t ht).2; omega) hR3⟩
      generalize joinT R = tx at HFT2 H7
      generalize R.map tmD = RS at HFT2 H5 H6 H7
      generalize (keep I).map tmD = TS at H4 H5
      clear hr h2 q2 hs hN hNs hd hf q3 h3 hval e2 e3 hK1 hts hpv hft hperm hib hturn hi hI1 hI2 hkl htv ht HFT hR1 hR2 hR3
      go_enter Tryz.func4, Tryz.ntmps4
      go_wp2_with (first
        | (go_at_call 5; (with_reducible refine (H2.out).mono ?_); rintro e w1 ⟨rfl, hb⟩; have B1 := Aside0.mk hb; clear hb)
        | (go_at_call 6; (with_reducible refine (H3.out _).mono ?_); rintro e w2 ⟨rfl, hb⟩; have B2 := Aside0.mk (below_step B1.out hb); clear hb)
        | (go_at_call 13; (with_reducible refine (H4.out _).mono ?_); rintro e w3 ⟨⟨D, d, rfl, hC, hl⟩, hb⟩; have B3 := Aside0.mk (below_step B2.out hb); have D3 := Aside0.mk hC; have L3 := Aside0.mk hl; clear hb hC hl)
        | (go_at_call 14; (with_reducible refine (HFT2.out _ B3.out).mono ?_); rintro e w4 ⟨⟨A, c, rfl, hC, hl⟩, hb⟩; have B4 := Aside0.mk (below_step B3.out hb); have D4 := Aside0.mk (Kd.C_below D3.out hb); have C4 := Aside0.mk hC; have M4 := Aside0.mk hl; clear hb hC hl)
        | (go_at_call 15; (with_reducible refine (H5.out _ _ _ B4.out D4.out L3.out).mono ?_); rintro e w5 ⟨⟨E, g, rfl, hC, hl⟩, hb⟩; have B5 := Aside0.mk (below_step B4.out hb); have C5 := Aside0.mk (Kd.C_below C4.out hb); have E5 := Aside0.mk hC; have G5 := Aside0.mk hl; clear hb hC hl)
        | (go_at_call 14; refine (HMK.out _).mono ?_; rintro e w6 ⟨⟨v6, rfl⟩, hb⟩; have B6 := Aside0.mk (below_step B5.out hb); have C6 := Aside0.mk (Kd.C_below C5.out hb); have E6 := Aside0.mk (Kd.C_below E5.out hb); clear hb)
        | (go_at_call 8; (with_reducible refine (H6.out _ _ _ _ _ C6.out M4.out E6.out G5.out).mono ?_); rintro e w7 ⟨rfl, hb⟩; have B7 := Aside0.mk (below_step B6.out hb); have E7 := Aside0.mk (Kd.C_below E6.out hb); clear hb)
        | (go_at_call 9; (with_reducible refine (H7.out _ _ _ E7.out).mono ?_); rintro e w8 ⟨rfl, hb⟩; have B8 := Aside0.mk (below_step B7.out hb); clear hb))
      go_ret
      exact ⟨by first | rfl | (simp; done), B8.out⟩
end Go.Proofs.YthejejeginnbdaaGreatDoor.FdTL
