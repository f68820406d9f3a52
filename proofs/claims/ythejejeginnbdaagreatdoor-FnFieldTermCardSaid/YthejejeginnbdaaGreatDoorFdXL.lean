/- A selector of one term has it, is written, matches, and is parsed back: the law's walk. -/
import Derived.Test.YthejejeginnbdaaGreatDoorFdX
import Derived.Test.YthejejeginnbdaaGreatDoorFdG
import Derived.Test.YthejejeginnbdaaGreatDoorFdR
import Derived.Test.YthejejeginnbdaaGreatDoorFdT
import Derived.Test.YthejejeginnbdaaGreatDoorFdB
set_option linter.unusedVariables false
set_option linter.unusedSimpArgs false
namespace Go.Proofs.YthejejeginnbdaaGreatDoor.FdXL
open Go Go.RowKit Go.Proofs.YthejejeginnbdaaGreatDoor.PFnFieldTerm Go.Proofs.YthejejeginnbdaaGreatDoorW.PrintWords Go.Proofs.YthejejeginnbdaaGreatDoor.Txt Go.Proofs.YthejejeginnbdaaGreatDoor Go.Proofs.YthejejeginnbdaaGreatDoor.EscN Go.Proofs.YthejejeginnbdaaGreatDoor.FdN Go.Proofs.YthejejeginnbdaaGreatDoor.FdC Go.Proofs.YthejejeginnbdaaGreatDoor.FdS Go.Proofs.YthejejeginnbdaaGreatDoor.Fd Go.Proofs.YthejejeginnbdaaGreatDoor.FdR

theorem srt_one (x : List UInt8) : srt [x] = [x] := by unfold srt; exact List.mergeSort_singleton x
theorem keep_one (t : Tm) (h : ¬ none_ t = true) : keep [t] = [t] := by unfold keep; rw [List.filter_cons_of_pos (by cases hq : none_ t with | true => exact absurd hq h | false => rfl)]; rfl
theorem opB_len (b : Bool) : (opB b).size ≤ 2 := by cases b <;> decide
/-- A term's text, parsed: the term. -/
theorem back_any (t : Tm) (hk : t.2.1.size ≤ 2147483647) (hv : t.2.2.size ≤ 2147483647) (hs : t.2.1.data.toList.any sign = false) (hl : t.2.1.data.toList.getLast? ≠ some 33) (hn : ¬ none_ t = true) (hval : Val t.2.2.data.toList) (w : World) :
    Calls Tryz.prog 12 #[.string (txt t)] w fun e w' => (∃ A c, e = .returned (.tuple #[.slice A 1 c, .string (txt t), .bool false]) ∧ kT.C w' A 1 [tmD t] ∧ 1 ≤ c) ∧ Below w.heap.size w w' := by
  obtain ⟨h1, h2, h3, h4⟩ := FdB.term_items t hs hl
  have hz := txt_size t
  have ho := opB_len t.1
  have he : (mk (esc t.2.2.data.toList)).size ≤ 2 * t.2.2.size := by
    rw [mk_size]; have := esc_len t.2.2.data.toList; rw [← size_len] at this; exact this
  have hits : items (srt ([txt t].map fun s => s.data.toList)) = some [t] := by
    rw [List.map_cons, List.map_nil, srt_one]; exact h1
  have := fieldParse_any (txt t) ((txt t).size + 1) [txt t] (FdB.one_part _ h4 (by omega) h3) (fun p hp => by rw [List.mem_singleton.1 hp]; exact h2 hval) (fun p hp => by rw [List.mem_singleton.1 hp]; omega) (by simp) w (fun I hI => by
    rw [hits] at hI
    injection hI with hI
    subst hI
    refine ⟨by simp, fun u hu => by rw [List.mem_singleton.1 hu]; exact ⟨hk, hv⟩, ?_⟩
    rw [keep_one t hn, joinT_one]; omega)
  rw [hits] at this
  refine this.mono ?_
  rintro e w' ⟨ht, hb⟩
  unfold ToldF at ht
  simp only [keep_one t hn, joinT_one] at ht
  obtain ⟨A, c, he, hc, hl⟩ := ht
  exact ⟨⟨A, c, he, hc, hl⟩, hb⟩
set_option maxRecDepth 1000000 in
set_option maxHeartbeats 25600000 in
theorem law_walk (b0 : Bool) (k v : ByteArray) (A1 : Option Addr) (c1 : Nat) (L : List S43) (w : World) (hr : Kd.C k43 w A1 L.length L) (hc1 : L.length ≤ c1) (hk0 : k.size ≤ 9223372036854775807) (hv0 : v.size ≤ 9223372036854775807) :
    Calls Tryz.prog 3 #[.bool b0, .string k, .string v, .slice A1 L.length c1] w fun e w' => e = .returned (.bool true) ∧ Below w.heap.size w w' := by
  have mixed : Tryz.prog.follows .mixedOrders = true := by kernel_rfl
  by_cases hk : k.size ≤ 2147483647
  rotate_left
  · have d1 : ((2147483647 : Int) < (k.size : Int)) = True := eq_true (by omega)
    have d2 : decide ((2147483647 : Int) < (k.size : Int)) = true := decide_eq_true (by omega)
    clear hr hk
    go_enter Tryz.func3, Tryz.ntmps3
    go_wp2
    go_ret
    exact ⟨rfl, Below.refl _ _⟩
  have d1 : ((2147483647 : Int) < (k.size : Int)) = False := eq_false (by omega)
  have d2 : decide ((2147483647 : Int) < (k.size : Int)) = false := decide_eq_false (by omega)
  have d3 : (2147483647 < k.size) = False := eq_false (by omega)
  by_cases hv : v.size ≤ 2147483647
  rotate_left
  · have f1 : ((2147483647 : Int) < (v.size : Int)) = True := eq_true (by omega)
    have f2 : decide ((2147483647 : Int) < (v.size : Int)) = true := decide_eq_true (by omega)
    clear hr hk hv
    go_enter Tryz.func3, Tryz.ntmps3
    go_wp2
    go_ret
    exact ⟨rfl, Below.refl _ _⟩
  have f1 : ((2147483647 : Int) < (v.size : Int)) = False := eq_false (by omega)
  have f2 : decide ((2147483647 : Int) < (v.size : Int)) = false := decide_eq_false (by omega)
  have f3 : (2147483647 < v.size) = False := eq_false (by omega)
  obtain ⟨b2, h2, q2⟩ := fits2_f L
  have H2 : Aside0 (Calls Tryz.prog 5 #[.slice A1 L.length c1] w fun e w' => e = .returned (.bool b2) ∧ Below w.heap.size w w') := ⟨by
    obtain ⟨K, hK⟩ := h2
    refine (laws_zzFits2.calls K A1 c1 L b2 w hr hc1 (hK K (Nat.le_refl _))).mono fun e w' hq => ?_
    exact ⟨hq.1, by first | exact hq.2 | exact hq.2.below⟩⟩
  cases b2 with
  | false =>
    clear hr h2 q2 hk hv
    go_enter Tryz.func3, Tryz.ntmps3
    go_wp2_with (first | (go_at_call 5; (with_reducible refine (H2.out).mono ?_); rintro e w1 ⟨rfl, hb⟩; have B1 := Aside0.mk hb; clear hb))
    go_ret
    exact ⟨rfl, B1.out⟩
  | true =>
  obtain ⟨hL, hLs⟩ := q2 rfl
  have hz1 := ByteArray.size_append (a := k) (b := (⟨#[32]⟩ : ByteArray))
  have hz2 := ByteArray.size_append (a := k ++ (⟨#[32]⟩ : ByteArray)) (b := v)
  have hz3 : (⟨#[32]⟩ : ByteArray).size = 1 := rfl
  have z1 : (k.size + 1 ≤ 9223372036854775807) = True := eq_true (by omega)
  have z2 : (9223372036854775807 < k.size + 1) = False := eq_false (by omega)
  have z3 : ((k ++ (⟨#[32]⟩ : ByteArray)).size + v.size ≤ 9223372036854775807) = True := eq_true (by omega)
  have z4 : (9223372036854775807 < (k ++ (⟨#[32]⟩ : ByteArray)).size + v.size) = False := eq_false (by omega)
  have z5 : (k.size + 1 + v.size ≤ 9223372036854775807) = True := eq_true (by omega)
  have z6 : (9223372036854775807 < k.size + 1 + v.size) = False := eq_false (by omega)
  obtain ⟨b3, q3, h3⟩ := FdT.plain_any (k ++ (⟨#[32]⟩ : ByteArray) ++ v) (by omega)
  have H3 := Aside0.mk h3
  cases b3 with
  | false =>
    clear hr h2 q2 hk hv hL hLs q3 h3 hz1 hz2 hz3
    go_enter Tryz.func3, Tryz.ntmps3
    go_wp2_with (first
      | (go_at_call 5; (with_reducible refine (H2.out).mono ?_); rintro e w1 ⟨rfl, hb⟩; have B1 := Aside0.mk hb; clear hb)
      | (go_at_call 6; (with_reducible refine (H3.out _).mono ?_); rintro e w2 ⟨rfl, hb⟩; have B2 := Aside0.mk (below_step B1.out hb); clear hb))
    go_ret
    exact ⟨rfl, B2.out⟩
  | true =>
  have hval0 := q3 rfl
  rw [data_append, data_append, List.append_assoc] at hval0
  have hval : Val v.data.toList := (Val.split _ k.data.toList 32 v.data.toList (Nat.le_refl _) hval0 (by decide)).2
  clear q3 h3 h2 q2 hz1 hz2 hz3 hval0
  -- the row of the one term that is wanted
  have hme : Ev (fun K => spec_FieldMatch.f K [tmS (b0, k, v)] L) (matchT L (b0, k, v)) := by
    have := fieldMatch_ev L (by omega) [(b0, k, v)] (by simp)
    simpa using this
  have htd : tmD (b0, k, v) = tmS (b0, k, v) := rfl
  have HFT : Aside0 (∀ W : World, Below w.heap.size w W → ∀ (e1 : TypeId), Calls Tryz.prog 7 #[.bool b0, .string k, .string v, .slice A1 L.length c1] (W.alloc (.cells #[.string k, .string (opB b0), .string v] e1)) fun e w' => ((∃ A c, e = .returned (.tuple #[.slice A 1 c, .string (txt (b0, k, v)), .bool (matchT L (b0, k, v))]) ∧ kT.C w' A 1 [tmD (b0, k, v)] ∧ 1 ≤ c) ∧ (∀ n, n = W.heap.size → kT.C w' (some ⟨n, 0, none⟩) 1 [tmD (b0, k, v)])) ∧ Below w.heap.size w w') := ⟨fun W x e1 => by
    have hx2 := below_alloc x (.cells #[.string k, .string (opB b0), .string v] e1)
    have hw := row1 W (tmD (b0, k, v)) e1
    have hq : Calls Tryz.prog 7 #[.bool b0, .string k, .string v, .slice A1 L.length c1] (W.alloc (.cells #[.string k, .string (opB b0), .string v] e1)) fun e w' => (∃ A c, e = .returned (.tuple #[.slice A 1 c, .string (txt (b0, k, v)), .bool (matchT L (b0, k, v))]) ∧ kT.C w' A 1 [tmD (b0, k, v)] ∧ 1 ≤ c) ∧ Below (W.alloc (.cells #[.string k, .string (opB b0), .string v] e1)).heap.size (W.alloc (.cells #[.string k, .string (opB b0), .string v] e1)) w' := by
      cases b0 with
      | true => exact fieldTerm_true k v hk hv A1 c1 L _ (Kd.C_below hr hx2) (by omega) (fun y hy => by have := hLs y hy; omega)
      | false => exact fieldTerm_false k v hk hv A1 c1 L _ (Kd.C_below hr hx2) (by omega) (fun y hy => by have := hLs y hy; omega)
    refine hq.mono ?_
    rintro e w' ⟨h, hb⟩
    exact ⟨⟨h, fun n hn => by rw [hn]; exact Kd.C_below hw hb⟩, below_step hx2 hb⟩⟩
  have H6 : Aside0 (∀ (A B : Option Addr) (c d : Nat) (w1 : World), kT.C w1 A 1 [tmD (b0, k, v)] → 1 ≤ c → kT.C w1 B 1 [tmD (b0, k, v)] → 1 ≤ d → Calls Tryz.prog 8 #[.slice A 1 c, .slice B 1 d] w1 fun e w' => e = .returned (.bool true) ∧ Below w1.heap.size w1 w') := ⟨fun A B c d w1 hA hc hB hd => by
    obtain ⟨K, hK⟩ := same_ev [tmD (b0, k, v)] (by simp)
    refine (spec_TermsSame.calls K A c [tmD (b0, k, v)] B d [tmD (b0, k, v)] true w1 hA hc hB hd (hK K (Nat.le_refl _))).mono fun e w' hq => ?_
    exact ⟨hq.1, by first | exact hq.2 | exact hq.2.below⟩⟩
  have H7 : Aside0 (∀ (A : Option Addr) (c : Nat) (w1 : World), kT.C w1 A 1 [tmD (b0, k, v)] → Calls Tryz.prog 9 #[.slice A 1 c] w1 fun e w' => e = .returned (.string (txt (b0, k, v))) ∧ Below w1.heap.size w1 w') := ⟨fun A c w1 hA => by
    have := fieldText_any A c 1 [(b0, k, v)] [tmD (b0, k, v)] w1 rfl rfl hA (by simp) (fun t ht => by rw [List.mem_singleton.1 ht]; exact hv) (by
      have h1 := txt_size (b0, k, v)
      have h2 := opB_len b0
      have h3 : (mk (esc v.data.toList)).size ≤ 2 * v.size := by rw [mk_size]; have := esc_len v.data.toList; rw [← size_len] at this; exact this
      simp only at h1
      unfold tot
      simp only [List.map_cons, List.map_nil, List.sum_cons, List.sum_nil]
      omega)
    rw [joinT_one] at this
    exact this⟩
  have H8 : Aside0 (∀ (A : Option Addr) (c : Nat) (w1 : World), Below w.heap.size w w1 → kT.C w1 A 1 [tmD (b0, k, v)] → 1 ≤ c → Calls Tryz.prog 10 #[.slice A 1 c, .slice A1 L.length c1] w1 fun e w' => e = .returned (.bool (matchT L (b0, k, v))) ∧ Below w1.heap.size w1 w') := ⟨fun A c w1 x hA hc => by
    obtain ⟨K, hK⟩ := hme
    refine (spec_FieldMatch.calls K A c [tmS (b0, k, v)] A1 c1 L _ w1 hA hc (Kd.C_below hr x) hc1 (hK K (Nat.le_refl _))).mono fun e w' hq => ?_
    exact ⟨hq.1, by first | exact hq.2 | exact hq.2.below⟩⟩
  have HUN := unescape_ev k.data.toList (by rw [← size_len]; omega)
  rw [mk_data] at HUN
  have H9 : Aside0 (∀ w1, Calls Tryz.prog 11 #[.string k] w1 fun e w' => e = .returned (.tuple #[.string (unR (un k.data.toList) []).1, .bool (unR (un k.data.toList) []).2]) ∧ Below w1.heap.size w1 w') := ⟨fun w1 => by
    obtain ⟨K, hK⟩ := HUN
    have := spec_Unescape.calls K k (unR (un k.data.toList) []).1 (unR (un k.data.toList) []).2 w1 (hK K (Nat.le_refl _))
    refine this.mono fun e w' hq => ?_
    exact ⟨hq.1, by first | exact hq.2 | exact hq.2.below⟩⟩
  have HBK : Aside0 (k.data.toList.any sign = false → k.data.toList.getLast? ≠ some 33 → ¬ none_ (b0, k, v) = true → ∀ w1, Calls Tryz.prog 12 #[.string (txt (b0, k, v))] w1 fun e w' => (∃ A c, e = .returned (.tuple #[.slice A 1 c, .string (txt (b0, k, v)), .bool false]) ∧ kT.C w' A 1 [tmD (b0, k, v)] ∧ 1 ≤ c) ∧ Below w1.heap.size w1 w') := ⟨fun a1 a2 a3 w1 => back_any (b0, k, v) hk hv a1 a2 a3 hval w1⟩
  have HNN : Aside0 (none_ (b0, k, v) = (k.data.toList.isEmpty && v.data.toList.isEmpty)) := ⟨rfl⟩
  generalize tmD (b0, k, v) = td at HFT H6 H7 H8 HBK
  generalize txt (b0, k, v) = tx at HFT H7 HBK
  generalize matchT L (b0, k, v) = mt at HFT H8
  clear HUN hme htd hr hL hLs hval
  have fm : (mt == mt) = true := beq_self_eq_true _
  have ft : (tx.toList == tx.toList) = true := beq_self_eq_true _
  have hks := size_len k
  have htl : k.toList = k.data.toList := toL k
  have hvl : v.toList = v.data.toList := toL v
  obtain ⟨P, hP⟩ : ∃ P, P = (unR (un k.data.toList) []).1 := ⟨_, rfl⟩
  obtain ⟨Q, hQ⟩ : ∃ Q, Q = (unR (un k.data.toList) []).2 := ⟨_, rfl⟩
  have H9' : Aside0 (∀ w1, Calls Tryz.prog 11 #[.string k] w1 fun e w' => e = .returned (.tuple #[.string P, .bool Q]) ∧ Below w1.heap.size w1 w') := ⟨fun w1 => by rw [hP, hQ]; exact H9.out w1⟩
  clear H9
  cases Q with
  | false =>
    clear hP hQ hks htl hvl hk hv HBK HNN
    cases b0 with
    | true =>
      replace HFT : Aside0 (∀ W : World, Below w.heap.size w W → ∀ (e1 : TypeId), Calls Tryz.prog 7 #[.bool true, .string k, .string v, .slice A1 L.length c1] (W.alloc (.cells #[.string k, .string (⟨#[61]⟩ : ByteArray), .string v] e1)) fun e w' => ((∃ A c, e = .returned (.tuple #[.slice A 1 c, .string tx, .bool mt]) ∧ kT.C w' A 1 [td] ∧ 1 ≤ c) ∧ (∀ n, n = W.heap.size → kT.C w' (some ⟨n, 0, none⟩) 1 [td])) ∧ Below w.heap.size w w') := HFT
      go_enter Tryz.func3, Tryz.ntmps3
      go_wp2_with (first
        | (go_at_call 5; (with_reducible refine (H2.out).mono ?_); rintro e w1 ⟨rfl, hb⟩; have B1 := Aside0.mk hb; clear hb)
        | (go_at_call 6; (with_reducible refine (H3.out _).mono ?_); rintro e w2 ⟨rfl, hb⟩; have B2 := Aside0.mk (below_step B1.out hb); clear hb)
        | (go_at_call 7; refine (HFT.out _ (by repeat (first | exact B2.out | apply below_alloc | apply below_put)) _).mono ?_; rintro e w3 ⟨⟨⟨A, c, rfl, hC, hl⟩, hD⟩, hb⟩; have B3 := Aside0.mk hb; have C3 := Aside0.mk hC; have L3 := Aside0.mk hl; have D3 := Aside0.mk hD; clear hb hC hl hD)
        | (go_at_call 8; refine (H6.out _ _ _ _ _ C3.out L3.out (D3.out _ (by first | rfl | simp)) (Nat.le_refl _)).mono ?_; rintro e w4 ⟨rfl, hb⟩; have B4 := Aside0.mk (below_step B3.out hb); have D4 := Aside0.mk (fun n hn => Kd.C_below (D3.out n hn) hb); clear hb C3)
        | (go_at_call 9; refine (H7.out _ _ _ (D4.out _ (by first | rfl | simp))).mono ?_; rintro e w5 ⟨rfl, hb⟩; have B5 := Aside0.mk (below_step B4.out hb); have D5 := Aside0.mk (fun n hn => Kd.C_below (D4.out n hn) hb); clear hb)
        | (go_at_call 10; refine (H8.out _ _ _ B5.out (D5.out _ (by first | rfl | simp)) (Nat.le_refl _)).mono ?_; rintro e w6 ⟨rfl, hb⟩; have B6 := Aside0.mk (below_step B5.out hb); have D6 := Aside0.mk (fun n hn => Kd.C_below (D5.out n hn) hb); clear hb)
        | (go_at_call 11; (with_reducible refine (H9'.out _).mono ?_); rintro e w7 ⟨rfl, hb⟩; have B7 := Aside0.mk (below_step B6.out hb); have D7 := Aside0.mk (fun n hn => Kd.C_below (D6.out n hn) hb); clear hb))
      go_ret
      exact ⟨by first | rfl | (simp; done), B7.out⟩
    | false =>
      replace HFT : Aside0 (∀ W : World, Below w.heap.size w W → ∀ (e1 : TypeId), Calls Tryz.prog 7 #[.bool false, .string k, .string v, .slice A1 L.length c1] (W.alloc (.cells #[.string k, .string (⟨#[33, 61]⟩ : ByteArray), .string v] e1)) fun e w' => ((∃ A c, e = .returned (.tuple #[.slice A 1 c, .string tx, .bool mt]) ∧ kT.C w' A 1 [td] ∧ 1 ≤ c) ∧ (∀ n, n = W.heap.size → kT.C w' (some ⟨n, 0, none⟩) 1 [td])) ∧ Below w.heap.size w w') := HFT
      go_enter Tryz.func3, Tryz.ntmps3
      go_wp2_with (first
        | (go_at_call 5; (with_reducible refine (H2.out).mono ?_); rintro e w1 ⟨rfl, hb⟩; have B1 := Aside0.mk hb; clear hb)
        | (go_at_call 6; (with_reducible refine (H3.out _).mono ?_); rintro e w2 ⟨rfl, hb⟩; have B2 := Aside0.mk (below_step B1.out hb); clear hb)
        | (go_at_call 7; refine (HFT.out _ (by repeat (first | exact B2.out | apply below_alloc | apply below_put)) _).mono ?_; rintro e w3 ⟨⟨⟨A, c, rfl, hC, hl⟩, hD⟩, hb⟩; have B3 := Aside0.mk hb; have C3 := Aside0.mk hC; have L3 := Aside0.mk hl; have D3 := Aside0.mk hD; clear hb hC hl hD)
        | (go_at_call 8; refine (H6.out _ _ _ _ _ C3.out L3.out (D3.out _ (by first | rfl | simp)) (Nat.le_refl _)).mono ?_; rintro e w4 ⟨rfl, hb⟩; have B4 := Aside0.mk (below_step B3.out hb); have D4 := Aside0.mk (fun n hn => Kd.C_below (D3.out n hn) hb); clear hb C3)
        | (go_at_call 9; refine (H7.out _ _ _ (D4.out _ (by first | rfl | simp))).mono ?_; rintro e w5 ⟨rfl, hb⟩; have B5 := Aside0.mk (below_step B4.out hb); have D5 := Aside0.mk (fun n hn => Kd.C_below (D4.out n hn) hb); clear hb)
        | (go_at_call 10; refine (H8.out _ _ _ B5.out (D5.out _ (by first | rfl | simp)) (Nat.le_refl _)).mono ?_; rintro e w6 ⟨rfl, hb⟩; have B6 := Aside0.mk (below_step B5.out hb); have D6 := Aside0.mk (fun n hn => Kd.C_below (D5.out n hn) hb); clear hb)
        | (go_at_call 11; (with_reducible refine (H9'.out _).mono ?_); rintro e w7 ⟨rfl, hb⟩; have B7 := Aside0.mk (below_step B6.out hb); have D7 := Aside0.mk (fun n hn => Kd.C_below (D6.out n hn) hb); clear hb))
      go_ret
      exact ⟨by first | rfl | (simp; done), B7.out⟩
  | true =>
  have hun : un k.data.toList = some P.data.toList := by
    cases hu : un k.data.toList with
    | none => rw [hu] at hQ; cases hQ
    | some p => rw [hu] at hP; rw [hP]; rfl
  clear hP hQ
  by_cases hpk : P.data.toList = k.data.toList
  rotate_left
  · have g1 : (P.toList == k.toList) = false := beq_eq_false_iff_ne.2 (by rw [toL, toL]; exact hpk)
    clear hks htl hvl hk hv HBK HNN hun hpk
    cases b0 with
    | true =>
      replace HFT : Aside0 (∀ W : World, Below w.heap.size w W → ∀ (e1 : TypeId), Calls Tryz.prog 7 #[.bool true, .string k, .string v, .slice A1 L.length c1] (W.alloc (.cells #[.string k, .string (⟨#[61]⟩ : ByteArray), .string v] e1)) fun e w' => ((∃ A c, e = .returned (.tuple #[.slice A 1 c, .string tx, .bool mt]) ∧ kT.C w' A 1 [td] ∧ 1 ≤ c) ∧ (∀ n, n = W.heap.size → kT.C w' (some ⟨n, 0, none⟩) 1 [td])) ∧ Below w.heap.size w w') := HFT
      go_enter Tryz.func3, Tryz.ntmps3
      go_wp2_with (first
        | (go_at_call 5; (with_reducible refine (H2.out).mono ?_); rintro e w1 ⟨rfl, hb⟩; have B1 := Aside0.mk hb; clear hb)
        | (go_at_call 6; (with_reducible refine (H3.out _).mono ?_); rintro e w2 ⟨rfl, hb⟩; have B2 := Aside0.mk (below_step B1.out hb); clear hb)
        | (go_at_call 7; refine (HFT.out _ (by repeat (first | exact B2.out | apply below_alloc | apply below_put)) _).mono ?_; rintro e w3 ⟨⟨⟨A, c, rfl, hC, hl⟩, hD⟩, hb⟩; have B3 := Aside0.mk hb; have C3 := Aside0.mk hC; have L3 := Aside0.mk hl; have D3 := Aside0.mk hD; clear hb hC hl hD)
        | (go_at_call 8; refine (H6.out _ _ _ _ _ C3.out L3.out (D3.out _ (by first | rfl | simp)) (Nat.le_refl _)).mono ?_; rintro e w4 ⟨rfl, hb⟩; have B4 := Aside0.mk (below_step B3.out hb); have D4 := Aside0.mk (fun n hn => Kd.C_below (D3.out n hn) hb); clear hb C3)
        | (go_at_call 9; refine (H7.out _ _ _ (D4.out _ (by first | rfl | simp))).mono ?_; rintro e w5 ⟨rfl, hb⟩; have B5 := Aside0.mk (below_step B4.out hb); have D5 := Aside0.mk (fun n hn => Kd.C_below (D4.out n hn) hb); clear hb)
        | (go_at_call 10; refine (H8.out _ _ _ B5.out (D5.out _ (by first | rfl | simp)) (Nat.le_refl _)).mono ?_; rintro e w6 ⟨rfl, hb⟩; have B6 := Aside0.mk (below_step B5.out hb); have D6 := Aside0.mk (fun n hn => Kd.C_below (D5.out n hn) hb); clear hb)
        | (go_at_call 11; (with_reducible refine (H9'.out _).mono ?_); rintro e w7 ⟨rfl, hb⟩; have B7 := Aside0.mk (below_step B6.out hb); have D7 := Aside0.mk (fun n hn => Kd.C_below (D6.out n hn) hb); clear hb))
      go_ret
      exact ⟨by first | rfl | (simp; done), B7.out⟩
    | false =>
      replace HFT : Aside0 (∀ W : World, Below w.heap.size w W → ∀ (e1 : TypeId), Calls Tryz.prog 7 #[.bool false, .string k, .string v, .slice A1 L.length c1] (W.alloc (.cells #[.string k, .string (⟨#[33, 61]⟩ : ByteArray), .string v] e1)) fun e w' => ((∃ A c, e = .returned (.tuple #[.slice A 1 c, .string tx, .bool mt]) ∧ kT.C w' A 1 [td] ∧ 1 ≤ c) ∧ (∀ n, n = W.heap.size → kT.C w' (some ⟨n, 0, none⟩) 1 [td])) ∧ Below w.heap.size w w') := HFT
      go_enter Tryz.func3, Tryz.ntmps3
      go_wp2_with (first
        | (go_at_call 5; (with_reducible refine (H2.out).mono ?_); rintro e w1 ⟨rfl, hb⟩; have B1 := Aside0.mk hb; clear hb)
        | (go_at_call 6; (with_reducible refine (H3.out _).mono ?_); rintro e w2 ⟨rfl, hb⟩; have B2 := Aside0.mk (below_step B1.out hb); clear hb)
        | (go_at_call 7; refine (HFT.out _ (by repeat (first | exact B2.out | apply below_alloc | apply below_put)) _).mono ?_; rintro e w3 ⟨⟨⟨A, c, rfl, hC, hl⟩, hD⟩, hb⟩; have B3 := Aside0.mk hb; have C3 := Aside0.mk hC; have L3 := Aside0.mk hl; have D3 := Aside0.mk hD; clear hb hC hl hD)
        | (go_at_call 8; refine (H6.out _ _ _ _ _ C3.out L3.out (D3.out _ (by first | rfl | simp)) (Nat.le_refl _)).mono ?_; rintro e w4 ⟨rfl, hb⟩; have B4 := Aside0.mk (below_step B3.out hb); have D4 := Aside0.mk (fun n hn => Kd.C_below (D3.out n hn) hb); clear hb C3)
        | (go_at_call 9; refine (H7.out _ _ _ (D4.out _ (by first | rfl | simp))).mono ?_; rintro e w5 ⟨rfl, hb⟩; have B5 := Aside0.mk (below_step B4.out hb); have D5 := Aside0.mk (fun n hn => Kd.C_below (D4.out n hn) hb); clear hb)
        | (go_at_call 10; refine (H8.out _ _ _ B5.out (D5.out _ (by first | rfl | simp)) (Nat.le_refl _)).mono ?_; rintro e w6 ⟨rfl, hb⟩; have B6 := Aside0.mk (below_step B5.out hb); have D6 := Aside0.mk (fun n hn => Kd.C_below (D5.out n hn) hb); clear hb)
        | (go_at_call 11; (with_reducible refine (H9'.out _).mono ?_); rintro e w7 ⟨rfl, hb⟩; have B7 := Aside0.mk (below_step B6.out hb); have D7 := Aside0.mk (fun n hn => Kd.C_below (D6.out n hn) hb); clear hb))
      go_ret
      exact ⟨by first | rfl | (simp; done), B7.out⟩
  have g1 : (P.toList == k.toList) = true := beq_iff_eq.2 (by rw [toL, toL]; exact hpk)
  have hany : k.data.toList.any sign = false := FdB.un_same _ _ _ (Nat.le_refl _) hun (by rw [hpk])
  clear hun hpk
  by_cases h0 : k.size = 0
  · have hnil : k.data.toList = [] := List.length_eq_zero_iff.1 (by omega)
    have e1 : ((0 : Int) < (k.size : Int)) = False := eq_false (by omega)
    have e2 : decide ((0 : Int) < (k.size : Int)) = false := decide_eq_false (by omega)
    have e3 : (0 < k.size) = False := eq_false (by omega)
    have e4 : (k.toList == ([] : List UInt8)) = true := beq_iff_eq.2 (by rw [htl]; exact hnil)
    have e5 : k.toList.isEmpty = true := by rw [htl, hnil]; rfl
    by_cases hv1 : v.data.toList = []
    · have e6 : (v.toList == ([] : List UInt8)) = true := beq_iff_eq.2 (by rw [hvl]; exact hv1)
      have e7 : v.toList.isEmpty = true := by rw [hvl, hv1]; rfl
      clear hks htl hvl hk hv HBK HNN hany hnil h0 hv1
      cases b0 with
      | true =>
        replace HFT : Aside0 (∀ W : World, Below w.heap.size w W → ∀ (e1 : TypeId), Calls Tryz.prog 7 #[.bool true, .string k, .string v, .slice A1 L.length c1] (W.alloc (.cells #[.string k, .string (⟨#[61]⟩ : ByteArray), .string v] e1)) fun e w' => ((∃ A c, e = .returned (.tuple #[.slice A 1 c, .string tx, .bool mt]) ∧ kT.C w' A 1 [td] ∧ 1 ≤ c) ∧ (∀ n, n = W.heap.size → kT.C w' (some ⟨n, 0, none⟩) 1 [td])) ∧ Below w.heap.size w w') := HFT
        go_enter Tryz.func3, Tryz.ntmps3
        go_wp2_with (first
          | (go_at_call 5; (with_reducible refine (H2.out).mono ?_); rintro e w1 ⟨rfl, hb⟩; have B1 := Aside0.mk hb; clear hb)
          | (go_at_call 6; (with_reducible refine (H3.out _).mono ?_); rintro e w2 ⟨rfl, hb⟩; have B2 := Aside0.mk (below_step B1.out hb); clear hb)
          | (go_at_call 7; refine (HFT.out _ (by repeat (first | exact B2.out | apply below_alloc | apply below_put)) _).mono ?_; rintro e w3 ⟨⟨⟨A, c, rfl, hC, hl⟩, hD⟩, hb⟩; have B3 := Aside0.mk hb; have C3 := Aside0.mk hC; have L3 := Aside0.mk hl; have D3 := Aside0.mk hD; clear hb hC hl hD)
          | (go_at_call 8; refine (H6.out _ _ _ _ _ C3.out L3.out (D3.out _ (by first | rfl | simp)) (Nat.le_refl _)).mono ?_; rintro e w4 ⟨rfl, hb⟩; have B4 := Aside0.mk (below_step B3.out hb); have D4 := Aside0.mk (fun n hn => Kd.C_below (D3.out n hn) hb); clear hb C3)
          | (go_at_call 9; refine (H7.out _ _ _ (D4.out _ (by first | rfl | simp))).mono ?_; rintro e w5 ⟨rfl, hb⟩; have B5 := Aside0.mk (below_step B4.out hb); have D5 := Aside0.mk (fun n hn => Kd.C_below (D4.out n hn) hb); clear hb)
          | (go_at_call 10; refine (H8.out _ _ _ B5.out (D5.out _ (by first | rfl | simp)) (Nat.le_refl _)).mono ?_; rintro e w6 ⟨rfl, hb⟩; have B6 := Aside0.mk (below_step B5.out hb); have D6 := Aside0.mk (fun n hn => Kd.C_below (D5.out n hn) hb); clear hb)
          | (go_at_call 11; (with_reducible refine (H9'.out _).mono ?_); rintro e w7 ⟨rfl, hb⟩; have B7 := Aside0.mk (below_step B6.out hb); have D7 := Aside0.mk (fun n hn => Kd.C_below (D6.out n hn) hb); clear hb))
        go_ret
        exact ⟨by first | rfl | (simp; done), B7.out⟩
      | false =>
        replace HFT : Aside0 (∀ W : World, Below w.heap.size w W → ∀ (e1 : TypeId), Calls Tryz.prog 7 #[.bool false, .string k, .string v, .slice A1 L.length c1] (W.alloc (.cells #[.string k, .string (⟨#[33, 61]⟩ : ByteArray), .string v] e1)) fun e w' => ((∃ A c, e = .returned (.tuple #[.slice A 1 c, .string tx, .bool mt]) ∧ kT.C w' A 1 [td] ∧ 1 ≤ c) ∧ (∀ n, n = W.heap.size → kT.C w' (some ⟨n, 0, none⟩) 1 [td])) ∧ Below w.heap.size w w') := HFT
        go_enter Tryz.func3, Tryz.ntmps3
        go_wp2_with (first
          | (go_at_call 5; (with_reducible refine (H2.out).mono ?_); rintro e w1 ⟨rfl, hb⟩; have B1 := Aside0.mk hb; clear hb)
          | (go_at_call 6; (with_reducible refine (H3.out _).mono ?_); rintro e w2 ⟨rfl, hb⟩; have B2 := Aside0.mk (below_step B1.out hb); clear hb)
          | (go_at_call 7; refine (HFT.out _ (by repeat (first | exact B2.out | apply below_alloc | apply below_put)) _).mono ?_; rintro e w3 ⟨⟨⟨A, c, rfl, hC, hl⟩, hD⟩, hb⟩; have B3 := Aside0.mk hb; have C3 := Aside0.mk hC; have L3 := Aside0.mk hl; have D3 := Aside0.mk hD; clear hb hC hl hD)
          | (go_at_call 8; refine (H6.out _ _ _ _ _ C3.out L3.out (D3.out _ (by first | rfl | simp)) (Nat.le_refl _)).mono ?_; rintro e w4 ⟨rfl, hb⟩; have B4 := Aside0.mk (below_step B3.out hb); have D4 := Aside0.mk (fun n hn => Kd.C_below (D3.out n hn) hb); clear hb C3)
          | (go_at_call 9; refine (H7.out _ _ _ (D4.out _ (by first | rfl | simp))).mono ?_; rintro e w5 ⟨rfl, hb⟩; have B5 := Aside0.mk (below_step B4.out hb); have D5 := Aside0.mk (fun n hn => Kd.C_below (D4.out n hn) hb); clear hb)
          | (go_at_call 10; refine (H8.out _ _ _ B5.out (D5.out _ (by first | rfl | simp)) (Nat.le_refl _)).mono ?_; rintro e w6 ⟨rfl, hb⟩; have B6 := Aside0.mk (below_step B5.out hb); have D6 := Aside0.mk (fun n hn => Kd.C_below (D5.out n hn) hb); clear hb)
          | (go_at_call 11; (with_reducible refine (H9'.out _).mono ?_); rintro e w7 ⟨rfl, hb⟩; have B7 := Aside0.mk (below_step B6.out hb); have D7 := Aside0.mk (fun n hn => Kd.C_below (D6.out n hn) hb); clear hb))
        go_ret
        exact ⟨by first | rfl | (simp; done), B7.out⟩
    · have e6 : (v.toList == ([] : List UInt8)) = false := beq_eq_false_iff_ne.2 (by rw [hvl]; exact hv1)
      have e7 : v.toList.isEmpty = false := by rw [hvl]; cases hq : v.data.toList with | nil => exact absurd hq hv1 | cons a b => rfl
      have HB9 := Aside0.mk (HBK.out hany (by rw [hnil]; simp) (by rw [HNN.out]; cases hq : v.data.toList with | nil => exact absurd hq hv1 | cons a b => simp))
      clear hks htl hvl hk hv HBK HNN hany hnil h0 hv1
      cases b0 with
      | true =>
        replace HFT : Aside0 (∀ W : World, Below w.heap.size w W → ∀ (e1 : TypeId), Calls Tryz.prog 7 #[.bool true, .string k, .string v, .slice A1 L.length c1] (W.alloc (.cells #[.string k, .string (⟨#[61]⟩ : ByteArray), .string v] e1)) fun e w' => ((∃ A c, e = .returned (.tuple #[.slice A 1 c, .string tx, .bool mt]) ∧ kT.C w' A 1 [td] ∧ 1 ≤ c) ∧ (∀ n, n = W.heap.size → kT.C w' (some ⟨n, 0, none⟩) 1 [td])) ∧ Below w.heap.size w w') := HFT
        go_enter Tryz.func3, Tryz.ntmps3
        go_wp2_with (first
          | (go_at_call 5; (with_reducible refine (H2.out).mono ?_); rintro e w1 ⟨rfl, hb⟩; have B1 := Aside0.mk hb; clear hb)
          | (go_at_call 6; (with_reducible refine (H3.out _).mono ?_); rintro e w2 ⟨rfl, hb⟩; have B2 := Aside0.mk (below_step B1.out hb); clear hb)
          | (go_at_call 7; refine (HFT.out _ (by repeat (first | exact B2.out | apply below_alloc | apply below_put)) _).mono ?_; rintro e w3 ⟨⟨⟨A, c, rfl, hC, hl⟩, hD⟩, hb⟩; have B3 := Aside0.mk hb; have C3 := Aside0.mk hC; have L3 := Aside0.mk hl; have D3 := Aside0.mk hD; clear hb hC hl hD)
          | (go_at_call 8; refine (H6.out _ _ _ _ _ C3.out L3.out (D3.out _ (by first | rfl | simp)) (Nat.le_refl _)).mono ?_; rintro e w4 ⟨rfl, hb⟩; have B4 := Aside0.mk (below_step B3.out hb); have D4 := Aside0.mk (fun n hn => Kd.C_below (D3.out n hn) hb); clear hb C3)
          | (go_at_call 9; refine (H7.out _ _ _ (D4.out _ (by first | rfl | simp))).mono ?_; rintro e w5 ⟨rfl, hb⟩; have B5 := Aside0.mk (below_step B4.out hb); have D5 := Aside0.mk (fun n hn => Kd.C_below (D4.out n hn) hb); clear hb)
          | (go_at_call 10; refine (H8.out _ _ _ B5.out (D5.out _ (by first | rfl | simp)) (Nat.le_refl _)).mono ?_; rintro e w6 ⟨rfl, hb⟩; have B6 := Aside0.mk (below_step B5.out hb); have D6 := Aside0.mk (fun n hn => Kd.C_below (D5.out n hn) hb); clear hb)
          | (go_at_call 11; (with_reducible refine (H9'.out _).mono ?_); rintro e w7 ⟨rfl, hb⟩; have B7 := Aside0.mk (below_step B6.out hb); have D7 := Aside0.mk (fun n hn => Kd.C_below (D6.out n hn) hb); clear hb)
          | (go_at_call 12; (with_reducible refine (HB9.out _).mono ?_); rintro e w8 ⟨⟨A8, c8, rfl, hC, hl⟩, hb⟩; have B8 := Aside0.mk (below_step B7.out hb); have D8 := Aside0.mk (fun n hn => Kd.C_below (D7.out n hn) hb); have C8 := Aside0.mk hC; have L8 := Aside0.mk hl; clear hb hC hl)
          | (go_at_call 8; refine (H6.out _ _ _ _ _ C8.out L8.out (D8.out _ (by first | rfl | simp)) (Nat.le_refl _)).mono ?_; rintro e w9 ⟨rfl, hb⟩; have B9 := Aside0.mk (below_step B8.out hb); clear hb))
        go_ret
        exact ⟨by first | rfl | (simp; done), B9.out⟩
      | false =>
        replace HFT : Aside0 (∀ W : World, Below w.heap.size w W → ∀ (e1 : TypeId), Calls Tryz.prog 7 #[.bool false, .string k, .string v, .slice A1 L.length c1] (W.alloc (.cells #[.string k, .string (⟨#[33, 61]⟩ : ByteArray), .string v] e1)) fun e w' => ((∃ A c, e = .returned (.tuple #[.slice A 1 c, .string tx, .bool mt]) ∧ kT.C w' A 1 [td] ∧ 1 ≤ c) ∧ (∀ n, n = W.heap.size → kT.C w' (some ⟨n, 0, none⟩) 1 [td])) ∧ Below w.heap.size w w') := HFT
        go_enter Tryz.func3, Tryz.ntmps3
        go_wp2_with (first
          | (go_at_call 5; (with_reducible refine (H2.out).mono ?_); rintro e w1 ⟨rfl, hb⟩; have B1 := Aside0.mk hb; clear hb)
          | (go_at_call 6; (with_reducible refine (H3.out _).mono ?_); rintro e w2 ⟨rfl, hb⟩; have B2 := Aside0.mk (below_step B1.out hb); clear hb)
          | (go_at_call 7; refine (HFT.out _ (by repeat (first | exact B2.out | apply below_alloc | apply below_put)) _).mono ?_; rintro e w3 ⟨⟨⟨A, c, rfl, hC, hl⟩, hD⟩, hb⟩; have B3 := Aside0.mk hb; have C3 := Aside0.mk hC; have L3 := Aside0.mk hl; have D3 := Aside0.mk hD; clear hb hC hl hD)
          | (go_at_call 8; refine (H6.out _ _ _ _ _ C3.out L3.out (D3.out _ (by first | rfl | simp)) (Nat.le_refl _)).mono ?_; rintro e w4 ⟨rfl, hb⟩; have B4 := Aside0.mk (below_step B3.out hb); have D4 := Aside0.mk (fun n hn => Kd.C_below (D3.out n hn) hb); clear hb C3)
          | (go_at_call 9; refine (H7.out _ _ _ (D4.out _ (by first | rfl | simp))).mono ?_; rintro e w5 ⟨rfl, hb⟩; have B5 := Aside0.mk (below_step B4.out hb); have D5 := Aside0.mk (fun n hn => Kd.C_below (D4.out n hn) hb); clear hb)
          | (go_at_call 10; refine (H8.out _ _ _ B5.out (D5.out _ (by first | rfl | simp)) (Nat.le_refl _)).mono ?_; rintro e w6 ⟨rfl, hb⟩; have B6 := Aside0.mk (below_step B5.out hb); have D6 := Aside0.mk (fun n hn => Kd.C_below (D5.out n hn) hb); clear hb)
          | (go_at_call 11; (with_reducible refine (H9'.out _).mono ?_); rintro e w7 ⟨rfl, hb⟩; have B7 := Aside0.mk (below_step B6.out hb); have D7 := Aside0.mk (fun n hn => Kd.C_below (D6.out n hn) hb); clear hb)
          | (go_at_call 12; (with_reducible refine (HB9.out _).mono ?_); rintro e w8 ⟨⟨A8, c8, rfl, hC, hl⟩, hb⟩; have B8 := Aside0.mk (below_step B7.out hb); have D8 := Aside0.mk (fun n hn => Kd.C_below (D7.out n hn) hb); have C8 := Aside0.mk hC; have L8 := Aside0.mk hl; clear hb hC hl)
          | (go_at_call 8; refine (H6.out _ _ _ _ _ C8.out L8.out (D8.out _ (by first | rfl | simp)) (Nat.le_refl _)).mono ?_; rintro e w9 ⟨rfl, hb⟩; have B9 := Aside0.mk (below_step B8.out hb); clear hb))
        go_ret
        exact ⟨by first | rfl | (simp; done), B9.out⟩
  · have hne : k.data.toList ≠ [] := fun e => h0 (by rw [hks, e]; rfl)
    have e1 : ((0 : Int) < (k.size : Int)) = True := eq_true (by omega)
    have e2 : decide ((0 : Int) < (k.size : Int)) = true := decide_eq_true (by omega)
    have e3 : (0 < k.size) = True := eq_true (by omega)
    have e4 : (k.toList == ([] : List UInt8)) = false := beq_eq_false_iff_ne.2 (by rw [htl]; exact hne)
    have e5 : k.toList.isEmpty = false := by rw [htl]; cases hq : k.data.toList with | nil => exact absurd hq hne | cons a b => rfl
    have i1 : (0 ≤ (k.size : Int) - 1) = True := eq_true (by omega)
    have i2 : ((k.size : Int) - 1 < (k.size : Int)) = True := eq_true (by omega)
    have i3 : wrap64 ((k.size : Int) - 1) = (k.size : Int) - 1 := Small.w64 _ (by omega) (by omega)
    have i5 : (1 ≤ (k.size : Int)) = True := eq_true (by omega)
    have hx := bt_at k ((k.size : Int) - 1)
    have hx2 : ∀ h : k.size - 1 < k.size, ((k[k.size - 1]'h).toNat : Int) = bt k ((k.size : Int) - 1) := fun h => by
      rw [show (k.size : Int) - 1 = ((k.size - 1 : Nat) : Int) by omega]
      exact bt_at k ((k.size - 1 : Nat) : Int) h
    have hlast : k.data.toList.getLast? = some (k.data.toList[k.size - 1]'(by omega)) := by
      rw [List.getLast?_eq_getElem?, List.getElem?_eq_getElem (by omega)]
      first | (congr 2; omega) | congr 2
    have hbt : bt k ((k.size : Int) - 1) = ((k.data.toList[k.size - 1]'(by omega)).toNat : Int) := by
      rw [show (k.size : Int) - 1 = ((k.size - 1 : Nat) : Int) by omega]
      exact bt_nat k (k.size - 1) (by omega)
    by_cases h33 : bt k ((k.size : Int) - 1) = 33
    · have e6 : (bt k ((k.size : Int) - 1) == 33) = true := beq_iff_eq.2 h33
      clear hks htl hvl hk hv HBK HNN hany h0 hne hlast hbt h33
      cases b0 with
      | true =>
        replace HFT : Aside0 (∀ W : World, Below w.heap.size w W → ∀ (e1 : TypeId), Calls Tryz.prog 7 #[.bool true, .string k, .string v, .slice A1 L.length c1] (W.alloc (.cells #[.string k, .string (⟨#[61]⟩ : ByteArray), .string v] e1)) fun e w' => ((∃ A c, e = .returned (.tuple #[.slice A 1 c, .string tx, .bool mt]) ∧ kT.C w' A 1 [td] ∧ 1 ≤ c) ∧ (∀ n, n = W.heap.size → kT.C w' (some ⟨n, 0, none⟩) 1 [td])) ∧ Below w.heap.size w w') := HFT
        go_enter Tryz.func3, Tryz.ntmps3
        go_wp2_with (first
          | (go_at_call 5; (with_reducible refine (H2.out).mono ?_); rintro e w1 ⟨rfl, hb⟩; have B1 := Aside0.mk hb; clear hb)
          | (go_at_call 6; (with_reducible refine (H3.out _).mono ?_); rintro e w2 ⟨rfl, hb⟩; have B2 := Aside0.mk (below_step B1.out hb); clear hb)
          | (go_at_call 7; refine (HFT.out _ (by repeat (first | exact B2.out | apply below_alloc | apply below_put)) _).mono ?_; rintro e w3 ⟨⟨⟨A, c, rfl, hC, hl⟩, hD⟩, hb⟩; have B3 := Aside0.mk hb; have C3 := Aside0.mk hC; have L3 := Aside0.mk hl; have D3 := Aside0.mk hD; clear hb hC hl hD)
          | (go_at_call 8; refine (H6.out _ _ _ _ _ C3.out L3.out (D3.out _ (by first | rfl | simp)) (Nat.le_refl _)).mono ?_; rintro e w4 ⟨rfl, hb⟩; have B4 := Aside0.mk (below_step B3.out hb); have D4 := Aside0.mk (fun n hn => Kd.C_below (D3.out n hn) hb); clear hb C3)
          | (go_at_call 9; refine (H7.out _ _ _ (D4.out _ (by first | rfl | simp))).mono ?_; rintro e w5 ⟨rfl, hb⟩; have B5 := Aside0.mk (below_step B4.out hb); have D5 := Aside0.mk (fun n hn => Kd.C_below (D4.out n hn) hb); clear hb)
          | (go_at_call 10; refine (H8.out _ _ _ B5.out (D5.out _ (by first | rfl | simp)) (Nat.le_refl _)).mono ?_; rintro e w6 ⟨rfl, hb⟩; have B6 := Aside0.mk (below_step B5.out hb); have D6 := Aside0.mk (fun n hn => Kd.C_below (D5.out n hn) hb); clear hb)
          | (go_at_call 11; (with_reducible refine (H9'.out _).mono ?_); rintro e w7 ⟨rfl, hb⟩; have B7 := Aside0.mk (below_step B6.out hb); have D7 := Aside0.mk (fun n hn => Kd.C_below (D6.out n hn) hb); clear hb))
        go_ret
        exact ⟨by first | rfl | (simp; done), B7.out⟩
      | false =>
        replace HFT : Aside0 (∀ W : World, Below w.heap.size w W → ∀ (e1 : TypeId), Calls Tryz.prog 7 #[.bool false, .string k, .string v, .slice A1 L.length c1] (W.alloc (.cells #[.string k, .string (⟨#[33, 61]⟩ : ByteArray), .string v] e1)) fun e w' => ((∃ A c, e = .returned (.tuple #[.slice A 1 c, .string tx, .bool mt]) ∧ kT.C w' A 1 [td] ∧ 1 ≤ c) ∧ (∀ n, n = W.heap.size → kT.C w' (some ⟨n, 0, none⟩) 1 [td])) ∧ Below w.heap.size w w') := HFT
        go_enter Tryz.func3, Tryz.ntmps3
        go_wp2_with (first
          | (go_at_call 5; (with_reducible refine (H2.out).mono ?_); rintro e w1 ⟨rfl, hb⟩; have B1 := Aside0.mk hb; clear hb)
          | (go_at_call 6; (with_reducible refine (H3.out _).mono ?_); rintro e w2 ⟨rfl, hb⟩; have B2 := Aside0.mk (below_step B1.out hb); clear hb)
          | (go_at_call 7; refine (HFT.out _ (by repeat (first | exact B2.out | apply below_alloc | apply below_put)) _).mono ?_; rintro e w3 ⟨⟨⟨A, c, rfl, hC, hl⟩, hD⟩, hb⟩; have B3 := Aside0.mk hb; have C3 := Aside0.mk hC; have L3 := Aside0.mk hl; have D3 := Aside0.mk hD; clear hb hC hl hD)
          | (go_at_call 8; refine (H6.out _ _ _ _ _ C3.out L3.out (D3.out _ (by first | rfl | simp)) (Nat.le_refl _)).mono ?_; rintro e w4 ⟨rfl, hb⟩; have B4 := Aside0.mk (below_step B3.out hb); have D4 := Aside0.mk (fun n hn => Kd.C_below (D3.out n hn) hb); clear hb C3)
          | (go_at_call 9; refine (H7.out _ _ _ (D4.out _ (by first | rfl | simp))).mono ?_; rintro e w5 ⟨rfl, hb⟩; have B5 := Aside0.mk (below_step B4.out hb); have D5 := Aside0.mk (fun n hn => Kd.C_below (D4.out n hn) hb); clear hb)
          | (go_at_call 10; refine (H8.out _ _ _ B5.out (D5.out _ (by first | rfl | simp)) (Nat.le_refl _)).mono ?_; rintro e w6 ⟨rfl, hb⟩; have B6 := Aside0.mk (below_step B5.out hb); have D6 := Aside0.mk (fun n hn => Kd.C_below (D5.out n hn) hb); clear hb)
          | (go_at_call 11; (with_reducible refine (H9'.out _).mono ?_); rintro e w7 ⟨rfl, hb⟩; have B7 := Aside0.mk (below_step B6.out hb); have D7 := Aside0.mk (fun n hn => Kd.C_below (D6.out n hn) hb); clear hb))
        go_ret
        exact ⟨by first | rfl | (simp; done), B7.out⟩
    · have e6 : (bt k ((k.size : Int) - 1) == 33) = false := beq_eq_false_iff_ne.2 h33
      have HB9 := Aside0.mk (HBK.out hany (by rw [hlast]; intro h; injection h with h; apply h33; rw [hbt, h]; rfl) (by rw [HNN.out]; cases hq : k.data.toList with | nil => exact absurd hq hne | cons a b => simp))
      clear hks htl hvl hk hv HBK HNN hany h0 hne hlast hbt h33
      cases b0 with
      | true =>
        replace HFT : Aside0 (∀ W : World, Below w.heap.size w W → ∀ (e1 : TypeId), Calls Tryz.prog 7 #[.bool true, .string k, .string v, .slice A1 L.length c1] (W.alloc (.cells #[.string k, .string (⟨#[61]⟩ : ByteArray), .string v] e1)) fun e w' => ((∃ A c, e = .returned (.tuple #[.slice A 1 c, .string tx, .bool mt]) ∧ kT.C w' A 1 [td] ∧ 1 ≤ c) ∧ (∀ n, n = W.heap.size → kT.C w' (some ⟨n, 0, none⟩) 1 [td])) ∧ Below w.heap.size w w') := HFT
        go_enter Tryz.func3, Tryz.ntmps3
        go_wp2_with (first
          | (go_at_call 5; (with_reducible refine (H2.out).mono ?_); rintro e w1 ⟨rfl, hb⟩; have B1 := Aside0.mk hb; clear hb)
          | (go_at_call 6; (with_reducible refine (H3.out _).mono ?_); rintro e w2 ⟨rfl, hb⟩; have B2 := Aside0.mk (below_step B1.out hb); clear hb)
          | (go_at_call 7; refine (HFT.out _ (by repeat (first | exact B2.out | apply below_alloc | apply below_put)) _).mono ?_; rintro e w3 ⟨⟨⟨A, c, rfl, hC, hl⟩, hD⟩, hb⟩; have B3 := Aside0.mk hb; have C3 := Aside0.mk hC; have L3 := Aside0.mk hl; have D3 := Aside0.mk hD; clear hb hC hl hD)
          | (go_at_call 8; refine (H6.out _ _ _ _ _ C3.out L3.out (D3.out _ (by first | rfl | simp)) (Nat.le_refl _)).mono ?_; rintro e w4 ⟨rfl, hb⟩; have B4 := Aside0.mk (below_step B3.out hb); have D4 := Aside0.mk (fun n hn => Kd.C_below (D3.out n hn) hb); clear hb C3)
          | (go_at_call 9; refine (H7.out _ _ _ (D4.out _ (by first | rfl | simp))).mono ?_; rintro e w5 ⟨rfl, hb⟩; have B5 := Aside0.mk (below_step B4.out hb); have D5 := Aside0.mk (fun n hn => Kd.C_below (D4.out n hn) hb); clear hb)
          | (go_at_call 10; refine (H8.out _ _ _ B5.out (D5.out _ (by first | rfl | simp)) (Nat.le_refl _)).mono ?_; rintro e w6 ⟨rfl, hb⟩; have B6 := Aside0.mk (below_step B5.out hb); have D6 := Aside0.mk (fun n hn => Kd.C_below (D5.out n hn) hb); clear hb)
          | (go_at_call 11; (with_reducible refine (H9'.out _).mono ?_); rintro e w7 ⟨rfl, hb⟩; have B7 := Aside0.mk (below_step B6.out hb); have D7 := Aside0.mk (fun n hn => Kd.C_below (D6.out n hn) hb); clear hb)
          | (go_at_call 12; (with_reducible refine (HB9.out _).mono ?_); rintro e w8 ⟨⟨A8, c8, rfl, hC, hl⟩, hb⟩; have B8 := Aside0.mk (below_step B7.out hb); have D8 := Aside0.mk (fun n hn => Kd.C_below (D7.out n hn) hb); have C8 := Aside0.mk hC; have L8 := Aside0.mk hl; clear hb hC hl)
          | (go_at_call 8; refine (H6.out _ _ _ _ _ C8.out L8.out (D8.out _ (by first | rfl | simp)) (Nat.le_refl _)).mono ?_; rintro e w9 ⟨rfl, hb⟩; have B9 := Aside0.mk (below_step B8.out hb); clear hb))
        go_ret
        exact ⟨by first | rfl | (simp; done), B9.out⟩
      | false =>
        replace HFT : Aside0 (∀ W : World, Below w.heap.size w W → ∀ (e1 : TypeId), Calls Tryz.prog 7 #[.bool false, .string k, .string v, .slice A1 L.length c1] (W.alloc (.cells #[.string k, .string (⟨#[33, 61]⟩ : ByteArray), .string v] e1)) fun e w' => ((∃ A c, e = .returned (.tuple #[.slice A 1 c, .string tx, .bool mt]) ∧ kT.C w' A 1 [td] ∧ 1 ≤ c) ∧ (∀ n, n = W.heap.size → kT.C w' (some ⟨n, 0, none⟩) 1 [td])) ∧ Below w.heap.size w w') := HFT
        go_enter Tryz.func3, Tryz.ntmps3
        go_wp2_with (first
          | (go_at_call 5; (with_reducible refine (H2.out).mono ?_); rintro e w1 ⟨rfl, hb⟩; have B1 := Aside0.mk hb; clear hb)
          | (go_at_call 6; (with_reducible refine (H3.out _).mono ?_); rintro e w2 ⟨rfl, hb⟩; have B2 := Aside0.mk (below_step B1.out hb); clear hb)
          | (go_at_call 7; refine (HFT.out _ (by repeat (first | exact B2.out | apply below_alloc | apply below_put)) _).mono ?_; rintro e w3 ⟨⟨⟨A, c, rfl, hC, hl⟩, hD⟩, hb⟩; have B3 := Aside0.mk hb; have C3 := Aside0.mk hC; have L3 := Aside0.mk hl; have D3 := Aside0.mk hD; clear hb hC hl hD)
          | (go_at_call 8; refine (H6.out _ _ _ _ _ C3.out L3.out (D3.out _ (by first | rfl | simp)) (Nat.le_refl _)).mono ?_; rintro e w4 ⟨rfl, hb⟩; have B4 := Aside0.mk (below_step B3.out hb); have D4 := Aside0.mk (fun n hn => Kd.C_below (D3.out n hn) hb); clear hb C3)
          | (go_at_call 9; refine (H7.out _ _ _ (D4.out _ (by first | rfl | simp))).mono ?_; rintro e w5 ⟨rfl, hb⟩; have B5 := Aside0.mk (below_step B4.out hb); have D5 := Aside0.mk (fun n hn => Kd.C_below (D4.out n hn) hb); clear hb)
          | (go_at_call 10; refine (H8.out _ _ _ B5.out (D5.out _ (by first | rfl | simp)) (Nat.le_refl _)).mono ?_; rintro e w6 ⟨rfl, hb⟩; have B6 := Aside0.mk (below_step B5.out hb); have D6 := Aside0.mk (fun n hn => Kd.C_below (D5.out n hn) hb); clear hb)
          | (go_at_call 11; (with_reducible refine (H9'.out _).mono ?_); rintro e w7 ⟨rfl, hb⟩; have B7 := Aside0.mk (below_step B6.out hb); have D7 := Aside0.mk (fun n hn => Kd.C_below (D6.out n hn) hb); clear hb)
          | (go_at_call 12; (with_reducible refine (HB9.out _).mono ?_); rintro e w8 ⟨⟨A8, c8, rfl, hC, hl⟩, hb⟩; have B8 := Aside0.mk (below_step B7.out hb); have D8 := Aside0.mk (fun n hn => Kd.C_below (D7.out n hn) hb); have C8 := Aside0.mk hC; have L8 := Aside0.mk hl; clear hb hC hl)
          | (go_at_call 8; refine (H6.out _ _ _ _ _ C8.out L8.out (D8.out _ (by first | rfl | simp)) (Nat.le_refl _)).mono ?_; rintro e w9 ⟨rfl, hb⟩; have B9 := Aside0.mk (below_step B8.out hb); clear hb))
        go_ret
        exact ⟨by first | rfl | (simp; done), B9.out⟩
end Go.Proofs.YthejejeginnbdaaGreatDoor.FdXL
