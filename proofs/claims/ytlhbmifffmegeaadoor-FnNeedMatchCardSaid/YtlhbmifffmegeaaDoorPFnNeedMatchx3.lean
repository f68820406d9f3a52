/- Functions of the program as plain Lean functions, and that the machine's calls do what these say: written for this claim by wip/myprint.py over the kit's print.py. -/
import Derived.Test.YtlhbmifffmegeaaDoorPFnNeedMatchx0
import Derived.Test.YtlhbmifffmegeaaDoorPFnNeedMatchx2
namespace Go.Proofs.YtlhbmifffmegeaaDoor.PFnNeedMatch
open Go.RowKit Go.Proofs.YtlhbmifffmegeaaDoorW.PrintWords Go.Proofs.YtlhbmifffmegeaaDoorW.PrintLast Go.Proofs.YtlhbmifffmegeaaDoorW.PrintMore
attribute [local go_sem] max2_int min2_int max_two min_two max_three min_three max_four min_four   -- for this text's walks alone
set_option linter.unusedVariables false
set_option linter.unusedSimpArgs false

/-! ### spec_NeedNumber: function 32 -/
/-- A whole number that a text says, and whether it says one. -/
def numF (l : List UInt8) : Int × Bool :=
  if NeedN.body l = [] then (0, false) else if (NeedN.body l).all NeedN.isDig = true then
    (match NeedN.magF (NeedN.body l) 0 with
    | none => (0, false)
    | some m => if NeedN.minus l = true then (-(m : Int), true) else (wrap64 (m : Int), decide (m < 9223372036854775808)))
  else (0, false)
theorem digB_isDig (c : UInt8) : digitB (c.toNat : Int) = NeedN.isDig c := by
  unfold digitB NeedN.isDig
  by_cases h : 48 ≤ c.toNat
  · rw [if_pos (by omega), decide_eq_true h, Bool.true_and]
    exact decide_eq_decide.2 (by omega)
  · rw [if_neg (by omega), decide_eq_false h]; rfl
/-- The rounds. -/
def NumAt (l : List UInt8) (k m : Nat) : Prop := m ≤ 9223372036854775808 ∧ NeedN.magF l 0 = NeedN.magF (l.drop k) m
theorem at_list {s : ByteArray} {l : List UInt8} (h : s.data.toList = l) (k : Nat) (hk : k < s.size) (hl : k < l.length) : l[k] = s[k]'hk := by subst h; rfl
theorem num_step {l : List UInt8} {k m : Nat} {x : UInt8} (h : NumAt l k m) (hk : k < l.length) (hx : l[k] = x) (hd : 48 ≤ x.toNat ∧ x.toNat ≤ 57) :
    (9223372036854775808 < m * 10 + (x.toNat - 48) → NeedN.magF l 0 = none) ∧ (¬ 9223372036854775808 < m * 10 + (x.toNat - 48) → NumAt l (k + 1) (m * 10 + (x.toNat - 48))) := by
  obtain ⟨h1, h2⟩ := h
  rw [List.drop_eq_getElem_cons hk, hx] at h2
  refine ⟨fun hb => ?_, fun hb => ⟨by omega, ?_⟩⟩
  · rw [h2, NeedN.magF, if_pos hb]
  · rw [h2, NeedN.magF, if_neg hb]
theorem num_none {s : ByteArray} {b : List UInt8} (h : NeedN.magF b 0 = none) (h0 : NeedN.body s.data.toList = b ∧ b ≠ []) (hd : b.all NeedN.isDig = true) : numF s.data.toList = (0, false) := by
  unfold numF; rw [h0.1, if_neg h0.2, if_pos hd, h]
theorem num_minus {s : ByteArray} {b : List UInt8} {m : Nat} (h : NeedN.magF b 0 = some m) (h0 : (NeedN.body s.data.toList = b ∧ b ≠ []) ∧ NeedN.minus s.data.toList = true) (hd : b.all NeedN.isDig = true) : numF s.data.toList = (-(m : Int), true) := by
  unfold numF; rw [h0.1.1, if_neg h0.1.2, if_pos hd, h]; simp only; rw [if_pos h0.2]
theorem num_plus {s : ByteArray} {b : List UInt8} {m : Nat} (h : NeedN.magF b 0 = some m) (h0 : NeedN.body s.data.toList = b ∧ b ≠ []) (hd : b.all NeedN.isDig = true) (hm : ¬ NeedN.minus s.data.toList = true) : numF s.data.toList = (wrap64 (m : Int), decide (m < 9223372036854775808)) := by
  unfold numF; rw [h0.1, if_neg h0.2, if_pos hd, h]; simp only; rw [if_neg hm]
theorem num_no {s : ByteArray} {b : List UInt8} (h0 : NeedN.body s.data.toList = b ∧ b ≠ []) (hd : b.all NeedN.isDig = false) : numF s.data.toList = (0, false) := by
  unfold numF; rw [h0.1, if_neg h0.2, if_neg (by rw [hd]; simp)]
theorem all_isDig (l : List UInt8) : l.all (fun c => digitB c.toNat) = l.all NeedN.isDig := by
  congr 1; funext c; exact digB_isDig c
set_option maxHeartbeats 2000000 in
theorem num_B (s : ByteArray) (hs : s.size ≤ 4294967296) (r : List UInt8) (hl : s.data.toList = 45 :: r) (w : World) : Calls Tryd.prog 32 #[.string s] w fun e w' => e = .returned (.tuple #[.int .i64 (numF s.data.toList).1, .bool (numF s.data.toList).2]) ∧ Below w.heap.size w w' := by
  have mixed : Tryd.prog.follows .mixedOrders = true := by kernel_rfl
  have hz := sz_len s
  rw [hl, List.length_cons] at hz
  have hn0 : 0 < s.size := by omega
  have s0 : s[0]'hn0 = 45 := by
    have e : s.data.toList[0]'(by rw [hl]; simp) = 45 := by simp only [hl, List.getElem_cons_zero]
    exact e
  have p0 : (0 < (s.size : Int)) = True := eq_true (by omega)
  have p1 : (1 ≤ (s.size : Int)) = True := eq_true (by omega)
  by_cases hr : r = []
  · have hv : numF s.data.toList = (0, false) := by unfold numF; rw [hl, show NeedN.body (45 :: r) = r from rfl, if_pos hr]
    rw [hv]
    have f0 : (r = []) = True := eq_true hr
    have hz1 : s.size = 1 := by rw [hz, hr]; rfl
    clear hv hz hl hr f0
    go_enter Tryd.func32, Tryd.ntmps32
    go_wp2
    go_ret2
    exact ⟨rfl, Below.refl _ _⟩
  have f0 : (r = []) = False := eq_false hr
  have HRL : Aside0 (0 < r.length) := ⟨List.length_pos_iff.2 hr⟩
  have f2 : ((r.length : Int) == 0) = false := beq_eq_false_iff_ne.2 (by have := HRL.out; omega)
  have HS1 : Aside0 ((s.extract 1 (r.length + 1)).size = (r).length ∧ (s.extract 1 (r.length + 1)).data.toList = r) := ⟨by
    have h2 : (s.extract 1 (r.length + 1)).data.toList = r := by
      rw [ByteArray.data_extract, Array.toList_extract, hl]
      show List.take (r.length + 1 - 1) (List.drop 1 (_ :: r)) = r
      simp
    exact ⟨by rw [sz_len, h2], h2⟩⟩
  have HNE : Aside0 (NeedN.body s.data.toList = r ∧ r ≠ []) := ⟨by rw [hl]; exact ⟨rfl, hr⟩⟩
  have HC := Aside0.mk (fun w => all_digit (s.extract 1 (r.length + 1)) (by have h8 := HS1.out.1; have h9 : (r).length ≤ s.size := (by first | (rw [hz]; exact Nat.le_succ _) | (rw [hz, List.length_cons]; exact Nat.le_refl _)); rw [h8]; omega) w)
  rw [HS1.out.2, all_isDig] at HC
  have HMI : Aside0 (NeedN.minus s.data.toList = true) := ⟨by rw [hl]; rfl⟩
  cases hall : (r).all NeedN.isDig
  · rw [num_no HNE.out hall]
    rw [hall] at HC
    clear HMI HNE HS1 hall hl
    go_enter Tryd.func32, Tryd.ntmps32
    go_wp2_with (first | (go_at_call 45; (with_reducible refine (HC.out _).mono ?_); rintro e w1 ⟨rfl, hd⟩; have HD := Aside0.mk (show Below w.heap.size w w1 from hd); clear hd HC))
    go_ret2
    exact ⟨rfl, HD.out⟩
  · rw [hall] at HC
    have HALL := Aside0.mk hall
    have HDIG : Aside0 (∀ x ∈ r, NeedN.isDig x = true) := ⟨fun x hx => List.all_eq_true.1 hall x hx⟩
    clear hall hl
    go_enter Tryd.func32, Tryd.ntmps32
    go_wp2_with (first | (go_at_call 45; (with_reducible refine (HC.out _).mono ?_); rintro e w1 ⟨rfl, hd⟩; have HD := Aside0.mk (show Below w.heap.size w w1 from hd); clear hd HC; generalize s.extract 1 (r.length + 1) = s1 at HS1 ⊢; have hs1 : s1.size ≤ 4294967296 := (by have h1 := HS1.out.1; omega); have e0 : ((s1.size : Int) == 0) = false := beq_eq_false_iff_ne.2 (by have h1 := HS1.out.1; have h2 := HRL.out; omega); have e1 : (s1.size = 0) = False := eq_false (by have h1 := HS1.out.1; have h2 := HRL.out; omega)))
    skip
    go_loopw [5, 6] (fun v i wr => ∃ k m : Nat, k ≤ s1.size ∧ v = .int .i64 (-(m : Int)) ∧ i = .int .i64 (k : Int) ∧ Aside0 (NumAt r k m) ∧ Aside0 (Below w.heap.size w wr)) (fun _ i _ => s1.size - (intOf i).toNat)
    case atStart => exact ⟨0, 0, Nat.zero_le _, rfl, rfl, ⟨⟨by omega, rfl⟩⟩, HD⟩
    case round =>
      obtain ⟨k, m, hk, rfl, rfl, HN, HB⟩ := hrel
      by_cases hlt : k < s1.size
      · have p : (0 ≤ (k : Int)) = True := eq_true (by omega)
        have q : ((k : Int) < (s1.size : Int)) = True := eq_true (by omega)
        have hlen : k < (r).length := by have := HS1.out.1; omega
        obtain ⟨x, hsk, hxl⟩ : ∃ x, s1[k]'hlt = x ∧ (r)[k] = x := ⟨_, rfl, at_list HS1.out.2 k hlt hlen⟩
        have hxd : 48 ≤ x.toNat ∧ x.toNat ≤ 57 := (NeedN.isDig_iff x).1 (HDIG.out x (by rw [← hxl]; exact List.getElem_mem hlen))
        have HST := Aside0.mk (num_step HN.out hlen hxl hxd)
        have hm := HN.out.1
        obtain ⟨d, hd0⟩ : ∃ d, d = x.toNat - 48 := ⟨_, rfl⟩
        have hd : d ≤ 9 := by omega
        have g1 : ((x.toNat : Int) - 48) % 256 = (d : Int) := by omega
        rw [← hd0] at HST
        clear hxl hxd hlen hd0
        have g2 : wrap64 (-9223372036854775808 + (d : Int)) = -9223372036854775808 + (d : Int) := IntWalk.wrap64_in _ ⟨by omega, by omega⟩
        obtain ⟨q0, hq0⟩ : ∃ q0 : Nat, q0 = (9223372036854775808 - d) / 10 := ⟨_, rfl⟩
        have g3 : Int.tdiv (-9223372036854775808 + (d : Int)) 10 = -(q0 : Int) := by
          rw [hq0, show (-9223372036854775808 + (d : Int)) = -((9223372036854775808 - d : Nat) : Int) by omega, Int.neg_tdiv, Int.ofNat_tdiv]; rfl
        have g6 : wrap64 (-(q0 : Int)) = -(q0 : Int) := IntWalk.wrap64_in _ ⟨by omega, by omega⟩
        by_cases hbig : 9223372036854775808 < m * 10 + d
        · have t1 : (q0 < m) = True := eq_true (by omega)
          have HF := Aside0.mk (HST.out.1 hbig)
          clear HST hm hd hbig HN hq0
          go_wp2
          go_ret2
          exact ⟨by rw [num_none HF.out HNE.out HALL.out]; rfl, HB.out⟩
        · have t1 : (q0 < m) = False := eq_false (by omega)
          have G : Aside0 (wrap64 (wrap64 (-(m : Int) * 10) - (d : Int)) = -((m * 10 + d : Nat) : Int)) := ⟨by
            rw [IntWalk.wrap64_in (-(m : Int) * 10) ⟨by omega, by omega⟩, IntWalk.wrap64_in _ ⟨by omega, by omega⟩]; omega⟩
          have HF := Aside0.mk (HST.out.2 hbig)
          clear HST hm hd hbig HN hq0
          go_wp2
          go_roundw
          case rel => exact ⟨k + 1, m * 10 + d, by omega, congrArg (Value.int .i64) G.out, by go_num, ⟨HF.out⟩, HB⟩
          case measure => simp [intOf]; omega
      · have q : ((k : Int) < (s1.size : Int)) = False := eq_false (by omega)
        have HF : Aside0 (NeedN.magF r 0 = some m) := ⟨by rw [HN.out.2, List.drop_eq_nil_of_le (by have := HS1.out.1; omega)]; rfl⟩
        have hm := HN.out.1
        clear HN
        go_wp2
        go_ret2
        exact ⟨by rw [num_minus HF.out ⟨HNE.out, HMI.out⟩ HALL.out]; rfl, HB.out⟩
set_option maxHeartbeats 2000000 in
theorem num_C (s : ByteArray) (hs : s.size ≤ 4294967296) (r : List UInt8) (hl : s.data.toList = 43 :: r) (w : World) : Calls Tryd.prog 32 #[.string s] w fun e w' => e = .returned (.tuple #[.int .i64 (numF s.data.toList).1, .bool (numF s.data.toList).2]) ∧ Below w.heap.size w w' := by
  have mixed : Tryd.prog.follows .mixedOrders = true := by kernel_rfl
  have hz := sz_len s
  rw [hl, List.length_cons] at hz
  have hn0 : 0 < s.size := by omega
  have s0 : s[0]'hn0 = 43 := by
    have e : s.data.toList[0]'(by rw [hl]; simp) = 43 := by simp only [hl, List.getElem_cons_zero]
    exact e
  have p0 : (0 < (s.size : Int)) = True := eq_true (by omega)
  have p1 : (1 ≤ (s.size : Int)) = True := eq_true (by omega)
  by_cases hr : r = []
  · have hv : numF s.data.toList = (0, false) := by unfold numF; rw [hl, show NeedN.body (43 :: r) = r from rfl, if_pos hr]
    rw [hv]
    have f0 : (r = []) = True := eq_true hr
    have hz1 : s.size = 1 := by rw [hz, hr]; rfl
    clear hv hz hl hr f0
    go_enter Tryd.func32, Tryd.ntmps32
    go_wp2
    go_ret2
    exact ⟨rfl, Below.refl _ _⟩
  have f0 : (r = []) = False := eq_false hr
  have HRL : Aside0 (0 < r.length) := ⟨List.length_pos_iff.2 hr⟩
  have f2 : ((r.length : Int) == 0) = false := beq_eq_false_iff_ne.2 (by have := HRL.out; omega)
  have HS1 : Aside0 ((s.extract 1 (r.length + 1)).size = (r).length ∧ (s.extract 1 (r.length + 1)).data.toList = r) := ⟨by
    have h2 : (s.extract 1 (r.length + 1)).data.toList = r := by
      rw [ByteArray.data_extract, Array.toList_extract, hl]
      show List.take (r.length + 1 - 1) (List.drop 1 (_ :: r)) = r
      simp
    exact ⟨by rw [sz_len, h2], h2⟩⟩
  have HNE : Aside0 (NeedN.body s.data.toList = r ∧ r ≠ []) := ⟨by rw [hl]; exact ⟨rfl, hr⟩⟩
  have HC := Aside0.mk (fun w => all_digit (s.extract 1 (r.length + 1)) (by have h8 := HS1.out.1; have h9 : (r).length ≤ s.size := (by first | (rw [hz]; exact Nat.le_succ _) | (rw [hz, List.length_cons]; exact Nat.le_refl _)); rw [h8]; omega) w)
  rw [HS1.out.2, all_isDig] at HC
  have HMI : Aside0 (¬ NeedN.minus s.data.toList = true) := ⟨by rw [hl]; show ¬ decide ((43 : UInt8) = 45) = true; decide⟩
  cases hall : (r).all NeedN.isDig
  · rw [num_no HNE.out hall]
    rw [hall] at HC
    clear HMI HNE HS1 hall hl
    go_enter Tryd.func32, Tryd.ntmps32
    go_wp2_with (first | (go_at_call 45; (with_reducible refine (HC.out _).mono ?_); rintro e w1 ⟨rfl, hd⟩; have HD := Aside0.mk (show Below w.heap.size w w1 from hd); clear hd HC))
    go_ret2
    exact ⟨rfl, HD.out⟩
  · rw [hall] at HC
    have HALL := Aside0.mk hall
    have HDIG : Aside0 (∀ x ∈ r, NeedN.isDig x = true) := ⟨fun x hx => List.all_eq_true.1 hall x hx⟩
    clear hall hl
    go_enter Tryd.func32, Tryd.ntmps32
    go_wp2_with (first | (go_at_call 45; (with_reducible refine (HC.out _).mono ?_); rintro e w1 ⟨rfl, hd⟩; have HD := Aside0.mk (show Below w.heap.size w w1 from hd); clear hd HC; generalize s.extract 1 (r.length + 1) = s1 at HS1 ⊢; have hs1 : s1.size ≤ 4294967296 := (by have h1 := HS1.out.1; omega); have e0 : ((s1.size : Int) == 0) = false := beq_eq_false_iff_ne.2 (by have h1 := HS1.out.1; have h2 := HRL.out; omega); have e1 : (s1.size = 0) = False := eq_false (by have h1 := HS1.out.1; have h2 := HRL.out; omega)))
    skip
    go_loopw [5, 6] (fun v i wr => ∃ k m : Nat, k ≤ s1.size ∧ v = .int .i64 (-(m : Int)) ∧ i = .int .i64 (k : Int) ∧ Aside0 (NumAt r k m) ∧ Aside0 (Below w.heap.size w wr)) (fun _ i _ => s1.size - (intOf i).toNat)
    case atStart => exact ⟨0, 0, Nat.zero_le _, rfl, rfl, ⟨⟨by omega, rfl⟩⟩, HD⟩
    case round =>
      obtain ⟨k, m, hk, rfl, rfl, HN, HB⟩ := hrel
      by_cases hlt : k < s1.size
      · have p : (0 ≤ (k : Int)) = True := eq_true (by omega)
        have q : ((k : Int) < (s1.size : Int)) = True := eq_true (by omega)
        have hlen : k < (r).length := by have := HS1.out.1; omega
        obtain ⟨x, hsk, hxl⟩ : ∃ x, s1[k]'hlt = x ∧ (r)[k] = x := ⟨_, rfl, at_list HS1.out.2 k hlt hlen⟩
        have hxd : 48 ≤ x.toNat ∧ x.toNat ≤ 57 := (NeedN.isDig_iff x).1 (HDIG.out x (by rw [← hxl]; exact List.getElem_mem hlen))
        have HST := Aside0.mk (num_step HN.out hlen hxl hxd)
        have hm := HN.out.1
        obtain ⟨d, hd0⟩ : ∃ d, d = x.toNat - 48 := ⟨_, rfl⟩
        have hd : d ≤ 9 := by omega
        have g1 : ((x.toNat : Int) - 48) % 256 = (d : Int) := by omega
        rw [← hd0] at HST
        clear hxl hxd hlen hd0
        have g2 : wrap64 (-9223372036854775808 + (d : Int)) = -9223372036854775808 + (d : Int) := IntWalk.wrap64_in _ ⟨by omega, by omega⟩
        obtain ⟨q0, hq0⟩ : ∃ q0 : Nat, q0 = (9223372036854775808 - d) / 10 := ⟨_, rfl⟩
        have g3 : Int.tdiv (-9223372036854775808 + (d : Int)) 10 = -(q0 : Int) := by
          rw [hq0, show (-9223372036854775808 + (d : Int)) = -((9223372036854775808 - d : Nat) : Int) by omega, Int.neg_tdiv, Int.ofNat_tdiv]; rfl
        have g6 : wrap64 (-(q0 : Int)) = -(q0 : Int) := IntWalk.wrap64_in _ ⟨by omega, by omega⟩
        by_cases hbig : 9223372036854775808 < m * 10 + d
        · have t1 : (q0 < m) = True := eq_true (by omega)
          have HF := Aside0.mk (HST.out.1 hbig)
          clear HST hm hd hbig HN hq0
          go_wp2
          go_ret2
          exact ⟨by rw [num_none HF.out HNE.out HALL.out]; rfl, HB.out⟩
        · have t1 : (q0 < m) = False := eq_false (by omega)
          have G : Aside0 (wrap64 (wrap64 (-(m : Int) * 10) - (d : Int)) = -((m * 10 + d : Nat) : Int)) := ⟨by
            rw [IntWalk.wrap64_in (-(m : Int) * 10) ⟨by omega, by omega⟩, IntWalk.wrap64_in _ ⟨by omega, by omega⟩]; omega⟩
          have HF := Aside0.mk (HST.out.2 hbig)
          clear HST hm hd hbig HN hq0
          go_wp2
          go_roundw
          case rel => exact ⟨k + 1, m * 10 + d, by omega, congrArg (Value.int .i64) G.out, by go_num, ⟨HF.out⟩, HB⟩
          case measure => simp [intOf]; omega
      · have q : ((k : Int) < (s1.size : Int)) = False := eq_false (by omega)
        have HF : Aside0 (NeedN.magF r 0 = some m) := ⟨by rw [HN.out.2, List.drop_eq_nil_of_le (by have := HS1.out.1; omega)]; rfl⟩
        have hm := HN.out.1
        clear HN
        have g1 : wrap64 (- -(m : Int)) = wrap64 (m : Int) := by rw [Int.neg_neg]
        have t1 : (-9223372036854775808 < -(m : Int)) = (m < 9223372036854775808) := propext ⟨fun h => by omega, fun h => by omega⟩
        go_wp2
        go_ret2
        exact ⟨by rw [num_plus HF.out HNE.out HALL.out HMI.out]; simp, HB.out⟩
set_option maxHeartbeats 2000000 in
theorem num_D (s : ByteArray) (hs : s.size ≤ 4294967296) (c : UInt8) (r : List UInt8) (h45 : c ≠ 45) (h43 : c ≠ 43) (hl : s.data.toList = c :: r) (w : World) : Calls Tryd.prog 32 #[.string s] w fun e w' => e = .returned (.tuple #[.int .i64 (numF s.data.toList).1, .bool (numF s.data.toList).2]) ∧ Below w.heap.size w w' := by
  have mixed : Tryd.prog.follows .mixedOrders = true := by kernel_rfl
  have hz := sz_len s
  rw [hl, List.length_cons] at hz
  have hn0 : 0 < s.size := by omega
  have s0 : s[0]'hn0 = c := by
    have e : s.data.toList[0]'(by rw [hl]; simp) = c := by simp only [hl, List.getElem_cons_zero]
    exact e
  have b1 : ((c.toNat : Int) == 45) = false := beq_eq_false_iff_ne.2 (fun h => h45 (UInt8.toNat_inj.1 (by have : (45 : UInt8).toNat = 45 := rfl; omega)))
  have b2 : ((c.toNat : Int) == 43) = false := beq_eq_false_iff_ne.2 (fun h => h43 (UInt8.toNat_inj.1 (by have : (43 : UInt8).toNat = 43 := rfl; omega)))
  have b3 : (c = 45) = False := eq_false h45
  have b4 : (c = 43) = False := eq_false h43
  have p0 : (0 < (s.size : Int)) = True := eq_true (by omega)
  have p1 : (1 ≤ (s.size : Int)) = True := eq_true (by omega)
  have HS1 : Aside0 ((s).size = ((c :: r)).length ∧ (s).data.toList = (c :: r)) := ⟨by
    exact ⟨by rw [sz_len, hl], hl⟩⟩
  have HNE : Aside0 (NeedN.body s.data.toList = (c :: r) ∧ (c :: r) ≠ []) := ⟨by rw [hl]; refine ⟨?_, by simp⟩; simp only [NeedN.body]; rw [if_neg (by intro h; rcases h with h | h; exact h45 h; exact h43 h)]⟩
  have HC := Aside0.mk (fun w => all_digit (s) (by have h8 := HS1.out.1; have h9 : ((c :: r)).length ≤ s.size := (by first | (rw [hz]; exact Nat.le_succ _) | (rw [hz, List.length_cons]; exact Nat.le_refl _)); rw [h8]; omega) w)
  rw [HS1.out.2, all_isDig] at HC
  have HMI : Aside0 (¬ NeedN.minus s.data.toList = true) := ⟨by rw [hl]; simp only [NeedN.minus, decide_eq_true_eq]; exact h45⟩
  cases hall : ((c :: r)).all NeedN.isDig
  · rw [num_no HNE.out hall]
    rw [hall] at HC
    clear HMI HNE HS1 hall hl
    go_enter Tryd.func32, Tryd.ntmps32
    go_wp2_with (first | (go_at_call 45; (with_reducible refine (HC.out _).mono ?_); rintro e w1 ⟨rfl, hd⟩; have HD := Aside0.mk (show Below w.heap.size w w1 from hd); clear hd HC))
    go_ret2
    exact ⟨rfl, HD.out⟩
  · rw [hall] at HC
    have HALL := Aside0.mk hall
    have HDIG : Aside0 (∀ x ∈ (c :: r), NeedN.isDig x = true) := ⟨fun x hx => List.all_eq_true.1 hall x hx⟩
    clear hall hl
    have e0 : ((s.size : Int) == 0) = false := beq_eq_false_iff_ne.2 (by omega)
    have e1 : (s.size = 0) = False := eq_false (by omega)
    clear hz
    go_enter Tryd.func32, Tryd.ntmps32
    go_wp2_with (first | (go_at_call 45; (with_reducible refine (HC.out _).mono ?_); rintro e w1 ⟨rfl, hd⟩; have HD := Aside0.mk (show Below w.heap.size w w1 from hd); clear hd HC; skip))
    skip
    go_loopw [5, 6] (fun v i wr => ∃ k m : Nat, k ≤ s.size ∧ v = .int .i64 (-(m : Int)) ∧ i = .int .i64 (k : Int) ∧ Aside0 (NumAt (c :: r) k m) ∧ Aside0 (Below w.heap.size w wr)) (fun _ i _ => s.size - (intOf i).toNat)
    case atStart => exact ⟨0, 0, Nat.zero_le _, rfl, rfl, ⟨⟨by omega, rfl⟩⟩, HD⟩
    case round =>
      obtain ⟨k, m, hk, rfl, rfl, HN, HB⟩ := hrel
      by_cases hlt : k < s.size
      · have p : (0 ≤ (k : Int)) = True := eq_true (by omega)
        have q : ((k : Int) < (s.size : Int)) = True := eq_true (by omega)
        have hlen : k < ((c :: r)).length := by have := HS1.out.1; omega
        obtain ⟨x, hsk, hxl⟩ : ∃ x, s[k]'hlt = x ∧ ((c :: r))[k] = x := ⟨_, rfl, at_list HS1.out.2 k hlt hlen⟩
        have hxd : 48 ≤ x.toNat ∧ x.toNat ≤ 57 := (NeedN.isDig_iff x).1 (HDIG.out x (by rw [← hxl]; exact List.getElem_mem hlen))
        have HST := Aside0.mk (num_step HN.out hlen hxl hxd)
        have hm := HN.out.1
        obtain ⟨d, hd0⟩ : ∃ d, d = x.toNat - 48 := ⟨_, rfl⟩
        have hd : d ≤ 9 := by omega
        have g1 : ((x.toNat : Int) - 48) % 256 = (d : Int) := by omega
        rw [← hd0] at HST
        clear hxl hxd hlen hd0
        have g2 : wrap64 (-9223372036854775808 + (d : Int)) = -9223372036854775808 + (d : Int) := IntWalk.wrap64_in _ ⟨by omega, by omega⟩
        obtain ⟨q0, hq0⟩ : ∃ q0 : Nat, q0 = (9223372036854775808 - d) / 10 := ⟨_, rfl⟩
        have g3 : Int.tdiv (-9223372036854775808 + (d : Int)) 10 = -(q0 : Int) := by
          rw [hq0, show (-9223372036854775808 + (d : Int)) = -((9223372036854775808 - d : Nat) : Int) by omega, Int.neg_tdiv, Int.ofNat_tdiv]; rfl
        have g6 : wrap64 (-(q0 : Int)) = -(q0 : Int) := IntWalk.wrap64_in _ ⟨by omega, by omega⟩
        by_cases hbig : 9223372036854775808 < m * 10 + d
        · have t1 : (q0 < m) = True := eq_true (by omega)
          have HF := Aside0.mk (HST.out.1 hbig)
          clear HST hm hd hbig HN hq0
          go_wp2
          go_ret2
          exact ⟨by rw [num_none HF.out HNE.out HALL.out]; rfl, HB.out⟩
        · have t1 : (q0 < m) = False := eq_false (by omega)
          have G : Aside0 (wrap64 (wrap64 (-(m : Int) * 10) - (d : Int)) = -((m * 10 + d : Nat) : Int)) := ⟨by
            rw [IntWalk.wrap64_in (-(m : Int) * 10) ⟨by omega, by omega⟩, IntWalk.wrap64_in _ ⟨by omega, by omega⟩]; omega⟩
          have HF := Aside0.mk (HST.out.2 hbig)
          clear HST hm hd hbig HN hq0
          go_wp2
          go_roundw
          case rel => exact ⟨k + 1, m * 10 + d, by omega, congrArg (Value.int .i64) G.out, by go_num, ⟨HF.out⟩, HB⟩
          case measure => simp [intOf]; omega
      · have q : ((k : Int) < (s.size : Int)) = False := eq_false (by omega)
        have HF : Aside0 (NeedN.magF (c :: r) 0 = some m) := ⟨by rw [HN.out.2, List.drop_eq_nil_of_le (by have := HS1.out.1; omega)]; rfl⟩
        have hm := HN.out.1
        clear HN
        have g1 : wrap64 (- -(m : Int)) = wrap64 (m : Int) := by rw [Int.neg_neg]
        have t1 : (-9223372036854775808 < -(m : Int)) = (m < 9223372036854775808) := propext ⟨fun h => by omega, fun h => by omega⟩
        go_wp2
        go_ret2
        exact ⟨by rw [num_plus HF.out HNE.out HALL.out HMI.out]; simp, HB.out⟩
def spec_NeedNumber.f (s : ByteArray) : Option (Int × Bool) := if s.size ≤ 4294967296 then some (numF s.data.toList) else none
set_option maxHeartbeats 1000000 in
theorem spec_NeedNumber.calls (a0 : ByteArray) (r0 : Int) (r1 : Bool) (w : World) (h : spec_NeedNumber.f a0 = some (r0, r1)) :
    Calls Tryd.prog 32 #[.string a0] w fun e w' => e = .returned (.tuple #[.int .i64 r0, .bool r1]) ∧ Below w.heap.size w w' := by
  unfold spec_NeedNumber.f at h
  by_cases hs : a0.size ≤ 4294967296
  · rw [if_pos hs] at h
    obtain rfl : (numF a0.data.toList).1 = r0 := congrArg Prod.fst (Option.some.inj h)
    obtain rfl : (numF a0.data.toList).2 = r1 := congrArg Prod.snd (Option.some.inj h)
    clear h
    cases hl : a0.data.toList with
    | nil =>
      have hz : a0.size = 0 := by rw [sz_len, hl]; rfl
      have p0 : (0 < (a0.size : Int)) = False := eq_false (by omega)
      have mixed : Tryd.prog.follows .mixedOrders = true := by kernel_rfl
      clear hl hs
      show Calls Tryd.prog 32 #[.string a0] w fun e w' => e = .returned (.tuple #[.int .i64 0, .bool false]) ∧ Below w.heap.size w w'
      go_enter Tryd.func32, Tryd.ntmps32
      go_wp2
      go_ret2
      exact ⟨rfl, Below.refl _ _⟩
    | cons c r =>
      rw [← hl]
      by_cases h45 : c = 45
      · subst h45; exact num_B a0 hs r hl w
      · by_cases h43 : c = 43
        · subst h43; exact num_C a0 hs r hl w
        · exact num_D a0 hs c r h45 h43 hl w
  · rw [if_neg hs] at h; cases h
/-! ### spec_NeedCount: function 23 -/
mutual
def spec_NeedCount.j0 : Nat → ByteArray → Bool → ByteArray → ByteArray → List ByteArray → Option (Bool)
  | 0, _, _, _, _, _ => none
  | k + 1, x6, x7, x124000, x124001, x124002 => if x7 = true then (some (decide ((x124002.length : Int) > 0))) else (if x6.toList = ([101, 120, 105, 115, 116, 115] : List UInt8) then (spec_NeedCount.j1 k (x6.toList == ([101, 120, 105, 115, 116, 115] : List UInt8)) x124000 x124001 x124002) else (spec_NeedCount.j1 k (x6.toList == ([33] : List UInt8)) x124000 x124001 x124002))
def spec_NeedCount.j1 : Nat → Bool → ByteArray → ByteArray → List ByteArray → Option (Bool)
  | 0, _, _, _, _ => none
  | k + 1, x14, x124000, x124001, x124002 => if x14 = true then (some ((x124002.length : Int) == 0)) else (if (x124002.length : Int) = 1 then (if 0 < (x124002.length : Int) then ((spec_NeedNumber.f (rdOf ByteArray.empty x124002 0)).bind fun bt125 => (if bt125.2 = true then (some true) else (if x124001.toList = ([103, 116] : List UInt8) then (some false) else (some (x124001.toList != ([108, 116] : List UInt8)))))) else (none)) else (some false))
end
def spec_NeedCount.f (k : Nat) (a0_0 : ByteArray) (a0_1 : ByteArray) (l0_2 : List ByteArray) : Option (Bool) := if a0_1.toList = ([105, 110] : List UInt8) then (spec_NeedCount.j0 k a0_1 (a0_1.toList == ([105, 110] : List UInt8)) a0_0 a0_1 l0_2) else (spec_NeedCount.j0 k a0_1 (a0_1.toList == ([110, 111, 116, 105, 110] : List UInt8)) a0_0 a0_1 l0_2)
theorem spec_NeedCount.mono_l : ∀ k, (∀ y0 y1 y2 y3 y4, LeO (spec_NeedCount.j0 k y0 y1 y2 y3 y4) (spec_NeedCount.j0 (k + 1) y0 y1 y2 y3 y4)) ∧ (∀ y0 y1 y2 y3, LeO (spec_NeedCount.j1 k y0 y1 y2 y3) (spec_NeedCount.j1 (k + 1) y0 y1 y2 y3))
  | 0 => ⟨fun _ _ _ _ _ r h => by simp [spec_NeedCount.j0] at h, fun _ _ _ _ r h => by simp [spec_NeedCount.j1] at h⟩
  | k + 1 => by
    obtain ⟨ih0, ih1⟩ := spec_NeedCount.mono_l k
    refine ⟨?_, ?_⟩
    · intro y0 y1 y2 y3 y4
      unfold spec_NeedCount.j0
      repeat' first
      | (with_reducible exact ih0 _ _ _ _ _)
      | (with_reducible exact ih1 _ _ _ _)
      | (with_reducible exact LeO.refl _)
      | (with_reducible exact LeO.none _)
      | (with_reducible refine LeO.ite ?_ ?_)
      | (with_reducible refine LeO.bind ?_ (fun _ => ?_))
      | exact ih0 _ _ _ _ _
      | exact ih1 _ _ _ _
      | exact LeO.none _
      | refine LeO.ite ?_ ?_
      | refine LeO.bind ?_ (fun _ => ?_)
    · intro y0 y1 y2 y3
      unfold spec_NeedCount.j1
      repeat' first
      | (with_reducible exact ih0 _ _ _ _ _)
      | (with_reducible exact ih1 _ _ _ _)
      | (with_reducible exact LeO.refl _)
      | (with_reducible exact LeO.none _)
      | (with_reducible refine LeO.ite ?_ ?_)
      | (with_reducible refine LeO.bind ?_ (fun _ => ?_))
      | exact ih0 _ _ _ _ _
      | exact ih1 _ _ _ _
      | exact LeO.none _
      | refine LeO.ite ?_ ?_
      | refine LeO.bind ?_ (fun _ => ?_)
theorem spec_NeedCount.mono : ∀ a0 a1 a2 k, LeO (spec_NeedCount.f k a0 a1 a2) (spec_NeedCount.f (k + 1) a0 a1 a2) := by
  intro a0 a1 a2 k
  obtain ⟨ih0, ih1⟩ := spec_NeedCount.mono_l k
  unfold spec_NeedCount.f
  repeat' first
      | (with_reducible exact ih0 _ _ _ _ _)
      | (with_reducible exact ih1 _ _ _ _)
      | (with_reducible exact LeO.refl _)
      | (with_reducible exact LeO.none _)
      | (with_reducible refine LeO.ite ?_ ?_)
      | (with_reducible refine LeO.bind ?_ (fun _ => ?_))
      | exact ih0 _ _ _ _ _
      | exact ih1 _ _ _ _
      | exact LeO.none _
      | refine LeO.ite ?_ ?_
      | refine LeO.bind ?_ (fun _ => ?_)
set_option maxHeartbeats 8000000 in
set_option maxRecDepth 100000 in
theorem spec_NeedCount.calls (k : Nat) (a0_0 : ByteArray) (a0_1 : ByteArray) (A0_2 : Option Addr) (c0_2 : Nat) (l0_2 : List ByteArray) (r : Bool) (w : World) (hr0_2 : Kd.C Kd.string w A0_2 l0_2.length l0_2) (hc0_2 : l0_2.length ≤ c0_2) (h : spec_NeedCount.f k a0_0 a0_1 l0_2 = some r) :
    Calls Tryd.prog 23 #[.agg #[.string a0_0, .string a0_1, .slice A0_2 l0_2.length c0_2]] w fun e w' => e = .returned (.bool r) ∧ Below w.heap.size w w' := by
  have hu24 := Tryd.underlying24
  have HR0_2 := Aside0.mk hr0_2
  have HC0_2 := Aside0.mk hc0_2
  clear hr0_2 hc0_2
  have HB := Aside0.mk (Below.refl w.heap.size w)
  have H : (if a0_1.toList = ([105, 110] : List UInt8) then (spec_NeedCount.j0 k a0_1 (a0_1.toList == ([105, 110] : List UInt8)) a0_0 a0_1 l0_2) else (spec_NeedCount.j0 k a0_1 (a0_1.toList == ([110, 111, 116, 105, 110] : List UInt8)) a0_0 a0_1 l0_2)) = some r := h
  clear h
  have HC2 := Aside0.mk H
  clear H
  go_enter Tryd.func23, Tryd.ntmps23
  go_upto_if 7 with (first | ((with_reducible refine gate_dst (N := 1) rfl ?_); refine box_event ?hg (N := 1) ?hd (cs := #[.string a0_0, .string a0_1, .slice A0_2 l0_2.length c0_2]) (t := 24) ?hr ?_; (case hd => rfl); (case hg => rfl); (case hr => first | (go_simp; done) | (go_simp; rfl)); intro gb123 hg w3 hbox hb; have n0_ := Aside0.mk (below_step (by repeat (first | (with_reducible first | exact HB.out | apply below_alloc | apply pw_below_drewN | apply below_drew1) | exact HB.out)) hb); have n1_ := Aside0.mk (hbox); have n2_ := Aside0.mk ((by rw [hg]; exact (below_size (by repeat (first | (with_reducible first | exact HB.out | apply below_alloc | apply pw_below_drewN | apply below_drew1) | exact HB.out))) : w.heap.size ≤ gb123)); have n3_ := Aside0.mk ((by rw [hg]; exact (below_size (by repeat (first | (with_reducible first | exact HB.out | apply below_alloc | apply pw_below_drewN | apply below_drew1) | exact HB.out))) : w.heap.size ≤ gb123)); clear HB; have HB := n0_; have BK123 := n1_; have GW123 := n2_; have GE123 := n3_; clear n0_ n1_ n2_ n3_; clear hb hbox hg; have hcz4_0 : w3.cell? ⟨gb123, 0, none⟩ = some (.string a0_0) := (blk_cell BK123.out 0).trans rfl; have hcz4_1 : w3.cell? ⟨gb123, 1, none⟩ = some (.string a0_1) := (blk_cell BK123.out 1).trans rfl; have hcz4_2 : w3.cell? ⟨gb123, 2, none⟩ = some (.slice A0_2 l0_2.length c0_2) := (blk_cell BK123.out 2).trans rfl; have hfz4_0 := blk_frozen BK123.out 0; have hfz4_1 := blk_frozen BK123.out 1; have hfz4_2 := blk_frozen BK123.out 2))
  (try simp only [Act.put, List.setIfInBounds_toArray, List.set_cons_zero, List.set_cons_succ])
  go_cut [7] (fun v7 wc => ∃ (kq : Nat) (x7_1 : Bool), v7 = .bool x7_1 ∧ Aside0 (spec_NeedCount.j0 kq a0_1 x7_1 a0_0 a0_1 l0_2 = some r) ∧ Aside0 (kq ≤ k) ∧ Aside0 (wc.heap[gb123]? = some (.cells #[.string a0_0, .string a0_1, (.slice A0_2 l0_2.length c0_2)] 24 (0, 0))) ∧ Aside0 (Below w.heap.size w wc))
  case first =>
    have H := HC2.out
    clear HC2
    by_cases c5 : a0_1.toList = ([105, 110] : List UInt8)
    · rw [if_pos c5] at H
      have c5b0 : (a0_1.toList == ([105, 110] : List UInt8)) = true := beq_iff_eq.mpr c5
      have c5b1 : (a0_1.toList != ([105, 110] : List UInt8)) = false := bne_eq_false_iff_eq.mpr c5
      clear c5
      (first | rw [c5b0] | (simp only [i64_w, i32_w]; rw [c5b0]) | skip)
      have H' := Aside0.mk H
      clear H
      go_wp2
      go_meet
      case rel => exact ⟨_, ((a0_1.toList == ([105, 110] : List UInt8))), (by first | rfl | (simp; done) | (simp [*]; done)), H', ⟨by first | omega | exact Nat.le_refl _⟩, ⟨by (with_reducible repeat (first | refine blk_drewN ?_ _ | refine blk_drew ?_ | refine blk_alloc ?_ _)); exact BK123.out⟩, ⟨by repeat (first | (with_reducible first | exact HB.out | apply below_alloc | apply pw_below_drewN | apply below_drew1 | refine below_set ?_ GE123.out) | exact HB.out)⟩⟩
    · rw [if_neg c5] at H
      have c5b0 : (a0_1.toList == ([105, 110] : List UInt8)) = false := beq_eq_false_iff_ne.mpr c5
      have c5b1 : (a0_1.toList != ([105, 110] : List UInt8)) = true := bne_iff_ne.mpr c5
      (first | rw [c5b0] | (simp only [i64_w, i32_w]; rw [c5b0]) | skip)
      have H' := Aside0.mk H
      clear H
      go_wp2
      go_meet
      case rel => exact ⟨_, ((a0_1.toList == ([110, 111, 116, 105, 110] : List UInt8))), (by first | rfl | (simp; done) | (simp [*]; done)), H', ⟨by first | omega | exact Nat.le_refl _⟩, ⟨by (with_reducible repeat (first | refine blk_drewN ?_ _ | refine blk_drew ?_ | refine blk_alloc ?_ _)); exact BK123.out⟩, ⟨by repeat (first | (with_reducible first | exact HB.out | apply below_alloc | apply pw_below_drewN | apply below_drew1 | refine below_set ?_ GE123.out) | exact HB.out)⟩⟩
  case rest =>
    clear HC2
    try clear c2
    try clear p2
    try clear c5
    try clear c5b0
    try clear c5b1
    try clear hcz4_0
    try clear hcz4_1
    try clear hcz4_2
    try clear hfz4_0
    try clear hfz4_1
    try clear hfz4_2
    obtain ⟨kq, x7_1, rfl, HA, HJ1, BK123, HB⟩ := hcut
    cases kq with
    | zero => exact absurd HA.out (by simp [spec_NeedCount.j0])
    | succ kj1 =>
      have H := HA.out
      clear HA
      simp only [spec_NeedCount.j0] at H
      by_cases c6 : x7_1 = true
      · subst c6
        have H1 : (some (decide ((l0_2.length : Int) > 0))) = some r := by rw [if_pos rfl] at H; exact H
        clear H
        have H := H1
        clear H1
        obtain rfl := Option.some.inj H
        have hcz7_0 : wc.cell? ⟨gb123, 0, none⟩ = some (.string a0_0) := (blk_cell BK123.out 0).trans rfl
        have hcz7_1 : wc.cell? ⟨gb123, 1, none⟩ = some (.string a0_1) := (blk_cell BK123.out 1).trans rfl
        have hcz7_2 : wc.cell? ⟨gb123, 2, none⟩ = some (.slice A0_2 l0_2.length c0_2) := (blk_cell BK123.out 2).trans rfl
        have hfz7_0 := blk_frozen BK123.out 0
        have hfz7_1 := blk_frozen BK123.out 1
        have hfz7_2 := blk_frozen BK123.out 2
        go_wp2
        go_ret
        exact ⟨by first | rfl | (simp [errW_none, errW_some] <;> rfl) | (simp [*, errW_none, errW_some] <;> rfl) | (exfalso; contradiction), by repeat (first | (with_reducible first | exact HB.out | apply below_alloc | apply pw_below_drewN | apply below_drew1 | refine below_set ?_ GE123.out) | exact HB.out)⟩
      · replace c6 := Bool.eq_false_iff.mpr c6
        subst c6
        have H1 : (if a0_1.toList = ([101, 120, 105, 115, 116, 115] : List UInt8) then (spec_NeedCount.j1 kj1 (a0_1.toList == ([101, 120, 105, 115, 116, 115] : List UInt8)) a0_0 a0_1 l0_2) else (spec_NeedCount.j1 kj1 (a0_1.toList == ([33] : List UInt8)) a0_0 a0_1 l0_2)) = some r := by rw [if_neg (show ¬ (false = true) by decide)] at H; exact H
        clear H
        have H := H1
        clear H1
        have HC8 := Aside0.mk H
        clear H
        go_upto_if 14 with (fail)
        go_cut [14] (fun v14 wc => ∃ (kq : Nat) (x14_7 : Bool), v14 = .bool x14_7 ∧ Aside0 (spec_NeedCount.j1 kq x14_7 a0_0 a0_1 l0_2 = some r) ∧ Aside0 (kq ≤ kj1) ∧ Aside0 (wc.heap[gb123]? = some (.cells #[.string a0_0, .string a0_1, (.slice A0_2 l0_2.length c0_2)] 24 (0, 0))) ∧ Aside0 (Below w.heap.size w wc))
        case first =>
          have H := HC8.out
          clear HC8
          by_cases c9 : a0_1.toList = ([101, 120, 105, 115, 116, 115] : List UInt8)
          · rw [if_pos c9] at H
            have c9b0 : (a0_1.toList == ([101, 120, 105, 115, 116, 115] : List UInt8)) = true := beq_iff_eq.mpr c9
            have c9b1 : (a0_1.toList != ([101, 120, 105, 115, 116, 115] : List UInt8)) = false := bne_eq_false_iff_eq.mpr c9
            clear c9
            (first | rw [c9b0] | (simp only [i64_w, i32_w]; rw [c9b0]) | skip)
            have H' := Aside0.mk H
            clear H
            go_wp2
            go_meet
            case rel => exact ⟨_, ((a0_1.toList == ([101, 120, 105, 115, 116, 115] : List UInt8))), (by first | rfl | (simp; done) | (simp [*]; done)), H', ⟨by have := HJ1.out; first | omega | exact Nat.le_refl _⟩, ⟨by (with_reducible repeat (first | refine blk_drewN ?_ _ | refine blk_drew ?_ | refine blk_alloc ?_ _)); exact BK123.out⟩, ⟨by repeat (first | (with_reducible first | exact HB.out | apply below_alloc | apply pw_below_drewN | apply below_drew1 | refine below_set ?_ GE123.out) | exact HB.out)⟩⟩
          · rw [if_neg c9] at H
            have c9b0 : (a0_1.toList == ([101, 120, 105, 115, 116, 115] : List UInt8)) = false := beq_eq_false_iff_ne.mpr c9
            have c9b1 : (a0_1.toList != ([101, 120, 105, 115, 116, 115] : List UInt8)) = true := bne_iff_ne.mpr c9
            (first | rw [c9b0] | (simp only [i64_w, i32_w]; rw [c9b0]) | skip)
            have H' := Aside0.mk H
            clear H
            go_wp2
            go_meet
            case rel => exact ⟨_, ((a0_1.toList == ([33] : List UInt8))), (by first | rfl | (simp; done) | (simp [*]; done)), H', ⟨by have := HJ1.out; first | omega | exact Nat.le_refl _⟩, ⟨by (with_reducible repeat (first | refine blk_drewN ?_ _ | refine blk_drew ?_ | refine blk_alloc ?_ _)); exact BK123.out⟩, ⟨by repeat (first | (with_reducible first | exact HB.out | apply below_alloc | apply pw_below_drewN | apply below_drew1 | refine below_set ?_ GE123.out) | exact HB.out)⟩⟩
        case rest =>
          clear HC8
          try clear c2
          try clear p2
          try clear c5
          try clear c5b0
          try clear c5b1
          try clear c6
          try clear c9
          try clear c9b0
          try clear c9b1
          try clear hcz4_0
          try clear hcz4_1
          try clear hcz4_2
          try clear hcz7_0
          try clear hcz7_1
          try clear hcz7_2
          try clear hfz4_0
          try clear hfz4_1
          try clear hfz4_2
          try clear hfz7_0
          try clear hfz7_1
          try clear hfz7_2
          try clear p2
          obtain ⟨kq, x14_7, rfl, HA, HJ7, BK123, HB⟩ := hcut
          cases kq with
          | zero => exact absurd HA.out (by simp [spec_NeedCount.j1])
          | succ kj7 =>
            have H := HA.out
            clear HA
            simp only [spec_NeedCount.j1] at H
            by_cases c10 : x14_7 = true
            · subst c10
              have H1 : (some ((l0_2.length : Int) == 0)) = some r := by rw [if_pos rfl] at H; exact H
              clear H
              have H := H1
              clear H1
              obtain rfl := Option.some.inj H
              have hcz11_0 : wc.cell? ⟨gb123, 0, none⟩ = some (.string a0_0) := (blk_cell BK123.out 0).trans rfl
              have hcz11_1 : wc.cell? ⟨gb123, 1, none⟩ = some (.string a0_1) := (blk_cell BK123.out 1).trans rfl
              have hcz11_2 : wc.cell? ⟨gb123, 2, none⟩ = some (.slice A0_2 l0_2.length c0_2) := (blk_cell BK123.out 2).trans rfl
              have hfz11_0 := blk_frozen BK123.out 0
              have hfz11_1 := blk_frozen BK123.out 1
              have hfz11_2 := blk_frozen BK123.out 2
              go_wp2
              go_ret
              exact ⟨by first | rfl | (simp [errW_none, errW_some] <;> rfl) | (simp [*, errW_none, errW_some] <;> rfl) | (exfalso; contradiction), by repeat (first | (with_reducible first | exact HB.out | apply below_alloc | apply pw_below_drewN | apply below_drew1 | refine below_set ?_ GE123.out) | exact HB.out)⟩
            · replace c10 := Bool.eq_false_iff.mpr c10
              subst c10
              have H1 : (if (l0_2.length : Int) = 1 then (if 0 < (l0_2.length : Int) then ((spec_NeedNumber.f (rdOf ByteArray.empty l0_2 0)).bind fun bt125 => (if bt125.2 = true then (some true) else (if a0_1.toList = ([103, 116] : List UInt8) then (some false) else (some (a0_1.toList != ([108, 116] : List UInt8)))))) else (none)) else (some false)) = some r := by rw [if_neg (show ¬ (false = true) by decide)] at H; exact H
              clear H
              have H := H1
              clear H1
              by_cases c12 : (l0_2.length : Int) = 1
              · rw [if_pos c12] at H
                have c12b0 : ((l0_2.length : Int) == 1) = true := beq_iff_eq.mpr c12
                have c12b1 : ((l0_2.length : Int) != 1) = false := bne_eq_false_iff_eq.mpr c12
                clear c12
                by_cases c13 : 0 < (l0_2.length : Int)
                · rw [if_pos c13] at H
                  have c13b0 : decide (0 < (l0_2.length : Int)) = true := decide_eq_true c13
                  have c13b1 : decide (0 < l0_2.length) = true := decide_eq_true (by omega)
                  clear c13
                  replace H := Option.bind_eq_some_iff.mp H
                  obtain ⟨⟨t125, t126⟩, A140, H⟩ := H
                  replace H : (if t126 = true then (some true) else (if a0_1.toList = ([103, 116] : List UInt8) then (some false) else (some (a0_1.toList != ([108, 116] : List UInt8))))) = some r := H
                  have A14 := Aside0.mk A140
                  clear A140
                  by_cases c15 : t126 = true
                  · subst c15
                    have H1 : (some true) = some r := by rw [if_pos rfl] at H; exact H
                    clear H
                    have H := H1
                    clear H1
                    obtain rfl := Option.some.inj H
                    have hcz16_0 : wc.cell? ⟨gb123, 0, none⟩ = some (.string a0_0) := (blk_cell BK123.out 0).trans rfl
                    have hcz16_1 : wc.cell? ⟨gb123, 1, none⟩ = some (.string a0_1) := (blk_cell BK123.out 1).trans rfl
                    have hcz16_2 : wc.cell? ⟨gb123, 2, none⟩ = some (.slice A0_2 l0_2.length c0_2) := (blk_cell BK123.out 2).trans rfl
                    have hfz16_0 := blk_frozen BK123.out 0
                    have hfz16_1 := blk_frozen BK123.out 1
                    have hfz16_2 := blk_frozen BK123.out 2
                    have p124 : 0 ≤ (0 : Int) := (by omega)
                    have q124 : 0 < (l0_2.length : Int) := of_decide_eq_true (by first | (with_reducible assumption) | assumption)
                    obtain ⟨ad124, e124, hx124_0⟩ := Kd.at_string HR0_2.out 0 p124 q124
                    cases e124
                    have qi124 : (0 < l0_2.length) = True := eq_true (by omega)
                    (try rw [show ((0 : Int)).toNat = 0 from rfl] at hx124_0)
                    (try rw [Addr.add_zero'] at hx124_0)
                    replace hx124_0 := (HB.out.cell (World.block_lt_of_cell? w _ hx124_0)).trans hx124_0
                    replace p124 := eq_true p124
                    replace q124 := eq_true q124
                    go_wp2_with (first | ((with_reducible refine gate_callee (f := 32) rfl ?_); refine goesL_ (some 30) rfl rfl Tryd.func32 (by kernel_rfl) rfl #[.string (rdOf ByteArray.empty l0_2 0)] rfl (by (try simp only [List.map_toArray, List.map_cons, List.map_nil]); first | done | rfl | (simp only [List.length_drop, List.length_take]; rfl)) ?_; (with_reducible refine (spec_NeedNumber.calls (rdOf ByteArray.empty l0_2 0) t125 true _ A14.out).mono ?_); rintro e w17 ⟨rfl, hb⟩; refine ⟨_, rfl, ?_⟩; have n0_ := Aside0.mk (blk_below (g := gb123) (o := .cells #[.string a0_0, .string a0_1, .slice (some ad124) l0_2.length c0_2] 24 (0, 0)) (by (with_reducible repeat (first | refine blk_drewN ?_ _ | refine blk_drew ?_ | refine blk_alloc ?_ _)); exact BK123.out) hb); have n1_ := Aside0.mk (below_step (by repeat (first | (with_reducible first | exact HB.out | apply below_alloc | apply pw_below_drewN | apply below_drew1 | refine below_set ?_ GE123.out) | exact HB.out)) hb); clear BK123; clear HB; have BK123 := n0_; have HB := n1_; clear n0_ n1_; (try clear hb); (try clear hb2); (try clear hk); (try clear hi)))
                    go_ret
                    exact ⟨by first | rfl | (simp [errW_none, errW_some] <;> rfl) | (simp [*, errW_none, errW_some] <;> rfl) | (exfalso; contradiction), by repeat (first | (with_reducible first | exact HB.out | apply below_alloc | apply pw_below_drewN | apply below_drew1 | refine below_set ?_ GE123.out) | exact HB.out)⟩
                  · replace c15 := Bool.eq_false_iff.mpr c15
                    subst c15
                    have H1 : (if a0_1.toList = ([103, 116] : List UInt8) then (some false) else (some (a0_1.toList != ([108, 116] : List UInt8)))) = some r := by rw [if_neg (show ¬ (false = true) by decide)] at H; exact H
                    clear H
                    have H := H1
                    clear H1
                    by_cases c18 : a0_1.toList = ([103, 116] : List UInt8)
                    · rw [if_pos c18] at H
                      have c18b0 : (a0_1.toList == ([103, 116] : List UInt8)) = true := beq_iff_eq.mpr c18
                      have c18b1 : (a0_1.toList != ([103, 116] : List UInt8)) = false := bne_eq_false_iff_eq.mpr c18
                      clear c18
                      obtain rfl := Option.some.inj H
                      have hcz19_0 : wc.cell? ⟨gb123, 0, none⟩ = some (.string a0_0) := (blk_cell BK123.out 0).trans rfl
                      have hcz19_1 : wc.cell? ⟨gb123, 1, none⟩ = some (.string a0_1) := (blk_cell BK123.out 1).trans rfl
                      have hcz19_2 : wc.cell? ⟨gb123, 2, none⟩ = some (.slice A0_2 l0_2.length c0_2) := (blk_cell BK123.out 2).trans rfl
                      have hfz19_0 := blk_frozen BK123.out 0
                      have hfz19_1 := blk_frozen BK123.out 1
                      have hfz19_2 := blk_frozen BK123.out 2
                      have p124 : 0 ≤ (0 : Int) := (by omega)
                      have q124 : 0 < (l0_2.length : Int) := of_decide_eq_true (by first | (with_reducible assumption) | assumption)
                      obtain ⟨ad124, e124, hx124_0⟩ := Kd.at_string HR0_2.out 0 p124 q124
                      cases e124
                      have qi124 : (0 < l0_2.length) = True := eq_true (by omega)
                      (try rw [show ((0 : Int)).toNat = 0 from rfl] at hx124_0)
                      (try rw [Addr.add_zero'] at hx124_0)
                      replace hx124_0 := (HB.out.cell (World.block_lt_of_cell? w _ hx124_0)).trans hx124_0
                      replace p124 := eq_true p124
                      replace q124 := eq_true q124
                      go_wp2_with (first | ((with_reducible refine gate_callee (f := 32) rfl ?_); refine goesL_ (some 30) rfl rfl Tryd.func32 (by kernel_rfl) rfl #[.string (rdOf ByteArray.empty l0_2 0)] rfl (by (try simp only [List.map_toArray, List.map_cons, List.map_nil]); first | done | rfl | (simp only [List.length_drop, List.length_take]; rfl)) ?_; (with_reducible refine (spec_NeedNumber.calls (rdOf ByteArray.empty l0_2 0) t125 false _ A14.out).mono ?_); rintro e w20 ⟨rfl, hb⟩; refine ⟨_, rfl, ?_⟩; have n0_ := Aside0.mk (blk_below (g := gb123) (o := .cells #[.string a0_0, .string a0_1, .slice (some ad124) l0_2.length c0_2] 24 (0, 0)) (by (with_reducible repeat (first | refine blk_drewN ?_ _ | refine blk_drew ?_ | refine blk_alloc ?_ _)); exact BK123.out) hb); have n1_ := Aside0.mk (below_step (by repeat (first | (with_reducible first | exact HB.out | apply below_alloc | apply pw_below_drewN | apply below_drew1 | refine below_set ?_ GE123.out) | exact HB.out)) hb); clear BK123; clear HB; have BK123 := n0_; have HB := n1_; clear n0_ n1_; (try clear hb); (try clear hb2); (try clear hk); (try clear hi); have hcz21_0 : w20.cell? ⟨gb123, 0, none⟩ = some (.string a0_0) := (blk_cell BK123.out 0).trans rfl; have hcz21_1 : w20.cell? ⟨gb123, 1, none⟩ = some (.string a0_1) := (blk_cell BK123.out 1).trans rfl; have hcz21_2 : w20.cell? ⟨gb123, 2, none⟩ = some (.slice (some ad124) l0_2.length c0_2) := (blk_cell BK123.out 2).trans rfl; have hfz21_0 := blk_frozen BK123.out 0; have hfz21_1 := blk_frozen BK123.out 1; have hfz21_2 := blk_frozen BK123.out 2))
                      go_ret
                      exact ⟨by first | rfl | (simp [errW_none, errW_some] <;> rfl) | (simp [*, errW_none, errW_some] <;> rfl) | (exfalso; contradiction), by repeat (first | (with_reducible first | exact HB.out | apply below_alloc | apply pw_below_drewN | apply below_drew1 | refine below_set ?_ GE123.out) | exact HB.out)⟩
                    · rw [if_neg c18] at H
                      have c18b0 : (a0_1.toList == ([103, 116] : List UInt8)) = false := beq_eq_false_iff_ne.mpr c18
                      have c18b1 : (a0_1.toList != ([103, 116] : List UInt8)) = true := bne_iff_ne.mpr c18
                      obtain rfl := Option.some.inj H
                      have hcz22_0 : wc.cell? ⟨gb123, 0, none⟩ = some (.string a0_0) := (blk_cell BK123.out 0).trans rfl
                      have hcz22_1 : wc.cell? ⟨gb123, 1, none⟩ = some (.string a0_1) := (blk_cell BK123.out 1).trans rfl
                      have hcz22_2 : wc.cell? ⟨gb123, 2, none⟩ = some (.slice A0_2 l0_2.length c0_2) := (blk_cell BK123.out 2).trans rfl
                      have hfz22_0 := blk_frozen BK123.out 0
                      have hfz22_1 := blk_frozen BK123.out 1
                      have hfz22_2 := blk_frozen BK123.out 2
                      have p124 : 0 ≤ (0 : Int) := (by omega)
                      have q124 : 0 < (l0_2.length : Int) := of_decide_eq_true (by first | (with_reducible assumption) | assumption)
                      obtain ⟨ad124, e124, hx124_0⟩ := Kd.at_string HR0_2.out 0 p124 q124
                      cases e124
                      have qi124 : (0 < l0_2.length) = True := eq_true (by omega)
                      (try rw [show ((0 : Int)).toNat = 0 from rfl] at hx124_0)
                      (try rw [Addr.add_zero'] at hx124_0)
                      replace hx124_0 := (HB.out.cell (World.block_lt_of_cell? w _ hx124_0)).trans hx124_0
                      replace p124 := eq_true p124
                      replace q124 := eq_true q124
                      go_wp2_with (first | ((with_reducible refine gate_callee (f := 32) rfl ?_); refine goesL_ (some 30) rfl rfl Tryd.func32 (by kernel_rfl) rfl #[.string (rdOf ByteArray.empty l0_2 0)] rfl (by (try simp only [List.map_toArray, List.map_cons, List.map_nil]); first | done | rfl | (simp only [List.length_drop, List.length_take]; rfl)) ?_; (with_reducible refine (spec_NeedNumber.calls (rdOf ByteArray.empty l0_2 0) t125 false _ A14.out).mono ?_); rintro e w23 ⟨rfl, hb⟩; refine ⟨_, rfl, ?_⟩; have n0_ := Aside0.mk (blk_below (g := gb123) (o := .cells #[.string a0_0, .string a0_1, .slice (some ad124) l0_2.length c0_2] 24 (0, 0)) (by (with_reducible repeat (first | refine blk_drewN ?_ _ | refine blk_drew ?_ | refine blk_alloc ?_ _)); exact BK123.out) hb); have n1_ := Aside0.mk (below_step (by repeat (first | (with_reducible first | exact HB.out | apply below_alloc | apply pw_below_drewN | apply below_drew1 | refine below_set ?_ GE123.out) | exact HB.out)) hb); clear BK123; clear HB; have BK123 := n0_; have HB := n1_; clear n0_ n1_; (try clear hb); (try clear hb2); (try clear hk); (try clear hi); have hcz24_0 : w23.cell? ⟨gb123, 0, none⟩ = some (.string a0_0) := (blk_cell BK123.out 0).trans rfl; have hcz24_1 : w23.cell? ⟨gb123, 1, none⟩ = some (.string a0_1) := (blk_cell BK123.out 1).trans rfl; have hcz24_2 : w23.cell? ⟨gb123, 2, none⟩ = some (.slice (some ad124) l0_2.length c0_2) := (blk_cell BK123.out 2).trans rfl; have hfz24_0 := blk_frozen BK123.out 0; have hfz24_1 := blk_frozen BK123.out 1; have hfz24_2 := blk_frozen BK123.out 2))
                      go_ret
                      exact ⟨by first | rfl | (simp [errW_none, errW_some] <;> rfl) | (simp [*, errW_none, errW_some] <;> rfl) | (exfalso; contradiction), by repeat (first | (with_reducible first | exact HB.out | apply below_alloc | apply pw_below_drewN | apply below_drew1 | refine below_set ?_ GE123.out) | exact HB.out)⟩
                · rw [if_neg c13] at H
                  exact absurd H (by simp)
              · rw [if_neg c12] at H
                have c12b0 : ((l0_2.length : Int) == 1) = false := beq_eq_false_iff_ne.mpr c12
                have c12b1 : ((l0_2.length : Int) != 1) = true := bne_iff_ne.mpr c12
                obtain rfl := Option.some.inj H
                have hcz25_0 : wc.cell? ⟨gb123, 0, none⟩ = some (.string a0_0) := (blk_cell BK123.out 0).trans rfl
                have hcz25_1 : wc.cell? ⟨gb123, 1, none⟩ = some (.string a0_1) := (blk_cell BK123.out 1).trans rfl
                have hcz25_2 : wc.cell? ⟨gb123, 2, none⟩ = some (.slice A0_2 l0_2.length c0_2) := (blk_cell BK123.out 2).trans rfl
                have hfz25_0 := blk_frozen BK123.out 0
                have hfz25_1 := blk_frozen BK123.out 1
                have hfz25_2 := blk_frozen BK123.out 2
                go_wp2
                go_ret
                exact ⟨by first | rfl | (simp [errW_none, errW_some] <;> rfl) | (simp [*, errW_none, errW_some] <;> rfl) | (exfalso; contradiction), by repeat (first | (with_reducible first | exact HB.out | apply below_alloc | apply pw_below_drewN | apply below_drew1 | refine below_set ?_ GE123.out) | exact HB.out)⟩

end Go.Proofs.YtlhbmifffmegeaaDoor.PFnNeedMatch
