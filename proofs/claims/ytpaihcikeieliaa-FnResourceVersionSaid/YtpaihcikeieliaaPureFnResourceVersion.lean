/- Two resource versions are ordered as the numbers that they are, and one that is no positive number, written plainly, is an error: of all texts (of those that the statement's bound lets by). -/
import Derived.Test.YtpaihcikeieliaaPFnResourceVersionx1
import Derived.Test.YtpaihcikeieliaaTxt
import Derived.Test.YtpaihcikeieliaaEvs
set_option linter.unusedVariables false
set_option linter.unusedSimpArgs false
namespace Go.Proofs.Ytpaihcikeieliaa.Pure
open Go.RowKit Go.Proofs.Ytpaihcikeieliaa.PFnResourceVersion Go.Proofs.YtpaihcikeieliaaW.PrintWords Go.Proofs.YtpaihcikeieliaaW.PrintLast Go.Proofs.Ytpaihcikeieliaa.Txt

theorem pos_l0 (s : ByteArray) (hs : s.size ≤ 2147483647) (n : Nat) : ∀ i : Nat, i + n = s.data.toList.length → ((s.data.toList.take i).all fun b => decide (48 ≤ b.toNat ∧ b.toNat ≤ 57)) = true →
    Ev (fun k => spec_NumPositive.l0 k s i) (wfR s.data.toList) := by
  have hsz := size_len s
  induction n with
  | zero =>
    intro i hi hall
    rw [List.take_of_length_le (by omega)] at hall
    unfold wfR
    rw [hall]
    refine ⟨1, fun k hk => ?_⟩
    obtain ⟨k, rfl⟩ : ∃ m, k = m + 1 := ⟨k - 1, by omega⟩
    simp only [spec_NumPositive.l0]
    rw [if_neg (by omega), toL]
    by_cases h0 : s.data.toList = []
    · rw [if_pos h0, h0]; rfl
    · have h1 : 0 < s.data.toList.length := List.length_pos_iff.2 h0
      rw [if_neg h0, if_pos (by omega), show (0 : Int) = ((0 : Nat) : Int) from rfl, bt_nat s 0 h1, headD_get _ h1, decide_eq_true h1]
      simp only [Bool.true_and, Bool.and_true, Option.some.injEq]
      rw [Bool.eq_iff_iff]
      simp only [bne_iff_ne, ne_eq, Bool.not_eq_true', beq_eq_false_iff_ne]
      have : ((s.data.toList[0]).toNat : Int) = 48 ↔ s.data.toList[0] = 48 := u8_eq (b := 48)
      rw [this]
  | succ n ih =>
    intro i hi hall
    have h : i < s.data.toList.length := by omega
    have hbt := bt_nat s i h
    by_cases hd : 48 ≤ (s.data.toList[i]).toNat ∧ (s.data.toList[i]).toNat ≤ 57
    · refine Ev.step (fun k => ?_) (ih (i + 1) (by omega) ?_)
      · simp only [spec_NumPositive.l0]
        rw [if_pos (by omega), if_pos (by omega), hbt, if_neg (by omega), if_neg (by omega), Small.w64s i (by omega)]
      · rw [List.take_succ_eq_append_getElem h, List.all_append, hall]
        simp only [List.all_cons, List.all_nil, Bool.and_true, Bool.true_and]
        exact decide_eq_true hd
    · have hf : wfR s.data.toList = false := wfR_not s i (by omega) hd
      rw [hf]
      refine Evs.at1 fun k => ?_
      simp only [spec_NumPositive.l0]
      rw [if_pos (by omega), if_pos (by omega), hbt]
      by_cases h1 : ((s.data.toList[i]).toNat : Int) < 48
      · rw [if_pos h1]
      · rw [if_neg h1, if_pos (by omega)]

theorem pos_f (s : ByteArray) (hs : s.size ≤ 2147483647) : Ev (fun k => spec_NumPositive.f k s) (wfR s.data.toList) := by
  have := pos_l0 s hs s.data.toList.length 0 (by omega) (by simp)
  exact this

theorem order_l0 (a b : ByteArray) (ha : a.size ≤ 2147483647) (hab : a.size = b.size) (n : Nat) : ∀ i : Nat, i + n = a.data.toList.length →
    Ev (fun k => spec_NumOrder.l0 k a b i) (Lib.compareBytes (a.data.toList.drop i) (b.data.toList.drop i)) := by
  have h1 := size_len a
  have h2 := size_len b
  induction n with
  | zero =>
    intro i hi
    rw [List.drop_eq_nil_of_le (by omega), List.drop_eq_nil_of_le (by omega)]
    refine Evs.at1 fun k => ?_
    simp only [spec_NumOrder.l0]
    rw [if_neg (by omega)]; rfl
  | succ n ih =>
    intro i hi
    have ga : i < a.data.toList.length := by omega
    have gb : i < b.data.toList.length := by omega
    rw [List.drop_eq_getElem_cons ga, List.drop_eq_getElem_cons gb]
    have ba := bt_nat a i ga
    have bb := bt_nat b i gb
    simp only [Lib.compareBytes]
    by_cases e : a.data.toList[i] = b.data.toList[i]
    · rw [e, if_neg (by exact UInt8.lt_irrefl _), if_neg (by exact UInt8.lt_irrefl _)]
      refine Ev.step (fun k => ?_) (ih (i + 1) (by omega))
      simp only [spec_NumOrder.l0]
      rw [if_pos (by omega), if_pos (by omega), if_pos (by omega), ba, bb, e, if_pos rfl, Small.w64s i (by omega)]
    · have hne : ¬ ((a.data.toList[i]).toNat : Int) = ((b.data.toList[i]).toNat : Int) := fun z => e (u8_eq.1 z)
      by_cases hlt : a.data.toList[i] < b.data.toList[i]
      · rw [if_pos hlt]
        refine Evs.at1 fun k => ?_
        simp only [spec_NumOrder.l0]
        have := UInt8.lt_iff_toNat_lt.1 hlt
        rw [if_pos (by omega), if_pos (by omega), if_pos (by omega), ba, bb, if_neg hne, if_pos (by omega)]
      · have hge : ¬ (a.data.toList[i]).toNat < (b.data.toList[i]).toNat := fun z => hlt (UInt8.lt_iff_toNat_lt.2 z)
        rw [if_neg hlt, if_pos (UInt8.lt_iff_toNat_lt.2 (by omega))]
        refine Evs.at1 fun k => ?_
        simp only [spec_NumOrder.l0]
        rw [if_pos (by omega), if_pos (by omega), if_pos (by omega), ba, bb, if_neg hne, if_neg (by omega)]

theorem order_f (a b : ByteArray) (ha : a.size ≤ 2147483647) (hb : b.size ≤ 2147483647) : Ev (fun k => spec_NumOrder.f k a b) (cmpN a b) := by
  unfold cmpN
  by_cases h : a.size = b.size
  · rw [if_neg (by omega), if_neg (by omega)]
    have := order_l0 a b ha h a.data.toList.length 0 (by omega)
    simp only [List.drop_zero] at this
    exact Evs.yes (by omega) this
  · refine Evs.no (by omega) ?_
    by_cases h1 : a.size < b.size
    · rw [if_pos h1]; exact Evs.yes (by omega) (Ev.now _)
    · have h2 : b.size < a.size := by omega
      simp only [if_neg h1, if_pos h2]
      exact Evs.no (by omega) (Ev.now _)

theorem rv_j0 (a b : ByteArray) (ha : a.size ≤ 2147483647) (hb : b.size ≤ 2147483647) : Ev (fun k => laws_FnResourceVersion.j0 k a b false) true := by
  refine Ev.step (f := fun k => (impl_ResourceVersionCompare.f a b).bind fun bt102 => ((spec_NumPositive.f k a).bind fun t104 => (if t104 = true then ((spec_NumPositive.f k b).bind fun t105 => (if t105 = true then (if bt102.2 = true then ((spec_NumOrder.f k a b).bind fun t106 => (some (bt102.1 == t106))) else (some false)) else (some (!bt102.2)))) else (some (!bt102.2)))))
    (fun k => ?_) ?_
  · simp only [laws_FnResourceVersion.j0]; rw [if_neg (by simp)]
  · unfold impl_ResourceVersionCompare.f
    refine Evs.bindS (Ev.bind (pos_f a ha) ?_)
    by_cases h1 : wfR a.data.toList = true
    · refine Evs.yes h1 (Ev.bind (pos_f b hb) ?_)
      by_cases h2 : wfR b.data.toList = true
      · refine Evs.yes h2 ?_
        simp only [h1, h2, if_true]
        refine Ev.bind (order_f a b ha hb) ?_
        simp only [beq_self_eq_true]
        exact Ev.now _
      · refine Evs.no h2 ?_
        simp only [h1, h2, if_true]
        exact Ev.now _
    · refine Evs.no h1 ?_
      simp only [h1]
      exact Ev.now _

theorem FnResourceVersion : laws_FnResourceVersion.Pure := by
  intro a b _ _
  have hj : laws_FnResourceVersion.j0 1 a b true = some true := by simp only [laws_FnResourceVersion.j0]; rw [if_pos trivial]
  unfold laws_FnResourceVersion.f
  by_cases h : (a.size : Int) > 2147483647
  · exact ⟨1, by rw [if_pos h]; exact hj⟩
  · by_cases h2 : (b.size : Int) > 2147483647
    · exact ⟨1, by rw [if_neg h, decide_eq_true h2]; exact hj⟩
    · obtain ⟨k, hk⟩ := (rv_j0 a b (by omega) (by omega)).rounds
      exact ⟨k, by rw [if_neg h, decide_eq_false h2]; exact hk⟩

end Go.Proofs.Ytpaihcikeieliaa.Pure
