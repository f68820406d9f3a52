/- The kind of an apiVersion and a name is the one that the document says, and told again it is the same, where the apiVersion is a group and a version, or a version: of all texts (of those that the statement's bound lets by). -/
import Derived.Test.YtpaihcikeieliaaPFnKindOfx4
import Derived.Test.YtpaihcikeieliaaTxt
import Derived.Test.YtpaihcikeieliaaEvs
set_option linter.unusedVariables false
set_option linter.unusedSimpArgs false
namespace Go.Proofs.Ytpaihcikeieliaa.Pure
open Go.RowKit Go.Proofs.Ytpaihcikeieliaa.PFnKindOf Go.Proofs.YtpaihcikeieliaaW.PrintWords Go.Proofs.YtpaihcikeieliaaW.PrintLast Go.Proofs.Ytpaihcikeieliaa.Txt

theorem place_l0 (s : ByteArray) (c : UInt8) (hs : s.size ≤ 9223372036854775806) (n : Nat) : ∀ i : Nat, i + n = s.data.toList.length →
    Ev (fun k => spec_verPlace.l0 k s (c.toNat : Int) i) (if plcN c (s.data.toList.drop i) < n then ((i + plcN c (s.data.toList.drop i) : Nat) : Int) else -1) := by
  have hsz := size_len s
  induction n with
  | zero =>
    intro i hi
    rw [if_neg (by omega)]
    refine ⟨1, fun k hk => ?_⟩
    obtain ⟨k, rfl⟩ : ∃ m, k = m + 1 := ⟨k - 1, by omega⟩
    simp only [spec_verPlace.l0]; rw [if_neg (by omega)]
  | succ n ih =>
    intro i hi
    have h : i < s.data.toList.length := by omega
    have ih := ih (i + 1) (by omega)
    rw [List.drop_eq_getElem_cons h]
    by_cases e : s.data.toList[i] = c
    · rw [e, plcN_cons_eq, if_pos (by omega)]
      refine ⟨1, fun k hk => ?_⟩
      obtain ⟨k, rfl⟩ : ∃ m, k = m + 1 := ⟨k - 1, by omega⟩
      simp only [spec_verPlace.l0]
      rw [if_pos (by omega), if_pos (by omega), bt_nat s i h, e, if_pos rfl]; rfl
    · rw [plcN_cons_ne _ e]
      have e2 : (if plcN c (s.data.toList.drop (i + 1)) + 1 < n + 1 then ((i + (plcN c (s.data.toList.drop (i + 1)) + 1) : Nat) : Int) else -1) = (if plcN c (s.data.toList.drop (i + 1)) < n then ((i + 1 + plcN c (s.data.toList.drop (i + 1)) : Nat) : Int) else -1) := by
        split <;> split <;> omega
      rw [e2]
      refine Ev.step (fun k => ?_) ih
      simp only [spec_verPlace.l0]
      rw [if_pos (by omega), if_pos (by omega), bt_nat s i h, if_neg (fun z => e (u8_eq.1 z)), Small.w64s i (by omega)]

theorem place_f (s : ByteArray) (c : UInt8) (hs : s.size ≤ 9223372036854775806) : Ev (fun k => spec_verPlace.f k s (c.toNat : Int)) (plc c s.data.toList) := by
  have := place_l0 s c hs s.data.toList.length 0 (by omega)
  simp only [List.drop_zero, Nat.zero_add] at this
  exact this
theorem index_l0 (s : ByteArray) (c : UInt8) (hs : s.size ≤ 9223372036854775806) (n : Nat) : ∀ i : Nat, i + n = s.data.toList.length →
    Ev (fun k => schema_zzIndex.l0 k s (⟨#[c]⟩ : ByteArray) i) (if plcN c (s.data.toList.drop i) < n then ((i + plcN c (s.data.toList.drop i) : Nat) : Int) else -1) := by
  have hsz := size_len s
  have h1 : ((⟨#[c]⟩ : ByteArray).size : Int) = 1 := rfl
  have hcl : (⟨#[c]⟩ : ByteArray).toList = [c] := toL _
  induction n with
  | zero =>
    intro i hi
    rw [if_neg (by omega)]
    refine ⟨1, fun k hk => ?_⟩
    obtain ⟨k, rfl⟩ : ∃ m, k = m + 1 := ⟨k - 1, by omega⟩
    simp only [schema_zzIndex.l0]
    rw [h1, Small.w64s i (by omega), if_neg (by omega)]
  | succ n ih =>
    intro i hi
    have h : i < s.data.toList.length := by omega
    have ih := ih (i + 1) (by omega)
    rw [List.drop_eq_getElem_cons h]
    by_cases e : s.data.toList[i] = c
    · rw [e, plcN_cons_eq, if_pos (by omega)]
      refine ⟨1, fun k hk => ?_⟩
      obtain ⟨k, rfl⟩ : ∃ m, k = m + 1 := ⟨k - 1, by omega⟩
      simp only [schema_zzIndex.l0]
      rw [h1, Small.w64s i (by omega), if_pos (by omega), if_pos (by omega), if_pos (by omega), Int.toNat_natCast, Int.toNat_natCast, one_extract s i h, hcl, e, if_pos rfl]; rfl
    · rw [plcN_cons_ne _ e]
      have e2 : (if plcN c (s.data.toList.drop (i + 1)) + 1 < n + 1 then ((i + (plcN c (s.data.toList.drop (i + 1)) + 1) : Nat) : Int) else -1) = (if plcN c (s.data.toList.drop (i + 1)) < n then ((i + 1 + plcN c (s.data.toList.drop (i + 1)) : Nat) : Int) else -1) := by
        split <;> split <;> omega
      rw [e2]
      refine Ev.step (fun k => ?_) ih
      simp only [schema_zzIndex.l0]
      rw [h1, Small.w64s i (by omega), if_pos (by omega), if_pos (by omega), if_pos (by omega), Int.toNat_natCast, Int.toNat_natCast, one_extract s i h, hcl, if_neg (fun z => e (by simpa using z))]

theorem index_f (s : ByteArray) (c : UInt8) (hs : s.size ≤ 9223372036854775806) : Ev (fun k => schema_zzIndex.f k s (⟨#[c]⟩ : ByteArray)) (plc c s.data.toList) := by
  have := index_l0 s c hs s.data.toList.length 0 (by omega)
  simp only [List.drop_zero, Nat.zero_add] at this
  exact this
theorem often_l0 (s : ByteArray) (c : UInt8) (hs : s.size ≤ 2147483647) (n : Nat) : ∀ (i m : Nat), i + n = s.data.toList.length → m ≤ i →
    Ev (fun k => spec_verOften.l0 k s (c.toNat : Int) m i) ((m + (s.data.toList.drop i).count c : Nat) : Int) := by
  have hsz := size_len s
  induction n with
  | zero =>
    intro i m hi hm
    rw [List.drop_eq_nil_of_le (by omega)]
    refine Evs.at1 fun k => ?_
    simp only [spec_verOften.l0]; rw [if_neg (by omega)]; rfl
  | succ n ih =>
    intro i m hi hm
    have h : i < s.data.toList.length := by omega
    rw [List.drop_eq_getElem_cons h, List.count_cons]
    by_cases e : s.data.toList[i] = c
    · have hb : (s.data.toList[i] == c) = true := beq_iff_eq.2 e
      rw [if_pos hb, show m + ((s.data.toList.drop (i + 1)).count c + 1) = (m + 1) + (s.data.toList.drop (i + 1)).count c from by omega]
      refine Ev.step (fun k => ?_) (ih (i + 1) (m + 1) (by omega) (by omega))
      simp only [spec_verOften.l0]
      rw [if_pos (by omega), if_pos (by omega), bt_nat s i h, e, if_pos rfl, Small.w64s m (by omega), Small.w64s i (by omega)]
    · have hb : ¬ (s.data.toList[i] == c) = true := fun z => e (beq_iff_eq.1 z)
      rw [if_neg hb, Nat.add_zero]
      refine Ev.step (fun k => ?_) (ih (i + 1) m (by omega) (by omega))
      simp only [spec_verOften.l0]
      rw [if_pos (by omega), if_pos (by omega), bt_nat s i h, if_neg (fun z => e (u8_eq.1 z)), Small.w64s i (by omega)]

theorem often_f (s : ByteArray) (c : UInt8) (hs : s.size ≤ 2147483647) : Ev (fun k => spec_verOften.f k s (c.toNat : Int)) ((s.data.toList.count c : Nat) : Int) := by
  have := often_l0 s c hs s.data.toList.length 0 0 (by omega) (by omega)
  simp only [List.drop_zero, Nat.zero_add] at this
  exact this
theorem count_l1 (s : ByteArray) (c : UInt8) (hs : s.size ≤ 2147483647) (n : Nat) : ∀ (i m : Nat), i + n = s.data.toList.length → m ≤ i →
    Ev (fun k => schema_zzCount.l1 k s (⟨#[c]⟩ : ByteArray) m i) ((m + (s.data.toList.drop i).count c : Nat) : Int) := by
  have hsz := size_len s
  have h1 : ((⟨#[c]⟩ : ByteArray).size : Int) = 1 := rfl
  have hcl : (⟨#[c]⟩ : ByteArray).toList = [c] := toL _
  induction n with
  | zero =>
    intro i m hi hm
    rw [List.drop_eq_nil_of_le (by omega)]
    refine Evs.at1 fun k => ?_
    simp only [schema_zzCount.l1]
    rw [h1, Small.w64s i (by omega), if_neg (by omega)]; rfl
  | succ n ih =>
    intro i m hi hm
    have h : i < s.data.toList.length := by omega
    rw [List.drop_eq_getElem_cons h, List.count_cons]
    by_cases e : s.data.toList[i] = c
    · have hb : (s.data.toList[i] == c) = true := beq_iff_eq.2 e
      rw [if_pos hb, show m + ((s.data.toList.drop (i + 1)).count c + 1) = (m + 1) + (s.data.toList.drop (i + 1)).count c from by omega]
      refine Ev.step (fun k => ?_) (ih (i + 1) (m + 1) (by omega) (by omega))
      simp only [schema_zzCount.l1]
      rw [h1, Small.w64s i (by omega), if_pos (by omega), if_pos (by omega), if_pos (by omega), Int.toNat_natCast, Int.toNat_natCast, one_extract s i h, hcl, e, if_pos rfl, Small.w64s m (by omega)]
    · have hb : ¬ (s.data.toList[i] == c) = true := fun z => e (beq_iff_eq.1 z)
      rw [if_neg hb, Nat.add_zero]
      refine Ev.step (fun k => ?_) (ih (i + 1) m (by omega) (by omega))
      simp only [schema_zzCount.l1]
      rw [h1, Small.w64s i (by omega), if_pos (by omega), if_pos (by omega), if_pos (by omega), Int.toNat_natCast, Int.toNat_natCast, one_extract s i h, hcl, if_neg (fun z => e (by simpa using z))]

theorem count_f (s : ByteArray) (c : UInt8) (hs : s.size ≤ 2147483647) : Ev (fun k => schema_zzCount.f k s (⟨#[c]⟩ : ByteArray)) ((s.data.toList.count c : Nat) : Int) := by
  have := count_l1 s c hs s.data.toList.length 0 0 (by omega) (by omega)
  simp only [List.drop_zero, Nat.zero_add] at this
  refine Ev.congr (fun k => ?_) this
  unfold schema_zzCount.f
  have h1 : ((⟨#[c]⟩ : ByteArray).size : Int) = 1 := rfl
  rw [h1, if_neg (by decide)]; rfl
theorem plc_bd (s : ByteArray) (c : UInt8) : plc c s.data.toList = -1 ∨ (0 ≤ plc c s.data.toList ∧ plc c s.data.toList < s.size) := by
  have := size_len s
  unfold plc; split <;> omega

theorem plc_of_count (s : ByteArray) (c : UInt8) (h : s.data.toList.count c ≠ 0) : 0 ≤ plc c s.data.toList ∧ plc c s.data.toList < s.size := by
  have hsz := size_len s
  have hm : c ∈ s.data.toList := List.count_pos_iff.1 (by omega)
  have : plcN c s.data.toList < s.data.toList.length := List.findIdx_lt_length_of_exists ⟨c, hm, by simp⟩
  unfold plc
  rw [if_pos this]; omega

/-- What a text "group/version" tells. -/
def gvR (s : ByteArray) : ByteArray × ByteArray × Bool :=
  if s.data.toList = [] ∨ s.data.toList = [47] then (⟨#[]⟩, ⟨#[]⟩, true) else
  if s.data.toList.count 47 = 0 then (⟨#[]⟩, s, true) else
  if s.data.toList.count 47 = 1 then (s.extract 0 (plc 47 s.data.toList).toNat, s.extract (plc 47 s.data.toList + 1).toNat s.size, true) else (⟨#[]⟩, ⟨#[]⟩, false)

theorem gv_impl (s : ByteArray) (hs : s.size ≤ 2147483647) : Ev (fun k => pgv k s) (gvR s) := by
  unfold pgv gvR
  rw [toL]
  by_cases h0 : s.data.toList = []
  · rw [if_pos (Or.inl h0)]; exact Evs.yes h0 (Ev.now _)
  · refine Evs.no h0 ?_
    by_cases h1 : s.data.toList = [47]
    · rw [if_pos (Or.inr h1)]; exact Evs.yes h1 (Ev.now _)
    · rw [if_neg (fun z => z.elim h0 h1)]
      refine Evs.no h1 (Ev.bind (count_f s 47 hs) ?_)
      by_cases h2 : s.data.toList.count 47 = 0
      · rw [if_pos h2]; exact Evs.yes (by omega) (Ev.now _)
      · rw [if_neg h2]
        refine Evs.no (by omega) ?_
        by_cases h3 : s.data.toList.count 47 = 1
        · rw [if_pos h3]
          have := plc_of_count s 47 h2
          refine Evs.yes (by omega) (Ev.bind (index_f s 47 (by omega)) ?_)
          simp only [if_pos (show 0 ≤ plc 47 s.data.toList ∧ plc 47 s.data.toList + 1 ≤ (s.size : Int) ∧ (s.size : Int) ≤ 9223372036854775807 by omega)]
          exact Ev.now _
        · rw [if_neg h3]; exact Evs.no (by omega) (Ev.now _)

theorem gv_spec (s : ByteArray) (hs : s.size ≤ 2147483647) : Ev (fun k => spec_GroupVersion.f k s) ((gvR s).1, (gvR s).2.1, ⟨#[]⟩, (gvR s).2.2) := by
  have hj : ∀ k, spec_GroupVersion.j0 (k + 1) s true = some ((⟨#[]⟩ : ByteArray), (⟨#[]⟩ : ByteArray), (⟨#[]⟩ : ByteArray), true) := by
    intro k; simp only [spec_GroupVersion.j0]; rw [if_pos trivial]
  unfold spec_GroupVersion.f gvR
  rw [toL]
  by_cases h0 : s.data.toList = []
  · rw [if_pos (Or.inl h0)]; exact Evs.yes h0 (Evs.at1 hj)
  · refine Evs.no h0 ?_
    by_cases h1 : s.data.toList = [47]
    · rw [if_pos (Or.inr h1), beq_iff_eq.2 h1]; exact Evs.at1 hj
    · rw [if_neg (fun z => z.elim h0 h1), beq_eq_false_iff_ne.2 h1]
      refine Ev.step (f := fun k => (spec_verPlace.f k s 47).bind fun t102 => ((spec_verOften.f k s 47).bind fun t103 => (if t103 = 0 then (some ((⟨#[]⟩ : ByteArray), s, (⟨#[]⟩ : ByteArray), true)) else (if t103 = 1 then (if 0 ≤ t102 then (if t102 ≤ (s.size : Int) then (if 0 ≤ (wrap64 (t102 + 1)) then (if (wrap64 (t102 + 1)) ≤ (s.size : Int) then (some (s.extract 0 (t102 : Int).toNat, s.extract ((wrap64 (t102 + 1)) : Int).toNat s.size, (⟨#[]⟩ : ByteArray), true)) else (none)) else (none)) else (none)) else (none)) else (some ((⟨#[]⟩ : ByteArray), (⟨#[]⟩ : ByteArray), (⟨#[]⟩ : ByteArray), false))))))
        (fun k => ?_) (Ev.bind (place_f s 47 (by omega)) (Ev.bind (often_f s 47 hs) ?_))
      · simp only [spec_GroupVersion.j0]; rw [if_neg (by simp)]
      · by_cases h2 : s.data.toList.count 47 = 0
        · rw [if_pos h2]; exact Evs.yes (by omega) (Ev.now _)
        · rw [if_neg h2]
          refine Evs.no (by omega) ?_
          by_cases h3 : s.data.toList.count 47 = 1
          · rw [if_pos h3]
            have hp := plc_of_count s 47 h2
            generalize plc 47 s.data.toList = p at *
            have hw : Aside0 (wrap64 (p + 1) = p + 1) := ⟨Small.w64 _ (by omega) (by omega)⟩
            refine Evs.yes (by omega) ?_
            simp only [hw.out, if_pos (show 0 ≤ p from hp.1), if_pos (show p ≤ (s.size : Int) by omega), if_pos (show 0 ≤ p + 1 by omega), if_pos (show p + 1 ≤ (s.size : Int) by omega)]
            exact Ev.now _
          · rw [if_neg h3]; exact Evs.no (by omega) (Ev.now _)

theorem size_pos (g : ByteArray) : (g.size : Int) > 0 ↔ ¬ g.data.toList = [] := by
  rw [size_len]
  constructor
  · intro h z; rw [z] at h; simp at h
  · intro h; have := List.length_pos_iff.2 h; omega

def gvText (g v : ByteArray) : ByteArray := if g.data.toList = [] then v else (g ++ (⟨#[47]⟩ : ByteArray)) ++ v

theorem gvt_impl (g v : ByteArray) (hg : g.size ≤ 2147483647) (hv : v.size ≤ 2147483647) : schema_GroupVersion_String.f g v = some (gvText g v) := by
  unfold schema_GroupVersion_String.f gvText
  have h1 : (g ++ (⟨#[47]⟩ : ByteArray)).size = g.size + 1 := by rw [ByteArray.size_append]; rfl
  by_cases h : g.data.toList = []
  · rw [if_neg (fun z => (size_pos g).1 z h), if_pos h]
  · rw [if_pos ((size_pos g).2 h), if_neg h, if_pos (by omega), if_pos (by omega)]

theorem ko_impl (s n : ByteArray) (hs : s.size ≤ 2147483647) : Ev (fun k => impl_KindOf.f k s n) ((gvR s).1, (gvR s).2.1, n) :=
  Ev.bind (a := ((gvR s).1, (gvR s).2.1, n)) (Ev.bind (gv_impl s hs) (Ev.now _)) (Ev.now _)

theorem gvR_bad (s : ByteArray) (h : (gvR s).2.2 = false) : (gvR s).1 = ⟨#[]⟩ ∧ (gvR s).2.1 = ⟨#[]⟩ := by
  unfold gvR at *
  split at h
  · simp at h
  · rename_i h0
    rw [if_neg h0]
    split at h
    · simp at h
    · rename_i h1
      rw [if_neg h1]
      split at h
      · simp at h
      · rename_i h2
        rw [if_neg h2]; exact ⟨rfl, rfl⟩

theorem ko_spec (s n : ByteArray) (hs : s.size ≤ 2147483647) : Ev (fun k => spec_KindOf.f k s n) ((gvR s).1, (gvR s).2.1, n) := by
  refine Ev.bind (gv_spec s hs) ?_
  cases h : (gvR s).2.2 with
  | true => exact Evs.yes rfl (Ev.now _)
  | false =>
    obtain ⟨h1, h2⟩ := gvR_bad s h
    rw [h1, h2]
    exact Evs.no (by simp) (Ev.now _)

theorem headD_at (l : List UInt8) (h : 0 < l.length) : l.headD 0 = l[0]'h := by
  cases l with
  | nil => simp at h
  | cons x l => rfl

theorem take_plc (l : List UInt8) (c : UInt8) (h : plcN c l < l.length) : l = l.take (plcN c l) ++ c :: l.drop (plcN c l + 1) := by
  have e : l[plcN c l] = c := by
    have := List.findIdx_getElem (p := (· == c)) (xs := l) (w := h)
    exact beq_iff_eq.1 this
  conv => lhs; rw [← List.take_append_drop (plcN c l) l]
  rw [List.drop_eq_getElem_cons h, e]

/-- There and back again. -/
theorem gv_back (s : ByteArray) (hs : s.size ≤ 2147483647) (hok : (gvR s).2.2 = true) (h47 : s.data.toList.headD 0 ≠ 47) : (gvText (gvR s).1 (gvR s).2.1).data.toList = s.data.toList ∧ (gvR s).1.size ≤ 2147483647 ∧ (gvR s).2.1.size ≤ 2147483647 := by
  have hsz := size_len s
  unfold gvR at *
  by_cases h0 : s.data.toList = [] ∨ s.data.toList = [47]
  · rw [if_pos h0]
    rcases h0 with h0 | h0
    · rw [h0]; exact ⟨rfl, by decide, by decide⟩
    · rw [h0] at h47; simp at h47
  · rw [if_neg h0] at hok ⊢
    by_cases h1 : s.data.toList.count 47 = 0
    · rw [if_pos h1]; exact ⟨rfl, Nat.zero_le _, hs⟩
    · rw [if_neg h1] at hok ⊢
      by_cases h2 : s.data.toList.count 47 = 1
      · rw [if_pos h2]
        have hp := plc_of_count s 47 h1
        have hN : plcN 47 s.data.toList < s.data.toList.length := by
          unfold plc at hp; split at hp
          · assumption
          · omega
        have he : plc 47 s.data.toList = (plcN 47 s.data.toList : Nat) := by unfold plc; rw [if_pos hN]
        have e1 : (plc 47 s.data.toList).toNat = plcN 47 s.data.toList := by omega
        have e2 : (plc 47 s.data.toList + 1).toNat = plcN 47 s.data.toList + 1 := by omega
        simp only [e1, e2]
        have ht := take_plc s.data.toList 47 hN
        have d1 : (s.extract 0 (plcN 47 s.data.toList)).data.toList = s.data.toList.take (plcN 47 s.data.toList) := by rw [data_extract]; simp
        have d2 : (s.extract (plcN 47 s.data.toList + 1) s.size).data.toList = s.data.toList.drop (plcN 47 s.data.toList + 1) := by
          rw [data_extract, List.take_of_length_le]; rw [List.length_drop, ← hsz]; omega
        refine ⟨?_, by rw [size_len, d1]; simp; omega, by rw [size_len, d2]; simp; omega⟩
        unfold gvText
        by_cases hz : (s.extract 0 (plcN 47 s.data.toList)).data.toList = []
        · exfalso
          rw [d1] at hz
          rw [hz] at ht
          rw [ht] at h47
          simp at h47
        · rw [if_neg hz, data_append, data_append, d1, d2]
          conv => rhs; rw [ht]
          rw [List.append_assoc]; rfl
      · rw [if_neg h2] at hok; simp at hok

theorem kt_impl (g v n : ByteArray) (hg : g.size ≤ 2147483647) (hv : v.size ≤ 2147483647) : ∃ r, impl_KindTo.f g v n = some r ∧ r.1.data.toList = (gvText g v).data.toList ∧ r.2.data.toList = n.data.toList := by
  unfold impl_KindTo.f impl_kindOf.f schema_GroupVersionKind_ToAPIVersionAndKind.f schema_GroupVersionKind_Empty.f schema_GroupVersionKind_GroupVersion.f
  simp only [Option.bind_some, gvt_impl g v hg hv]
  by_cases h0 : (g.size : Int) = 0
  · have d0 : g.data.toList = [] := List.length_eq_zero_iff.1 (by have := size_len g; omega)
    by_cases h1 : (v.size : Int) = 0
    · have d1 : v.data.toList = [] := List.length_eq_zero_iff.1 (by have := size_len v; omega)
      by_cases h2 : (n.size : Int) = 0
      · have d2 : n.data.toList = [] := List.length_eq_zero_iff.1 (by have := size_len n; omega)
        rw [if_pos h0, if_pos h1, beq_iff_eq.2 h2]
        refine ⟨(⟨#[]⟩, ⟨#[]⟩), rfl, ?_, d2.symm⟩
        unfold gvText
        rw [if_pos d0, d1]
      · rw [if_pos h0, if_pos h1, beq_eq_false_iff_ne.2 h2]
        exact ⟨_, rfl, rfl, rfl⟩
    · rw [if_pos h0, if_neg h1]
      exact ⟨_, rfl, rfl, rfl⟩
  · rw [if_neg h0]
    exact ⟨_, rfl, rfl, rfl⟩

theorem ko_j0 (s n : ByteArray) (hs : s.size ≤ 2147483647) : Ev (fun k => laws_FnKindOf.j0 k s n false) true := by
  refine Ev.step (f := fun k => (impl_KindOf.f k s n).bind fun bt132 => ((spec_KindOf.f k s n).bind fun bt136 => (if (!(bt132.1.toList == bt136.1.toList) || (!(bt132.2.1.toList == bt136.2.1.toList) || (!(bt132.2.2.toList == bt136.2.2.toList)))) = true then (some false) else ((spec_GroupVersion.f k s).bind fun bt139 => (if bt139.2.2.2 = true then (if s.toList = ([] : List UInt8) then ((impl_KindTo.f bt132.1 bt132.2.1 bt132.2.2).bind fun bt144 => (if bt144.1.toList = s.toList then (some (bt144.2.toList == n.toList)) else (some false))) else (if 0 < (s.size : Int) then (if (bt s 0) = 47 then (some true) else ((impl_KindTo.f bt132.1 bt132.2.1 bt132.2.2).bind fun bt146 => (if bt146.1.toList = s.toList then (some (bt146.2.toList == n.toList)) else (some false)))) else (none))) else (some true))))))
    (fun k => ?_) (Ev.bind (ko_impl s n hs) (Ev.bind (ko_spec s n hs) (Evs.no (by simp) (Ev.bind (gv_spec s hs) ?_))))
  · simp only [laws_FnKindOf.j0]; rw [if_neg (by simp)]
  · cases hok : (gvR s).2.2 with
    | false => exact Evs.no (by simp) (Ev.now _)
    | true =>
      refine Evs.yes rfl ?_
      have fin : s.data.toList.headD 0 ≠ 47 → Ev (fun _ => (impl_KindTo.f (gvR s).1 (gvR s).2.1 n).bind fun bt144 => (if bt144.1.toList = s.toList then (some (bt144.2.toList == n.toList)) else (some false))) true := by
        intro hne
        obtain ⟨h1, h2, h3⟩ := gv_back s hs hok hne
        obtain ⟨r, hr, r1, r2⟩ := kt_impl (gvR s).1 (gvR s).2.1 n h2 h3
        rw [hr]
        simp only [Option.bind_some, toL, r1, h1, if_true, r2, beq_self_eq_true]
        exact Ev.now _
      by_cases h0 : s.toList = []
      · refine Evs.yes h0 (fin ?_)
        rw [toL] at h0
        rw [h0]; simp
      · refine Evs.no h0 ?_
        rw [toL] at h0
        have hl : 0 < s.data.toList.length := List.length_pos_iff.2 h0
        have hsz := size_len s
        refine Evs.yes (by omega) ?_
        have hb : bt s 0 = ((s.data.toList[0]).toNat : Int) := bt_nat s 0 hl
        have hh : s.data.toList.headD 0 = s.data.toList[0] := headD_at _ hl
        by_cases h1 : bt s 0 = 47
        · exact Evs.yes h1 (Ev.now _)
        · refine Evs.no h1 (fin ?_)
          intro z
          apply h1
          rw [hb, ← hh, z]; rfl

theorem FnKindOf : laws_FnKindOf.Pure := by
  intro s n _ _
  have hj : laws_FnKindOf.j0 1 s n true = some true := by simp only [laws_FnKindOf.j0]; rw [if_pos trivial]
  unfold laws_FnKindOf.f
  by_cases h : (s.size : Int) > 2147483647
  · exact ⟨1, by rw [if_pos h]; exact hj⟩
  · by_cases h3 : (n.size : Int) > 2147483647
    · exact ⟨1, by rw [if_neg h, decide_eq_true h3]; exact hj⟩
    · obtain ⟨k, hk⟩ := (ko_j0 s n (by omega)).rounds
      exact ⟨k, by rw [if_neg h, decide_eq_false h3]; exact hk⟩

end Go.Proofs.Ytpaihcikeieliaa.Pure
