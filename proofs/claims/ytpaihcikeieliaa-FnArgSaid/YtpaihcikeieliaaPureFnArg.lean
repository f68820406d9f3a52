/- A text is a name, a version and a group, and a name and a group, just as the document says, of kinds and of resources alike: of all texts (of those that the statement's bound lets by). -/
import Derived.Test.YtpaihcikeieliaaPFnArgx4
import Derived.Test.YtpaihcikeieliaaTxt
import Derived.Test.YtpaihcikeieliaaEvs
set_option linter.unusedVariables false
set_option linter.unusedSimpArgs false
namespace Go.Proofs.Ytpaihcikeieliaa.Pure
open Go.RowKit Go.Proofs.Ytpaihcikeieliaa.PFnArg Go.Proofs.YtpaihcikeieliaaW.PrintWords Go.Proofs.YtpaihcikeieliaaW.PrintLast Go.Proofs.Ytpaihcikeieliaa.Txt

theorem place_l0 (s : ByteArray) (c : UInt8) (hs : s.size ≤ 9223372036854775806) (n : Nat) : ∀ i : Nat, i + n = s.data.toList.length →
    Ev (fun k => spec_verPlace.l0 k s (c.toNat : Int) i) (if plcN c (s.data.toList.drop i) < n then ((i + plcN c (s.data.toList.drop i) : Nat) : Int) else -1) := by
  have hsz := size_len s
  induction n with
  | zero =>
    intro i hi
    rw [if_neg (by omega)]
    refine ⟨1, fun k hk => ?_⟩
    obtain ⟨k, rfl⟩ : ∃ m, k = m + 1 := ⟨k - 1, by omega⟩
    simp only [spec_verPlace.l0]; rw [if_neg (by omega)]
  | succ n ih =>
    intro i hi
    have h : i < s.data.toList.length := by omega
    have ih := ih (i + 1) (by omega)
    rw [List.drop_eq_getElem_cons h]
    by_cases e : s.data.toList[i] = c
    · rw [e, plcN_cons_eq, if_pos (by omega)]
      refine ⟨1, fun k hk => ?_⟩
      obtain ⟨k, rfl⟩ : ∃ m, k = m + 1 := ⟨k - 1, by omega⟩
      simp only [spec_verPlace.l0]
      rw [if_pos (by omega), if_pos (by omega), bt_nat s i h, e, if_pos rfl]; rfl
    · rw [plcN_cons_ne _ e]
      have e2 : (if plcN c (s.data.toList.drop (i + 1)) + 1 < n + 1 then ((i + (plcN c (s.data.toList.drop (i + 1)) + 1) : Nat) : Int) else -1) = (if plcN c (s.data.toList.drop (i + 1)) < n then ((i + 1 + plcN c (s.data.toList.drop (i + 1)) : Nat) : Int) else -1) := by
        split <;> split <;> omega
      rw [e2]
      refine Ev.step (fun k => ?_) ih
      simp only [spec_verPlace.l0]
      rw [if_pos (by omega), if_pos (by omega), bt_nat s i h, if_neg (fun z => e (u8_eq.1 z)), Small.w64s i (by omega)]

theorem place_f (s : ByteArray) (c : UInt8) (hs : s.size ≤ 9223372036854775806) : Ev (fun k => spec_verPlace.f k s (c.toNat : Int)) (plc c s.data.toList) := by
  have := place_l0 s c hs s.data.toList.length 0 (by omega)
  simp only [List.drop_zero, Nat.zero_add] at this
  exact this
theorem index_l0 (s : ByteArray) (c : UInt8) (hs : s.size ≤ 9223372036854775806) (n : Nat) : ∀ i : Nat, i + n = s.data.toList.length →
    Ev (fun k => schema_zzIndex.l0 k s (⟨#[c]⟩ : ByteArray) i) (if plcN c (s.data.toList.drop i) < n then ((i + plcN c (s.data.toList.drop i) : Nat) : Int) else -1) := by
  have hsz := size_len s
  have h1 : ((⟨#[c]⟩ : ByteArray).size : Int) = 1 := rfl
  have hcl : (⟨#[c]⟩ : ByteArray).toList = [c] := toL _
  induction n with
  | zero =>
    intro i hi
    rw [if_neg (by omega)]
    refine ⟨1, fun k hk => ?_⟩
    obtain ⟨k, rfl⟩ : ∃ m, k = m + 1 := ⟨k - 1, by omega⟩
    simp only [schema_zzIndex.l0]
    rw [h1, Small.w64s i (by omega), if_neg (by omega)]
  | succ n ih =>
    intro i hi
    have h : i < s.data.toList.length := by omega
    have ih := ih (i + 1) (by omega)
    rw [List.drop_eq_getElem_cons h]
    by_cases e : s.data.toList[i] = c
    · rw [e, plcN_cons_eq, if_pos (by omega)]
      refine ⟨1, fun k hk => ?_⟩
      obtain ⟨k, rfl⟩ : ∃ m, k = m + 1 := ⟨k - 1, by omega⟩
      simp only [schema_zzIndex.l0]
      rw [h1, Small.w64s i (by omega), if_pos (by omega), if_pos (by omega), if_pos (by omega), Int.toNat_natCast, Int.toNat_natCast, one_extract s i h, hcl, e, if_pos rfl]; rfl
    · rw [plcN_cons_ne _ e]
      have e2 : (if plcN c (s.data.toList.drop (i + 1)) + 1 < n + 1 then ((i + (plcN c (s.data.toList.drop (i + 1)) + 1) : Nat) : Int) else -1) = (if plcN c (s.data.toList.drop (i + 1)) < n then ((i + 1 + plcN c (s.data.toList.drop (i + 1)) : Nat) : Int) else -1) := by
        split <;> split <;> omega
      rw [e2]
      refine Ev.step (fun k => ?_) ih
      simp only [schema_zzIndex.l0]
      rw [h1, Small.w64s i (by omega), if_pos (by omega), if_pos (by omega), if_pos (by omega), Int.toNat_natCast, Int.toNat_natCast, one_extract s i h, hcl, if_neg (fun z => e (by simpa using z))]

theorem index_f (s : ByteArray) (c : UInt8) (hs : s.size ≤ 9223372036854775806) : Ev (fun k => schema_zzIndex.f k s (⟨#[c]⟩ : ByteArray)) (plc c s.data.toList) := by
  have := index_l0 s c hs s.data.toList.length 0 (by omega)
  simp only [List.drop_zero, Nat.zero_add] at this
  exact this
theorem often_l0 (s : ByteArray) (c : UInt8) (hs : s.size ≤ 2147483647) (n : Nat) : ∀ (i m : Nat), i + n = s.data.toList.length → m ≤ i →
    Ev (fun k => spec_verOften.l0 k s (c.toNat : Int) m i) ((m + (s.data.toList.drop i).count c : Nat) : Int) := by
  have hsz := size_len s
  induction n with
  | zero =>
    intro i m hi hm
    rw [List.drop_eq_nil_of_le (by omega)]
    refine Evs.at1 fun k => ?_
    simp only [spec_verOften.l0]; rw [if_neg (by omega)]; rfl
  | succ n ih =>
    intro i m hi hm
    have h : i < s.data.toList.length := by omega
    rw [List.drop_eq_getElem_cons h, List.count_cons]
    by_cases e : s.data.toList[i] = c
    · have hb : (s.data.toList[i] == c) = true := beq_iff_eq.2 e
      rw [if_pos hb, show m + ((s.data.toList.drop (i + 1)).count c + 1) = (m + 1) + (s.data.toList.drop (i + 1)).count c from by omega]
      refine Ev.step (fun k => ?_) (ih (i + 1) (m + 1) (by omega) (by omega))
      simp only [spec_verOften.l0]
      rw [if_pos (by omega), if_pos (by omega), bt_nat s i h, e, if_pos rfl, Small.w64s m (by omega), Small.w64s i (by omega)]
    · have hb : ¬ (s.data.toList[i] == c) = true := fun z => e (beq_iff_eq.1 z)
      rw [if_neg hb, Nat.add_zero]
      refine Ev.step (fun k => ?_) (ih (i + 1) m (by omega) (by omega))
      simp only [spec_verOften.l0]
      rw [if_pos (by omega), if_pos (by omega), bt_nat s i h, if_neg (fun z => e (u8_eq.1 z)), Small.w64s i (by omega)]

theorem often_f (s : ByteArray) (c : UInt8) (hs : s.size ≤ 2147483647) : Ev (fun k => spec_verOften.f k s (c.toNat : Int)) ((s.data.toList.count c : Nat) : Int) := by
  have := often_l0 s c hs s.data.toList.length 0 0 (by omega) (by omega)
  simp only [List.drop_zero, Nat.zero_add] at this
  exact this
theorem count_l1 (s : ByteArray) (c : UInt8) (hs : s.size ≤ 2147483647) (n : Nat) : ∀ (i m : Nat), i + n = s.data.toList.length → m ≤ i →
    Ev (fun k => schema_zzCount.l1 k s (⟨#[c]⟩ : ByteArray) m i) ((m + (s.data.toList.drop i).count c : Nat) : Int) := by
  have hsz := size_len s
  have h1 : ((⟨#[c]⟩ : ByteArray).size : Int) = 1 := rfl
  have hcl : (⟨#[c]⟩ : ByteArray).toList = [c] := toL _
  induction n with
  | zero =>
    intro i m hi hm
    rw [List.drop_eq_nil_of_le (by omega)]
    refine Evs.at1 fun k => ?_
    simp only [schema_zzCount.l1]
    rw [h1, Small.w64s i (by omega), if_neg (by omega)]; rfl
  | succ n ih =>
    intro i m hi hm
    have h : i < s.data.toList.length := by omega
    rw [List.drop_eq_getElem_cons h, List.count_cons]
    by_cases e : s.data.toList[i] = c
    · have hb : (s.data.toList[i] == c) = true := beq_iff_eq.2 e
      rw [if_pos hb, show m + ((s.data.toList.drop (i + 1)).count c + 1) = (m + 1) + (s.data.toList.drop (i + 1)).count c from by omega]
      refine Ev.step (fun k => ?_) (ih (i + 1) (m + 1) (by omega) (by omega))
      simp only [schema_zzCount.l1]
      rw [h1, Small.w64s i (by omega), if_pos (by omega), if_pos (by omega), if_pos (by omega), Int.toNat_natCast, Int.toNat_natCast, one_extract s i h, hcl, e, if_pos rfl, Small.w64s m (by omega)]
    · have hb : ¬ (s.data.toList[i] == c) = true := fun z => e (beq_iff_eq.1 z)
      rw [if_neg hb, Nat.add_zero]
      refine Ev.step (fun k => ?_) (ih (i + 1) m (by omega) (by omega))
      simp only [schema_zzCount.l1]
      rw [h1, Small.w64s i (by omega), if_pos (by omega), if_pos (by omega), if_pos (by omega), Int.toNat_natCast, Int.toNat_natCast, one_extract s i h, hcl, if_neg (fun z => e (by simpa using z))]

theorem count_f (s : ByteArray) (c : UInt8) (hs : s.size ≤ 2147483647) : Ev (fun k => schema_zzCount.f k s (⟨#[c]⟩ : ByteArray)) ((s.data.toList.count c : Nat) : Int) := by
  have := count_l1 s c hs s.data.toList.length 0 0 (by omega) (by omega)
  simp only [List.drop_zero, Nat.zero_add] at this
  refine Ev.congr (fun k => ?_) this
  unfold schema_zzCount.f
  have h1 : ((⟨#[c]⟩ : ByteArray).size : Int) = 1 := rfl
  rw [h1, if_neg (by decide)]; rfl

def named (s : ByteArray) : ByteArray × ByteArray :=
  if plc 46 s.data.toList < 0 then (⟨#[]⟩, s) else (s.extract ((plc 46 s.data.toList).toNat + 1) s.size, s.extract 0 (plc 46 s.data.toList).toNat)

theorem plc_bd (s : ByteArray) (c : UInt8) : plc c s.data.toList = -1 ∨ (0 ≤ plc c s.data.toList ∧ plc c s.data.toList < s.size) := by
  have := size_len s
  unfold plc; split <;> omega

theorem plc_of_count (s : ByteArray) (c : UInt8) (h : s.data.toList.count c ≠ 0) : 0 ≤ plc c s.data.toList ∧ plc c s.data.toList < s.size := by
  have hsz := size_len s
  have hm : c ∈ s.data.toList := List.count_pos_iff.1 (by omega)
  have : plcN c s.data.toList < s.data.toList.length := List.findIdx_lt_length_of_exists ⟨c, hm, by simp⟩
  unfold plc
  rw [if_pos this]; omega

theorem take_plc (l : List UInt8) (c : UInt8) (h : plcN c l < l.length) : l = l.take (plcN c l) ++ c :: l.drop (plcN c l + 1) := by
  have e : l[plcN c l] = c := by
    have := List.findIdx_getElem (p := (· == c)) (xs := l) (w := h)
    exact beq_iff_eq.1 this
  conv => lhs; rw [← List.take_append_drop (plcN c l) l]
  rw [List.drop_eq_getElem_cons h, e]

theorem count_before (l : List UInt8) (c : UInt8) : (l.take (plcN c l)).count c = 0 := by
  rw [List.count_eq_zero]
  intro hm
  obtain ⟨i, hi, he⟩ := List.mem_take_iff_getElem.1 hm
  have : i < List.findIdx (· == c) l := by unfold plcN at hi; omega
  have := List.not_of_lt_findIdx this
  simp [he] at this

theorem named_spec (s : ByteArray) (hs : s.size ≤ 2147483647) : Ev (fun k => spec_KindNamed.f k s) ((named s).1, ⟨#[]⟩, (named s).2) := by
  refine Ev.bind (place_f s 46 (by omega)) ?_
  unfold named
  rcases plc_bd s 46 with h | ⟨h0, h1⟩
  · rw [h, if_pos (by decide), if_pos (by decide)]; exact Ev.now _
  · generalize plc 46 s.data.toList = p at *
    have hw : Aside0 (wrap64 (p + 1) = p + 1) := ⟨Small.w64 _ (by omega) (by omega)⟩
    simp only [hw.out, if_neg (show ¬ p < 0 by omega), if_pos (show 0 ≤ p + 1 by omega), if_pos (show p + 1 ≤ (s.size : Int) by omega), if_pos (show 0 ≤ p from h0), if_pos (show p ≤ (s.size : Int) by omega), show (p + 1).toNat = p.toNat + 1 from by omega]
    exact Ev.now _

theorem named_kind (s : ByteArray) (hs : s.size ≤ 2147483647) : Ev (fun k => schema_ParseGroupKind.f k s) (named s) := by
  refine Ev.bind (index_f s 46 (by omega)) ?_
  unfold named
  rcases plc_bd s 46 with h | ⟨h0, h1⟩
  · rw [h, if_pos (by decide), if_pos (by decide)]; exact Ev.now _
  · generalize plc 46 s.data.toList = p at *
    have hw : Aside0 (wrap64 (p + 1) = p + 1) := ⟨Small.w64 _ (by omega) (by omega)⟩
    simp only [hw.out, if_neg (show ¬ p = -1 by omega), if_neg (show ¬ p < 0 by omega), if_pos (show 0 ≤ p + 1 by omega), if_pos (show p + 1 ≤ (s.size : Int) by omega), if_pos (show 0 ≤ p from h0), if_pos (show p ≤ (s.size : Int) by omega), show (p + 1).toNat = p.toNat + 1 from by omega]
    exact Ev.now _

theorem named_res (s : ByteArray) (hs : s.size ≤ 2147483647) : Ev (fun k => schema_ParseGroupResource.f k s) (named s) := by
  refine Ev.bind (index_f s 46 (by omega)) ?_
  unfold named
  rcases plc_bd s 46 with h | ⟨h0, h1⟩
  · rw [h, if_neg (by decide), if_pos (by decide)]; exact Ev.now _
  · generalize plc 46 s.data.toList = p at *
    have hw : Aside0 (wrap64 (p + 1) = p + 1) := ⟨Small.w64 _ (by omega) (by omega)⟩
    simp only [hw.out, if_pos (show p ≥ 0 from h0), if_neg (show ¬ p < 0 by omega), if_pos (show 0 ≤ p + 1 by omega), if_pos (show p + 1 ≤ (s.size : Int) by omega), if_pos (show 0 ≤ p from h0), if_pos (show p ≤ (s.size : Int) by omega), show (p + 1).toNat = p.toNat + 1 from by omega]
    exact Ev.now _

theorem named_small (s : ByteArray) (hs : s.size ≤ 2147483647) : (named s).1.size ≤ 2147483647 := by
  unfold named
  split
  · exact Nat.zero_le _
  · rw [ByteArray.size_extract]; omega

theorem named_count (s : ByteArray) (h : s.data.toList.count 46 ≠ 0) : s.data.toList.count 46 = (named s).1.data.toList.count 46 + 1 := by
  have hsz := size_len s
  have hp := plc_of_count s 46 h
  have hN : plcN 46 s.data.toList < s.data.toList.length := by
    unfold plc at hp; split at hp
    · assumption
    · omega
  have he : plc 46 s.data.toList = (plcN 46 s.data.toList : Nat) := by unfold plc; rw [if_pos hN]
  have e1 : (plc 46 s.data.toList).toNat = plcN 46 s.data.toList := by omega
  unfold named
  rw [if_neg (by omega), e1]
  simp only []
  rw [data_extract, List.take_of_length_le (by rw [List.length_drop, ← hsz]; omega)]
  conv => lhs; rw [take_plc s.data.toList 46 hN]
  rw [List.count_append, count_before, List.count_cons_self]
  omega

theorem split_end (x : ByteArray) (l : List ByteArray) (h : l.length = 2) : Ev (fun k => schema_zzSplitThree.l0 k x l) (l ++ [x]) :=
  Evs.at1 fun k => by simp only [schema_zzSplitThree.l0]; rw [if_neg (by omega), if_pos (by omega)]

theorem split_step (x : ByteArray) (l : List ByteArray) (r : List ByteArray) (hx : x.size ≤ 2147483647) (h : l.length < 2) (hc : x.data.toList.count 46 ≠ 0) (e : Ev (fun k => schema_zzSplitThree.l0 k (named x).1 (l ++ [(named x).2])) r) : Ev (fun k => schema_zzSplitThree.l0 k x l) r := by
  have hp := plc_of_count x 46 hc
  refine Ev.step (f := fun k => if (l.length : Int) < 2 then ((schema_zzIndex.f k x (⟨#[46]⟩ : ByteArray)).bind fun t116 => (if t116 < 0 then (if l.length < 8796093022208 then (some (l ++ [x])) else (none)) else (if 0 ≤ t116 then (if t116 ≤ (x.size : Int) then (if l.length < 8796093022208 then (if 0 ≤ (wrap64 (t116 + 1)) then (if (wrap64 (t116 + 1)) ≤ (x.size : Int) then (schema_zzSplitThree.l0 k (x.extract ((wrap64 (t116 + 1)) : Int).toNat x.size) (l ++ [x.extract 0 (t116 : Int).toNat])) else (none)) else (none)) else (none)) else (none)) else (none)))) else (if l.length < 8796093022208 then (some (l ++ [x])) else (none))) (fun k => by simp only [schema_zzSplitThree.l0]) ?_
  refine Evs.yes (by omega) (Ev.bind (index_f x 46 (by omega)) ?_)
  unfold named at e
  rw [if_neg (show ¬ plc 46 x.data.toList < 0 by omega)] at e
  generalize plc 46 x.data.toList = p at *
  have hw : Aside0 (wrap64 (p + 1) = p + 1) := ⟨Small.w64 _ (by omega) (by omega)⟩
  simp only [hw.out, if_neg (show ¬ p < 0 by omega), if_pos (show 0 ≤ p + 1 by omega), if_pos (show p + 1 ≤ (x.size : Int) by omega), if_pos (show 0 ≤ p from hp.1), if_pos (show p ≤ (x.size : Int) by omega), if_pos (show l.length < 8796093022208 by omega), show (p + 1).toNat = p.toNat + 1 from by omega]
  exact e

theorem split_f (s : ByteArray) (hs : s.size ≤ 2147483647) (hc : 2 ≤ s.data.toList.count 46) : Ev (fun k => schema_zzSplitThree.f k s) [(named s).2, (named (named s).1).2, (named (named s).1).1] := by
  have h1 := named_count s (by omega)
  exact split_step s [] _ hs (by decide) (by omega) (split_step (named s).1 _ _ (named_small s hs) (by simp) (by omega) (split_end (named (named s).1).1 _ rfl))

def karg (s : ByteArray) : ByteArray × ByteArray × ByteArray × Bool × ByteArray × ByteArray × ByteArray :=
  if s.data.toList.count 46 < 2 then ((⟨#[]⟩ : ByteArray), (⟨#[]⟩ : ByteArray), (⟨#[]⟩ : ByteArray), false, (named s).1, (⟨#[]⟩ : ByteArray), (named s).2)
  else ((named (named s).1).1, (named (named s).1).2, (named s).2, true, (named s).1, (⟨#[]⟩ : ByteArray), (named s).2)

theorem ka_spec (s : ByteArray) (hs : s.size ≤ 2147483647) : Ev (fun k => spec_KindArg.f k s) (karg s) := by
  refine Ev.bind (named_spec s hs) (Ev.bind (often_f s 46 hs) ?_)
  unfold karg
  by_cases h : s.data.toList.count 46 < 2
  · rw [if_pos h]; exact Evs.yes (by omega) (Ev.now _)
  · rw [if_neg h]; exact Evs.no (by omega) (Ev.bind (named_spec _ (named_small s hs)) (Ev.now _))

theorem ka_kind (s : ByteArray) (hs : s.size ≤ 2147483647) : Ev (fun k => impl_KindArg.f k s) (karg s) := by
  refine Ev.bind (count_f s 46 hs) (Ev.bind (named_kind s hs) ?_)
  unfold karg
  by_cases h : s.data.toList.count 46 < 2
  · rw [if_pos h]; exact Evs.no (by omega) (Ev.now _)
  · rw [if_neg h]; exact Evs.yes (by omega) (Ev.bind (split_f s hs (by omega)) (Evs.yes (by simp) (Ev.now _)))

theorem ka_res (s : ByteArray) (hs : s.size ≤ 2147483647) : Ev (fun k => impl_ResourceArg.f k s) (karg s) := by
  refine Ev.bind (count_f s 46 hs) (Ev.bind (named_res s hs) ?_)
  unfold karg
  by_cases h : s.data.toList.count 46 < 2
  · rw [if_pos h]; exact Evs.no (by omega) (Ev.now _)
  · rw [if_neg h]; exact Evs.yes (by omega) (Ev.bind (split_f s hs (by omega)) (Evs.yes (by simp) (Ev.now _)))

theorem FnArg : laws_FnArg.Pure := by
  intro s _
  unfold laws_FnArg.f
  by_cases h : (s.size : Int) > 2147483647
  · exact ⟨1, by rw [if_pos h]⟩
  · refine Ev.rounds (Evs.no h (Ev.bind (ka_spec s (by omega)) (Ev.bind (ka_kind s (by omega)) (Ev.bind (ka_res s (by omega)) ?_))))
    simp only [beq_self_eq_true, Bool.and_self, if_true]
    exact Ev.now _

end Go.Proofs.Ytpaihcikeieliaa.Pure
