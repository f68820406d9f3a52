/- A text is a name and a group just as the document says, of kinds and of resources alike, and is written so: of all texts (of those that the statement's bound lets by). -/
import Derived.Test.YtpaihcikeieliaaPFnNamedx4
import Derived.Test.YtpaihcikeieliaaTxt
set_option linter.unusedVariables false
set_option linter.unusedSimpArgs false
namespace Go.Proofs.Ytpaihcikeieliaa.Pure
open Go.RowKit Go.Proofs.Ytpaihcikeieliaa.PFnNamed Go.Proofs.YtpaihcikeieliaaW.PrintWords Go.Proofs.YtpaihcikeieliaaW.PrintLast Go.Proofs.Ytpaihcikeieliaa.Txt

theorem place_l0 (s : ByteArray) (c : UInt8) (hs : s.size ≤ 9223372036854775806) (n : Nat) : ∀ i : Nat, i + n = s.data.toList.length →
    Ev (fun k => spec_verPlace.l0 k s (c.toNat : Int) i) (if plcN c (s.data.toList.drop i) < n then ((i + plcN c (s.data.toList.drop i) : Nat) : Int) else -1) := by
  have hsz := size_len s
  induction n with
  | zero =>
    intro i hi
    rw [if_neg (by omega)]
    refine ⟨1, fun k hk => ?_⟩
    obtain ⟨k, rfl⟩ : ∃ m, k = m + 1 := ⟨k - 1, by omega⟩
    simp only [spec_verPlace.l0]; rw [if_neg (by omega)]
  | succ n ih =>
    intro i hi
    have h : i < s.data.toList.length := by omega
    have ih := ih (i + 1) (by omega)
    rw [List.drop_eq_getElem_cons h]
    by_cases e : s.data.toList[i] = c
    · rw [e, plcN_cons_eq, if_pos (by omega)]
      refine ⟨1, fun k hk => ?_⟩
      obtain ⟨k, rfl⟩ : ∃ m, k = m + 1 := ⟨k - 1, by omega⟩
      simp only [spec_verPlace.l0]
      rw [if_pos (by omega), if_pos (by omega), bt_nat s i h, e, if_pos rfl]; rfl
    · rw [plcN_cons_ne _ e]
      have e2 : (if plcN c (s.data.toList.drop (i + 1)) + 1 < n + 1 then ((i + (plcN c (s.data.toList.drop (i + 1)) + 1) : Nat) : Int) else -1) = (if plcN c (s.data.toList.drop (i + 1)) < n then ((i + 1 + plcN c (s.data.toList.drop (i + 1)) : Nat) : Int) else -1) := by
        split <;> split <;> omega
      rw [e2]
      refine Ev.step (fun k => ?_) ih
      simp only [spec_verPlace.l0]
      rw [if_pos (by omega), if_pos (by omega), bt_nat s i h, if_neg (fun z => e (u8_eq.1 z)), Small.w64s i (by omega)]

theorem place_f (s : ByteArray) (c : UInt8) (hs : s.size ≤ 9223372036854775806) : Ev (fun k => spec_verPlace.f k s (c.toNat : Int)) (plc c s.data.toList) := by
  have := place_l0 s c hs s.data.toList.length 0 (by omega)
  simp only [List.drop_zero, Nat.zero_add] at this
  exact this
theorem index_l0 (s : ByteArray) (c : UInt8) (hs : s.size ≤ 9223372036854775806) (n : Nat) : ∀ i : Nat, i + n = s.data.toList.length →
    Ev (fun k => schema_zzIndex.l0 k s (⟨#[c]⟩ : ByteArray) i) (if plcN c (s.data.toList.drop i) < n then ((i + plcN c (s.data.toList.drop i) : Nat) : Int) else -1) := by
  have hsz := size_len s
  have h1 : ((⟨#[c]⟩ : ByteArray).size : Int) = 1 := rfl
  have hcl : (⟨#[c]⟩ : ByteArray).toList = [c] := toL _
  induction n with
  | zero =>
    intro i hi
    rw [if_neg (by omega)]
    refine ⟨1, fun k hk => ?_⟩
    obtain ⟨k, rfl⟩ : ∃ m, k = m + 1 := ⟨k - 1, by omega⟩
    simp only [schema_zzIndex.l0]
    rw [h1, Small.w64s i (by omega), if_neg (by omega)]
  | succ n ih =>
    intro i hi
    have h : i < s.data.toList.length := by omega
    have ih := ih (i + 1) (by omega)
    rw [List.drop_eq_getElem_cons h]
    by_cases e : s.data.toList[i] = c
    · rw [e, plcN_cons_eq, if_pos (by omega)]
      refine ⟨1, fun k hk => ?_⟩
      obtain ⟨k, rfl⟩ : ∃ m, k = m + 1 := ⟨k - 1, by omega⟩
      simp only [schema_zzIndex.l0]
      rw [h1, Small.w64s i (by omega), if_pos (by omega), if_pos (by omega), if_pos (by omega), Int.toNat_natCast, Int.toNat_natCast, one_extract s i h, hcl, e, if_pos rfl]; rfl
    · rw [plcN_cons_ne _ e]
      have e2 : (if plcN c (s.data.toList.drop (i + 1)) + 1 < n + 1 then ((i + (plcN c (s.data.toList.drop (i + 1)) + 1) : Nat) : Int) else -1) = (if plcN c (s.data.toList.drop (i + 1)) < n then ((i + 1 + plcN c (s.data.toList.drop (i + 1)) : Nat) : Int) else -1) := by
        split <;> split <;> omega
      rw [e2]
      refine Ev.step (fun k => ?_) ih
      simp only [schema_zzIndex.l0]
      rw [h1, Small.w64s i (by omega), if_pos (by omega), if_pos (by omega), if_pos (by omega), Int.toNat_natCast, Int.toNat_natCast, one_extract s i h, hcl, if_neg (fun z => e (by simpa using z))]

theorem index_f (s : ByteArray) (c : UInt8) (hs : s.size ≤ 9223372036854775806) : Ev (fun k => schema_zzIndex.f k s (⟨#[c]⟩ : ByteArray)) (plc c s.data.toList) := by
  have := index_l0 s c hs s.data.toList.length 0 (by omega)
  simp only [List.drop_zero, Nat.zero_add] at this
  exact this

def named (s : ByteArray) : ByteArray × ByteArray :=
  if plc 46 s.data.toList < 0 then (⟨#[]⟩, s) else (s.extract ((plc 46 s.data.toList).toNat + 1) s.size, s.extract 0 (plc 46 s.data.toList).toNat)

theorem plc_bd (s : ByteArray) (c : UInt8) : plc c s.data.toList = -1 ∨ (0 ≤ plc c s.data.toList ∧ plc c s.data.toList < s.size) := by
  have := size_len s
  unfold plc; split <;> omega

theorem named_spec (s : ByteArray) (hs : s.size ≤ 2147483647) : Ev (fun k => spec_KindNamed.f k s) ((named s).1, ⟨#[]⟩, (named s).2) := by
  refine Ev.bind (place_f s 46 (by omega)) ?_
  unfold named
  rcases plc_bd s 46 with h | ⟨h0, h1⟩
  · rw [h, if_pos (by decide), if_pos (by decide)]; exact Ev.now _
  · generalize plc 46 s.data.toList = p at *
    have hw : Aside0 (wrap64 (p + 1) = p + 1) := ⟨Small.w64 _ (by omega) (by omega)⟩
    simp only [hw.out, if_neg (show ¬ p < 0 by omega), if_pos (show 0 ≤ p + 1 by omega), if_pos (show p + 1 ≤ (s.size : Int) by omega), if_pos (show 0 ≤ p from h0), if_pos (show p ≤ (s.size : Int) by omega), show (p + 1).toNat = p.toNat + 1 from by omega]
    exact Ev.now _

theorem named_kind (s : ByteArray) (hs : s.size ≤ 2147483647) : Ev (fun k => impl_GroupKindParse.f k s) ((named s).1, ⟨#[]⟩, (named s).2) := by
  refine Ev.bind (f := fun _ bt106 => some (bt106.1, (⟨#[]⟩ : ByteArray), bt106.2)) (a := named s) ?_ (Ev.now _)
  refine Ev.bind (index_f s 46 (by omega)) ?_
  unfold named
  rcases plc_bd s 46 with h | ⟨h0, h1⟩
  · rw [h, if_pos (by decide), if_pos (by decide)]; exact Ev.now _
  · generalize plc 46 s.data.toList = p at *
    have hw : Aside0 (wrap64 (p + 1) = p + 1) := ⟨Small.w64 _ (by omega) (by omega)⟩
    simp only [hw.out, if_neg (show ¬ p = -1 by omega), if_neg (show ¬ p < 0 by omega), if_pos (show 0 ≤ p + 1 by omega), if_pos (show p + 1 ≤ (s.size : Int) by omega), if_pos (show 0 ≤ p from h0), if_pos (show p ≤ (s.size : Int) by omega), show (p + 1).toNat = p.toNat + 1 from by omega]
    exact Ev.now _

theorem named_res (s : ByteArray) (hs : s.size ≤ 2147483647) : Ev (fun k => impl_GroupResourceParse.f k s) ((named s).1, ⟨#[]⟩, (named s).2) := by
  refine Ev.bind (f := fun _ bt106 => some (bt106.1, (⟨#[]⟩ : ByteArray), bt106.2)) (a := named s) ?_ (Ev.now _)
  refine Ev.bind (index_f s 46 (by omega)) ?_
  unfold named
  rcases plc_bd s 46 with h | ⟨h0, h1⟩
  · rw [h, if_neg (by decide), if_pos (by decide)]; exact Ev.now _
  · generalize plc 46 s.data.toList = p at *
    have hw : Aside0 (wrap64 (p + 1) = p + 1) := ⟨Small.w64 _ (by omega) (by omega)⟩
    simp only [hw.out, if_pos (show p ≥ 0 from h0), if_neg (show ¬ p < 0 by omega), if_pos (show 0 ≤ p + 1 by omega), if_pos (show p + 1 ≤ (s.size : Int) by omega), if_pos (show 0 ≤ p from h0), if_pos (show p ≤ (s.size : Int) by omega), show (p + 1).toNat = p.toNat + 1 from by omega]
    exact Ev.now _

def namedText (g n : ByteArray) : ByteArray := if g.data.toList = [] then n else (n ++ (⟨#[46]⟩ : ByteArray)) ++ g

theorem text_spec (g n : ByteArray) (hg : g.size ≤ 2147483647) (hn : n.size ≤ 2147483647) : spec_KindNamedText.f g n = some (namedText g n) := by
  unfold spec_KindNamedText.f namedText
  rw [toL]
  have h1 : (n ++ (⟨#[46]⟩ : ByteArray)).size = n.size + 1 := by rw [ByteArray.size_append]; rfl
  by_cases h : g.data.toList = []
  · rw [if_pos h, if_pos h]
  · rw [if_neg h, if_neg h, if_pos (by omega), if_pos (by omega)]

theorem size_zero (g : ByteArray) : (g.size : Int) = 0 ↔ g.data.toList = [] := by
  rw [size_len]
  constructor
  · intro h; exact List.length_eq_zero_iff.1 (by omega)
  · intro h; rw [h]; rfl

theorem text_kind (g n : ByteArray) (hg : g.size ≤ 2147483647) (hn : n.size ≤ 2147483647) : impl_GroupKindText.f g n = some (namedText g n) := by
  unfold impl_GroupKindText.f schema_GroupKind_String.f namedText
  have h1 : (n ++ (⟨#[46]⟩ : ByteArray)).size = n.size + 1 := by rw [ByteArray.size_append]; rfl
  by_cases h : g.data.toList = []
  · rw [if_pos ((size_zero g).2 h), if_pos h]; rfl
  · rw [if_neg (fun z => h ((size_zero g).1 z)), if_neg h, if_pos (by omega), if_pos (by omega)]; rfl

theorem text_res (g n : ByteArray) (hg : g.size ≤ 2147483647) (hn : n.size ≤ 2147483647) : impl_GroupResourceText.f g n = some (namedText g n) := by
  unfold impl_GroupResourceText.f schema_GroupResource_String.f namedText
  have h1 : (n ++ (⟨#[46]⟩ : ByteArray)).size = n.size + 1 := by rw [ByteArray.size_append]; rfl
  by_cases h : g.data.toList = []
  · rw [if_pos ((size_zero g).2 h), if_pos h]; rfl
  · rw [if_neg (fun z => h ((size_zero g).1 z)), if_neg h, if_pos (by omega), if_pos (by omega)]; rfl

theorem nm_j0 (s g n : ByteArray) (hs : s.size ≤ 2147483647) (hg : g.size ≤ 2147483647) (hn : n.size ≤ 2147483647) : Ev (fun k => laws_FnNamed.j0 k s g n false) true := by
  refine Ev.step (f := fun k => (spec_KindNamed.f k s).bind fun bt119 => ((spec_KindNamedText.f g n).bind fun t122 => ((impl_GroupKindParse.f k s).bind fun bt124 => (if (bt124.1.toList == bt119.1.toList && (bt124.2.1.toList == bt119.2.1.toList && (bt124.2.2.toList == bt119.2.2.toList))) = true then ((impl_GroupResourceParse.f k s).bind fun bt127 => (if (bt127.1.toList == bt119.1.toList && (bt127.2.1.toList == bt119.2.1.toList && (bt127.2.2.toList == bt119.2.2.toList))) = true then ((impl_GroupKindText.f g n).bind fun t130 => (if t130.toList = t122.toList then ((impl_GroupResourceText.f g n).bind fun t131 => (some (t131.toList == t122.toList))) else (some false))) else (some false))) else (some false)))))
    (fun k => ?_) (Ev.bind (named_spec s hs) ?_)
  · simp only [laws_FnNamed.j0]; rw [if_neg (by simp)]
  · rw [text_spec g n hg hn, text_kind g n hg hn, text_res g n hg hn]
    simp only [Option.bind_some, beq_self_eq_true, if_true]
    refine Ev.bind (named_kind s hs) ?_
    simp only [beq_self_eq_true, Bool.and_self, if_true]
    refine Ev.bind (named_res s hs) ?_
    simp only [beq_self_eq_true, Bool.and_self, if_true]
    exact Ev.now _

theorem FnNamed : laws_FnNamed.Pure := by
  intro s g n _ _ _
  have hj : laws_FnNamed.j0 1 s g n true = some true := by simp only [laws_FnNamed.j0]; rw [if_pos trivial]
  unfold laws_FnNamed.f
  by_cases h : (s.size : Int) > 2147483647
  · exact ⟨1, by rw [if_pos h]; exact hj⟩
  · by_cases h2 : (g.size : Int) > 2147483647
    · exact ⟨1, by rw [if_neg h, if_pos h2]; exact hj⟩
    · by_cases h3 : (n.size : Int) > 2147483647
      · exact ⟨1, by rw [if_neg h, if_neg h2, decide_eq_true h3]; exact hj⟩
      · obtain ⟨k, hk⟩ := (nm_j0 s g n (by omega) (by omega) (by omega)).rounds
        exact ⟨k, by rw [if_neg h, if_neg h2, decide_eq_false h3]; exact hk⟩

end Go.Proofs.Ytpaihcikeieliaa.Pure
