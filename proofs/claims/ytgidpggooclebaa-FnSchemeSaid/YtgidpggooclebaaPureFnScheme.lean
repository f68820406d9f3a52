/- A text is a scheme, a name and a port just if it is of one of the three forms: of all texts (of those that the statement's bound lets by). -/
import Derived.Test.YtgidpggooclebaaPFnSchemex2
import Derived.Test.YtgidpggooclebaaTxt
import Derived.Test.YtgidpggooclebaaEvs
set_option linter.unusedVariables false
set_option linter.unusedSimpArgs false
namespace Go.Proofs.Ytgidpggooclebaa.Pure
open Go Go.RowKit Go.Proofs.Ytgidpggooclebaa.PFnScheme Go.Proofs.YtgidpggooclebaaW.PrintWords Go.Proofs.YtgidpggooclebaaW.PrintLast Go.Proofs.Ytgidpggooclebaa.Txt

/-- The byte at a place, as a number. -/
def by_ (s : ByteArray) (i : Nat) : Nat := (s.get! i).toNat

theorem by_list (s : ByteArray) (i : Nat) (h : i < s.data.toList.length) : by_ s i = (s.data.toList[i]).toNat := by
  unfold by_
  congr 1
  show s.get! i = _
  have h2 : i < s.data.size := by rw [Array.length_toList] at h; exact h
  simp only [ByteArray.get!]
  exact getElem!_pos s.data i h2

theorem by_at (s : ByteArray) (i : Nat) (h : i < s.size) : bt s (i : Int) = (by_ s i : Int) := by
  have hl : i < s.data.toList.length := by rw [← size_len]; exact h
  rw [bt_nat s i hl, by_list s i hl]

theorem fp_rd (ts : List ByteArray) (c : ByteArray) : rdOf ByteArray.empty (ts ++ [c]) (ts.length : Int) = c := by simp [rdOf]
theorem fp_put (ts : List ByteArray) (c e : ByteArray) : (ts ++ [c]).set ((ts.length : Int)).toNat e = ts ++ [e] := by simp
theorem ex_join (s : ByteArray) (a b c : Nat) (h1 : a ≤ b) (h2 : b ≤ c) : s.extract a b ++ s.extract b c = s.extract a c := by
  apply ext
  rw [data_append, data_extract, data_extract, data_extract]
  have e : c - a = (b - a) + (c - b) := by omega
  rw [e, List.take_add, List.drop_drop, show a + (b - a) = b by omega]
theorem ex_none (s : ByteArray) (a : Nat) : (⟨#[]⟩ : ByteArray) = s.extract a a := by
  apply ext
  rw [data_extract]; simp
theorem ex_all (s : ByteArray) : s.extract 0 s.size = s := by
  apply ext
  rw [data_extract, List.drop_zero, List.take_of_length_le (by rw [size_len]; omega)]
theorem by_ex (s : ByteArray) (a b j : Nat) (h : j < (s.extract a b).size) : by_ (s.extract a b) j = by_ s (a + j) := by
  rw [ByteArray.size_extract] at h
  have h1 : j < (s.extract a b).data.toList.length := by rw [← size_len, ByteArray.size_extract]; exact h
  have h2 : a + j < s.data.toList.length := by rw [← size_len]; omega
  rw [by_list _ j h1, by_list s _ h2]
  congr 1
  simp only [data_extract]
  simp
theorem ex_ex (s : ByteArray) (a b c d : Nat) (h1 : c ≤ d) (h2 : a + d ≤ b) : (s.extract a b).extract c d = s.extract (a + c) (a + d) := by
  apply ext
  rw [data_extract, data_extract, data_extract]
  rw [List.drop_take, List.drop_drop, List.take_take, show min (d - c) (b - a - c) = a + d - (a + c) by omega]
/-- The first place of a byte from a place on, or none. -/
theorem plc_rest (s : ByteArray) (c : UInt8) (st : Nat) (h : st ≤ s.size) :
    (plc c (s.extract st s.size).data.toList = -1 ∧ ∀ j, st ≤ j → j < s.size → by_ s j ≠ c.toNat) ∨
    ∃ q, st ≤ q ∧ q < s.size ∧ by_ s q = c.toNat ∧ (∀ j, st ≤ j → j < q → by_ s j ≠ c.toNat) ∧ plc c (s.extract st s.size).data.toList = ((q - st : Nat) : Int) := by
  have e : (s.extract st s.size).data.toList = s.data.toList.drop st := by
    rw [data_extract, List.take_of_length_le (by rw [List.length_drop, size_len]; omega)]
  have hl : s.size = s.data.toList.length := size_len s
  rw [e]
  unfold plc
  by_cases hp : plcN c (s.data.toList.drop st) < (s.data.toList.drop st).length
  · right
    rw [if_pos hp]
    have hp2 : st + plcN c (s.data.toList.drop st) < s.data.toList.length := by rw [List.length_drop] at hp; omega
    refine ⟨st + plcN c (s.data.toList.drop st), by omega, by omega, ?_, fun j h1 h2 z => ?_, by congr 1; omega⟩
    · rw [by_list s _ hp2]
      have := List.findIdx_getElem (w := hp) (p := (· == c)) (xs := s.data.toList.drop st)
      simp only [beq_iff_eq] at this
      exact congrArg UInt8.toNat ((List.getElem_drop (h := hp)).symm.trans this)
    · have h3 : j - st < plcN c (s.data.toList.drop st) := by omega
      have := List.not_of_lt_findIdx h3
      rw [List.getElem_drop] at this
      have h4 : j < s.data.toList.length := by omega
      rw [by_list s j h4] at z
      simp only [show st + (j - st) = j by omega] at this
      rw [UInt8.toNat_inj.1 z] at this
      simp at this
  · left
    rw [if_neg hp]
    refine ⟨rfl, fun j h1 h2 z => ?_⟩
    have h4 : j < s.data.toList.length := by omega
    rw [by_list s j h4] at z
    apply hp
    unfold plcN
    refine List.findIdx_lt_length_of_exists ⟨s.data.toList[j], ?_, by simp [UInt8.toNat_inj.1 z]⟩
    rw [show s.data.toList[j] = (s.data.toList.drop st)[j - st]'(by rw [List.length_drop]; omega) by rw [List.getElem_drop]; simp only [show st + (j - st) = j by omega]]
    exact List.getElem_mem _
theorem index_l0 (s : ByteArray) (c : UInt8) (hs : s.size ≤ 9223372036854775806) (n : Nat) : ∀ i : Nat, i + n = s.data.toList.length →
    Ev (fun k => net_zzIndex.l0 k s (⟨#[c]⟩ : ByteArray) i) (if plcN c (s.data.toList.drop i) < n then ((i + plcN c (s.data.toList.drop i) : Nat) : Int) else -1) := by
  have hsz := size_len s
  have h1 : ((⟨#[c]⟩ : ByteArray).size : Int) = 1 := rfl
  have hcl : (⟨#[c]⟩ : ByteArray).toList = [c] := toL _
  induction n with
  | zero =>
    intro i hi
    rw [if_neg (by omega)]
    refine ⟨1, fun k hk => ?_⟩
    obtain ⟨k, rfl⟩ : ∃ m, k = m + 1 := ⟨k - 1, by omega⟩
    simp only [net_zzIndex.l0]
    rw [h1, Small.w64s i (by omega), if_neg (by omega)]
  | succ n ih =>
    intro i hi
    have h : i < s.data.toList.length := by omega
    have ih := ih (i + 1) (by omega)
    rw [List.drop_eq_getElem_cons h]
    by_cases e : s.data.toList[i] = c
    · rw [e, plcN_cons_eq, if_pos (by omega)]
      refine ⟨1, fun k hk => ?_⟩
      obtain ⟨k, rfl⟩ : ∃ m, k = m + 1 := ⟨k - 1, by omega⟩
      simp only [net_zzIndex.l0]
      rw [h1, Small.w64s i (by omega), if_pos (by omega), if_pos (by omega), if_pos (by omega), Int.toNat_natCast, Int.toNat_natCast, one_extract s i h, hcl, e, if_pos rfl]; rfl
    · rw [plcN_cons_ne _ e]
      have e2 : (if plcN c (s.data.toList.drop (i + 1)) + 1 < n + 1 then ((i + (plcN c (s.data.toList.drop (i + 1)) + 1) : Nat) : Int) else -1) = (if plcN c (s.data.toList.drop (i + 1)) < n then ((i + 1 + plcN c (s.data.toList.drop (i + 1)) : Nat) : Int) else -1) := by
        split <;> split <;> omega
      rw [e2]
      refine Ev.step (fun k => ?_) ih
      simp only [net_zzIndex.l0]
      rw [h1, Small.w64s i (by omega), if_pos (by omega), if_pos (by omega), if_pos (by omega), Int.toNat_natCast, Int.toNat_natCast, one_extract s i h, hcl, if_neg (fun z => e (by simpa using z))]

theorem index_f (s : ByteArray) (c : UInt8) (hs : s.size ≤ 9223372036854775806) : Ev (fun k => net_zzIndex.f k s (⟨#[c]⟩ : ByteArray)) (plc c s.data.toList) := by
  have := index_l0 s c hs s.data.toList.length 0 (by omega)
  simp only [List.drop_zero, Nat.zero_add] at this
  exact this

def NoC (s : ByteArray) : Prop := ∀ j, j < s.size → by_ s j ≠ 58

section
variable (s : ByteArray) (hs : s.size ≤ 2147483647)
include hs

theorem sp_skip (m : Nat) : ∀ (ts : List ByteArray) (st p : Nat) (r : List ByteArray), st ≤ p → p + m ≤ s.size → ts.length ≤ 2147483648 → (∀ j, j < m → by_ s (p + j) ≠ 58) →
    Ev (fun k => spS s 58 k (ts ++ [s.extract st (p + m)]) (p + m)) r → Ev (fun k => spS s 58 k (ts ++ [s.extract st p]) p) r := by
  induction m with
  | zero => intro ts st p r _ _ _ _ e; exact e
  | succ m ih =>
    intro ts st p r h1 h2 h3 h4 e
    have hb := h4 0 (by omega)
    rw [Nat.add_zero] at hb
    have hl : (ts ++ [s.extract st p]).length - 1 = ts.length := by simp
    have hz : (s.extract st p).size ≤ 2147483647 := by rw [ByteArray.size_extract]; omega
    have hp := fp_put ts (s.extract st p) (s.extract st p ++ s.extract p (p + 1))
    simp only [Int.toNat_natCast] at hp
    have hj := ih ts st (p + 1) r (by omega) (by omega) h3 (fun j hj => by
      have := h4 (j + 1) (by omega)
      rw [show p + 1 + j = p + (j + 1) by omega]; exact this) (by rw [show p + 1 + m = p + (m + 1) by omega]; exact e)
    refine Ev.step (fun k => ?_) hj
    simp only [spS]
    rw [if_pos (by omega), by_at s p (by omega), if_neg (by omega), hl, fp_rd, if_pos ⟨by simp, by omega, by simp; omega⟩, hp, ex_join s st p (p + 1) h1 (by omega)]

omit hs in
theorem sp_sign (ts : List ByteArray) (p : Nat) (r : List ByteArray) (hp : p < s.size) (hb : by_ s p = 58) (hl : ts.length ≤ 2147483648) (e : Ev (fun k => spS s 58 k (ts ++ [(⟨#[]⟩ : ByteArray)]) (p + 1)) r) : Ev (fun k => spS s 58 k ts p) r := by
  refine Ev.step (fun k => ?_) e
  simp only [spS]
  rw [if_pos hp, by_at s p hp, if_pos (by omega), if_pos (by omega)]

omit hs in
theorem sp_end (ts : List ByteArray) : Ev (fun k => spS s 58 k ts s.size) ts :=
  Evs.at1 fun k => by simp only [spS]; rw [if_neg (by omega)]

theorem one (h : NoC s) : Ev (fun k => spec_Split.f k s 58) [s] := by
  unfold spec_Split.f
  refine Evs.yes (by omega) ?_
  have := sp_skip s hs s.size [] 0 0 [s] (by omega) (by omega) (by simp) (fun j hj => by rw [Nat.zero_add]; exact h j hj) (by
    rw [Nat.zero_add, ex_all]; exact sp_end s _)
  rw [← ex_none] at this
  exact this

omit hs in
theorem noC_ex (a b : Nat) (h : ∀ j, a ≤ j → j < b → by_ s j ≠ 58) : NoC (s.extract a b) := by
  intro j hj
  rw [by_ex s a b j hj]
  rw [ByteArray.size_extract] at hj
  exact h (a + j) (by omega) (by omega)

theorem both (n : Nat) : ∀ (ts : List ByteArray) (st : Nat), st + n = s.size → ts.length ≤ st → (∀ t ∈ ts, NoC t ∧ t.size ≤ 2147483647) →
    ∃ r, Ev (fun k => net_zzSplit.l1 k (s.extract st s.size) (⟨#[58]⟩ : ByteArray) ts) r ∧ Ev (fun k => spS s 58 k (ts ++ [s.extract st st]) st) r ∧ (∀ t ∈ r, NoC t ∧ t.size ≤ 2147483647) ∧ r.length ≤ s.size + 1 := by
  have h1 : ((⟨#[58]⟩ : ByteArray).size : Int) = 1 := rfl
  induction n using Nat.strongRecOn with
  | _ n ih =>
    intro ts st hst hl ht
    have hz : (s.extract st s.size).size = s.size - st := by rw [ByteArray.size_extract]; omega
    have hi := index_f (s.extract st s.size) 58 (by omega)
    rcases plc_rest s 58 st (by omega) with ⟨e1, e2⟩ | ⟨q, q1, q2, q3, q4, q5⟩
    · rw [e1] at hi
      refine ⟨ts ++ [s.extract st s.size], ?_, ?_, ?_, by simp; omega⟩
      · refine Ev.step (fun k => by rw [net_zzSplit.l1]) (Ev.bind hi ?_)
        exact Evs.yes (by omega) (Evs.yes (by omega) (Ev.now _))
      · have := sp_skip s hs (s.size - st) ts st st (ts ++ [s.extract st s.size]) (by omega) (by omega) (by omega) (fun j hj => e2 (st + j) (by omega) (by omega)) (by
          rw [show st + (s.size - st) = s.size by omega]; exact sp_end s _)
        exact this
      · intro t h
        rcases List.mem_append.1 h with h | h
        · exact ht t h
        · rw [List.mem_singleton.1 h]; exact ⟨noC_ex s st s.size e2, by omega⟩
    · rw [q5] at hi
      have hx : (s.extract st s.size).extract 0 (q - st) = s.extract st q := by
        rw [ex_ex s st s.size 0 (q - st) (by omega) (by omega), Nat.add_zero, show st + (q - st) = q by omega]
      have hy : (s.extract st s.size).extract (q - st + 1) (s.size - st) = s.extract (q + 1) s.size := by
        rw [ex_ex s st s.size _ _ (by omega) (by omega), show st + (q - st + 1) = q + 1 by omega, show st + (s.size - st) = s.size by omega]
      have hn : ∀ t ∈ ts ++ [s.extract st q], NoC t ∧ t.size ≤ 2147483647 := by
        intro t h
        rcases List.mem_append.1 h with h | h
        · exact ht t h
        · rw [List.mem_singleton.1 h]; exact ⟨noC_ex s st q q4, by rw [ByteArray.size_extract]; omega⟩
      obtain ⟨r, i1, i2, i3, i4⟩ := ih (s.size - (q + 1)) (by omega) (ts ++ [s.extract st q]) (q + 1) (by omega) (by simp; omega) hn
      have hw : Aside0 (wrap64 (((q - st : Nat) : Int) + 1) = ((q - st + 1 : Nat) : Int)) := ⟨by rw [Small.w64 _ (by omega) (by omega)]; omega⟩
      refine ⟨r, ?_, ?_, i3, i4⟩
      · refine Ev.step (fun k => by rw [net_zzSplit.l1]) (Ev.bind hi ?_)
        simp only [h1, hw.out]
        refine Evs.no (by omega) ?_
        simp only [if_pos (show 0 ≤ ((q - st : Nat) : Int) by omega), if_pos (show ((q - st : Nat) : Int) ≤ ((s.extract st s.size).size : Int) by omega), if_pos (show ts.length < 8796093022208 by omega), if_pos (show 0 ≤ ((q - st + 1 : Nat) : Int) by omega), if_pos (show ((q - st + 1 : Nat) : Int) ≤ ((s.extract st s.size).size : Int) by omega), Int.toNat_natCast, hx]
        rw [hz, hy]; exact i1
      · refine sp_skip s hs (q - st) ts st st r (by omega) (by omega) (by omega) (fun j hj => q4 (st + j) (by omega) (by omega)) ?_
        rw [show st + (q - st) = q by omega]
        refine sp_sign s _ q r q2 q3 (by simp; omega) ?_
        rw [ex_none s (q + 1)]; exact i2

end

/-- What both make of a text. -/
theorem cut (s : ByteArray) (hs : s.size ≤ 2147483647) : ∃ r, Ev (fun k => net_zzSplit.f k s (⟨#[58]⟩ : ByteArray)) r ∧ Ev (fun k => spec_Split.f k s 58) r ∧ (∀ t ∈ r, NoC t ∧ t.size ≤ 2147483647) ∧ r.length ≤ s.size + 1 := by
  obtain ⟨r, i1, i2, i3, i4⟩ := both s hs s.size [] 0 (by omega) (by simp) (by simp)
  rw [ex_all] at i1
  rw [← ex_none] at i2
  refine ⟨r, ?_, ?_, i3, i4⟩
  · unfold net_zzSplit.f
    have h1 : ((⟨#[58]⟩ : ByteArray).size : Int) = 1 := rfl
    rw [h1]
    exact Evs.no (by decide) i1
  · unfold spec_Split.f
    exact Evs.yes (by omega) i2

def sch (a : ByteArray) : Bool := decide (a.data.toList = [] ∨ a.data.toList = [104, 116, 116, 112] ∨ a.data.toList = [104, 116, 116, 112, 115])

theorem key_f (a : ByteArray) : Ev (fun k => spec_keyIn_string.f k (([(⟨#[]⟩ : ByteArray), (⟨#[104, 116, 116, 112]⟩ : ByteArray), (⟨#[104, 116, 116, 112, 115]⟩ : ByteArray)] : List ByteArray)) a) (sch a) := by
  unfold spec_keyIn_string.f sch
  have w0 : wrap64 (0 + 1) = 1 := by rw [Small.w64 _ (by decide) (by decide)]; rfl
  have w1 : wrap64 (1 + 1) = 2 := by rw [Small.w64 _ (by decide) (by decide)]; rfl
  have w2 : wrap64 (2 + 1) = 3 := by rw [Small.w64 _ (by decide) (by decide)]; rfl
  refine ⟨4, fun k hk => ?_⟩
  obtain ⟨k, rfl⟩ : ∃ m, k = m + 4 := ⟨k - 4, by omega⟩
  have t0 : (rdOf ByteArray.empty ([(⟨#[]⟩ : ByteArray), (⟨#[104, 116, 116, 112]⟩ : ByteArray), (⟨#[104, 116, 116, 112, 115]⟩ : ByteArray)] : List ByteArray) 0).toList = [] := by rw [toL]; rfl
  have t1 : (rdOf ByteArray.empty ([(⟨#[]⟩ : ByteArray), (⟨#[104, 116, 116, 112]⟩ : ByteArray), (⟨#[104, 116, 116, 112, 115]⟩ : ByteArray)] : List ByteArray) 1).toList = [104, 116, 116, 112] := by rw [toL]; rfl
  have t2 : (rdOf ByteArray.empty ([(⟨#[]⟩ : ByteArray), (⟨#[104, 116, 116, 112]⟩ : ByteArray), (⟨#[104, 116, 116, 112, 115]⟩ : ByteArray)] : List ByteArray) 2).toList = [104, 116, 116, 112, 115] := by rw [toL]; rfl
  simp only [spec_keyIn_string.l0, w0, w1, w2, t0, t1, t2, toL a]
  by_cases h0 : a.data.toList = []
  · simp [h0]
  · by_cases h1 : a.data.toList = [104, 116, 116, 112]
    · simp [h1]
    · by_cases h2 : a.data.toList = [104, 116, 116, 112, 115]
      · simp [h2]
      · simp [h0, h1, h2, Ne.symm h0, Ne.symm h1, Ne.symm h2, eq_comm]

theorem may_f (a b c : ByteArray) (hb : NoC b) (hb1 : b.size ≤ 2147483647) (hc : NoC c) (hc1 : c.size ≤ 2147483647) : Ev (fun k => spec_SchemeMay.f k a b c) (sch a && decide (b.data.toList ≠ [])) := by
  unfold spec_SchemeMay.f
  refine Ev.bind (key_f a) ?_
  cases hs : sch a with
  | false => exact Evs.no (by simp) (Ev.now _)
  | true =>
    refine Evs.yes rfl ?_
    rw [toL]
    by_cases h : b.data.toList = []
    · refine Evs.yes h ?_
      simp only [h]; exact Ev.now _
    · refine Evs.no h (Ev.bind (one b hb1 hb) (Evs.yes rfl (Ev.bind (one c hc1 hc) ?_)))
      simp [h]; exact Ev.now _

/-- What a text's pieces tell. -/
def parts (l : List ByteArray) : ByteArray × ByteArray × ByteArray × Bool :=
  if l.length = 1 then (⟨#[]⟩, rdOf ByteArray.empty l 0, ⟨#[]⟩, true) else
  if l.length = 2 then (⟨#[]⟩, rdOf ByteArray.empty l 0, rdOf ByteArray.empty l 1, true) else
  if l.length = 3 then (rdOf ByteArray.empty l 0, rdOf ByteArray.empty l 1, rdOf ByteArray.empty l 2, true) else (⟨#[]⟩, ⟨#[]⟩, ⟨#[]⟩, false)

def good (l : List ByteArray) : Bool := (parts l).2.2.2 && sch (parts l).1 && decide ((parts l).2.1.data.toList ≠ [])

theorem size_pos (g : ByteArray) : (g.size : Int) > 0 ↔ ¬ g.data.toList = [] := by
  rw [size_len]
  constructor
  · intro h z; rw [z] at h; simp at h
  · intro h; have := List.length_pos_iff.2 h; omega

theorem impl_f (s : ByteArray) (r : List ByteArray) (h : Ev (fun k => net_zzSplit.f k s (⟨#[58]⟩ : ByteArray)) r) : Ev (fun k => impl_SchemeSplit.f k s) (if good r then ((parts r).1, (parts r).2.1, (parts r).2.2.1, true) else (⟨#[]⟩, ⟨#[]⟩, ⟨#[]⟩, false)) := by
  unfold impl_SchemeSplit.f net_SplitSchemeNamePort.f
  refine Ev.bind (a := if good r then ((parts r).1, (parts r).2.1, (parts r).2.2.1, true) else (⟨#[]⟩, ⟨#[]⟩, ⟨#[]⟩, false)) (Ev.bind h ?_) (by split <;> exact Ev.now _)
  refine Ev.congr (f := fun _ => some _) (fun k => ?_) (Ev.now _)
  have e1 : ¬ (([] : List UInt8) = ([104, 116, 116, 112] : List UInt8)) := by decide
  have e2 : ¬ (([] : List UInt8) = ([104, 116, 116, 112, 115] : List UInt8)) := by decide
  have e3 : sch (⟨#[]⟩ : ByteArray) = true := by decide
  unfold good parts
  by_cases l1 : r.length = 1
  · have : (r.length : Int) = 1 := by omega
    simp only [this, l1, if_true, if_neg e1, if_neg e2, e3, Bool.true_and, size_pos]
    by_cases h : (rdOf ByteArray.empty r 0).data.toList = [] <;> simp [h]
  · rw [if_neg (show ¬ (r.length : Int) = 1 by omega), if_neg l1]
    by_cases l2 : r.length = 2
    · have : (r.length : Int) = 2 := by omega
      simp only [this, l2, if_true, if_neg e1, if_neg e2, e3, Bool.true_and, size_pos]
      by_cases h : (rdOf ByteArray.empty r 0).data.toList = [] <;> simp [h]
    · rw [if_neg (show ¬ (r.length : Int) = 2 by omega), if_neg l2]
      by_cases l3 : r.length = 3
      · have : (r.length : Int) = 3 := by omega
        simp only [this, l3, if_true, Bool.true_and, size_pos, toL, sch]
        by_cases h : (rdOf ByteArray.empty r 1).data.toList = []
        · simp [h]
        · by_cases h1 : (rdOf ByteArray.empty r 0).data.toList = [104, 116, 116, 112]
          · simp [h, h1]
          · by_cases h2 : (rdOf ByteArray.empty r 0).data.toList = [104, 116, 116, 112, 115]
            · simp [h, h2]
            · by_cases h3 : (rdOf ByteArray.empty r 0).data.toList = []
              · simp [h, h3]
              · simp [h, h1, h2, h3]
      · rw [if_neg (show ¬ (r.length : Int) = 3 by omega), if_neg l3]
        simp

theorem rd_noC (r : List ByteArray) (hr : ∀ t ∈ r, NoC t ∧ t.size ≤ 2147483647) (i : Nat) (h : i < r.length) : NoC (rdOf ByteArray.empty r (i : Int)) ∧ (rdOf ByteArray.empty r (i : Int)).size ≤ 2147483647 := by
  have : rdOf ByteArray.empty r (i : Int) = r[i] := by simp [rdOf, List.getD_eq_getElem?_getD, List.getElem?_eq_getElem h]
  rw [this]
  exact hr _ (List.getElem_mem h)

theorem spec_f (s : ByteArray) (r : List ByteArray) (hr : ∀ t ∈ r, NoC t ∧ t.size ≤ 2147483647) (h : Ev (fun k => spec_Split.f k s 58) r) : Ev (fun k => spec_SchemeParts.f k s) ((parts r).1, (parts r).2.1, (parts r).2.2.1, good r) := by
  unfold spec_SchemeParts.f
  refine Ev.bind h ?_
  have e3 : sch (⟨#[]⟩ : ByteArray) = true := by decide
  have e0 : NoC (⟨#[]⟩ : ByteArray) := fun j hj => absurd hj (Nat.not_lt_zero j)
  unfold good parts
  by_cases l1 : r.length = 1
  · simp only [l1, if_true]
    have r0 := rd_noC r hr 0 (by omega)
    exact Evs.yes rfl (Evs.yes (by decide) (Ev.bind (may_f _ _ _ r0.1 r0.2 e0 (by decide)) (Ev.now _)))
  · by_cases l2 : r.length = 2
    · simp only [l2, if_true]
      have r0 := rd_noC r hr 0 (by omega)
      have r1 := rd_noC r hr 1 (by omega)
      exact Evs.no (by decide) (Evs.yes rfl (Evs.yes (by decide) (Evs.yes (by decide) (Ev.bind (may_f _ _ _ r0.1 r0.2 r1.1 r1.2) (Ev.now _)))))
    · by_cases l3 : r.length = 3
      · simp only [l3, if_true]
        have r0 := rd_noC r hr 0 (by omega)
        have r1 := rd_noC r hr 1 (by omega)
        have r2 := rd_noC r hr 2 (by omega)
        exact Evs.no (by decide) (Evs.no (by decide) (Evs.yes rfl (Evs.yes (by decide) (Evs.yes (by decide) (Evs.yes (by decide) (Ev.bind (may_f _ _ _ r1.1 r1.2 r2.1 r2.2) (Ev.now _)))))))
      · rw [if_neg l1, if_neg l2, if_neg l3]
        exact Evs.no (by omega) (Evs.no (by omega) (Evs.no (by omega) (Ev.now _)))

theorem FnScheme : laws_FnScheme.Pure := by
  intro s _
  unfold laws_FnScheme.f
  by_cases h : (s.size : Int) > 2147483647
  · exact ⟨1, by rw [if_pos h]⟩
  · refine Ev.rounds (Evs.no h ?_)
    have hs : s.size ≤ 2147483647 := by omega
    obtain ⟨r, i1, i2, i3, i4⟩ := cut s hs
    refine Ev.bind i2 ?_
    have two : Ev (fun k => impl_SchemeSplit.f k (⟨#[110]⟩ : ByteArray)) (⟨#[]⟩, ⟨#[110]⟩, ⟨#[]⟩, true) := by
      have hz : (⟨#[110]⟩ : ByteArray).size = 1 := rfl
      have hq0 : NoC (⟨#[110]⟩ : ByteArray) := by
        intro j hj
        have h0 : j = 0 := by omega
        subst h0
        decide
      obtain ⟨q, j1, j2, j3, j4⟩ := cut (⟨#[110]⟩ : ByteArray) (by omega)
      have hq := Evs.uniq j2 (one (⟨#[110]⟩ : ByteArray) (by omega) hq0)
      have := impl_f _ q j1
      subst hq
      exact this
    have go : Ev (fun k => laws_FnScheme.j0 k s false) true := by
      refine Ev.step (fun k => by rw [laws_FnScheme.j0, if_neg (by simp)]) (Ev.bind (impl_f s r i1) (Ev.bind (spec_f s r i3 i2) (Ev.bind two ?_)))
      have : (⟨#[110]⟩ : ByteArray).toList = [110] := by rw [toL]
      by_cases g : good r <;> simp [g, this] <;> exact Ev.now _
    by_cases l3 : r.length = 3
    · refine Evs.yes (by omega) (Evs.yes (by omega) ?_)
      by_cases e : ((rdOf ByteArray.empty r 0).toList == ([] : List UInt8)) = true
      · rw [e]; exact Evs.at1 fun k => by rw [laws_FnScheme.j0, if_pos rfl]
      · rw [Bool.not_eq_true] at e; rw [e]; exact go
    · exact Evs.no (by omega) go

end Go.Proofs.Ytgidpggooclebaa.Pure
