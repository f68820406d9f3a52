/- A part by percent: which texts are percentages; how a number is rounded. -/
import Derived.Test.YtihlmkgffifknaaDoorScN
import Derived.Test.YtihlmkgffifknaaDoorScX
set_option linter.unusedVariables false
set_option linter.unusedSimpArgs false
namespace Go.Proofs.YtihlmkgffifknaaDoor.Sc
open Go Go.RowKit Go.Proofs.YtihlmkgffifknaaDoor Go.Proofs.YtihlmkgffifknaaDoorW.PrintWords Go.Proofs.YtihlmkgffifknaaDoor.PFnIntStrScaled Go.Proofs.YtihlmkgffifknaaDoor.Txt

theorem pct (s : ByteArray) (hs : s.size ≤ 2147483647) :
    (Ev (fun k => laws_intPercent.f k s) (0, false) ∧ strings_HasSuffix.f s ⟨#[37]⟩ = some false) ∨
    (∃ t v ok, t.size ≤ 2147483647 ∧ Ev (fun k => laws_intPercent.f k s) (v, ok) ∧ strings_HasSuffix.f s ⟨#[37]⟩ = some true ∧ strings_TrimSuffix.f s ⟨#[37]⟩ = some t ∧ Same (Lib.atoiAll t.data.toList) v ok ∧ (∃ h : 0 < s.size, t = s.extract 0 (s.size - 1))) := by
  have hsz := size_len s
  have s1 : (((⟨#[37]⟩ : ByteArray).size : Nat) : Int) = 1 := rfl
  by_cases he : s.data.toList = []
  · refine Or.inl ⟨⟨0, fun k _ => ?_⟩, ?_⟩
    · show laws_intPercent.f k s = _
      unfold laws_intPercent.f
      rw [if_pos (by rw [toL, he])]
    · have : s.size = 0 := by rw [hsz, he]; rfl
      unfold strings_HasSuffix.f stringslite_HasSuffix.f
      rw [s1, if_neg (by omega)]; rfl
  · obtain ⟨n, hn⟩ : ∃ n, s.data.toList.length = n + 1 := ⟨s.data.toList.length - 1, by
      have : s.data.toList.length ≠ 0 := fun e => he (List.eq_nil_of_length_eq_zero e)
      omega⟩
    have hw : wrap64 ((s.size : Int) - 1) = (n : Int) := by rw [Small.w64 _ (by omega) (by omega)]; omega
    have hlt : n < s.data.toList.length := by omega
    have hlast : (s.extract n s.size).toList = [s.data.toList[n]] := by
      have := one_extract s n hlt
      rw [show n + 1 = s.size by omega] at this
      exact this
    have ht : ((n : Int)).toNat = n := by omega
    have h37 : (⟨#[37]⟩ : ByteArray).toList = [37] := by rw [toL]
    have hH : ∀ b, (s.data.toList[n] == 37) = b → strings_HasSuffix.f s ⟨#[37]⟩ = some b ∧ stringslite_HasSuffix.f s ⟨#[37]⟩ = some b := fun b hb => by
      have : stringslite_HasSuffix.f s ⟨#[37]⟩ = some b := by
        unfold stringslite_HasSuffix.f
        rw [s1, hw, if_pos (by omega), if_pos (by omega), if_pos (by omega), ht, hlast, h37, ← hb]
        simp
      refine ⟨?_, this⟩
      unfold strings_HasSuffix.f
      rw [this]; rfl
    have hbt : bt s (n : Int) = ((s.data.toList[n]).toNat : Int) := bt_nat s n hlt
    by_cases hc : s.data.toList[n] = 37
    · obtain ⟨h1, h2⟩ := hH true (by rw [hc]; rfl)
      have hts : (s.extract 0 n).size ≤ 2147483647 := by rw [size_len, data_extract]; simp; omega
      obtain ⟨v, ok, ⟨K, hK⟩, hS⟩ := whole_f (s.extract 0 n) hts
      refine Or.inr ⟨s.extract 0 n, v, ok, hts, ⟨K, fun k hk => ?_⟩, h1, ?_, hS, by omega, by rw [show s.size - 1 = n by omega]⟩
      · show laws_intPercent.f k s = _
        unfold laws_intPercent.f
        rw [if_neg (by rw [toL]; exact he), hw, if_pos (by omega), if_pos (by omega), hbt, hc, if_pos (show (((37 : UInt8).toNat : Nat) : Int) = 37 by rfl), if_pos (by omega), ht]
        have e := hK k hk
        simp only at e
        rw [e]; rfl
      · unfold strings_TrimSuffix.f stringslite_TrimSuffix.f
        rw [h2]
        simp only [Option.bind_some, if_true]
        rw [s1, hw, if_pos (by omega), if_pos (by omega), ht]
        rfl
    · have hcb : (s.data.toList[n] == 37) = false := beq_eq_false_iff_ne.2 hc
      obtain ⟨h1, _⟩ := hH false hcb
      refine Or.inl ⟨⟨0, fun k _ => ?_⟩, h1⟩
      show laws_intPercent.f k s = _
      unfold laws_intPercent.f
      rw [if_neg (by rw [toL]; exact he), hw, if_pos (by omega), if_pos (by omega), hbt, if_neg (fun e => hc (UInt8.toNat_inj.1 (by rw [show (37 : UInt8).toNat = 37 by rfl]; omega)))]

theorem below_f (x : Int) (h0 : -9007199254740992 < x) (h1 : x < 9007199254740992) : spec_NumBelow.f x 100 = some (x / 100) := by
  unfold spec_NumBelow.f
  rw [if_neg (by omega)]
  have hb : x.tdiv 100 * 100 + x.tmod 100 = x := by rw [Int.mul_comm]; exact Int.mul_tdiv_add_tmod x 100
  have hm1 := Int.tmod_lt_of_pos x (show (0 : Int) < 100 by omega)
  have hm2 : -100 < x.tmod 100 := by
    have h := Int.tmod_lt_of_pos (-x) (show (0 : Int) < 100 by omega)
    rw [Int.neg_tmod] at h
    omega
  have hs1 : 0 ≤ x → 0 ≤ x.tmod 100 := fun h => Int.tmod_nonneg 100 h
  have hs2 : x ≤ 0 → x.tmod 100 ≤ 0 := fun h => by
    have := Int.tmod_nonneg (a := -x) 100 (by omega)
    rw [Int.neg_tmod] at this
    omega
  generalize x.tdiv 100 = q at *
  generalize x.tmod 100 = m at *
  have hq : wrap64 q = q := Small.w64 _ (by omega) (by omega)
  by_cases hm : m < 0
  · rw [if_pos hm, hq, Small.w64 _ (by omega) (by omega)]
    congr 1; omega
  · rw [if_neg hm, hq]
    congr 1; omega
theorem above_f (x : Int) (h0 : -9007199254740992 < x) (h1 : x < 9007199254740992) : spec_NumAbove.f x 100 = some (-((-x) / 100)) := by
  unfold spec_NumAbove.f
  rw [if_neg (by omega)]
  have hb : x.tdiv 100 * 100 + x.tmod 100 = x := by rw [Int.mul_comm]; exact Int.mul_tdiv_add_tmod x 100
  have hm1 := Int.tmod_lt_of_pos x (show (0 : Int) < 100 by omega)
  have hm2 : -100 < x.tmod 100 := by
    have h := Int.tmod_lt_of_pos (-x) (show (0 : Int) < 100 by omega)
    rw [Int.neg_tmod] at h
    omega
  have hs1 : 0 ≤ x → 0 ≤ x.tmod 100 := fun h => Int.tmod_nonneg 100 h
  have hs2 : x ≤ 0 → x.tmod 100 ≤ 0 := fun h => by
    have := Int.tmod_nonneg (a := -x) 100 (by omega)
    rw [Int.neg_tmod] at this
    omega
  generalize x.tdiv 100 = q at *
  generalize x.tmod 100 = m at *
  have hq : wrap64 q = q := Small.w64 _ (by omega) (by omega)
  by_cases hm : m > 0
  · rw [if_pos hm, hq, Small.w64 _ (by omega) (by omega)]
    congr 1; omega
  · rw [if_neg hm, hq]
    congr 1; omega
/-- What a float is made of as a number: itself, where it is one; else what the tape says. -/
theorem to_int (b : Nat) : ∃ (zf : World → Int) (wf : World → World), (∀ W, (convert 70 3 (.float .f64 b)).run Tryd.prog W = .ok (.int .i64 (zf W)) (wf W)) ∧ (∀ W, Below W.heap.size W (wf W)) ∧ ∀ z, floatToIntVal .f64 b .i64 = some z → ∀ W, zf W = z := by
  have hs : (Tryd.prog.underlying 70).isSome = true := by kernel_rfl
  have hd : Tryd.prog.underlying 3 = some (.int .i64) := by kernel_rfl
  cases h : floatToIntVal .f64 b .i64 with
  | some z => exact ⟨fun _ => z, id, fun W => run_convert_float_int W 70 3 .f64 .i64 b z hs hd h, fun W => Below.refl _ _, fun z' e W => (Option.some.inj e)⟩
  | none =>
    have hs70 : Tryd.prog.underlying 70 = some (.float .f64) := by kernel_rfl
    have hfo : (Question.floatToInt .f64 b .i64).forced = false := by rfl
    have key : ∀ W, (convert 70 3 (.float .f64 b)).run Tryd.prog W = .ok (.int .i64 (IntKind.i64.wrap ((Question.floatToInt .f64 b .i64).cut (W.tape W.drawn (.floatToInt .f64 b .i64))))) W.drew := fun W => by
      unfold floatToIntVal at h
      split at h
      · rename_i n he
        split at h
        · cases h
        · rename_i hr
          have hr' : ¬(IntKind.i64.min ≤ n ∧ n ≤ 9223372036854775807) := hr
          simp [convert, run_underlying hs70, run_underlying hd, Conv.floatToInt, he, hr', hfo]
      · rename_i he
        simp [convert, run_underlying hs70, run_underlying hd, Conv.floatToInt, he, hfo]
    exact ⟨_, _, key, fun W => (by repeat (first | exact Below.refl _ _ | apply below_drew1)), fun z e => by cases e⟩
end Go.Proofs.YtihlmkgffifknaaDoor.Sc
