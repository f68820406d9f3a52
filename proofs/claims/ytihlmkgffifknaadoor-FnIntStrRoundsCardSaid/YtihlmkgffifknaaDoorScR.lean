/- A part by percent: a small number's text and a percent sign behind it. -/
import Derived.Test.YtihlmkgffifknaaDoorPFnIntStrTextx1
import Derived.Test.YtihlmkgffifknaaDoorScL
import Derived.Lib.ItoaMem
import Derived.Lib.AtoiAll
set_option linter.unusedVariables false
set_option linter.unusedSimpArgs false
namespace Go.Proofs.YtihlmkgffifknaaDoor.Sc
open Go Go.Sort Go.RowKit Go.Proofs.YtihlmkgffifknaaDoor Go.Proofs.YtihlmkgffifknaaDoorW.PrintWords Go.Proofs.YtihlmkgffifknaaDoor.PFnIntStrText Go.Proofs.YtihlmkgffifknaaDoor.Txt

theorem ofNat_val (d : Nat) (h : d < 10) : (UInt8.ofNat (48 + d)).toNat = 48 + d := by rw [UInt8.toNat_ofNat']; omega
/-! ### a number's digits -/
def fin (neg : Bool) (xs : List Int) : ByteArray := if neg then (⟨#[45]⟩ : ByteArray) ++ strOfNums xs else strOfNums xs
def nums (u : Nat) : List Int := (Lib.decDigits u).map fun b => (b.toNat : Int)
theorem str_len (xs : List Int) : (strOfNums xs).size = xs.length := by rw [size_len]; unfold strOfNums; rw [data_mk, List.length_map]
theorem dig_zero (neg : Bool) (x3 : List Int) (h : x3.length ≤ 100) : Ev (fun k => spec_NumDigits.l0 k 0 x3 neg) (fin neg x3) := by
  refine Evs.at1 fun k => ?_
  rw [spec_NumDigits.l0, if_pos rfl]
  cases neg with
  | false => rw [if_neg (by simp)]; rfl
  | true => rw [if_pos rfl, str_len, if_pos (by omega)]; rfl
theorem dig_step (neg : Bool) (u : Nat) (h1 : 1 ≤ u) (h2 : u ≤ 2147483648) (x3 : List Int) (h : x3.length ≤ 100) (k : Nat) : spec_NumDigits.l0 (k + 1) (sg neg u) x3 neg = spec_NumDigits.l0 k (sg neg (u / 10)) (((48 + u % 10 : Nat) : Int) :: x3) neg := by
  cases neg with
  | false =>
    have e1 : Int.tmod (u : Int) 10 = ((u % 10 : Nat) : Int) := by rw [Int.tmod_eq_emod_of_nonneg (by omega)]; omega
    have e2 : Int.tdiv (u : Int) 10 = ((u / 10 : Nat) : Int) := by rw [Int.tdiv_eq_ediv_of_nonneg (by omega)]; omega
    have e3 : wrap64 (48 + ((u % 10 : Nat) : Int)) % 256 = ((48 + u % 10 : Nat) : Int) := by rw [Small.w64 _ (by omega) (by omega)]; omega
    have e4 : wrap64 ((u / 10 : Nat) : Int) = ((u / 10 : Nat) : Int) := Small.w64 _ (by omega) (by omega)
    simp only [sg, Bool.false_eq_true, if_false]
    rw [spec_NumDigits.l0, if_neg (by omega), e1, if_neg (by omega), e2, e3, e4]
    simp only [Option.bind_some, List.length_cons, List.length_nil, List.cons_append, List.nil_append]
    rw [if_pos (by omega)]
  | true =>
    have e1 : Int.tmod (-(u : Int)) 10 = -((u % 10 : Nat) : Int) := by rw [Int.neg_tmod, Int.tmod_eq_emod_of_nonneg (by omega)]; omega
    have e2 : Int.tdiv (-(u : Int)) 10 = -((u / 10 : Nat) : Int) := by rw [Int.neg_tdiv, Int.tdiv_eq_ediv_of_nonneg (by omega)]; omega
    have e4 : wrap64 (-((u / 10 : Nat) : Int)) = -((u / 10 : Nat) : Int) := Small.w64 _ (by omega) (by omega)
    simp only [sg, if_true]
    rw [spec_NumDigits.l0, if_neg (by omega), e1, e2, e4]
    by_cases hz : u % 10 = 0
    · have e3 : wrap64 (48 + -((u % 10 : Nat) : Int)) % 256 = ((48 + u % 10 : Nat) : Int) := by rw [Small.w64 _ (by omega) (by omega)]; omega
      rw [if_neg (by omega), e3]
      simp only [Option.bind_some, List.length_cons, List.length_nil, List.cons_append, List.nil_append]
      rw [if_pos (by omega)]
    · have e3 : wrap64 (48 + wrap64 (-(-((u % 10 : Nat) : Int)))) % 256 = ((48 + u % 10 : Nat) : Int) := by rw [Small.w64 (-(-((u % 10 : Nat) : Int))) (by omega) (by omega), Small.w64 _ (by omega) (by omega)]; omega
      rw [if_pos (by omega), e3]
      simp only [Option.bind_some, List.length_cons, List.length_nil, List.cons_append, List.nil_append]
      rw [if_pos (by omega)]
theorem nums_small (u : Nat) (h : u < 10) : nums u = [((48 + u % 10 : Nat) : Int)] := by
  unfold nums
  rw [Lib.decDigits_one h, List.map_cons, List.map_nil, ofNat_val u h, Nat.mod_eq_of_lt h]
theorem nums_big (u : Nat) (h : ¬ u < 10) : nums u = nums (u / 10) ++ [((48 + u % 10 : Nat) : Int)] := by
  unfold nums
  rw [Lib.decDigits, dif_neg h, List.map_append, List.map_cons, List.map_nil, ofNat_val (u % 10) (by omega)]
theorem dig_l0 (neg : Bool) (d : Nat) : ∀ (u : Nat) (x3 : List Int), 1 ≤ u → u ≤ 2147483648 → u < 10 ^ d → x3.length + d ≤ 100 → Ev (fun k => spec_NumDigits.l0 k (sg neg u) x3 neg) (fin neg (nums u ++ x3)) := by
  induction d with
  | zero => intro u x3 h1 _ h3 _; simp at h3; omega
  | succ d ih =>
    intro u x3 h1 h2 h3 h4
    refine Ev.step (fun k => dig_step neg u h1 h2 x3 (by omega) k) ?_
    by_cases h : u < 10
    · have e : u / 10 = 0 := by omega
      have e0 : sg neg 0 = 0 := by cases neg <;> rfl
      rw [e, e0, nums_small u h]
      exact dig_zero neg _ (by simp; omega)
    · rw [nums_big u h, List.append_assoc]
      exact ih (u / 10) _ (by omega) (by omega) (by rw [Nat.pow_succ] at h3; omega) (by simp; omega)
theorem fin_itoa (neg : Bool) (u : Nat) : (fin neg (nums u)).data.toList = if neg then 45 :: Lib.decDigits u else Lib.decDigits u := by
  have e : (strOfNums (nums u)).data.toList = Lib.decDigits u := by
    unfold strOfNums nums
    rw [data_mk, List.map_map]
    conv => rhs; rw [← List.map_id (Lib.decDigits u)]
    apply List.map_congr_left
    intro b _
    simp
  cases neg with
  | false => exact e
  | true =>
    show ((⟨#[45]⟩ : ByteArray) ++ strOfNums (nums u)).data.toList = _
    rw [data_append, e]; rfl
theorem digits_f (n : Int) (h0 : -2147483648 ≤ n) (h1 : n ≤ 2147483647) : Ev (fun k => spec_NumDigits.f k n) (⟨(Lib.itoa n).toArray⟩ : ByteArray) := by
  by_cases hz : n = 0
  · subst hz
    refine Evs.yes rfl ?_
    have : (⟨(Lib.itoa 0).toArray⟩ : ByteArray) = ⟨#[48]⟩ := by
      apply ext
      rw [data_mk]
      show Lib.itoa 0 = [48]
      unfold Lib.itoa
      rw [if_neg (by omega), show (0 : Int).toNat = 0 from rfl, Lib.decDigits_one (by omega)]; rfl
    rw [this]; exact Ev.now _
  · refine Evs.no hz ?_
    by_cases hn : n < 0
    · obtain ⟨u, rfl⟩ : ∃ u : Nat, n = -(u : Int) := ⟨n.natAbs, by omega⟩
      have h := dig_l0 true 10 u [] (by omega) (by omega) (by omega) (by simp)
      rw [List.append_nil] at h
      have e : fin true (nums u) = (⟨(Lib.itoa (-(u : Int))).toArray⟩ : ByteArray) := by
        apply ext
        rw [fin_itoa, data_mk, Lib.itoa_neg u (by omega)]; rfl
      rw [e] at h
      rw [decide_eq_true hn]; exact h
    · obtain ⟨u, rfl⟩ : ∃ u : Nat, n = (u : Int) := ⟨n.toNat, by omega⟩
      have h := dig_l0 false 10 u [] (by omega) (by omega) (by omega) (by simp)
      rw [List.append_nil] at h
      have e : fin false (nums u) = (⟨(Lib.itoa (u : Int)).toArray⟩ : ByteArray) := by
        apply ext
        rw [fin_itoa, data_mk, Lib.itoa_nonneg u]; rfl
      rw [e] at h
      rw [decide_eq_false hn]; exact h

theorem u10_snoc : ∀ (l : List UInt8) (acc n d : Nat) (b : UInt8), Lib.parseUint10 acc l = .ok n → 48 ≤ b.toNat → b.toNat ≤ 57 → d = b.toNat - 48 → n < 1844674407370955161 → Lib.parseUint10 acc (l ++ [b]) = .ok (n * 10 + d)
  | [], acc, n, d, b, h, h0, h1, hd, hn => by
    simp only [Lib.parseUint10] at h
    injection h with h
    subst h hd
    simp only [List.nil_append, Lib.parseUint10]
    rw [if_pos ⟨h0, h1⟩, if_neg (by omega), if_neg (by omega)]
  | c :: r, acc, n, d, b, h, h0, h1, hd, hn => by
    simp only [List.cons_append, Lib.parseUint10] at h ⊢
    split at h
    · rename_i hc
      rw [if_pos hc]
      split at h
      · cases h
      · rename_i h2
        rw [if_neg h2]
        split at h
        · cases h
        · rename_i h3
          rw [if_neg h3]
          exact u10_snoc r _ n d b h h0 h1 hd hn
    · cases h
theorem u10_dig (u : Nat) (hu : u ≤ 1000000) : Lib.parseUint10 0 (Lib.decDigits u) = .ok u := by
  induction u using Nat.strongRecOn with
  | ind u ih =>
    rw [Lib.decDigits]
    split
    · rename_i h
      have e := ofNat_val u h
      simp only [Lib.parseUint10]
      rw [e, if_pos ⟨by omega, by omega⟩, if_neg (by omega), if_neg (by omega)]
      congr 1; omega
    · have e := ofNat_val (u % 10) (by omega)
      have := u10_snoc _ 0 (u / 10) (u % 10) _ (ih (u / 10) (by omega) (by omega)) (by rw [e]; omega) (by rw [e]; omega) (by rw [e]; omega) (by omega)
      rw [this]
      congr 1; omega
theorem dig_first (u : Nat) : ∃ c r, Lib.decDigits u = c :: r ∧ 48 ≤ c.toNat ∧ c.toNat ≤ 57 := by
  induction u using Nat.strongRecOn with
  | ind u ih =>
    rw [Lib.decDigits]
    split
    · rename_i h
      exact ⟨_, [], rfl, by rw [ofNat_val u h]; omega, by rw [ofNat_val u h]; omega⟩
    · obtain ⟨c, r, h1, h2, h3⟩ := ih (u / 10) (by omega)
      exact ⟨c, r ++ [UInt8.ofNat (48 + u % 10)], by rw [h1]; rfl, h2, h3⟩
theorem dig_len (u : Nat) : ∀ d, u < 10 ^ (d + 1) → (Lib.decDigits u).length ≤ d + 1 := by
  induction u using Nat.strongRecOn with
  | ind u ih =>
    intro d hd
    rw [Lib.decDigits]
    split
    · simp
    · cases d with
      | zero => simp at hd; omega
      | succ d =>
        have := ih (u / 10) (by omega) d (by rw [Nat.pow_succ] at hd; omega)
        simp; omega
theorem atoi_dig (u : Nat) (hu : u ≤ 1000000) : Lib.atoiAll (Lib.decDigits u) = .ok (u : Int) := by
  obtain ⟨c, r, h, h0, h1⟩ := dig_first u
  have hp := u10_dig u hu
  have hT : Told false (Lib.parseMag (Lib.decDigits u)) (u : Int) true := by
    unfold Lib.parseMag
    rw [if_neg (by rw [h]; simp), hp]
    exact Or.inl ⟨u, rfl, by simp only [lim, Bool.false_eq_true, if_false]; omega, rfl, rfl⟩
  rw [h] at hT ⊢
  rcases same_of c r (c :: r) false (decide_eq_false (by omega)) (if_neg (by omega)) (u : Int) true hT with ⟨e, _⟩ | ⟨e, _⟩
  · exact e
  · cases e
/-- The digits of a number up to 255, and a percent sign behind them. -/
abbrev dg (u : Nat) : ByteArray := ⟨(Lib.itoa (u : Int)).toArray⟩
abbrev pc (u : Nat) : ByteArray := dg u ++ ⟨#[37]⟩
theorem dg_list (u : Nat) : (dg u).data.toList = Lib.decDigits u := by rw [data_mk, Lib.itoa_nonneg]
theorem pc_facts (u : Nat) (hu : u ≤ 255) : (dg u).size ≤ 3 ∧ PFnIntStrScaled.strings_HasSuffix.f (pc u) ⟨#[37]⟩ = some true ∧ PFnIntStrScaled.strings_TrimSuffix.f (pc u) ⟨#[37]⟩ = some (dg u) ∧ Lib.atoiAll (dg u).data.toList = .ok (u : Int) := by
  have hl : (dg u).size ≤ 3 := by
    rw [size_len, dg_list]
    exact dig_len u 2 (by omega)
  have hsz : (pc u).size = (dg u).size + 1 := by
    rw [size_len, data_append, List.length_append, ← size_len]; rfl
  have s1 : (((⟨#[37]⟩ : ByteArray).size : Nat) : Int) = 1 := rfl
  have hw : wrap64 (((pc u).size : Int) - 1) = ((dg u).size : Int) := by rw [Small.w64 _ (by omega) (by omega)]; omega
  have ht : (((dg u).size : Int)).toNat = (dg u).size := by omega
  have hlast : ((pc u).extract (dg u).size (pc u).size).toList = (⟨#[37]⟩ : ByteArray).toList := by
    rw [toL, toL, data_extract, data_append, hsz, size_len, List.drop_left]
    simp
  have hH : PFnIntStrScaled.stringslite_HasSuffix.f (pc u) ⟨#[37]⟩ = some true := by
    unfold PFnIntStrScaled.stringslite_HasSuffix.f
    rw [s1, hw, if_pos (by omega), if_pos (by omega), if_pos (by omega), ht, hlast]
    simp
  have hx : (pc u).extract 0 (dg u).size = dg u := by
    apply ext
    rw [data_extract, data_append, List.drop_zero, Nat.sub_zero, size_len, List.take_left]
  refine ⟨hl, ?_, ?_, by rw [dg_list]; exact atoi_dig u (by omega)⟩
  · unfold PFnIntStrScaled.strings_HasSuffix.f
    rw [hH]; rfl
  · unfold PFnIntStrScaled.strings_TrimSuffix.f PFnIntStrScaled.stringslite_TrimSuffix.f
    rw [hH]
    simp only [Option.bind_some, if_true]
    rw [s1, hw, if_pos (by omega), if_pos (by omega), ht, hx]
    rfl
end Go.Proofs.YtihlmkgffifknaaDoor.Sc
