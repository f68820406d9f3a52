/- A number or a text: the given definitions of numbers as texts. -/
import Derived.Test.YtihlmkgffifknaaDoorPFnIntStrTextx1
import Derived.Test.YtihlmkgffifknaaDoorPFnIntStrTextx2
import Derived.Test.YtihlmkgffifknaaDoorNumL
import Derived.Test.YtihlmkgffifknaaDoorTxt
import Derived.Test.YtihlmkgffifknaaDoorEvs
set_option linter.unusedVariables false
set_option linter.unusedSimpArgs false
namespace Go.Proofs.YtihlmkgffifknaaDoor.Istr
open Go Go.RowKit Go.Proofs.YtihlmkgffifknaaDoor Go.Proofs.YtihlmkgffifknaaDoorW.PrintWords Go.Proofs.YtihlmkgffifknaaDoor.PFnIntStrText Go.Proofs.YtihlmkgffifknaaDoor.Txt

theorem whole_pos (s : ByteArray) (hs : s.size ≤ 2147483647) (m : Nat) : ∀ i acc : Nat, i + m = s.data.toList.length → acc ≤ 2147483647 →
    ∃ v ok, Ev (fun k => spec_NumWhole.l0 k s (-2147483648) 2147483647 false (acc : Int) (i : Int)) (v, ok) ∧ (ok = false → ∀ u, Lib.parseUintM 4294967295 acc (s.data.toList.drop i) = .ok u → ¬ u ≤ 2147483647) := by
  have hsz := size_len s
  induction m with
  | zero =>
    intro i acc hi ha
    refine ⟨acc, true, Evs.at1 fun k => ?_, fun h => by cases h⟩
    rw [spec_NumWhole.l0, if_neg (by omega), if_pos (by omega), decide_eq_true (by omega)]
  | succ m ih =>
    intro i acc hi ha
    have h : i < s.data.toList.length := by omega
    have hd := List.drop_eq_getElem_cons h
    have hc := UInt8.toNat_lt (s.data.toList[i])
    have e0 : wrap64 ((wrap64 (bt s (i : Int))) - 48) = ((s.data.toList[i]).toNat : Int) - 48 := by
      rw [bt_nat s i h, Small.w64 ((s.data.toList[i]).toNat : Int) (by omega) (by omega), Small.w64 _ (by omega) (by omega)]
    by_cases h0 : (s.data.toList[i]).toNat < 48
    · refine ⟨0, false, Ev.step (f := fun k => spec_NumWhole.j4 k s (-2147483648) 2147483647 false (acc : Int) (i : Int) (((s.data.toList[i]).toNat : Int) - 48) true) (fun k => ?_) (Evs.at1 fun k => by rw [spec_NumWhole.j4, if_pos rfl]), fun _ u hu => ?_⟩
      · rw [spec_NumWhole.l0, if_pos (by omega), if_pos (by omega), e0, if_pos (by omega)]
      · rw [hd] at hu
        have := (NumL.uint_step hu).1
        omega
    · by_cases h9 : 57 < (s.data.toList[i]).toNat
      · refine ⟨0, false, Ev.step (f := fun k => spec_NumWhole.j4 k s (-2147483648) 2147483647 false (acc : Int) (i : Int) (((s.data.toList[i]).toNat : Int) - 48) true) (fun k => ?_) (Evs.at1 fun k => by rw [spec_NumWhole.j4, if_pos rfl]), fun _ u hu => ?_⟩
        · rw [spec_NumWhole.l0, if_pos (by omega), if_pos (by omega), e0, if_neg (by omega), decide_eq_true (by omega)]
        · rw [hd] at hu
          have := (NumL.uint_step hu).2.1
          omega
      · have st : ∀ k, spec_NumWhole.l0 (k + 1) s (-2147483648) 2147483647 false (acc : Int) (i : Int) = spec_NumWhole.j4 k s (-2147483648) 2147483647 false (acc : Int) (i : Int) (((s.data.toList[i]).toNat : Int) - 48) false := fun k => by
          rw [spec_NumWhole.l0, if_pos (by omega), if_pos (by omega), e0, if_neg (by omega), decide_eq_false (by omega)]
        have e1 : wrap64 (Int.tdiv (wrap64 (2147483647 - (((s.data.toList[i]).toNat : Int) - 48))) 10) = (2147483647 - (((s.data.toList[i]).toNat : Int) - 48)) / 10 := by
          rw [Small.w64 (2147483647 - (((s.data.toList[i]).toNat : Int) - 48)) (by omega) (by omega), Int.tdiv_eq_ediv_of_nonneg (by omega), Small.w64 _ (by omega) (by omega)]
        by_cases hb : (2147483647 - (((s.data.toList[i]).toNat : Int) - 48)) / 10 < (acc : Int)
        · refine ⟨0, false, Ev.step st (Evs.at1 fun k => by rw [spec_NumWhole.j4, if_neg (by simp), if_neg (by simp), e1, if_pos hb]), fun _ u hu => ?_⟩
          rw [hd] at hu
          have := (NumL.uint_step hu).2.2.1
          omega
        · obtain ⟨v, ok, hv, hk⟩ := ih (i + 1) (acc * 10 + ((s.data.toList[i]).toNat - 48)) (by omega) (by omega)
          have e2 : wrap64 ((wrap64 (10 * (acc : Int))) + (((s.data.toList[i]).toNat : Int) - 48)) = ((acc * 10 + ((s.data.toList[i]).toNat - 48) : Nat) : Int) := by
            rw [Small.w64 (10 * (acc : Int)) (by omega) (by omega), Small.w64 _ (by omega) (by omega)]; omega
          refine ⟨v, ok, Ev.step st (Ev.step (fun k => by rw [spec_NumWhole.j4, if_neg (by simp), if_neg (by simp), e1, if_neg (show ¬ ((acc : Int) > _) from hb), e2, Small.w64s i (by omega)]) hv), fun ho u hu => ?_⟩
          rw [hd] at hu
          exact hk ho u (NumL.uint_step hu).2.2.2
theorem whole_neg (s : ByteArray) (hs : s.size ≤ 2147483647) (m : Nat) : ∀ i acc : Nat, i + m = s.data.toList.length → acc ≤ 2147483648 →
    ∃ v ok, Ev (fun k => spec_NumWhole.l0 k s (-2147483648) 2147483647 true (-(acc : Int)) (i : Int)) (v, ok) ∧ (ok = false → ∀ u, Lib.parseUintM 4294967295 acc (s.data.toList.drop i) = .ok u → ¬ u ≤ 2147483648) := by
  have hsz := size_len s
  induction m with
  | zero =>
    intro i acc hi ha
    refine ⟨-(acc : Int), true, Evs.at1 fun k => ?_, fun h => by cases h⟩
    rw [spec_NumWhole.l0, if_neg (by omega), if_pos (by omega), decide_eq_true (by omega)]
  | succ m ih =>
    intro i acc hi ha
    have h : i < s.data.toList.length := by omega
    have hd := List.drop_eq_getElem_cons h
    have hc := UInt8.toNat_lt (s.data.toList[i])
    have e0 : wrap64 ((wrap64 (bt s (i : Int))) - 48) = ((s.data.toList[i]).toNat : Int) - 48 := by
      rw [bt_nat s i h, Small.w64 ((s.data.toList[i]).toNat : Int) (by omega) (by omega), Small.w64 _ (by omega) (by omega)]
    by_cases h0 : (s.data.toList[i]).toNat < 48
    · refine ⟨0, false, Ev.step (f := fun k => spec_NumWhole.j4 k s (-2147483648) 2147483647 true (-(acc : Int)) (i : Int) (((s.data.toList[i]).toNat : Int) - 48) true) (fun k => ?_) (Evs.at1 fun k => by rw [spec_NumWhole.j4, if_pos rfl]), fun _ u hu => ?_⟩
      · rw [spec_NumWhole.l0, if_pos (by omega), if_pos (by omega), e0, if_pos (by omega)]
      · rw [hd] at hu
        have := (NumL.uint_step hu).1
        omega
    · by_cases h9 : 57 < (s.data.toList[i]).toNat
      · refine ⟨0, false, Ev.step (f := fun k => spec_NumWhole.j4 k s (-2147483648) 2147483647 true (-(acc : Int)) (i : Int) (((s.data.toList[i]).toNat : Int) - 48) true) (fun k => ?_) (Evs.at1 fun k => by rw [spec_NumWhole.j4, if_pos rfl]), fun _ u hu => ?_⟩
        · rw [spec_NumWhole.l0, if_pos (by omega), if_pos (by omega), e0, if_neg (by omega), decide_eq_true (by omega)]
        · rw [hd] at hu
          have := (NumL.uint_step hu).2.1
          omega
      · have st : ∀ k, spec_NumWhole.l0 (k + 1) s (-2147483648) 2147483647 true (-(acc : Int)) (i : Int) = spec_NumWhole.j4 k s (-2147483648) 2147483647 true (-(acc : Int)) (i : Int) (((s.data.toList[i]).toNat : Int) - 48) false := fun k => by
          rw [spec_NumWhole.l0, if_pos (by omega), if_pos (by omega), e0, if_neg (by omega), decide_eq_false (by omega)]
        have e1 : wrap64 (Int.tdiv (wrap64 (-2147483648 + (((s.data.toList[i]).toNat : Int) - 48))) 10) = -((2147483648 - (((s.data.toList[i]).toNat : Int) - 48)) / 10) := by
          rw [Small.w64 (-2147483648 + (((s.data.toList[i]).toNat : Int) - 48)) (by omega) (by omega), show (-2147483648 + (((s.data.toList[i]).toNat : Int) - 48)) = -(2147483648 - (((s.data.toList[i]).toNat : Int) - 48)) by omega, Int.neg_tdiv, Int.tdiv_eq_ediv_of_nonneg (by omega), Small.w64 _ (by omega) (by omega)]
        by_cases hb : (2147483648 - (((s.data.toList[i]).toNat : Int) - 48)) / 10 < (acc : Int)
        · refine ⟨0, false, Ev.step st (Evs.at1 fun k => by rw [spec_NumWhole.j4, if_neg (by simp), if_pos rfl, e1, if_pos (by omega)]), fun _ u hu => ?_⟩
          rw [hd] at hu
          have := (NumL.uint_step hu).2.2.1
          omega
        · obtain ⟨v, ok, hv, hk⟩ := ih (i + 1) (acc * 10 + ((s.data.toList[i]).toNat - 48)) (by omega) (by omega)
          have e2 : wrap64 ((wrap64 (10 * (-(acc : Int)))) - (((s.data.toList[i]).toNat : Int) - 48)) = -((acc * 10 + ((s.data.toList[i]).toNat - 48) : Nat) : Int) := by
            rw [Small.w64 (10 * (-(acc : Int))) (by omega) (by omega), Small.w64 _ (by omega) (by omega)]; omega
          refine ⟨v, ok, Ev.step st (Ev.step (fun k => by rw [spec_NumWhole.j4, if_neg (by simp), if_pos rfl, e1, if_neg (by omega), e2, Small.w64s i (by omega)]) hv), fun ho u hu => ?_⟩
          rw [hd] at hu
          exact hk ho u (NumL.uint_step hu).2.2.2

theorem tl_extract (s : ByteArray) (c : UInt8) (r : List UInt8) (h : s.data.toList = c :: r) : (s.extract 1 s.size).data.toList = r := by
  rw [data_extract, h, size_len, h]; simp
theorem bt_zero (s : ByteArray) (c : UInt8) (r : List UInt8) (h : s.data.toList = c :: r) : bt s 0 = (c.toNat : Int) := by
  have hl : 0 < s.data.toList.length := by rw [h]; simp
  have := bt_nat s 0 hl
  rw [show ((0 : Nat) : Int) = 0 from rfl] at this
  rw [this]
  simp only [h, List.getElem_cons_zero]
theorem whole_j2 (s : ByteArray) (hs : s.size ≤ 2147483647) (neg : Bool) : ∃ v ok, Ev (fun k => spec_NumWhole.j2 k s (-2147483648) 2147483647 neg) (v, ok) ∧ (ok = false → s.data.toList = [] ∨ ∀ u, Lib.parseUintM 4294967295 0 s.data.toList = .ok u → ¬ u ≤ (if neg then 2147483648 else 2147483647)) := by
  by_cases he : s.data.toList = []
  · exact ⟨0, false, Evs.at1 fun k => by rw [spec_NumWhole.j2, toL, if_pos he], fun _ => Or.inl he⟩
  · cases neg with
    | false =>
      obtain ⟨v, ok, h1, h2⟩ := whole_pos s hs s.data.toList.length 0 0 (by omega) (by omega)
      exact ⟨v, ok, Ev.step (fun k => by rw [spec_NumWhole.j2, toL, if_neg he]; rfl) h1, fun h => Or.inr (by simpa using h2 h)⟩
    | true =>
      obtain ⟨v, ok, h1, h2⟩ := whole_neg s hs s.data.toList.length 0 0 (by omega) (by omega)
      exact ⟨v, ok, Ev.step (fun k => by rw [spec_NumWhole.j2, toL, if_neg he]; rfl) h1, fun h => Or.inr (by simpa using h2 h)⟩
theorem u8ne (c d : UInt8) (n : Int) (hd : (d.toNat : Int) = n) (h : c ≠ d) : ((c.toNat : Int) == n) = false := beq_eq_false_iff_ne.2 (fun e => h (UInt8.toNat_inj.1 (by omega)))
/-- The given definition and the library's reader let by the same texts (this way round). -/
theorem whole_f (s : ByteArray) (hs : s.size ≤ 2147483647) : ∃ v ok, Ev (fun k => spec_NumWhole.f k s (-2147483648) 2147483647) (v, ok) ∧ (ok = false → ∀ u, Lib.parseIntB 32 s.data.toList ≠ .ok u) := by
  have hsz := size_len s
  cases h : s.data.toList with
  | nil =>
    obtain ⟨v, ok, h1, h2⟩ := whole_j2 s hs false
    refine ⟨v, ok, Evs.yes (by rw [toL, h]) (Ev.step (fun k => by rw [spec_NumWhole.j0, if_neg (by simp), toL, if_pos h]) (Ev.step (fun k => by rw [spec_NumWhole.j1, if_neg (by simp)]) h1)), fun _ u hu => ?_⟩
    simp [Lib.parseIntB] at hu
  | cons c r =>
    have hl : 1 ≤ s.size := by rw [hsz, h]; simp
    have hb := bt_zero s c r h
    have hx := tl_extract s c r h
    have hxs : (s.extract 1 s.size).size ≤ 2147483647 := by rw [size_len, hx]; rw [hsz, h] at hs; simp at hs; omega
    have he : ¬ s.toList = [] := by rw [toL, h]; simp
    by_cases h45 : c = 45
    · subst h45
      obtain ⟨v, ok, h1, h2⟩ := whole_j2 (s.extract 1 s.size) hxs true
      refine ⟨v, ok, Evs.no he (Evs.yes (by omega) ?_), fun ho u hu => ?_⟩
      · rw [hb]
        exact Ev.step (fun k => by rw [show ((((45 : UInt8).toNat : Int)) == 45) = true from rfl, spec_NumWhole.j0, if_pos rfl]) (Ev.step (fun k => by rw [spec_NumWhole.j1, if_pos rfl, if_pos (by omega)]) h1)
      · rw [hx] at h2
        rcases NumL.int_ok hu with ⟨r', u', e, hr, hp, hle, _⟩ | ⟨r', u', e, hr, hp, hle, _⟩
        · obtain rfl := (List.cons.inj e).2
          rcases h2 ho with h2 | h2
          · exact hr h2
          · exact h2 u' hp (by simpa using hle)
        · rcases e with e | ⟨e, c', t, e2, _, h5⟩
          · exact absurd (List.cons.inj e).1 (by decide)
          · rw [← e] at e2
            exact h5 (List.cons.inj e2).1.symm
    · have q45 : ((c.toNat : Int) == 45) = false := u8ne c 45 45 rfl h45
      by_cases h43 : c = 43
      · subst h43
        obtain ⟨v, ok, h1, h2⟩ := whole_j2 (s.extract 1 s.size) hxs false
        refine ⟨v, ok, Evs.no he (Evs.yes (by omega) ?_), fun ho u hu => ?_⟩
        · rw [hb]
          exact Ev.step (fun k => by rw [q45, spec_NumWhole.j0, if_neg (by simp), if_neg he, if_pos (by omega), hb, show ((((43 : UInt8).toNat : Int)) == 43) = true from rfl]) (Ev.step (fun k => by rw [spec_NumWhole.j1, if_pos rfl, if_pos (by omega)]) h1)
        · rw [hx] at h2
          rcases NumL.int_ok hu with ⟨r', u', e, hr, hp, hle, _⟩ | ⟨r', u', e, hr, hp, hle, _⟩
          · exact absurd (List.cons.inj e).1 (by decide)
          · rcases e with e | ⟨e, c', t, e2, h3, _⟩
            · obtain rfl := (List.cons.inj e).2
              rcases h2 ho with h2 | h2
              · exact hr h2
              · exact h2 u' hp (by simpa using hle)
            · rw [← e] at e2
              exact h3 (List.cons.inj e2).1.symm
      · have q43 : ((c.toNat : Int) == 43) = false := u8ne c 43 43 rfl h43
        obtain ⟨v, ok, h1, h2⟩ := whole_j2 s hs false
        refine ⟨v, ok, Evs.no he (Evs.yes (by omega) ?_), fun ho u hu => ?_⟩
        · rw [hb]
          exact Ev.step (fun k => by rw [q45, spec_NumWhole.j0, if_neg (by simp), if_neg he, if_pos (by omega), hb, q43]) (Ev.step (fun k => by rw [spec_NumWhole.j1, if_neg (by simp)]) h1)
        · rw [h] at h2
          rcases NumL.int_ok hu with ⟨r', u', e, hr, hp, hle, _⟩ | ⟨r', u', e, hr, hp, hle, _⟩
          · exact absurd (List.cons.inj e).1 h45
          · rcases e with e | ⟨e, c', t, e2, h3, _⟩
            · exact absurd (List.cons.inj e).1 h43
            · subst e
              rcases h2 ho with h2 | h2
              · exact hr h2
              · exact h2 u' hp (by simpa using hle)

/-! ### a number's digits -/
def sg (neg : Bool) (u : Nat) : Int := if neg then -(u : Int) else (u : Int)
def fin (neg : Bool) (xs : List Int) : ByteArray := if neg then (⟨#[45]⟩ : ByteArray) ++ strOfNums xs else strOfNums xs
def nums (u : Nat) : List Int := (Lib.decDigits u).map fun b => (b.toNat : Int)
theorem str_len (xs : List Int) : (strOfNums xs).size = xs.length := by rw [size_len]; unfold strOfNums; rw [data_mk, List.length_map]
theorem dig_zero (neg : Bool) (x3 : List Int) (h : x3.length ≤ 100) : Ev (fun k => spec_NumDigits.l0 k 0 x3 neg) (fin neg x3) := by
  refine Evs.at1 fun k => ?_
  rw [spec_NumDigits.l0, if_pos rfl]
  cases neg with
  | false => rw [if_neg (by simp)]; rfl
  | true => rw [if_pos rfl, str_len, if_pos (by omega)]; rfl
theorem dig_step (neg : Bool) (u : Nat) (h1 : 1 ≤ u) (h2 : u ≤ 2147483648) (x3 : List Int) (h : x3.length ≤ 100) (k : Nat) : spec_NumDigits.l0 (k + 1) (sg neg u) x3 neg = spec_NumDigits.l0 k (sg neg (u / 10)) (((48 + u % 10 : Nat) : Int) :: x3) neg := by
  cases neg with
  | false =>
    have e1 : Int.tmod (u : Int) 10 = ((u % 10 : Nat) : Int) := by rw [Int.tmod_eq_emod_of_nonneg (by omega)]; omega
    have e2 : Int.tdiv (u : Int) 10 = ((u / 10 : Nat) : Int) := by rw [Int.tdiv_eq_ediv_of_nonneg (by omega)]; omega
    have e3 : wrap64 (48 + ((u % 10 : Nat) : Int)) % 256 = ((48 + u % 10 : Nat) : Int) := by rw [Small.w64 _ (by omega) (by omega)]; omega
    have e4 : wrap64 ((u / 10 : Nat) : Int) = ((u / 10 : Nat) : Int) := Small.w64 _ (by omega) (by omega)
    simp only [sg, Bool.false_eq_true, if_false]
    rw [spec_NumDigits.l0, if_neg (by omega), e1, if_neg (by omega), e2, e3, e4]
    simp only [Option.bind_some, List.length_cons, List.length_nil, List.cons_append, List.nil_append]
    rw [if_pos (by omega)]
  | true =>
    have e1 : Int.tmod (-(u : Int)) 10 = -((u % 10 : Nat) : Int) := by rw [Int.neg_tmod, Int.tmod_eq_emod_of_nonneg (by omega)]; omega
    have e2 : Int.tdiv (-(u : Int)) 10 = -((u / 10 : Nat) : Int) := by rw [Int.neg_tdiv, Int.tdiv_eq_ediv_of_nonneg (by omega)]; omega
    have e4 : wrap64 (-((u / 10 : Nat) : Int)) = -((u / 10 : Nat) : Int) := Small.w64 _ (by omega) (by omega)
    simp only [sg, if_true]
    rw [spec_NumDigits.l0, if_neg (by omega), e1, e2, e4]
    by_cases hz : u % 10 = 0
    · have e3 : wrap64 (48 + -((u % 10 : Nat) : Int)) % 256 = ((48 + u % 10 : Nat) : Int) := by rw [Small.w64 _ (by omega) (by omega)]; omega
      rw [if_neg (by omega), e3]
      simp only [Option.bind_some, List.length_cons, List.length_nil, List.cons_append, List.nil_append]
      rw [if_pos (by omega)]
    · have e3 : wrap64 (48 + wrap64 (-(-((u % 10 : Nat) : Int)))) % 256 = ((48 + u % 10 : Nat) : Int) := by rw [Small.w64 (-(-((u % 10 : Nat) : Int))) (by omega) (by omega), Small.w64 _ (by omega) (by omega)]; omega
      rw [if_pos (by omega), e3]
      simp only [Option.bind_some, List.length_cons, List.length_nil, List.cons_append, List.nil_append]
      rw [if_pos (by omega)]
theorem nums_small (u : Nat) (h : u < 10) : nums u = [((48 + u % 10 : Nat) : Int)] := by
  unfold nums
  rw [Lib.decDigits_one h, List.map_cons, List.map_nil, NumL.ofNat_val u h, Nat.mod_eq_of_lt h]
theorem nums_big (u : Nat) (h : ¬ u < 10) : nums u = nums (u / 10) ++ [((48 + u % 10 : Nat) : Int)] := by
  unfold nums
  rw [Lib.decDigits, dif_neg h, List.map_append, List.map_cons, List.map_nil, NumL.ofNat_val (u % 10) (by omega)]
theorem dig_l0 (neg : Bool) (d : Nat) : ∀ (u : Nat) (x3 : List Int), 1 ≤ u → u ≤ 2147483648 → u < 10 ^ d → x3.length + d ≤ 100 → Ev (fun k => spec_NumDigits.l0 k (sg neg u) x3 neg) (fin neg (nums u ++ x3)) := by
  induction d with
  | zero => intro u x3 h1 _ h3 _; simp at h3; omega
  | succ d ih =>
    intro u x3 h1 h2 h3 h4
    refine Ev.step (fun k => dig_step neg u h1 h2 x3 (by omega) k) ?_
    by_cases h : u < 10
    · have e : u / 10 = 0 := by omega
      have e0 : sg neg 0 = 0 := by cases neg <;> rfl
      rw [e, e0, nums_small u h]
      exact dig_zero neg _ (by simp; omega)
    · rw [nums_big u h, List.append_assoc]
      exact ih (u / 10) _ (by omega) (by omega) (by rw [Nat.pow_succ] at h3; omega) (by simp; omega)
theorem fin_itoa (neg : Bool) (u : Nat) : (fin neg (nums u)).data.toList = if neg then 45 :: Lib.decDigits u else Lib.decDigits u := by
  have e : (strOfNums (nums u)).data.toList = Lib.decDigits u := by
    unfold strOfNums nums
    rw [data_mk, List.map_map]
    conv => rhs; rw [← List.map_id (Lib.decDigits u)]
    apply List.map_congr_left
    intro b _
    simp
  cases neg with
  | false => exact e
  | true =>
    show ((⟨#[45]⟩ : ByteArray) ++ strOfNums (nums u)).data.toList = _
    rw [data_append, e]; rfl
theorem digits_f (n : Int) (h0 : -2147483648 ≤ n) (h1 : n ≤ 2147483647) : Ev (fun k => spec_NumDigits.f k n) (⟨(Lib.itoa n).toArray⟩ : ByteArray) := by
  by_cases hz : n = 0
  · subst hz
    refine Evs.yes rfl ?_
    have : (⟨(Lib.itoa 0).toArray⟩ : ByteArray) = ⟨#[48]⟩ := by
      apply ext
      rw [data_mk]
      show Lib.itoa 0 = [48]
      unfold Lib.itoa
      rw [if_neg (by omega), show (0 : Int).toNat = 0 from rfl, Lib.decDigits_one (by omega)]; rfl
    rw [this]; exact Ev.now _
  · refine Evs.no hz ?_
    by_cases hn : n < 0
    · obtain ⟨u, rfl⟩ : ∃ u : Nat, n = -(u : Int) := ⟨n.natAbs, by omega⟩
      have h := dig_l0 true 10 u [] (by omega) (by omega) (by omega) (by simp)
      rw [List.append_nil] at h
      have e : fin true (nums u) = (⟨(Lib.itoa (-(u : Int))).toArray⟩ : ByteArray) := by
        apply ext
        rw [fin_itoa, data_mk, Lib.itoa_neg u (by omega)]; rfl
      rw [e] at h
      rw [decide_eq_true hn]; exact h
    · obtain ⟨u, rfl⟩ : ∃ u : Nat, n = (u : Int) := ⟨n.toNat, by omega⟩
      have h := dig_l0 false 10 u [] (by omega) (by omega) (by omega) (by simp)
      rw [List.append_nil] at h
      have e : fin false (nums u) = (⟨(Lib.itoa (u : Int)).toArray⟩ : ByteArray) := by
        apply ext
        rw [fin_itoa, data_mk, Lib.itoa_nonneg u]; rfl
      rw [e] at h
      rw [decide_eq_false hn]; exact h
end Go.Proofs.YtihlmkgffifknaaDoor.Istr
