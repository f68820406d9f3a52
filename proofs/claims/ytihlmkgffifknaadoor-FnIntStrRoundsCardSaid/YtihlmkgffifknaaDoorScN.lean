/- A part by percent: the given definition of a whole number in a text, and the library's. -/
import Derived.Test.YtihlmkgffifknaaDoorPFnIntStrScaledx1
import Derived.Test.YtihlmkgffifknaaDoorPFnIntStrScaledx2
import Derived.Test.YtihlmkgffifknaaDoorSmall
import Derived.Test.YtihlmkgffifknaaDoorTxt
import Derived.Test.YtihlmkgffifknaaDoorEvs
import Derived.Lib.AtoiAll
set_option linter.unusedVariables false
set_option linter.unusedSimpArgs false
namespace Go.Proofs.YtihlmkgffifknaaDoor.Sc
open Go Go.RowKit Go.Proofs.YtihlmkgffifknaaDoor Go.Proofs.YtihlmkgffifknaaDoorW.PrintWords Go.Proofs.YtihlmkgffifknaaDoor.PFnIntStrScaled Go.Proofs.YtihlmkgffifknaaDoor.Txt

theorem u10_ge : ∀ (l : List UInt8) (acc u : Nat), Lib.parseUint10 acc l = .ok u → acc ≤ u
  | [], acc, u, h => by
    simp only [Lib.parseUint10] at h
    injection h with h
    omega
  | c :: r, acc, u, h => by
    simp only [Lib.parseUint10] at h
    split at h
    · split at h
      · cases h
      · split at h
        · cases h
        · have := u10_ge r _ u h
          omega
    · cases h
theorem u10_step {acc u : Nat} {c : UInt8} {r : List UInt8} (h : Lib.parseUint10 acc (c :: r) = .ok u) : 48 ≤ c.toNat ∧ c.toNat ≤ 57 ∧ acc * 10 + (c.toNat - 48) ≤ u := by
  simp only [Lib.parseUint10] at h
  split at h
  · rename_i hd
    split at h
    · cases h
    · split at h
      · cases h
      · exact ⟨hd.1, hd.2, u10_ge r _ u h⟩
  · cases h
theorem u10_next {acc : Nat} {c : UInt8} {r : List UInt8} (h0 : 48 ≤ c.toNat) (h1 : c.toNat ≤ 57) (h : acc * 10 + (c.toNat - 48) ≤ 9223372036854775808) : Lib.parseUint10 acc (c :: r) = Lib.parseUint10 (acc * 10 + (c.toNat - 48)) r := by
  simp only [Lib.parseUint10]
  rw [if_pos ⟨h0, h1⟩, if_neg (by omega), if_neg (by omega)]
def sg (neg : Bool) (u : Nat) : Int := if neg then -(u : Int) else (u : Int)
def lim (neg : Bool) : Nat := if neg then 9223372036854775808 else 9223372036854775807
/-- What is told of a number's digits. -/
def Told (neg : Bool) (p : Lib.NumEnd Nat) (v : Int) (ok : Bool) : Prop := (∃ u, p = .ok u ∧ u ≤ lim neg ∧ v = sg neg u ∧ ok = true) ∨ (ok = false ∧ ∀ u, p = .ok u → ¬ u ≤ lim neg)

theorem cap_pos (d : Int) (h0 : 0 ≤ d) (h1 : d ≤ 9) : wrap64 (Int.tdiv (wrap64 (9223372036854775807 - d)) 10) = (9223372036854775807 - d) / 10 := by
  rw [Small.w64 (9223372036854775807 - d) (by omega) (by omega), Int.tdiv_eq_ediv_of_nonneg (by omega), Small.w64 _ (by omega) (by omega)]
theorem cap_neg (d : Int) (h0 : 0 ≤ d) (h1 : d ≤ 9) : wrap64 (Int.tdiv (wrap64 (-9223372036854775808 + d)) 10) = -((9223372036854775808 - d) / 10) := by
  rw [Small.w64 (-9223372036854775808 + d) (by omega) (by omega), show (-9223372036854775808 + d) = -(9223372036854775808 - d) by omega, Int.neg_tdiv, Int.tdiv_eq_ediv_of_nonneg (by omega), Small.w64 _ (by omega) (by omega)]
theorem more_pos (acc d : Nat) (h0 : 48 ≤ d) (h1 : d ≤ 57) (h : acc * 10 + (d - 48) ≤ 9223372036854775807) : wrap64 ((wrap64 (10 * (acc : Int))) + ((d : Int) - 48)) = ((acc * 10 + (d - 48) : Nat) : Int) := by
  rw [Small.w64 (10 * (acc : Int)) (by omega) (by omega), Small.w64 _ (by omega) (by omega)]; omega
theorem more_neg (acc d : Nat) (h0 : 48 ≤ d) (h1 : d ≤ 57) (h : acc * 10 + (d - 48) ≤ 9223372036854775808) : wrap64 ((wrap64 (10 * (-(acc : Int)))) - ((d : Int) - 48)) = -((acc * 10 + (d - 48) : Nat) : Int) := by
  rw [Small.w64 (10 * (-(acc : Int))) (by omega) (by omega), Small.w64 _ (by omega) (by omega)]; omega
theorem whole_l0 (s : ByteArray) (hs : s.size ≤ 2147483647) (neg : Bool) (m : Nat) : ∀ i acc : Nat, i + m = s.data.toList.length → acc ≤ lim neg →
    ∃ v ok, Ev (fun k => spec_NumWhole.l0 k s (-9223372036854775808) 9223372036854775807 neg (sg neg acc) (i : Int)) (v, ok) ∧ Told neg (Lib.parseUint10 acc (s.data.toList.drop i)) v ok := by
  have hsz := size_len s
  induction m with
  | zero =>
    intro i acc hi ha
    have hd : s.data.toList.drop i = [] := List.drop_eq_nil_of_le (by omega)
    refine ⟨sg neg acc, true, Evs.at1 fun k => ?_, Or.inl ⟨acc, by rw [hd]; rfl, ha, rfl, rfl⟩⟩
    rw [spec_NumWhole.l0, if_neg (by omega)]
    cases neg
    · simp only [sg, lim, Bool.false_eq_true, if_false] at *
      rw [if_pos (by omega), decide_eq_true (by omega)]
    · simp only [sg, lim, if_true] at *
      rw [if_pos (by omega), decide_eq_true (by omega)]
  | succ m ih =>
    intro i acc hi ha
    have h : i < s.data.toList.length := by omega
    have hd := List.drop_eq_getElem_cons h
    have hc := UInt8.toNat_lt (s.data.toList[i])
    have e0 : wrap64 ((wrap64 (bt s (i : Int))) - 48) = ((s.data.toList[i]).toNat : Int) - 48 := by
      rw [bt_nat s i h, Small.w64 ((s.data.toList[i]).toNat : Int) (by omega) (by omega), Small.w64 _ (by omega) (by omega)]
    by_cases h0 : (s.data.toList[i]).toNat < 48
    · refine ⟨0, false, Ev.step (f := fun k => spec_NumWhole.j4 k s (-9223372036854775808) 9223372036854775807 neg (sg neg acc) (i : Int) (((s.data.toList[i]).toNat : Int) - 48) true) (fun k => ?_) (Evs.at1 fun k => by rw [spec_NumWhole.j4, if_pos rfl]), Or.inr ⟨rfl, fun u hu => ?_⟩⟩
      · rw [spec_NumWhole.l0, if_pos (by omega), if_pos (by omega), e0, if_pos (by omega)]
      · rw [hd] at hu
        have := (u10_step hu).1
        omega
    · by_cases h9 : 57 < (s.data.toList[i]).toNat
      · refine ⟨0, false, Ev.step (f := fun k => spec_NumWhole.j4 k s (-9223372036854775808) 9223372036854775807 neg (sg neg acc) (i : Int) (((s.data.toList[i]).toNat : Int) - 48) true) (fun k => ?_) (Evs.at1 fun k => by rw [spec_NumWhole.j4, if_pos rfl]), Or.inr ⟨rfl, fun u hu => ?_⟩⟩
        · rw [spec_NumWhole.l0, if_pos (by omega), if_pos (by omega), e0, if_neg (by omega), decide_eq_true (by omega)]
        · rw [hd] at hu
          have := (u10_step hu).2.1
          omega
      · have st : ∀ k, spec_NumWhole.l0 (k + 1) s (-9223372036854775808) 9223372036854775807 neg (sg neg acc) (i : Int) = spec_NumWhole.j4 k s (-9223372036854775808) 9223372036854775807 neg (sg neg acc) (i : Int) (((s.data.toList[i]).toNat : Int) - 48) false := fun k => by
          rw [spec_NumWhole.l0, if_pos (by omega), if_pos (by omega), e0, if_neg (by omega), decide_eq_false (by omega)]
        by_cases hb : acc * 10 + ((s.data.toList[i]).toNat - 48) ≤ lim neg
        · obtain ⟨v, ok, hv, hk⟩ := ih (i + 1) (acc * 10 + ((s.data.toList[i]).toNat - 48)) (by omega) hb
          have hl : lim neg ≤ 9223372036854775808 := by cases neg <;> decide
          refine ⟨v, ok, Ev.step st (Ev.step (fun k => ?_) hv), by rw [hd, u10_next (by omega) (by omega) (by omega)]; exact hk⟩
          clear st e0 ih hv hk hl
          cases neg
          · simp only [sg, lim, Bool.false_eq_true, if_false] at *
            rw [spec_NumWhole.j4, if_neg (by simp), if_neg (by simp), cap_pos _ (by omega) (by omega), if_neg (by omega), more_pos _ _ (by omega) (by omega) (by omega), Small.w64s i (by omega)]
          · simp only [sg, lim, if_true] at *
            rw [spec_NumWhole.j4, if_neg (by simp), if_pos rfl, cap_neg _ (by omega) (by omega), if_neg (by omega), more_neg _ _ (by omega) (by omega) (by omega), Small.w64s i (by omega)]
        · refine ⟨0, false, Ev.step st (Evs.at1 fun k => ?_), Or.inr ⟨rfl, fun u hu => ?_⟩⟩
          · clear st e0 ih
            cases neg
            · simp only [sg, lim, Bool.false_eq_true, if_false] at *
              rw [spec_NumWhole.j4, if_neg (by simp), if_neg (by simp), cap_pos _ (by omega) (by omega), if_pos (by omega)]
            · simp only [sg, lim, if_true] at *
              rw [spec_NumWhole.j4, if_neg (by simp), if_pos rfl, cap_neg _ (by omega) (by omega), if_pos (by omega)]
          · clear st e0 ih
            rw [hd] at hu
            have := (u10_step hu).2.2
            omega
theorem whole_j2 (s : ByteArray) (hs : s.size ≤ 2147483647) (neg : Bool) : ∃ v ok, Ev (fun k => spec_NumWhole.j2 k s (-9223372036854775808) 9223372036854775807 neg) (v, ok) ∧ Told neg (Lib.parseMag s.data.toList) v ok := by
  by_cases he : s.data.toList = []
  · exact ⟨0, false, Evs.at1 fun k => by rw [spec_NumWhole.j2, toL, if_pos he], Or.inr ⟨rfl, fun u hu => by unfold Lib.parseMag at hu; rw [if_pos he] at hu; cases hu⟩⟩
  · obtain ⟨v, ok, h1, h2⟩ := whole_l0 s hs neg s.data.toList.length 0 0 (by omega) (by omega)
    refine ⟨v, ok, Ev.step (fun k => by rw [spec_NumWhole.j2, toL, if_neg he]; cases neg <;> rfl) h1, ?_⟩
    unfold Lib.parseMag
    rw [if_neg he]
    exact h2
theorem tl_extract (s : ByteArray) (c : UInt8) (r : List UInt8) (h : s.data.toList = c :: r) : (s.extract 1 s.size).data.toList = r := by
  rw [data_extract, h, size_len, h]; simp
theorem bt_zero (s : ByteArray) (c : UInt8) (r : List UInt8) (h : s.data.toList = c :: r) : bt s 0 = (c.toNat : Int) := by
  have hl : 0 < s.data.toList.length := by rw [h]; simp
  have := bt_nat s 0 hl
  rw [show ((0 : Nat) : Int) = 0 from rfl] at this
  rw [this]
  simp only [h, List.getElem_cons_zero]
/-- What the library ends with, told as the definition tells it. -/
def Same (p : Lib.NumEnd Int) (v : Int) (ok : Bool) : Prop := (p = .ok v ∧ ok = true) ∨ (ok = false ∧ ∀ u, p ≠ .ok u)
theorem same_of (c : UInt8) (r l : List UInt8) (neg : Bool) (hn : decide (c.toNat = 45) = neg) (hl : (if c.toNat = 43 ∨ c.toNat = 45 then r else c :: r) = l) (v : Int) (ok : Bool) (h : Told neg (Lib.parseMag l) v ok) : Same (Lib.atoiAll (c :: r)) v ok := by
  have e : Lib.atoiAll (c :: r) = match Lib.parseMag l with | .ok u => (if u ≤ lim neg then .ok (sg neg u) else .range) | .range => .range | _ => Lib.atoiAll [] := by
    simp only [Lib.atoiAll, hl]
    cases hp : Lib.parseMag l with
    | ok u =>
      by_cases hc : c.toNat = 45
      · rw [decide_eq_true hc] at hn
        subst hn
        simp only [hc, not_true_eq_false, false_and, if_false, true_and, if_true, lim, sg]
        by_cases hu : u ≤ 9223372036854775808
        · rw [if_pos hu, if_neg (by omega)]
        · rw [if_neg hu, if_pos (by omega)]
      · rw [decide_eq_false hc] at hn
        subst hn
        simp only [hc, not_false_eq_true, true_and, false_and, if_false, lim, sg, Bool.false_eq_true]
        by_cases hu : u ≤ 9223372036854775807
        · rw [if_pos hu, if_neg (by omega)]
        · rw [if_neg hu, if_pos (by omega)]
    | _ => rfl
  rw [e]
  rcases h with ⟨u, hp, hu, rfl, rfl⟩ | ⟨rfl, hp⟩
  · rw [hp]
    exact Or.inl ⟨if_pos hu, rfl⟩
  · refine Or.inr ⟨rfl, fun u hu => ?_⟩
    cases hq : Lib.parseMag l with
    | ok u' =>
      rw [hq] at hu
      simp only [if_neg (hp u' hq)] at hu
      cases hu
    | _ =>
      rw [hq] at hu
      cases hu
theorem u8ne (c d : UInt8) (n : Int) (hd : (d.toNat : Int) = n) (h : c ≠ d) : ((c.toNat : Int) == n) = false := beq_eq_false_iff_ne.2 (fun e => h (UInt8.toNat_inj.1 (by omega)))
/-- The given definition and the library tell the same. -/
theorem whole_f (s : ByteArray) (hs : s.size ≤ 2147483647) : ∃ v ok, Ev (fun k => spec_NumWhole.f k s (-9223372036854775808) 9223372036854775807) (v, ok) ∧ Same (Lib.atoiAll s.data.toList) v ok := by
  have hsz := size_len s
  cases h : s.data.toList with
  | nil =>
    obtain ⟨v, ok, h1, h2⟩ := whole_j2 s hs false
    refine ⟨v, ok, Evs.yes (by rw [toL, h]) (Ev.step (fun k => by rw [spec_NumWhole.j0, if_neg (by simp), toL, if_pos h]) (Ev.step (fun k => by rw [spec_NumWhole.j1, if_neg (by simp)]) h1)), ?_⟩
    rw [h] at h2
    rcases h2 with ⟨u, hp, _⟩ | ⟨rfl, _⟩
    · cases hp
    · exact Or.inr ⟨rfl, fun u hu => by cases hu⟩
  | cons c r =>
    have hl : 1 ≤ s.size := by rw [hsz, h]; simp
    have hb := bt_zero s c r h
    have hx := tl_extract s c r h
    have hxs : (s.extract 1 s.size).size ≤ 2147483647 := by rw [size_len, hx]; rw [hsz, h] at hs; simp at hs; omega
    have he : ¬ s.toList = [] := by rw [toL, h]; simp
    by_cases h45 : c = 45
    · subst h45
      obtain ⟨v, ok, h1, h2⟩ := whole_j2 (s.extract 1 s.size) hxs true
      refine ⟨v, ok, Evs.no he (Evs.yes (by omega) ?_), ?_⟩
      · rw [hb]
        exact Ev.step (fun k => by rw [show ((((45 : UInt8).toNat : Int)) == 45) = true from rfl, spec_NumWhole.j0, if_pos rfl]) (Ev.step (fun k => by rw [spec_NumWhole.j1, if_pos rfl, if_pos (by omega)]) h1)
      · rw [hx] at h2
        exact same_of 45 r r true rfl rfl v ok h2
    · have q45 : ((c.toNat : Int) == 45) = false := u8ne c 45 45 rfl h45
      have n45 : ¬ c.toNat = 45 := fun e => h45 (UInt8.toNat_inj.1 e)
      by_cases h43 : c = 43
      · subst h43
        obtain ⟨v, ok, h1, h2⟩ := whole_j2 (s.extract 1 s.size) hxs false
        refine ⟨v, ok, Evs.no he (Evs.yes (by omega) ?_), ?_⟩
        · rw [hb]
          exact Ev.step (fun k => by rw [q45, spec_NumWhole.j0, if_neg (by simp), if_neg he, if_pos (by omega), hb, show ((((43 : UInt8).toNat : Int)) == 43) = true from rfl]) (Ev.step (fun k => by rw [spec_NumWhole.j1, if_pos rfl, if_pos (by omega)]) h1)
        · rw [hx] at h2
          exact same_of 43 r r false rfl rfl v ok h2
      · have q43 : ((c.toNat : Int) == 43) = false := u8ne c 43 43 rfl h43
        have n43 : ¬ c.toNat = 43 := fun e => h43 (UInt8.toNat_inj.1 e)
        obtain ⟨v, ok, h1, h2⟩ := whole_j2 s hs false
        refine ⟨v, ok, Evs.no he (Evs.yes (by omega) ?_), ?_⟩
        · rw [hb]
          exact Ev.step (fun k => by rw [q45, spec_NumWhole.j0, if_neg (by simp), if_neg he, if_pos (by omega), hb, q43]) (Ev.step (fun k => by rw [spec_NumWhole.j1, if_neg (by simp)]) h1)
        · rw [h] at h2
          exact same_of c r (c :: r) false (decide_eq_false n45) (if_neg (by omega)) v ok h2
end Go.Proofs.YtihlmkgffifknaaDoor.Sc
