/- Terms of a selector's text: the reference's are the program's; in plain Lean. -/
import Derived.Test.YthejejeginnbdaaGreatDoorFdM
import Derived.Test.YthejejeginnbdaaGreatDoorSmall
import Derived.Test.YthejejeginnbdaaGreatDoorEvs
set_option linter.unusedVariables false
set_option linter.unusedSimpArgs false
namespace Go.Proofs.YthejejeginnbdaaGreatDoor.FdR
open Go Go.RowKit Go.Proofs.YthejejeginnbdaaGreatDoor.PFnFieldTerm Go.Proofs.YthejejeginnbdaaGreatDoorW.PrintWords Go.Proofs.YthejejeginnbdaaGreatDoor.Txt Go.Proofs.YthejejeginnbdaaGreatDoor Go.Proofs.YthejejeginnbdaaGreatDoor.EscN Go.Proofs.YthejejeginnbdaaGreatDoor.FdN Go.Proofs.YthejejeginnbdaaGreatDoor.FdC Go.Proofs.YthejejeginnbdaaGreatDoor.FdS Go.Proofs.YthejejeginnbdaaGreatDoor.Fd

theorem fits2_f (l : List S43) : ∃ b, Ev (fun k => laws_zzFits2.f k l) b ∧ (b = true → l.length ≤ 2147483647 ∧ ∀ x ∈ l, x.f0.size ≤ 2147483647 ∧ x.f1.size ≤ 2147483647) := by
  unfold laws_zzFits2.f
  by_cases h0 : l.length ≤ 2147483647
  rotate_left
  · exact ⟨false, Evs.yes (by omega) ⟨0, fun _ _ => rfl⟩, by simp⟩
  have one : ∀ x : S43, laws_zzFits3.f x.f0 x.f1 = some (decide (x.f0.size ≤ 2147483647 ∧ x.f1.size ≤ 2147483647)) := fun x => by
    unfold laws_zzFits3.f
    by_cases h1 : x.f0.size ≤ 2147483647
    · by_cases h2 : x.f1.size ≤ 2147483647
      · rw [if_neg (by omega), if_neg (by omega), decide_eq_true ⟨h1, h2⟩]
      · rw [if_neg (by omega), if_pos (by omega), decide_eq_false (fun h => h2 h.2)]
    · rw [if_pos (by omega), decide_eq_false (fun h => h1 h.1)]
  have step : ∀ n i, i + n = l.length → (∀ x ∈ l.take i, x.f0.size ≤ 2147483647 ∧ x.f1.size ≤ 2147483647) → ∃ b, Ev (fun k => laws_zzFits2.l0 k l (l.length : Int) (i : Int)) b ∧ (b = true → ∀ x ∈ l, x.f0.size ≤ 2147483647 ∧ x.f1.size ≤ 2147483647) := by
    intro n
    induction n with
    | zero =>
      intro i hi ht
      rw [List.take_of_length_le (by omega)] at ht
      exact ⟨true, Evs.at1 fun k => by rw [laws_zzFits2.l0, if_neg (by omega)], fun _ => ht⟩
    | succ n ih =>
      intro i hi ht
      have h : i < l.length := by omega
      by_cases hs : l[i].f0.size ≤ 2147483647 ∧ l[i].f1.size ≤ 2147483647
      · obtain ⟨b, hb, hc⟩ := ih (i + 1) (by omega) (by
          rw [List.take_succ_eq_append_getElem h]
          intro x hx
          rcases List.mem_append.1 hx with hx | hx
          · exact ht x hx
          · rw [List.mem_singleton.1 hx]; exact hs)
        refine ⟨b, Ev.step (fun k => ?_) hb, hc⟩
        rw [laws_zzFits2.l0, if_pos (by omega), if_pos (by omega), if_pos (by omega), rd37 h, one, Option.bind_some, if_pos (by rw [decide_eq_true hs]), Small.w64s i (by omega)]
      · refine ⟨false, Evs.at1 fun k => ?_, by simp⟩
        rw [laws_zzFits2.l0, if_pos (by omega), if_pos (by omega), if_pos (by omega), rd37 h, one, Option.bind_some, if_neg (by rw [decide_eq_false hs]; simp)]
  obtain ⟨b, hb, hc⟩ := step l.length 0 (by omega) (by simp)
  exact ⟨b, Evs.no (by omega) hb, fun h => ⟨h0, hc h⟩⟩
theorem find_f (L : List S43) (key : ByteArray) (hl : L.length ≤ 8589934592) : Ev (fun k => spec_Find.f k L key) ((findP L key).getD ⟨#[]⟩, (findP L key).isSome) := by
  have step : ∀ i : Nat, i ≤ L.length → Ev (fun k => spec_Find.l0 k L key ((i : Int) - 1)) ((findP (L.take i) key).getD ⟨#[]⟩, (findP (L.take i) key).isSome) := by
    intro i
    induction i with
    | zero =>
      intro _
      refine Evs.at1 fun k => ?_
      rw [spec_Find.l0, if_neg (by omega)]; rfl
    | succ i ih =>
      intro hi
      have h : i < L.length := by omega
      rw [List.take_succ_eq_append_getElem h, find_snoc]
      by_cases e : L[i].f0.data.toList = key.data.toList
      · rw [if_pos e]
        refine Evs.at1 fun k => ?_
        rw [show ((i + 1 : Nat) : Int) - 1 = (i : Int) by omega, spec_Find.l0, if_pos (by omega), if_pos (by omega), if_pos (by omega), rd37 h, toL, toL, if_pos e]; rfl
      · rw [if_neg e]
        refine Ev.step (fun k => ?_) (ih (by omega))
        rw [show ((i + 1 : Nat) : Int) - 1 = (i : Int) by omega, spec_Find.l0, if_pos (by omega), if_pos (by omega), if_pos (by omega), rd37 h, toL, toL, if_neg e, Small.w64 _ (by omega) (by omega)]
  have := step L.length (Nat.le_refl _)
  rw [List.take_length] at this
  unfold spec_Find.f
  rw [Small.w64 _ (by omega) (by omega)]
  exact this
/-- Bytes as numbers. -/
def nums (l : List UInt8) : List Int := l.map (fun c => (c.toNat : Int))
theorem nums_str (l : List UInt8) : strOfNums (nums l) = ⟨l.toArray⟩ := by
  apply ext
  unfold strOfNums nums
  rw [data_mk, data_mk, List.map_map]
  have : ((fun n : Int => UInt8.ofNat n.toNat) ∘ fun c : UInt8 => (c.toNat : Int)) = id := by
    funext c; simp
  rw [this, List.map_id]
theorem bt_eq {c d : UInt8} {n : Int} (hn : (d.toNat : Int) = n) : ((c.toNat : Int) = n) ↔ c = d := ⟨fun h => UInt8.toNat_inj.1 (by omega), fun h => by rw [h]; exact hn⟩

theorem eq92 (c : UInt8) : ((c.toNat : Int) = 92) ↔ c = 92 := bt_eq (d := 92) (n := 92) rfl
theorem eq44 (c : UInt8) : ((c.toNat : Int) = 44) ↔ c = 44 := bt_eq (d := 44) (n := 44) rfl
theorem eq61 (c : UInt8) : ((c.toNat : Int) = 61) ↔ c = 61 := bt_eq (d := 61) (n := 61) rfl
theorem sign_f (c : UInt8) : spec_fieldSign.f (c.toNat : Int) = some (sign c) := by
  unfold spec_fieldSign.f sign
  by_cases h1 : c = 92
  · rw [if_pos ((eq92 _).2 h1), h1]; rfl
  by_cases h2 : c = 44
  · rw [if_neg (fun h => h1 ((eq92 _).1 h)), if_pos ((eq44 _).2 h2), h2]; rfl
  rw [if_neg (fun h => h1 ((eq92 _).1 h)), if_neg (fun h => h2 ((eq44 _).1 h)), beq_eq_false_iff_ne.2 h1, beq_eq_false_iff_ne.2 h2, Bool.false_or, Bool.false_or]
  congr 1
  rw [Bool.eq_iff_iff, beq_iff_eq, beq_iff_eq]
  exact eq61 c

def unR (o : Option (List UInt8)) (acc : List UInt8) : ByteArray × Bool := match o with
  | none => (⟨#[]⟩, false)
  | some v => (mk (acc ++ v), true)
theorem mk_one (acc : List UInt8) (c : UInt8) : mk acc ++ strOfNums [(c.toNat : Int)] = mk (acc ++ [c]) := by
  have h : strOfNums [(c.toNat : Int)] = mk [c] := nums_str [c]
  rw [h]
  exact ext (by rw [data_append])
theorem one_size (c : UInt8) : (strOfNums [(c.toNat : Int)]).size = 1 := by
  have h : strOfNums [(c.toNat : Int)] = mk [c] := nums_str [c]
  rw [h]; rfl
theorem mk_size (l : List UInt8) : (mk l).size = l.length := by rw [size_len]
theorem un_ev (s : ByteArray) (hs : s.size ≤ 8589934592) : ∀ (n i : Nat) (acc : List UInt8), s.size - i ≤ n → i ≤ s.size → acc.length ≤ i → Ev (fun k => spec_Unescape.l0 k s (mk acc) (i : Int)) (unR (un (s.data.toList.drop i)) acc) := by
  intro n
  have hz := size_len s
  induction n with
  | zero =>
    intro i acc h1 h2 h3
    refine Evs.at1 fun k => ?_
    rw [List.drop_eq_nil_of_le (by omega), un, spec_Unescape.l0, if_neg (by omega)]
    unfold unR; simp
  | succ n ih =>
    intro i acc h1 h2 h3
    by_cases hlt' : i < s.size
    rotate_left
    · refine Evs.at1 fun k => ?_
      rw [List.drop_eq_nil_of_le (by omega), un, spec_Unescape.l0, if_neg (by omega)]
      unfold unR; simp
    have hlt : i < s.data.toList.length := by omega
    have hd : s.data.toList.drop i = s.data.toList[i] :: s.data.toList.drop (i + 1) := List.drop_eq_getElem_cons hlt
    have hb := bt_nat s i hlt
    have w1 : wrap64 ((i : Int) + 1) = ((i + 1 : Nat) : Int) := Small.w64s i (by omega)
    have w2 : wrap64 (((i + 1 : Nat) : Int) + 1) = ((i + 1 + 1 : Nat) : Int) := Small.w64s (i + 1) (by omega)
    have hsz := mk_size acc
    by_cases hc : sign s.data.toList[i] = true
    · by_cases h92 : s.data.toList[i] = 92
      · have pre : ∀ k, spec_Unescape.l0 (k + 1) s (mk acc) (i : Int) = (if ((i + 1 : Nat) : Int) = (s.size : Int) then (some ((⟨#[]⟩ : ByteArray), false)) else (if 0 ≤ ((i + 1 : Nat) : Int) then (if ((i + 1 : Nat) : Int) < (s.size : Int) then ((spec_fieldSign.f (bt s ((i + 1 : Nat) : Int))).bind fun t163 => (if t163 = true then ((some (([bt s ((i + 1 : Nat) : Int)] : List Int) : List Int)).bind fun y164 => (if (mk acc).size + (strOfNums y164).size ≤ 9223372036854775807 then (spec_Unescape.l0 k s ((mk acc) ++ (strOfNums y164)) ((i + 1 + 1 : Nat) : Int)) else (none))) else (some ((⟨#[]⟩ : ByteArray), false)))) else (none)) else (none))) := fun k => by
          rw [spec_Unescape.l0, if_pos (by omega), if_pos (by omega), hb, sign_f, Option.bind_some, if_pos hc, if_pos ((eq92 _).2 h92), w1, w2]
        by_cases hend : i + 1 = s.size
        · have e : un (s.data.toList.drop i) = none := by rw [hd, h92, List.drop_eq_nil_of_le (by omega)]; exact un_end
          rw [e]
          exact Evs.at1 fun k => by rw [pre, if_pos (by omega)]; rfl
        · have hlt2 : i + 1 < s.data.toList.length := by omega
          have hd2 : s.data.toList.drop (i + 1) = s.data.toList[i + 1] :: s.data.toList.drop (i + 1 + 1) := List.drop_eq_getElem_cons hlt2
          have hb2 := bt_nat s (i + 1) hlt2
          by_cases hc2 : sign s.data.toList[i + 1] = true
          · have e : un (s.data.toList.drop i) = (un (s.data.toList.drop (i + 1 + 1))).map (s.data.toList[i + 1] :: ·) := by rw [hd, h92, hd2]; exact un_bs _ hc2
            have hi := ih (i + 1 + 1) (acc ++ [s.data.toList[i + 1]]) (by omega) (by omega) (by rw [List.length_append]; simp only [List.length_cons, List.length_nil]; omega)
            have e3 : unR (un (s.data.toList.drop i)) acc = unR (un (s.data.toList.drop (i + 1 + 1))) (acc ++ [s.data.toList[i + 1]]) := by
              rw [e]
              cases un (s.data.toList.drop (i + 1 + 1)) with
              | none => rfl
              | some v => unfold unR; simp
            rw [e3]
            refine Ev.step (fun k => ?_) hi
            rw [pre, if_neg (by omega), if_pos (by omega), if_pos (by omega), hb2, sign_f, Option.bind_some, if_pos hc2, Option.bind_some, if_pos (by rw [one_size]; omega), mk_one]
          · have e : un (s.data.toList.drop i) = none := by rw [hd, h92, hd2]; exact un_bad _ hc2
            rw [e]
            exact Evs.at1 fun k => by rw [pre, if_neg (by omega), if_pos (by omega), if_pos (by omega), hb2, sign_f, Option.bind_some, if_neg hc2]; rfl
      · have e : un (s.data.toList.drop i) = none := by rw [hd]; exact un_sign _ hc h92
        rw [e]
        refine Evs.at1 fun k => ?_
        rw [spec_Unescape.l0, if_pos (by omega), if_pos (by omega), hb, sign_f, Option.bind_some, if_pos hc, if_neg (fun h => h92 ((eq92 _).1 h))]; rfl
    · have e : un (s.data.toList.drop i) = (un (s.data.toList.drop (i + 1))).map (s.data.toList[i] :: ·) := by rw [hd]; exact un_cons _ hc
      have hi := ih (i + 1) (acc ++ [s.data.toList[i]]) (by omega) (by omega) (by rw [List.length_append]; simp only [List.length_cons, List.length_nil]; omega)
      have e3 : unR (un (s.data.toList.drop i)) acc = unR (un (s.data.toList.drop (i + 1))) (acc ++ [s.data.toList[i]]) := by
        rw [e]
        cases un (s.data.toList.drop (i + 1)) with
        | none => rfl
        | some v => unfold unR; simp
      rw [e3]
      refine Ev.step (fun k => ?_) hi
      rw [spec_Unescape.l0, if_pos (by omega), if_pos (by omega), hb, sign_f, Option.bind_some, if_neg hc, Option.bind_some, if_pos (by rw [one_size]; omega), mk_one, w1]
theorem unescape_ev (l : List UInt8) (hl : l.length ≤ 8589934592) : Ev (fun k => spec_Unescape.f k (mk l)) (unR (un l) []) := by
  have h := un_ev (mk l) (by rw [mk_size]; exact hl) _ 0 [] (Nat.le_refl _) (Nat.zero_le _) (Nat.le_refl _)
  exact h
def tmS (t : Tm) : S26 := ⟨t.2.1, if t.1 = true then ⟨#[61]⟩ else ⟨#[33, 61]⟩, t.2.2⟩
def termsR (o : Option (List Tm)) (acc : List S26) : List S26 × Bool := match o with
  | none => ([], false)
  | some I => (acc ++ (keep I).map tmS, true)
theorem rd44 {l : List S26} {i : Nat} (h : i < l.length) : rd_T26 l (i : Int) = l[i] := by simp [rd_T26, List.getD_eq_getElem?_getD, List.getElem?_eq_getElem h]
theorem match_ev (L : List S43) (hL : L.length ≤ 8589934592) (ts : List Tm) (ht : ts.length ≤ 8589934592) : ∀ (n i : Nat), ts.length - i = n → i ≤ ts.length → Ev (fun k => spec_FieldMatch.l0 k (ts.map tmS) L (i : Int)) ((ts.drop i).all (matchT L)) := by
  intro n
  induction n with
  | zero =>
    intro i h1 h2
    refine Evs.at1 fun k => ?_
    rw [List.drop_eq_nil_of_le (by omega), spec_FieldMatch.l0, if_neg (by rw [List.length_map]; omega)]; rfl
  | succ n ih =>
    intro i h1 h2
    have hlt : i < ts.length := by omega
    have hf := find_f L (ts[i]).2.1 hL
    have hr : rd_T26 (ts.map tmS) (i : Int) = tmS ts[i] := by rw [rd44 (by rw [List.length_map]; exact hlt), List.getElem_map]
    rw [List.drop_eq_getElem_cons hlt, List.all_cons]
    have hm : (((getP L ts[i].2.1).toList == (tmS ts[i]).f2.toList) != ((tmS ts[i]).f1.toList == ([61] : List UInt8))) = !(matchT L ts[i]) := by
      have e1 : ((tmS ts[i]).f1.toList == ([61] : List UInt8)) = ts[i].1 := by
        unfold tmS
        cases ts[i].1 with
        | true => rw [if_pos rfl, toL]; rfl
        | false => rw [if_neg (by simp), toL]; rfl
      rw [e1]; rfl
    refine Ev.step (f := fun k => (spec_Find.f k L (ts[i]).2.1).bind fun bt200 => (if ((bt200.1.toList == ((tmS ts[i]).f2).toList) != (((tmS ts[i]).f1).toList == ([61] : List UInt8))) = true then (some false) else (spec_FieldMatch.l0 k (ts.map tmS) L ((i + 1 : Nat) : Int)))) (fun k => ?_) (Ev.bind hf ?_)
    · rw [spec_FieldMatch.l0, if_pos (by rw [List.length_map]; omega), if_pos (by omega), hr, Small.w64s i (by omega)]; rfl
    · show Ev (fun k => if (((getP L ts[i].2.1).toList == (tmS ts[i]).f2.toList) != ((tmS ts[i]).f1.toList == ([61] : List UInt8))) = true then (some false) else (spec_FieldMatch.l0 k (ts.map tmS) L ((i + 1 : Nat) : Int))) _
      rw [hm]
      cases hq : matchT L ts[i] with
      | true => exact Evs.no (by simp) (by rw [Bool.true_and]; exact ih (i + 1) (by omega) hlt)
      | false => exact Evs.yes rfl (by rw [Bool.false_and]; exact Ev.now _)
theorem fieldMatch_ev (L : List S43) (hL : L.length ≤ 8589934592) (ts : List Tm) (ht : ts.length ≤ 8589934592) : Ev (fun k => spec_FieldMatch.f k (ts.map tmS) L) (ts.all (matchT L)) := by
  have := match_ev L hL ts ht _ 0 rfl (Nat.zero_le _)
  rw [List.drop_zero] at this
  exact this
end Go.Proofs.YthejejeginnbdaaGreatDoor.FdR
