/- Terms of a selector's text: the reference's are the program's; in plain Lean. -/
import Derived.Test.YthejejeginnbdaaGreatDoorFdM
import Derived.Test.YthejejeginnbdaaGreatDoorFdQ
set_option linter.unusedVariables false
set_option linter.unusedSimpArgs false
namespace Go.Proofs.YthejejeginnbdaaGreatDoor.FdR
open Go Go.RowKit Go.Proofs.YthejejeginnbdaaGreatDoor.PFnFieldTurn Go.Proofs.YthejejeginnbdaaGreatDoorW.PrintWords Go.Proofs.YthejejeginnbdaaGreatDoor.Txt Go.Proofs.YthejejeginnbdaaGreatDoor Go.Proofs.YthejejeginnbdaaGreatDoor.EscN Go.Proofs.YthejejeginnbdaaGreatDoor.FdN Go.Proofs.YthejejeginnbdaaGreatDoor.FdC Go.Proofs.YthejejeginnbdaaGreatDoor.FdS Go.Proofs.YthejejeginnbdaaGreatDoor.Fd

theorem fits2_f (l : List S43) : ∃ b, Ev (fun k => laws_zzFits2.f k l) b ∧ (b = true → l.length ≤ 2147483647 ∧ ∀ x ∈ l, x.f0.size ≤ 2147483647 ∧ x.f1.size ≤ 2147483647) := by
  unfold laws_zzFits2.f
  by_cases h0 : l.length ≤ 2147483647
  rotate_left
  · exact ⟨false, Evs.yes (by omega) ⟨0, fun _ _ => rfl⟩, by simp⟩
  have one : ∀ x : S43, laws_zzFits3.f x.f0 x.f1 = some (decide (x.f0.size ≤ 2147483647 ∧ x.f1.size ≤ 2147483647)) := fun x => by
    unfold laws_zzFits3.f
    by_cases h1 : x.f0.size ≤ 2147483647
    · by_cases h2 : x.f1.size ≤ 2147483647
      · rw [if_neg (by omega), if_neg (by omega), decide_eq_true ⟨h1, h2⟩]
      · rw [if_neg (by omega), if_pos (by omega), decide_eq_false (fun h => h2 h.2)]
    · rw [if_pos (by omega), decide_eq_false (fun h => h1 h.1)]
  have step : ∀ n i, i + n = l.length → (∀ x ∈ l.take i, x.f0.size ≤ 2147483647 ∧ x.f1.size ≤ 2147483647) → ∃ b, Ev (fun k => laws_zzFits2.l0 k l (l.length : Int) (i : Int)) b ∧ (b = true → ∀ x ∈ l, x.f0.size ≤ 2147483647 ∧ x.f1.size ≤ 2147483647) := by
    intro n
    induction n with
    | zero =>
      intro i hi ht
      rw [List.take_of_length_le (by omega)] at ht
      exact ⟨true, Evs.at1 fun k => by rw [laws_zzFits2.l0, if_neg (by omega)], fun _ => ht⟩
    | succ n ih =>
      intro i hi ht
      have h : i < l.length := by omega
      by_cases hs : l[i].f0.size ≤ 2147483647 ∧ l[i].f1.size ≤ 2147483647
      · obtain ⟨b, hb, hc⟩ := ih (i + 1) (by omega) (by
          rw [List.take_succ_eq_append_getElem h]
          intro x hx
          rcases List.mem_append.1 hx with hx | hx
          · exact ht x hx
          · rw [List.mem_singleton.1 hx]; exact hs)
        refine ⟨b, Ev.step (fun k => ?_) hb, hc⟩
        rw [laws_zzFits2.l0, if_pos (by omega), if_pos (by omega), if_pos (by omega), rd37 h, one, Option.bind_some, if_pos (by rw [decide_eq_true hs]), Small.w64s i (by omega)]
      · refine ⟨false, Evs.at1 fun k => ?_, by simp⟩
        rw [laws_zzFits2.l0, if_pos (by omega), if_pos (by omega), if_pos (by omega), rd37 h, one, Option.bind_some, if_neg (by rw [decide_eq_false hs]; simp)]
  obtain ⟨b, hb, hc⟩ := step l.length 0 (by omega) (by simp)
  exact ⟨b, Evs.no (by omega) hb, fun h => ⟨h0, hc h⟩⟩
theorem find_f (L : List S43) (key : ByteArray) (hl : L.length ≤ 8589934592) : Ev (fun k => spec_Find.f k L key) ((findP L key).getD ⟨#[]⟩, (findP L key).isSome) := by
  have step : ∀ i : Nat, i ≤ L.length → Ev (fun k => spec_Find.l0 k L key ((i : Int) - 1)) ((findP (L.take i) key).getD ⟨#[]⟩, (findP (L.take i) key).isSome) := by
    intro i
    induction i with
    | zero =>
      intro _
      refine Evs.at1 fun k => ?_
      rw [spec_Find.l0, if_neg (by omega)]; rfl
    | succ i ih =>
      intro hi
      have h : i < L.length := by omega
      rw [List.take_succ_eq_append_getElem h, find_snoc]
      by_cases e : L[i].f0.data.toList = key.data.toList
      · rw [if_pos e]
        refine Evs.at1 fun k => ?_
        rw [show ((i + 1 : Nat) : Int) - 1 = (i : Int) by omega, spec_Find.l0, if_pos (by omega), if_pos (by omega), if_pos (by omega), rd37 h, toL, toL, if_pos e]; rfl
      · rw [if_neg e]
        refine Ev.step (fun k => ?_) (ih (by omega))
        rw [show ((i + 1 : Nat) : Int) - 1 = (i : Int) by omega, spec_Find.l0, if_pos (by omega), if_pos (by omega), if_pos (by omega), rd37 h, toL, toL, if_neg e, Small.w64 _ (by omega) (by omega)]
  have := step L.length (Nat.le_refl _)
  rw [List.take_length] at this
  unfold spec_Find.f
  rw [Small.w64 _ (by omega) (by omega)]
  exact this
/-- Bytes as numbers. -/
def nums (l : List UInt8) : List Int := l.map (fun c => (c.toNat : Int))
theorem nums_str (l : List UInt8) : strOfNums (nums l) = ⟨l.toArray⟩ := by
  apply ext
  unfold strOfNums nums
  rw [data_mk, data_mk, List.map_map]
  have : ((fun n : Int => UInt8.ofNat n.toNat) ∘ fun c : UInt8 => (c.toNat : Int)) = id := by
    funext c; simp
  rw [this, List.map_id]
theorem bt_eq {c d : UInt8} {n : Int} (hn : (d.toNat : Int) = n) : ((c.toNat : Int) = n) ↔ c = d := ⟨fun h => UInt8.toNat_inj.1 (by omega), fun h => by rw [h]; exact hn⟩

theorem eq92 (c : UInt8) : ((c.toNat : Int) = 92) ↔ c = 92 := bt_eq (d := 92) (n := 92) rfl
theorem eq44 (c : UInt8) : ((c.toNat : Int) = 44) ↔ c = 44 := bt_eq (d := 44) (n := 44) rfl
theorem eq61 (c : UInt8) : ((c.toNat : Int) = 61) ↔ c = 61 := bt_eq (d := 61) (n := 61) rfl
theorem sign_f (c : UInt8) : spec_fieldSign.f (c.toNat : Int) = some (sign c) := by
  unfold spec_fieldSign.f sign
  by_cases h1 : c = 92
  · rw [if_pos ((eq92 _).2 h1), h1]; rfl
  by_cases h2 : c = 44
  · rw [if_neg (fun h => h1 ((eq92 _).1 h)), if_pos ((eq44 _).2 h2), h2]; rfl
  rw [if_neg (fun h => h1 ((eq92 _).1 h)), if_neg (fun h => h2 ((eq44 _).1 h)), beq_eq_false_iff_ne.2 h1, beq_eq_false_iff_ne.2 h2, Bool.false_or, Bool.false_or]
  congr 1
  rw [Bool.eq_iff_iff, beq_iff_eq, beq_iff_eq]
  exact eq61 c

theorem ex2 (s : ByteArray) (i : Nat) : (s.extract i (i + 2)).toList = (s.data.toList.drop i).take 2 := by rw [toL, data_extract, show i + 2 - i = 2 by omega]
def cutR (s : ByteArray) (i : Nat) : ByteArray × ByteArray × ByteArray × Bool := match cutOp (s.data.toList.drop i) with
  | none => (⟨#[]⟩, ⟨#[]⟩, ⟨#[]⟩, false)
  | some q => (mk (s.data.toList.take i ++ q.1), mk q.2.1, mk q.2.2, true)
theorem mkE {a b : List UInt8} (h : a = b) : mk a = mk b := by rw [h]
theorem ex0 (s : ByteArray) (i : Nat) : s.extract 0 i = mk (s.data.toList.take i) := ex_take s i
theorem exd (s : ByteArray) (i : Nat) : s.extract i s.size = mk (s.data.toList.drop i) := ex_drop s i
theorem cut_ev (s : ByteArray) (hs : s.size ≤ 8589934592) : ∀ (n i : Nat), s.size - i = n → i ≤ s.size → Ev (fun k => spec_FieldCut.l0 k s (i : Int)) (cutR s i) := by
  intro n
  have hz := size_len s
  induction n with
  | zero =>
    intro i h1 h2
    refine Evs.at1 fun k => ?_
    unfold cutR
    rw [List.drop_eq_nil_of_le (by omega), spec_FieldCut.l0, if_neg (by omega)]; rfl
  | succ n ih =>
    intro i h1 h2
    have hlt : i < s.data.toList.length := by omega
    have hd : s.data.toList.drop i = s.data.toList[i] :: s.data.toList.drop (i + 1) := List.drop_eq_getElem_cons hlt
    have w1 : wrap64 ((i : Int) + 1) = ((i + 1 : Nat) : Int) := Small.w64s i (by omega)
    have w2 : wrap64 ((i : Int) + 2) = ((i + 2 : Nat) : Int) := by rw [Small.w64 _ (by omega) (by omega)]; omega
    have hb := bt_nat s i hlt
    have hl2 : (s.data.toList.drop i).length = s.size - i := by rw [List.length_drop]; omega
    -- two signs
    have two : ∀ o : List UInt8, o.length = 2 → (∃ u, s.data.toList.drop i = o ++ u) → FdN.opAt (s.data.toList.drop i) = some o → Ev (fun k => spec_FieldCut.j1 k s (i : Int) true) (cutR s i) := fun o ho2 ⟨u, hu⟩ hq => by
      have hge : 2 ≤ s.size - i := by rw [← hl2, hu, List.length_append]; omega
      have hc : cutOp (s.data.toList.drop i) = some ([], o, (s.data.toList.drop i).drop 2) := by
        rw [hd] at hq ⊢
        rw [cutOp, hq]; simp only [ho2]
      refine Evs.at1 fun k => ?_
      unfold cutR
      rw [hc, spec_FieldCut.j1, if_pos rfl, if_pos (by omega), if_pos (by omega), w2, if_pos (by omega), if_pos (by omega), if_pos (by omega)]
      simp only [Int.toNat_natCast, List.append_nil]
      rw [ex0, exd]
      congr 2
      rw [show (s.extract i (i + 2)) = mk o from ext (by rw [data_extract, hu, show i + 2 - i = 2 by omega, List.take_left' ho2])]
      rw [List.drop_drop]
    have one : s.data.toList[i] = 61 → FdN.opAt (s.data.toList.drop i) = some [61] → Ev (fun k => spec_FieldCut.j1 k s (i : Int) false) (cutR s i) := fun h61 hq => by
      have hc : cutOp (s.data.toList.drop i) = some ([], [61], s.data.toList.drop (i + 1)) := by
        rw [hd] at hq ⊢
        rw [cutOp, hq]; rfl
      refine Evs.at1 fun k => ?_
      unfold cutR
      rw [hc, spec_FieldCut.j1, if_neg (by simp), if_pos (by omega), if_pos (by omega), hb, if_pos (by rw [h61]; rfl), if_pos (by omega), w1, if_pos (by omega), if_pos (by omega)]
      simp only [Int.toNat_natCast, List.append_nil]
      rw [ex0, exd]
    have more : s.data.toList[i] ≠ 61 → FdN.opAt (s.data.toList.drop i) = none → Ev (fun k => spec_FieldCut.j1 k s (i : Int) false) (cutR s i) := fun h61 hq => by
      have hi := ih (i + 1) (by omega) (by omega)
      have e : cutR s i = cutR s (i + 1) := by
        unfold cutR
        rw [hd] at hq ⊢
        rw [cut_skip hq]
        cases hc : cutOp (s.data.toList.drop (i + 1)) with
        | none => rfl
        | some q =>
          show (mk (s.data.toList.take i ++ s.data.toList[i] :: q.1), _, _, true) = (mk (s.data.toList.take (i + 1) ++ q.1), _, _, true)
          rw [List.take_succ_eq_append_getElem hlt, List.append_assoc]; rfl
      rw [e]
      refine Ev.step (fun k => ?_) hi
      rw [spec_FieldCut.j1, if_neg (by simp), if_pos (by omega), if_pos (by omega), hb, if_neg (fun h => h61 ((eq61 _).1 h)), w1]
    have head : ∀ (b : Bool), (i + 1 < s.size → ((s.data.toList.drop i).take 2 = [33, 61] ∧ b = true ∨ (s.data.toList.drop i).take 2 ≠ [33, 61] ∧ b = ((s.data.toList.drop i).take 2 == [61, 61]))) → (¬ i + 1 < s.size → b = false) → Ev (fun k => spec_FieldCut.j1 k s (i : Int) b) (cutR s i) → Ev (fun k => spec_FieldCut.l0 k s (i : Int)) (cutR s i) := fun b hb1 hb2 e => by
      refine Ev.step (fun k => ?_) e
      by_cases hlt2 : i + 1 < s.size
      · rw [spec_FieldCut.l0, if_pos (by omega), w1, if_pos (by omega), if_pos (by omega), w2, if_pos (by omega), if_pos (by omega)]
        simp only [Int.toNat_natCast]
        rw [ex2]
        rcases hb1 hlt2 with ⟨h, rfl⟩ | ⟨h, rfl⟩
        · rw [if_pos h]
        · rw [if_neg h]
      · rw [spec_FieldCut.l0, if_pos (by omega), w1, if_neg (by omega), hb2 hlt2]
    rcases opAt_cases (s.data.toList.drop i) with ⟨u, e, hq⟩ | ⟨u, e, hq⟩ | ⟨u, e, hu, hq⟩ | ⟨hq, hn2, hn1⟩
    · have hge : 2 ≤ s.size - i := by rw [← hl2, e]; simp
      exact head true (fun _ => Or.inl ⟨by rw [e]; rfl, rfl⟩) (fun h => by omega) (two [33, 61] rfl ⟨u, e⟩ hq)
    · have hge : 2 ≤ s.size - i := by rw [← hl2, e]; simp
      exact head true (fun _ => Or.inr ⟨by rw [e]; intro h; injection h with h _; exact absurd h (by decide), by rw [e]; rfl⟩) (fun h => by omega) (two [61, 61] rfl ⟨u, e⟩ hq)
    · have h61 : s.data.toList[i] = 61 := by rw [hd] at e; injection e
      refine head false (fun h => Or.inr ?_) (fun _ => rfl) (one h61 hq)
      have hne : (s.data.toList.drop i).take 2 ≠ [61, 61] := by
        rw [e]
        cases u with
        | nil => decide
        | cons d v => intro h; injection h with _ h; injection h with h _; exact hu (by rw [h]; rfl)
      exact ⟨by rw [e]; intro h; injection h with h _; exact absurd h (by decide), (beq_eq_false_iff_ne.2 hne).symm⟩
    · have h61 : s.data.toList[i] ≠ 61 := fun h => hn1 (by rw [hd, h]; rfl)
      refine head false (fun h => Or.inr ⟨hn2, (beq_eq_false_iff_ne.2 (fun h2 => hn1 ?_)).symm⟩) (fun _ => rfl) (more h61 hq)
      have := congrArg (List.take 1) h2
      rw [List.take_take] at this
      exact this
def unR (o : Option (List UInt8)) (acc : List UInt8) : ByteArray × Bool := match o with
  | none => (⟨#[]⟩, false)
  | some v => (mk (acc ++ v), true)
theorem mk_one (acc : List UInt8) (c : UInt8) : mk acc ++ strOfNums [(c.toNat : Int)] = mk (acc ++ [c]) := by
  have h : strOfNums [(c.toNat : Int)] = mk [c] := nums_str [c]
  rw [h]
  exact ext (by rw [data_append])
theorem one_size (c : UInt8) : (strOfNums [(c.toNat : Int)]).size = 1 := by
  have h : strOfNums [(c.toNat : Int)] = mk [c] := nums_str [c]
  rw [h]; rfl
theorem mk_size (l : List UInt8) : (mk l).size = l.length := by rw [size_len]
theorem un_ev (s : ByteArray) (hs : s.size ≤ 8589934592) : ∀ (n i : Nat) (acc : List UInt8), s.size - i ≤ n → i ≤ s.size → acc.length ≤ i → Ev (fun k => spec_Unescape.l0 k s (mk acc) (i : Int)) (unR (un (s.data.toList.drop i)) acc) := by
  intro n
  have hz := size_len s
  induction n with
  | zero =>
    intro i acc h1 h2 h3
    refine Evs.at1 fun k => ?_
    rw [List.drop_eq_nil_of_le (by omega), un, spec_Unescape.l0, if_neg (by omega)]
    unfold unR; simp
  | succ n ih =>
    intro i acc h1 h2 h3
    by_cases hlt' : i < s.size
    rotate_left
    · refine Evs.at1 fun k => ?_
      rw [List.drop_eq_nil_of_le (by omega), un, spec_Unescape.l0, if_neg (by omega)]
      unfold unR; simp
    have hlt : i < s.data.toList.length := by omega
    have hd : s.data.toList.drop i = s.data.toList[i] :: s.data.toList.drop (i + 1) := List.drop_eq_getElem_cons hlt
    have hb := bt_nat s i hlt
    have w1 : wrap64 ((i : Int) + 1) = ((i + 1 : Nat) : Int) := Small.w64s i (by omega)
    have w2 : wrap64 (((i + 1 : Nat) : Int) + 1) = ((i + 1 + 1 : Nat) : Int) := Small.w64s (i + 1) (by omega)
    have hsz := mk_size acc
    by_cases hc : sign s.data.toList[i] = true
    · by_cases h92 : s.data.toList[i] = 92
      · have pre : ∀ k, spec_Unescape.l0 (k + 1) s (mk acc) (i : Int) = (if ((i + 1 : Nat) : Int) = (s.size : Int) then (some ((⟨#[]⟩ : ByteArray), false)) else (if 0 ≤ ((i + 1 : Nat) : Int) then (if ((i + 1 : Nat) : Int) < (s.size : Int) then ((spec_fieldSign.f (bt s ((i + 1 : Nat) : Int))).bind fun t163 => (if t163 = true then ((some (([bt s ((i + 1 : Nat) : Int)] : List Int) : List Int)).bind fun y164 => (if (mk acc).size + (strOfNums y164).size ≤ 9223372036854775807 then (spec_Unescape.l0 k s ((mk acc) ++ (strOfNums y164)) ((i + 1 + 1 : Nat) : Int)) else (none))) else (some ((⟨#[]⟩ : ByteArray), false)))) else (none)) else (none))) := fun k => by
          rw [spec_Unescape.l0, if_pos (by omega), if_pos (by omega), hb, sign_f, Option.bind_some, if_pos hc, if_pos ((eq92 _).2 h92), w1, w2]
        by_cases hend : i + 1 = s.size
        · have e : un (s.data.toList.drop i) = none := by rw [hd, h92, List.drop_eq_nil_of_le (by omega)]; exact un_end
          rw [e]
          exact Evs.at1 fun k => by rw [pre, if_pos (by omega)]; rfl
        · have hlt2 : i + 1 < s.data.toList.length := by omega
          have hd2 : s.data.toList.drop (i + 1) = s.data.toList[i + 1] :: s.data.toList.drop (i + 1 + 1) := List.drop_eq_getElem_cons hlt2
          have hb2 := bt_nat s (i + 1) hlt2
          by_cases hc2 : sign s.data.toList[i + 1] = true
          · have e : un (s.data.toList.drop i) = (un (s.data.toList.drop (i + 1 + 1))).map (s.data.toList[i + 1] :: ·) := by rw [hd, h92, hd2]; exact un_bs _ hc2
            have hi := ih (i + 1 + 1) (acc ++ [s.data.toList[i + 1]]) (by omega) (by omega) (by rw [List.length_append]; simp only [List.length_cons, List.length_nil]; omega)
            have e3 : unR (un (s.data.toList.drop i)) acc = unR (un (s.data.toList.drop (i + 1 + 1))) (acc ++ [s.data.toList[i + 1]]) := by
              rw [e]
              cases un (s.data.toList.drop (i + 1 + 1)) with
              | none => rfl
              | some v => unfold unR; simp
            rw [e3]
            refine Ev.step (fun k => ?_) hi
            rw [pre, if_neg (by omega), if_pos (by omega), if_pos (by omega), hb2, sign_f, Option.bind_some, if_pos hc2, Option.bind_some, if_pos (by rw [one_size]; omega), mk_one]
          · have e : un (s.data.toList.drop i) = none := by rw [hd, h92, hd2]; exact un_bad _ hc2
            rw [e]
            exact Evs.at1 fun k => by rw [pre, if_neg (by omega), if_pos (by omega), if_pos (by omega), hb2, sign_f, Option.bind_some, if_neg hc2]; rfl
      · have e : un (s.data.toList.drop i) = none := by rw [hd]; exact un_sign _ hc h92
        rw [e]
        refine Evs.at1 fun k => ?_
        rw [spec_Unescape.l0, if_pos (by omega), if_pos (by omega), hb, sign_f, Option.bind_some, if_pos hc, if_neg (fun h => h92 ((eq92 _).1 h))]; rfl
    · have e : un (s.data.toList.drop i) = (un (s.data.toList.drop (i + 1))).map (s.data.toList[i] :: ·) := by rw [hd]; exact un_cons _ hc
      have hi := ih (i + 1) (acc ++ [s.data.toList[i]]) (by omega) (by omega) (by rw [List.length_append]; simp only [List.length_cons, List.length_nil]; omega)
      have e3 : unR (un (s.data.toList.drop i)) acc = unR (un (s.data.toList.drop (i + 1))) (acc ++ [s.data.toList[i]]) := by
        rw [e]
        cases un (s.data.toList.drop (i + 1)) with
        | none => rfl
        | some v => unfold unR; simp
      rw [e3]
      refine Ev.step (fun k => ?_) hi
      rw [spec_Unescape.l0, if_pos (by omega), if_pos (by omega), hb, sign_f, Option.bind_some, if_neg hc, Option.bind_some, if_pos (by rw [one_size]; omega), mk_one, w1]
theorem unescape_ev (l : List UInt8) (hl : l.length ≤ 8589934592) : Ev (fun k => spec_Unescape.f k (mk l)) (unR (un l) []) := by
  have h := un_ev (mk l) (by rw [mk_size]; exact hl) _ 0 [] (Nat.le_refl _) (Nat.zero_le _) (Nat.le_refl _)
  exact h
theorem fieldCut_ev (s : ByteArray) (hs : s.size ≤ 8589934592) : Ev (fun k => spec_FieldCut.f k s) (cutR s 0) := cut_ev s hs _ 0 rfl (Nat.zero_le _)

/-- A term as the reference has it. -/
def tmS (t : Tm) : S26 := ⟨t.2.1, if t.1 = true then ⟨#[61]⟩ else ⟨#[33, 61]⟩, t.2.2⟩
def termsR (o : Option (List Tm)) (acc : List S26) : List S26 × Bool := match o with
  | none => ([], false)
  | some I => (acc ++ (keep I).map tmS, true)
theorem nil_iff {l : List UInt8} : (mk l).toList = [] ↔ l = [] := by rw [toL]
theorem terms_ev (l : List ByteArray) (hl : l.length ≤ 2147483648) (hsz : ∀ p ∈ l, p.size ≤ 8589934592) : ∀ (n i : Nat) (acc : List S26), l.length - i = n → i ≤ l.length → acc.length ≤ i → Ev (fun k => spec_FieldTerms.l0 k acc l (i : Int)) (termsR (items ((l.drop i).map fun s => s.data.toList)) acc) := by
  intro n
  induction n with
  | zero =>
    intro i acc h1 h2 h3
    refine Evs.at1 fun k => ?_
    rw [List.drop_eq_nil_of_le (by omega), spec_FieldTerms.l0, if_neg (by omega)]
    simp [termsR, items]
  | succ n ih =>
    intro i acc h1 h2 h3
    have hlt : i < l.length := by omega
    have hd : (l.drop i).map (fun s => s.data.toList) = l[i].data.toList :: (l.drop (i + 1)).map (fun s => s.data.toList) := by rw [List.drop_eq_getElem_cons hlt]; rfl
    have hr : rdOf ByteArray.empty l (i : Int) = l[i] := by unfold rdOf; rw [Int.toNat_natCast, List.getD_eq_getElem?_getD, List.getElem?_eq_getElem hlt]; rfl
    have w1 : wrap64 ((i : Int) + 1) = ((i + 1 : Nat) : Int) := Small.w64s i (by omega)
    have hp := hsz _ (List.getElem_mem hlt)
    have hcut := fieldCut_ev l[i] hp
    rw [hd]
    by_cases h0 : l[i].data.toList = []
    · rw [items_skip h0]
      refine Ev.step (fun k => ?_) (ih (i + 1) acc (by omega) hlt (by omega))
      rw [spec_FieldTerms.l0, if_pos (by omega), if_pos (by omega), hr, if_pos (by rw [toL]; exact h0), w1]
    · have go : ∀ (x : ByteArray × ByteArray × ByteArray × Bool) (y : ByteArray × Bool) R, cutR l[i] 0 = x → Ev (fun k => spec_Unescape.f k x.2.2.1) y → Ev (fun k => if x.2.2.2 = true then (spec_FieldTerms.j1 k acc l (i : Int) x.1 x.2.1 y.1 (!y.2)) else (spec_FieldTerms.j1 k acc l (i : Int) x.1 x.2.1 y.1 true)) R → Ev (fun k => spec_FieldTerms.l0 k acc l (i : Int)) R := fun x y R hx hy e => by
        rw [hx] at hcut
        refine Ev.step (f := fun k => (spec_FieldCut.f k l[i]).bind fun bt178 => ((spec_Unescape.f k bt178.2.2.1).bind fun bt182 => (if bt178.2.2.2 = true then (spec_FieldTerms.j1 k acc l (i : Int) bt178.1 bt178.2.1 bt182.1 (!bt182.2)) else (spec_FieldTerms.j1 k acc l (i : Int) bt178.1 bt178.2.1 bt182.1 true)))) (fun k => ?_) (Ev.bind hcut (Ev.bind hy e))
        rw [spec_FieldTerms.l0, if_pos (by omega), if_pos (by omega), hr, if_neg (by rw [toL]; exact h0)]
      cases hc : cutOp l[i].data.toList with
      | none =>
        rw [items_no h0 hc]
        have hx : cutR l[i] 0 = (⟨#[]⟩, ⟨#[]⟩, ⟨#[]⟩, false) := by unfold cutR; rw [List.drop_zero, hc]
        refine go _ (⟨#[]⟩, true) _ hx (unescape_ev [] (by simp)) (Evs.no (by simp) (Evs.at1 fun k => ?_))
        rw [spec_FieldTerms.j1, if_pos rfl]; rfl
      | some q =>
        obtain ⟨a, o, b⟩ := q
        obtain ⟨hj, ho⟩ := cut_join _ a o b hc
        have hx : cutR l[i] 0 = (mk a, mk o, mk b, true) := by unfold cutR; rw [List.drop_zero, hc]; rfl
        have hbl : b.length ≤ 8589934592 := by have := congrArg List.length hj; rw [List.length_append, List.length_append] at this; have e := size_len l[i]; omega
        have hu' := unescape_ev b hbl
        cases hu : un b with
        | none =>
          rw [items_bad h0 hc hu]
          rw [hu] at hu'
          refine go _ _ _ hx hu' (Evs.yes rfl (Evs.at1 fun k => ?_))
          rw [spec_FieldTerms.j1, if_pos (by rfl)]; rfl
        | some v =>
          rw [items_yes h0 hc hu]
          rw [hu] at hu'
          have hu2 : Ev (fun k => spec_Unescape.f k (mk b)) (mk v, true) := hu'
          refine go _ _ _ hx hu2 (Evs.yes rfl ?_)
          show Ev (fun k => spec_FieldTerms.j1 k acc l (i : Int) (mk a) (mk o) (mk v) (!true)) _
          by_cases hn : a = [] ∧ v = []
          · have e : termsR ((items ((l.drop (i + 1)).map fun s => s.data.toList)).map ((!(o == [33, 61]), mk a, mk v) :: ·)) acc = termsR (items ((l.drop (i + 1)).map fun s => s.data.toList)) acc := by
              cases items ((l.drop (i + 1)).map fun s => s.data.toList) with
              | none => rfl
              | some I =>
                have hk : keep ((!(o == [33, 61]), mk a, mk v) :: I) = keep I := by
                  unfold keep
                  rw [List.filter_cons_of_neg]
                  unfold none_
                  show ¬ (!((mk a).data.toList.isEmpty && (mk v).data.toList.isEmpty)) = true
                  rw [show (mk a).data.toList = a from rfl, show (mk v).data.toList = v from rfl, hn.1, hn.2]; simp
                show (acc ++ (keep _).map tmS, true) = _
                rw [hk]; rfl
            rw [e]
            refine Ev.step (fun k => ?_) (ih (i + 1) acc (by omega) hlt (by omega))
            rw [spec_FieldTerms.j1, if_neg (by simp), w1]
            split <;> rw [if_pos (nil_iff.2 hn.1), if_pos (nil_iff.2 hn.2)]
          · have hk : ∀ I, keep ((!(o == [33, 61]), mk a, mk v) :: I) = (!(o == [33, 61]), mk a, mk v) :: keep I := fun I => by
              unfold keep
              rw [List.filter_cons_of_pos]
              unfold none_
              show (!((mk a).data.toList.isEmpty && (mk v).data.toList.isEmpty)) = true
              rw [show (mk a).data.toList = a from rfl, show (mk v).data.toList = v from rfl]
              cases a with
              | nil => cases v with
                | nil => exact absurd ⟨rfl, rfl⟩ hn
                | cons c d => rfl
              | cons c d => rfl
            have e : termsR ((items ((l.drop (i + 1)).map fun s => s.data.toList)).map ((!(o == [33, 61]), mk a, mk v) :: ·)) acc = termsR (items ((l.drop (i + 1)).map fun s => s.data.toList)) (acc ++ [tmS (!(o == [33, 61]), mk a, mk v)]) := by
              cases items ((l.drop (i + 1)).map fun s => s.data.toList) with
              | none => rfl
              | some I =>
                show (acc ++ (keep _).map tmS, true) = (acc ++ [_] ++ (keep I).map tmS, true)
                rw [hk I]; simp
            rw [e]
            refine Ev.step (fun k => ?_) (ih (i + 1) _ (by omega) hlt (by rw [List.length_append]; simp only [List.length_cons, List.length_nil]; omega))
            rw [spec_FieldTerms.j1, if_neg (by simp), w1]
            have fin : ∀ (x : ByteArray), (if (mk a).toList = ([] : List UInt8) then (if (mk v).toList = ([] : List UInt8) then (spec_FieldTerms.l0 k acc l ((i + 1 : Nat) : Int)) else (if acc.length < 2932031007402 then (spec_FieldTerms.l0 k (acc ++ [(⟨mk a, x, mk v⟩ : S26)]) l ((i + 1 : Nat) : Int)) else (none))) else (if acc.length < 2932031007402 then (spec_FieldTerms.l0 k (acc ++ [(⟨mk a, x, mk v⟩ : S26)]) l ((i + 1 : Nat) : Int)) else (none))) = spec_FieldTerms.l0 k (acc ++ [(⟨mk a, x, mk v⟩ : S26)]) l ((i + 1 : Nat) : Int) := fun x => by
              by_cases ha : a = []
              · rw [if_pos (nil_iff.2 ha), if_neg (fun h => hn ⟨ha, nil_iff.1 h⟩), if_pos (by omega)]
              · rw [if_neg (fun h => ha (nil_iff.1 h)), if_pos (by omega)]
            rcases ho with rfl | rfl | rfl
            · rw [if_neg (by rw [toL]; decide), fin]; rfl
            · rw [if_pos (by rw [toL]), fin]; rfl
            · rw [if_neg (by rw [toL]; decide), fin]; rfl
/-- The reference's terms of a text. -/
theorem fieldTerms_ev (s : ByteArray) (r : List ByteArray) (h : Ev (fun k => spec_FieldPieces.f k s) r) (hr : r.length ≤ 2147483648) (hsz : ∀ p ∈ r, p.size ≤ 8589934592) : Ev (fun k => spec_FieldTerms.f k s) (termsR (items (srt (r.map fun s => s.data.toList))) []) := by
  have hs := FdQ.sorted_ev r hr
  have he := FdQ.insAll_srt r
  obtain ⟨-, hp⟩ := FdQ.insAll_spec r [] List.Pairwise.nil
  rw [List.nil_append] at hp
  have ht := terms_ev (FdQ.insAll [] r) (by rw [hp.length_eq]; exact hr) (fun p h => hsz p (hp.mem_iff.1 h)) _ 0 [] rfl (Nat.zero_le _) (Nat.le_refl _)
  rw [List.drop_zero, he] at ht
  unfold spec_FieldTerms.f
  exact Ev.bind h (Ev.bind hs ht)
theorem rd44 {l : List S26} {i : Nat} (h : i < l.length) : rd_T26 l (i : Int) = l[i] := by simp [rd_T26, List.getD_eq_getElem?_getD, List.getElem?_eq_getElem h]
end Go.Proofs.YthejejeginnbdaaGreatDoor.FdR
