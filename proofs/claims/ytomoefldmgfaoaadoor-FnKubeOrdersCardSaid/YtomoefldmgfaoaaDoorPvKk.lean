/- Versions of kinds: what a text says, and what the program finds in it. -/
import Derived.Test.YtomoefldmgfaoaaDoorPvHkx2
import Derived.Test.YtomoefldmgfaoaaDoorPvB
set_option linter.unusedVariables false
set_option linter.unusedSimpArgs false
namespace Go.Proofs.YtomoefldmgfaoaaDoor.Pv
open Go Go.RowKit Go.Proofs.YtomoefldmgfaoaaDoor Go.Proofs.YtomoefldmgfaoaaDoorW.PrintWords Go.Proofs.YtomoefldmgfaoaaDoor.PvHk Go.Proofs.YtomoefldmgfaoaaDoor.Txt Go.Proofs.YtomoefldmgfaoaaDoor.Small

abbrev alphaB : Bs := [97, 108, 112, 104, 97]
abbrev betaB : Bs := [98, 101, 116, 97]
/-- How far a version of a kind is, and its two numbers. -/
def kubeR (d r : Bs) : Option (Nat × Bs × Bs) :=
  if r = [] then some (2, d, [])
  else if r.take 5 = alphaB then (if r.drop 5 ≠ [] ∧ (r.drop 5).all dg = true then some (0, d, r.drop 5) else none)
  else if r.take 4 = betaB then (if r.drop 4 ≠ [] ∧ (r.drop 4).all dg = true then some (1, d, r.drop 4) else none)
  else none
def kube : Bs → Option (Nat × Bs × Bs)
  | [] => none
  | c :: t => if c = 118 ∧ t.takeWhile dg ≠ [] then kubeR (t.takeWhile dg) (t.dropWhile dg) else none
def word (n : Nat) : Bs := if n = 0 then alphaB else if n = 1 then betaB else []
def kubeS (s : ByteArray) : Option (Nat × Bs × Bs) → List ByteArray
  | none => []
  | some q => [s, mk q.2.1, mk (word q.1), mk q.2.2]
def kubeL (s : ByteArray) : List ByteArray := kubeS s (kube (Lb s))
theorem digits100_ev {s : ByteArray} (hs : Fit s) : ∀ (n i : Nat), s.size - i = n → i ≤ s.size → Ev (fun k => version_zzDigits_100.f k s (i : Int)) ((i + (((Lb s).drop i).takeWhile dg).length : Nat) : Int) := by
  intro n
  induction n with
  | zero =>
    intro i h1 h2
    refine Evs.at1 fun k => ?_
    show version_zzDigits_100.l0 (k + 1) s i = _
    rw [version_zzDigits_100.l0, if_neg (by omega), at_end (by omega)]; rfl
  | succ n ih =>
    intro i h1 h2
    obtain ⟨c, hc, hb⟩ := at_cons (s := s) (i := i) (by omega)
    rw [hc]
    by_cases hw : dg c = true
    · rw [tw_pos hw]
      refine step (f := fun k => version_zzDigits_100.f k s ((i + 1 : Nat) : Int)) (fun k => ?_) (ih (i + 1) (by omega) (by omega))
      have := (dg_iff c).1 hw
      show version_zzDigits_100.l0 (k + 1) s i = _
      rw [version_zzDigits_100.l0, if_pos (by omega), if_pos (by omega), hb, w1 hs (by omega), if_pos (by omega), if_pos (by omega)]; rfl
    · rw [tw_neg hw]
      refine Evs.at1 fun k => ?_
      have := fun h => hw ((dg_iff c).2 h)
      show version_zzDigits_100.l0 (k + 1) s i = _
      rw [version_zzDigits_100.l0, if_pos (by omega), if_pos (by omega), hb]
      repeat' split
      all_goals first | rfl | (exfalso; apply this; omega)
theorem all_take {l : Bs} : l.all dg = true → l.takeWhile dg = l := fun h => by
  induction l with
  | nil => rfl
  | cons c t ih =>
    rw [List.all_cons, Bool.and_eq_true] at h
    rw [List.takeWhile_cons_of_pos h.1, ih h.2]
theorem take_all {l : Bs} (h : (l.takeWhile dg).length = l.length) : l.all dg = true := by
  have : l.takeWhile dg = l := List.IsPrefix.eq_of_length (List.takeWhile_prefix _) h
  rw [← this, List.all_eq_true]
  exact fun c hc => mem_takeWhile l c hc
/-- The number behind a word. -/
theorem behind_ev {s : ByteArray} (hs : Fit s) (a n : Nat) (h1 : 1 ≤ a) (hn : a + n ≤ s.size) (lv : Nat) (wd : ByteArray) (hw : wd = mk (word lv)) (d : Bs) (hd : s.extract 1 a = mk d) :
    Ev (fun k => (version_zzDigits_100.f k s ((a + n : Nat) : Int)).bind fun t105 => (if t105 = ((a + n : Nat) : Int) then (some ([] : List ByteArray)) else (if t105 < (s.size : Int) then (some ([] : List ByteArray)) else (if 1 ≤ (a : Int) then (if (a : Int) ≤ (s.size : Int) then (if 0 ≤ ((a + n : Nat) : Int) then (if ((a + n : Nat) : Int) ≤ (s.size : Int) then (some (([s, s.extract 1 (a : Int).toNat, wd, s.extract (((a + n : Nat) : Int)).toNat s.size] : List ByteArray))) else (none)) else (none)) else (none)) else (none))))) (kubeS s (if (Lb s).drop (a + n) ≠ [] ∧ ((Lb s).drop (a + n)).all dg = true then some (lv, d, (Lb s).drop (a + n)) else none)) := by
  refine bindE (digits100_ev hs _ (a + n) rfl hn) ?_
  have hsz : s.size = (Lb s).length := size_len s
  have hl : ((Lb s).drop (a + n)).length = s.size - (a + n) := by rw [List.length_drop]; omega
  have hle := takeWhile_len_le (p := dg) ((Lb s).drop (a + n))
  by_cases c : (Lb s).drop (a + n) ≠ [] ∧ ((Lb s).drop (a + n)).all dg = true
  · have ht := all_take c.2
    have hp : 0 < ((Lb s).drop (a + n)).length := List.length_pos_iff.2 c.1
    rw [if_pos c]
    refine congr (f := fun _ => some [s, mk d, mk (word lv), mk ((Lb s).drop (a + n))]) (fun k => ?_) (const _)
    rw [ht, if_neg (by omega), if_neg (by omega), if_pos (by omega), if_pos (by omega), if_pos (by omega), if_pos (by omega), Int.toNat_natCast, Int.toNat_natCast, hd, hw, extract_mk s (a + n) s.size, List.take_of_length_le (by omega)]
  · rw [if_neg c]
    refine congr (f := fun _ => some []) (fun k => ?_) (const _)
    by_cases h0 : (((Lb s).drop (a + n)).takeWhile dg).length = 0
    · rw [if_pos (by omega)]
    · rw [if_neg (by omega)]
      by_cases h2 : (((Lb s).drop (a + n)).takeWhile dg).length = ((Lb s).drop (a + n)).length
      · exact absurd ⟨fun e => by rw [e] at h0; exact h0 rfl, take_all h2⟩ c
      · rw [if_pos (by omega)]
set_option maxHeartbeats 4000000 in
theorem kube_ev {s : ByteArray} (hs : Fit s) : Ev (fun k => version_zzKube.f k s) (kubeL s) := by
  have hsz : s.size = (Lb s).length := size_len s
  have yes : ∀ k, version_zzKube.j0 (k + 1) s true = some [] := fun k => by rw [version_zzKube.j0, if_pos rfl]
  unfold kubeL
  by_cases hz : s.size = 0
  · have hl : Lb s = [] := List.length_eq_zero_iff.1 (by omega)
    rw [hl]
    refine congr (f := fun k => version_zzKube.j0 k s true) (fun k => ?_) (Evs.at1 yes)
    show version_zzKube.f k s = _
    unfold version_zzKube.f; rw [if_pos (by omega)]
  · obtain ⟨c, hc, hb⟩ := at_cons (s := s) (i := 0) (by omega)
    rw [List.drop_zero] at hc
    have hb' : bt s 0 = (c.toNat : Int) := hb
    have q : ((c.toNat : Int) = 118) ↔ c = 118 := chr c 118 118 rfl
    rw [hc, kube]
    by_cases h118 : c = 118
    · refine congr (f := fun k => version_zzKube.j0 k s false) (fun k => by
        show version_zzKube.f k s = _
        unfold version_zzKube.f; rw [if_neg (by omega), if_pos (by omega), hb', bne_eq_false_iff_eq.2 (q.2 h118)]) ?_
      have hd := digits100_ev hs _ 1 rfl (by omega)
      have hdt := drop_tw (p := dg) (Lb s) 1
      have hle := tw_le (p := dg) (s := s) (i := 1) (by omega)
      have hex : s.extract 1 (1 + (((Lb s).drop 1).takeWhile dg).length) = mk (((Lb s).drop 1).takeWhile dg) := by
        rw [extract_mk, Nat.add_sub_cancel_left, take_takeWhile]
      have hex1 : s.extract 1 s.size = mk ((Lb s).drop 1) := by
        rw [extract_mk, List.take_of_length_le (by rw [List.length_drop]; omega)]
      refine step (f := fun k => (version_zzDigits_100.f k s 1).bind fun t101 => (if t101 = 1 then (some ([] : List ByteArray)) else (if t101 = (s.size : Int) then (if 1 ≤ (s.size : Int) then (some (([s, s.extract 1 s.size, (⟨#[]⟩ : ByteArray), (⟨#[]⟩ : ByteArray)] : List ByteArray))) else (none)) else (if (s.size : Int) ≥ (wrap64 (t101 + 5)) then (if 0 ≤ t101 then (if t101 ≤ (wrap64 (t101 + 5)) then (if (wrap64 (t101 + 5)) ≤ (s.size : Int) then (version_zzKube.j1 k s t101 ((s.extract (t101 : Int).toNat ((wrap64 (t101 + 5)) : Int).toNat).toList == ([97, 108, 112, 104, 97] : List UInt8))) else (none)) else (none)) else (none)) else (version_zzKube.j1 k s t101 false))))) (fun k => by rw [version_zzKube.j0, if_neg (by simp)]) (bindE hd ?_)
      generalize hD : ((Lb s).drop 1).takeWhile dg = D at hle hdt hex
      generalize hA : 1 + D.length = A at hle hdt hex
      by_cases h0 : D = []
      · rw [if_neg (show ¬ (c = 118 ∧ D ≠ []) from fun e => e.2 h0)]
        exact congr (f := fun _ => some []) (fun k => if_pos (by rw [← hA, h0]; rfl)) (const _)
      · have hDl : 0 < D.length := List.length_pos_iff.2 h0
        rw [if_pos (show c = 118 ∧ D ≠ [] from ⟨h118, h0⟩)]
        unfold kubeR
        rw [← hdt]
        have hrl : ((Lb s).drop A).length = s.size - A := by rw [List.length_drop]; omega
        by_cases hr : (Lb s).drop A = []
        · rw [if_pos hr]
          have hAs : A = s.size := by have := congrArg List.length hr; rw [hrl] at this; simp at this; omega
          have e9 : D = (Lb s).drop 1 := by
            rw [← hD]
            exact List.IsPrefix.eq_of_length (List.takeWhile_prefix _) (by rw [hD, List.length_drop]; omega)
          refine congr (f := fun _ => some [s, mk D, mk (word 2), mk []]) (fun k => ?_) (const _)
          rw [if_neg (by omega), if_pos (by omega), if_pos (by omega), hex1, ← e9]; rfl
        · rw [if_neg hr]
          have hrp : 0 < ((Lb s).drop A).length := List.length_pos_iff.2 hr
          have hx5 : A + 5 ≤ s.size → (s.extract A (A + 5)).toList = ((Lb s).drop A).take 5 := fun h => by rw [toL, data_extract, Nat.add_sub_cancel_left]
          have hx4 : A + 4 ≤ s.size → (s.extract A (A + 4)).toList = ((Lb s).drop A).take 4 := fun h => by rw [toL, data_extract, Nat.add_sub_cancel_left]
          have W5 : Aside0 (wrap64 ((A : Int) + 5) = ((A + 5 : Nat) : Int)) := ⟨by rw [w64 _ (by omega) (by unfold Fit at hs; omega)]; rfl⟩
          have W4 : Aside0 (wrap64 ((A : Int) + 4) = ((A + 4 : Nat) : Int)) := ⟨by rw [w64 _ (by omega) (by unfold Fit at hs; omega)]; rfl⟩
          have d5 : (Lb s).drop (A + 5) = ((Lb s).drop A).drop 5 := by rw [List.drop_drop]
          have d4 : (Lb s).drop (A + 4) = ((Lb s).drop A).drop 4 := by rw [List.drop_drop]
          -- behind the test for the second word
          have beta : Ev (fun k => version_zzKube.j1 k s (A : Int) false) (kubeS s (if ((Lb s).drop A).take 4 = betaB then (if ((Lb s).drop A).drop 4 ≠ [] ∧ (((Lb s).drop A).drop 4).all dg = true then some (1, D, ((Lb s).drop A).drop 4) else none) else none)) := by
            by_cases hlen : A + 4 ≤ s.size
            · refine step (f := fun k => version_zzKube.j2 k s (A : Int) ((s.extract A (A + 4)).toList == ([98, 101, 116, 97] : List UInt8))) (fun k => by
                rw [version_zzKube.j1, if_neg (by simp), W4.out, if_pos (by omega), if_pos (by omega), if_pos (by omega), if_pos (by omega), Int.toNat_natCast, Int.toNat_natCast]) ?_
              rw [hx4 hlen]
              by_cases hb4 : ((Lb s).drop A).take 4 = betaB
              · rw [if_pos hb4, hb4, show (betaB == ([98, 101, 116, 97] : List UInt8)) = true from beq_self_eq_true _]
                have h := behind_ev hs A 4 (by omega) hlen 1 (⟨#[98, 101, 116, 97]⟩ : ByteArray) rfl D hex
                rw [d4] at h
                refine step (fun k => ?_) h
                rw [version_zzKube.j2, if_pos rfl, W4.out]
              · rw [if_neg hb4, beq_eq_false_iff_ne.2 hb4]
                exact Evs.at1 fun k => by rw [version_zzKube.j2, if_neg (by simp)]; rfl
            · have hb4 : ¬ ((Lb s).drop A).take 4 = betaB := fun e => by
                have := congrArg List.length e
                rw [List.length_take] at this
                simp only [List.length_cons, List.length_nil] at this
                omega
              rw [if_neg hb4]
              refine step (f := fun k => version_zzKube.j2 k s (A : Int) false) (fun k => by rw [version_zzKube.j1, if_neg (by simp), W4.out, if_neg (by omega)]) ?_
              exact Evs.at1 fun k => by rw [version_zzKube.j2, if_neg (by simp)]; rfl
          by_cases hlen : A + 5 ≤ s.size
          · refine congr (f := fun k => version_zzKube.j1 k s (A : Int) ((s.extract A (A + 5)).toList == ([97, 108, 112, 104, 97] : List UInt8))) (fun k => by
              rw [if_neg (by omega), if_neg (by omega), W5.out, if_pos (by omega), if_pos (by omega), if_pos (by omega), if_pos (by omega), Int.toNat_natCast, Int.toNat_natCast]) ?_
            rw [hx5 hlen]
            by_cases hb5 : ((Lb s).drop A).take 5 = alphaB
            · rw [if_pos hb5, hb5, show (alphaB == ([97, 108, 112, 104, 97] : List UInt8)) = true from beq_self_eq_true _]
              have h := behind_ev hs A 5 (by omega) hlen 0 (⟨#[97, 108, 112, 104, 97]⟩ : ByteArray) rfl D hex
              rw [d5] at h
              refine step (fun k => ?_) h
              rw [version_zzKube.j1, if_pos rfl, W5.out]
            · rw [if_neg hb5, beq_eq_false_iff_ne.2 hb5]
              exact beta
          · have hb5 : ¬ ((Lb s).drop A).take 5 = alphaB := fun e => by
              have := congrArg List.length e
              rw [List.length_take] at this
              simp only [List.length_cons, List.length_nil] at this
              omega
            rw [if_neg hb5]
            refine congr (f := fun k => version_zzKube.j1 k s (A : Int) false) (fun k => by rw [if_neg (by omega), if_neg (by omega), W5.out, if_neg (by omega)]) beta
    · refine congr (f := fun k => version_zzKube.j0 k s true) (fun k => by
        show version_zzKube.f k s = _
        unfold version_zzKube.f; rw [if_neg (by omega), if_pos (by omega), hb', bne_iff_ne.2 (fun e => h118 (q.1 e))]) ?_
      rw [if_neg (show ¬ (c = 118 ∧ ((Lb s).drop (0 + 1)).takeWhile dg ≠ []) from fun e => h118 e.1)]
      exact Evs.at1 yes
theorem kube_some {l : Bs} {q : Nat × Bs × Bs} (h : kube l = some q) : q.1 ≤ 2 ∧ numeric q.2.1 = true ∧ (q.1 = 2 → q.2.2 = []) ∧ (q.1 ≠ 2 → numeric q.2.2 = true) ∧ q.2.1.length ≤ l.length ∧ q.2.2.length ≤ l.length := by
  cases l with
  | nil => cases h
  | cons c t =>
    rw [kube] at h
    by_cases c0 : c = 118 ∧ t.takeWhile dg ≠ []
    · rw [if_pos c0] at h
      have hn : numeric (t.takeWhile dg) = true := by
        simp only [numeric, Bool.and_eq_true, bne_iff_ne, List.all_eq_true]
        exact ⟨c0.2, fun c hc => mem_takeWhile t c hc⟩
      have hl1 := takeWhile_len_le (p := dg) t
      have hl2 : (t.dropWhile dg).length ≤ t.length := by
        have := congrArg List.length (List.takeWhile_append_dropWhile (p := dg) (l := t))
        rw [List.length_append] at this; omega
      unfold kubeR at h
      generalize t.dropWhile dg = r at h hl2
      have num : ∀ m : Bs, (m ≠ [] ∧ m.all dg = true) → numeric m = true := fun m hm => by
        simp only [numeric, Bool.and_eq_true, bne_iff_ne]; exact hm
      by_cases c1 : r = []
      · rw [if_pos c1] at h
        injection h with h; subst h
        exact ⟨Nat.le_refl _, hn, fun _ => rfl, fun e => absurd rfl e, by show _ ≤ (c :: t).length; simp only [List.length_cons]; omega, by simp⟩
      · rw [if_neg c1] at h
        by_cases c2 : r.take 5 = alphaB
        · rw [if_pos c2] at h
          by_cases c3 : r.drop 5 ≠ [] ∧ (r.drop 5).all dg = true
          · rw [if_pos c3] at h
            injection h with h; subst h
            exact ⟨by show 0 ≤ 2; omega, hn, fun e => (by cases e), fun _ => num _ c3, by show _ ≤ (c :: t).length; simp only [List.length_cons]; omega, by show (r.drop 5).length ≤ (c :: t).length; rw [List.length_drop]; simp only [List.length_cons]; omega⟩
          · rw [if_neg c3] at h; cases h
        · rw [if_neg c2] at h
          by_cases c4 : r.take 4 = betaB
          · rw [if_pos c4] at h
            by_cases c3 : r.drop 4 ≠ [] ∧ (r.drop 4).all dg = true
            · rw [if_pos c3] at h
              injection h with h; subst h
              exact ⟨by show 1 ≤ 2; omega, hn, fun e => (by cases e), fun _ => num _ c3, by show _ ≤ (c :: t).length; simp only [List.length_cons]; omega, by show (r.drop 4).length ≤ (c :: t).length; rw [List.length_drop]; simp only [List.length_cons]; omega⟩
            · rw [if_neg c3] at h; cases h
          · rw [if_neg c4] at h; cases h
    · rw [if_neg c0] at h; cases h
end Go.Proofs.YtomoefldmgfaoaaDoor.Pv
