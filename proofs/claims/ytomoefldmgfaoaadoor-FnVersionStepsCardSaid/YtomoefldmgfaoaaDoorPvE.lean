/- Versions: what stands behind the numbers, as the program finds it. -/
import Derived.Test.YtomoefldmgfaoaaDoorPvB
set_option linter.unusedVariables false
set_option linter.unusedSimpArgs false
namespace Go.Proofs.YtomoefldmgfaoaaDoor.Pv
open Go Go.RowKit Go.Proofs.YtomoefldmgfaoaaDoor Go.Proofs.YtomoefldmgfaoaaDoorW.PrintWords Go.Proofs.YtomoefldmgfaoaaDoor.PvH Go.Proofs.YtomoefldmgfaoaaDoor.Txt Go.Proofs.YtomoefldmgfaoaaDoor.Small

theorem all_tw {p : UInt8 → Bool} : ∀ (l : Bs), ((l.takeWhile p).length < l.length) ↔ l.all p = false
  | [] => by simp
  | c :: t => by
    have ih := all_tw (p := p) t
    by_cases h : p c = true
    · rw [List.takeWhile_cons_of_pos h, List.all_cons, h, Bool.true_and, List.length_cons, List.length_cons, ← ih]; omega
    · have h' : p c = false := by simpa using h
      rw [List.takeWhile_cons_of_neg h, List.all_cons, h']; simp
theorem blank_end {s : ByteArray} (hs : Fit s) (x4 x5 : ByteArray) (i : Nat) (hi : i ≤ s.size) : Ev (fun k => (version_zzBlanks.f k s (i : Int)).bind fun t109 => (if t109 < (s.size : Int) then (some ([] : List ByteArray)) else (some (([s, x4, x5] : List ByteArray))))) (if ((Lb s).drop i).all wh then [s, x4, x5] else []) := by
  refine bindE (g := fun k => version_zzBlanks.f k s (i : Int)) (blanks_ev hs _ i rfl hi) ?_
  have hle := tw_le (p := wh) (s := s) (i := i) hi
  have h := all_tw (p := wh) ((Lb s).drop i)
  have hsz : s.size = (Lb s).length := size_len s
  rw [List.length_drop] at h
  by_cases ha : ((Lb s).drop i).all wh = true
  · rw [if_pos ha]
    refine congr (f := fun _ => some [s, x4, x5]) (fun k => if_neg ?_) (const _)
    intro hlt
    have := h.1 (by omega)
    rw [ha] at this; cases this
  · rw [if_neg ha]
    refine congr (f := fun _ => some []) (fun k => if_pos ?_) (const _)
    have := h.2 (by simpa using ha)
    omega
theorem wf_ev {s : ByteArray} (hs : Fit s) (i : Nat) (hi : i ≤ s.size) : Ev (fun k => version_zzWords.f k s (i : Int)) ((i + wlen ((Lb s).drop i).length ((Lb s).drop i) : Nat) : Int) := by
  have hsz : s.size = (Lb s).length := size_len s
  have h := words_ev hs ((Lb s).drop i).length i (by rw [List.length_drop]; omega) hi (i : Int)
  refine congr (f := fun k => version_zzWords.l0 k s (i : Int) (i : Int)) (fun k => rfl) ?_
  have e : (if wlen ((Lb s).drop i).length ((Lb s).drop i) = 0 then (i : Int) else ((i + wlen ((Lb s).drop i).length ((Lb s).drop i) : Nat) : Int)) = ((i + wlen ((Lb s).drop i).length ((Lb s).drop i) : Nat) : Int) := by
    by_cases h0 : wlen ((Lb s).drop i).length ((Lb s).drop i) = 0
    · rw [if_pos h0, h0]; rfl
    · rw [if_neg h0]
  rw [e] at h; exact h
theorem wlen_le (l : Bs) : wlen l.length l ≤ l.length := by
  by_cases h : 0 < wlen l.length l
  · exact (wlen_spec _ l (Nat.le_refl _) h).1
  · omega
theorem part_at {sg c : UInt8} {t : Bs} : part sg (c :: t) = if c = sg ∧ 0 < wlen t.length t then (t.take (wlen t.length t), t.drop (wlen t.length t)) else ([], c :: t) := rfl
theorem mkn : mk [] = (⟨#[]⟩ : ByteArray) := rfl
theorem build_ev {s : ByteArray} (hs : Fit s) (x4 : ByteArray) (i : Nat) (hi : i ≤ s.size) : Ev (fun k => version_zzExtra.j1 k s (i : Int) x4 (⟨#[]⟩ : ByteArray)) (if (part 43 ((Lb s).drop i)).2.all wh then [s, x4, mk (part 43 ((Lb s).drop i)).1] else []) := by
  have hsz : s.size = (Lb s).length := size_len s
  have no : (part 43 ((Lb s).drop i)) = ([], (Lb s).drop i) → ∀ g : Nat → Option (List ByteArray), (∀ k, g (k + 1) = version_zzExtra.j2 k s (i : Int) x4 (⟨#[]⟩ : ByteArray) false) → Ev g (if (part 43 ((Lb s).drop i)).2.all wh then [s, x4, mk (part 43 ((Lb s).drop i)).1] else []) := by
    intro h g hg
    rw [h, mkn]
    refine step (f := fun k => version_zzExtra.j2 k s (i : Int) x4 (⟨#[]⟩ : ByteArray) false) hg ?_
    refine step (f := fun k => (version_zzBlanks.f k s (i : Int)).bind fun t109 => (if t109 < (s.size : Int) then (some ([] : List ByteArray)) else (some (([s, x4, (⟨#[]⟩ : ByteArray)] : List ByteArray))))) (fun k => by rw [version_zzExtra.j2, if_neg (by simp)]) (blank_end hs x4 _ i hi)
  by_cases hz : i < s.size
  · obtain ⟨c, hc, hb⟩ := at_cons (s := s) (i := i) hz
    have q := chr c 43 43 rfl
    by_cases h : c = 43
    · refine step (f := fun k => version_zzExtra.j2 k s (i : Int) x4 (⟨#[]⟩ : ByteArray) true) (fun k => by
        rw [version_zzExtra.j1, if_pos (by omega), if_pos (by omega), show (bt s (i : Int) == 43) = true by rw [hb, h]; rfl]) ?_
      have hw := wf_ev hs (i + 1) hz
      have hlen : ((Lb s).drop (i + 1)).length = s.size - (i + 1) := by rw [List.length_drop]; omega
      have hwle := wlen_le ((Lb s).drop (i + 1))
      rw [hc, part_at]
      generalize hwl : wlen ((Lb s).drop (i + 1)).length ((Lb s).drop (i + 1)) = m at hw hwle
      refine step (f := fun k => (version_zzWords.f k s ((i + 1 : Nat) : Int)).bind fun t108 => (if t108 > ((i + 1 : Nat) : Int) then (if 0 ≤ ((i + 1 : Nat) : Int) then (if ((i + 1 : Nat) : Int) ≤ t108 then (if t108 ≤ (s.size : Int) then ((version_zzBlanks.f k s t108).bind fun t109 => (if t109 < (s.size : Int) then (some ([] : List ByteArray)) else (some (([s, x4, s.extract (((i + 1 : Nat) : Int)).toNat (t108 : Int).toNat] : List ByteArray))))) else (none)) else (none)) else (none)) else ((version_zzBlanks.f k s (i : Int)).bind fun t113 => (if t113 < (s.size : Int) then (some ([] : List ByteArray)) else (some (([s, x4, (⟨#[]⟩ : ByteArray)] : List ByteArray))))))) (fun k => by
        rw [version_zzExtra.j2, if_pos rfl, w1 hs hz]) ?_
      refine bindE hw ?_
      by_cases hm : 0 < m
      · simp only [if_pos (show c = 43 ∧ 0 < m from ⟨h, hm⟩)]
        have e1 : s.extract (i + 1) (i + 1 + m) = mk (((Lb s).drop (i + 1)).take m) := by rw [extract_mk, Nat.add_sub_cancel_left]
        have e2 : ((Lb s).drop (i + 1)).drop m = (Lb s).drop (i + 1 + m) := by rw [List.drop_drop]
        rw [e2, ← e1]
        refine congr (fun k => ?_) (blank_end hs x4 (s.extract (i + 1) (i + 1 + m)) (i + 1 + m) (by omega))
        rw [if_pos (by omega), if_pos (by omega), if_pos (by omega), if_pos (by omega), Int.toNat_natCast, Int.toNat_natCast]
      · simp only [if_neg (show ¬ (c = 43 ∧ 0 < m) from fun e => hm e.2)]
        rw [← hc, mkn]
        refine congr (fun k => ?_) (blank_end hs x4 (⟨#[]⟩ : ByteArray) i hi)
        rw [if_neg (by omega)]
    · refine no (part_no (fun t e => by rw [hc] at e; injection e with e _; exact h e)) _ (fun k => ?_)
      rw [version_zzExtra.j1, if_pos (by omega), if_pos (by omega), show (bt s (i : Int) == 43) = false by rw [beq_eq_false_iff_ne, hb]; exact fun e => h (q.1 e)]
  · refine no (part_no (fun t e => by rw [at_end (by omega)] at e; cases e)) _ (fun k => ?_)
    rw [version_zzExtra.j1, if_neg (by omega)]
/-- What the program finds behind the numbers. -/
def extraL (s : ByteArray) : List ByteArray := match extra (Lb s) with
  | none => []
  | some q => [s, mk q.1, mk q.2]
theorem extraL_eq (s : ByteArray) : extraL s = if (part 43 (part 45 (Lb s)).2).2.all wh then [s, mk (part 45 (Lb s)).1, mk (part 43 (part 45 (Lb s)).2).1] else [] := by
  unfold extraL extra
  by_cases h : (part 43 (part 45 (Lb s)).2).2.all wh = true
  · rw [if_pos h, if_pos h]
  · rw [if_neg h, if_neg h]
theorem extra_ev {s : ByteArray} (hs : Fit s) : Ev (fun k => version_zzExtra.f k s) (extraL s) := by
  have hsz : s.size = (Lb s).length := size_len s
  rw [extraL_eq]
  have no : (part 45 (Lb s)) = ([], Lb s) → Ev (fun k => version_zzExtra.j0 k s 0 (⟨#[]⟩ : ByteArray) (⟨#[]⟩ : ByteArray) false) (if (part 43 (part 45 (Lb s)).2).2.all wh then [s, mk (part 45 (Lb s)).1, mk (part 43 (part 45 (Lb s)).2).1] else []) := by
    intro h
    rw [h, mkn]
    have hb := build_ev hs (⟨#[]⟩ : ByteArray) 0 (Nat.zero_le _)
    rw [List.drop_zero] at hb
    exact step (f := fun k => version_zzExtra.j1 k s (0 : Int) (⟨#[]⟩ : ByteArray) (⟨#[]⟩ : ByteArray)) (fun k => by rw [version_zzExtra.j0, if_neg (by simp)]) hb
  by_cases hz : 0 < s.size
  · obtain ⟨c, hc, hb⟩ := at_cons (s := s) (i := 0) hz
    have q := chr c 45 45 rfl
    rw [List.drop_zero] at hc
    by_cases h : c = 45
    · refine congr (f := fun k => version_zzExtra.j0 k s 0 (⟨#[]⟩ : ByteArray) (⟨#[]⟩ : ByteArray) true) (fun k => by
        show version_zzExtra.f k s = _
        unfold version_zzExtra.f
        rw [if_pos (by omega), show (bt s 0 == 45) = true by rw [show bt s 0 = _ from hb, h]; rfl]) ?_
      have hw := wf_ev hs 1 hz
      have hlen : ((Lb s).drop 1).length = s.size - 1 := by rw [List.length_drop]; omega
      have hwle := wlen_le ((Lb s).drop 1)
      rw [hc, part_at]
      simp only [Nat.zero_add]
      generalize hwl : wlen ((Lb s).drop 1).length ((Lb s).drop 1) = m at hw hwle
      have h01 : wrap64 (0 + 1) = ((1 : Nat) : Int) := w1 hs (i := 0) hz
      refine step (f := fun k => (version_zzWords.f k s ((1 : Nat) : Int)).bind fun t107 => (if t107 > ((1 : Nat) : Int) then (if 0 ≤ ((1 : Nat) : Int) then (if ((1 : Nat) : Int) ≤ t107 then (if t107 ≤ (s.size : Int) then (version_zzExtra.j1 k s t107 (s.extract (((1 : Nat) : Int)).toNat (t107 : Int).toNat) (⟨#[]⟩ : ByteArray)) else (none)) else (none)) else (none)) else (version_zzExtra.j1 k s 0 (⟨#[]⟩ : ByteArray) (⟨#[]⟩ : ByteArray)))) (fun k => by
        rw [version_zzExtra.j0, if_pos rfl, h01]) ?_
      refine bindE hw ?_
      by_cases hm : 0 < m
      · simp only [if_pos (show c = 45 ∧ 0 < m from ⟨h, hm⟩)]
        have e1 : s.extract 1 (1 + m) = mk (((Lb s).drop 1).take m) := by rw [extract_mk, Nat.add_sub_cancel_left]
        have e2 : ((Lb s).drop 1).drop m = (Lb s).drop (1 + m) := by rw [List.drop_drop]
        rw [e2, ← e1]
        refine congr (fun k => ?_) (build_ev hs (s.extract 1 (1 + m)) (1 + m) (by omega))
        rw [if_pos (by omega), if_pos (by omega), if_pos (by omega), if_pos (by omega), Int.toNat_natCast, Int.toNat_natCast]
      · simp only [if_neg (show ¬ (c = 45 ∧ 0 < m) from fun e => hm e.2)]
        rw [← hc, mkn]
        have hbb := build_ev hs (⟨#[]⟩ : ByteArray) 0 (Nat.zero_le _)
        rw [List.drop_zero] at hbb
        refine congr (fun k => ?_) hbb
        rw [if_neg (by omega)]; rfl
    · refine congr (fun k => ?_) (no (part_no (fun t e => by rw [hc] at e; injection e with e _; exact h e)))
      show version_zzExtra.f k s = _
      unfold version_zzExtra.f
      rw [if_pos (by omega), show (bt s 0 == 45) = false by rw [beq_eq_false_iff_ne, show bt s 0 = _ from hb]; exact fun e => h (q.1 e)]
  · refine congr (fun k => ?_) (no (part_no (fun t e => by rw [show Lb s = [] from List.length_eq_zero_iff.1 (by omega)] at e; cases e)))
    show version_zzExtra.f k s = _
    unfold version_zzExtra.f
    rw [if_neg (by omega)]
end Go.Proofs.YtomoefldmgfaoaaDoor.Pv
