/- Versions: the pieces of a text, as the program finds them. -/
import Derived.Test.YtomoefldmgfaoaaDoorPvA
set_option linter.unusedVariables false
set_option linter.unusedSimpArgs false
namespace Go.Proofs.YtomoefldmgfaoaaDoor.Pv
open Go Go.RowKit Go.Proofs.YtomoefldmgfaoaaDoor Go.Proofs.YtomoefldmgfaoaaDoorW.PrintWords Go.Proofs.YtomoefldmgfaoaaDoor.PvH Go.Proofs.YtomoefldmgfaoaaDoor.Txt Go.Proofs.YtomoefldmgfaoaaDoor.Small

/-- How far points and digits go on. -/
def dl : Nat → Bs → Nat
  | 0, _ => 0
  | n + 1, r => match r with
    | 46 :: c :: t => if dg c then 1 + ((c :: t).takeWhile dg).length + dl n ((c :: t).dropWhile dg) else 0
    | _ => 0
theorem dl_dot {n : Nat} {c : UInt8} {t : Bs} (h : dg c = true) : dl (n + 1) (46 :: c :: t) = 1 + ((c :: t).takeWhile dg).length + dl n ((c :: t).dropWhile dg) := by
  show (if dg c then 1 + ((c :: t).takeWhile dg).length + dl n ((c :: t).dropWhile dg) else 0) = _
  rw [if_pos h]
theorem dl_no {n : Nat} {r : Bs} (h : ∀ c t, r = 46 :: c :: t → dg c = false) : dl n r = 0 := by
  cases n with
  | zero => rfl
  | succ n =>
    unfold dl
    split
    · rename_i c t
      rw [if_neg (by rw [h c t rfl]; simp)]
    · rfl
theorem flds_len : ∀ (n : Nat) (l : Bs), l.length ≤ n + 1 → l.takeWhile dg ≠ [] → (joinP (flds (n + 1) l).1).length = (l.takeWhile dg).length + dl n (l.dropWhile dg) := by
  intro n
  induction n with
  | zero =>
    intro l hl h0
    have hcut := congrArg List.length (List.takeWhile_append_dropWhile (p := dg) (l := l))
    have h1 : 0 < (l.takeWhile dg).length := List.length_pos_iff.2 h0
    rw [List.length_append] at hcut
    have h2 : l.dropWhile dg = [] := List.length_eq_zero_iff.1 (by omega)
    rw [flds, if_neg h0, h2]; rfl
  | succ n ih =>
    intro l hl h0
    have hcut := congrArg List.length (List.takeWhile_append_dropWhile (p := dg) (l := l))
    have h1 : 0 < (l.takeWhile dg).length := List.length_pos_iff.2 h0
    rw [List.length_append] at hcut
    rw [flds, if_neg h0]
    split
    · rename_i c t hr
      rw [hr]
      split
      · rename_i hc
        rw [hr] at hcut
        simp only [List.length_cons] at hcut
        have hne : (c :: t).takeWhile dg ≠ [] := by rw [List.takeWhile_cons_of_pos hc]; simp
        have hi := ih (c :: t) (by simp only [List.length_cons]; omega) hne
        have hf : (flds (n + 1) (c :: t)).1 ≠ [] := by
          intro e
          exact hne ((flds_spec (n + 1) (c :: t) (by simp only [List.length_cons]; omega)).2.2 e)
        show (joinP (l.takeWhile dg :: (flds (n + 1) (c :: t)).1)).length = _
        rw [joinP_cons _ hf, List.length_append, List.length_cons, hi, dl_dot hc]
        omega
      · rename_i hc
        rw [dl_no (fun c' t' e => by injection e with _ e; injection e with e _; subst e; simpa using hc)]; rfl
    · rename_i hr
      rw [dl_no (fun c' t' e => absurd e (hr c' t'))]; rfl

abbrev vlist (s : ByteArray) (x y : Nat) : List ByteArray := if 10 ∈ (Lb s).drop y then [] else [s, s.extract x y, s.extract y s.size]
theorem tail_ev {s : ByteArray} (hs : Fit s) (x y : Nat) (hx : x ≤ y) (hy : y ≤ s.size) : ∀ (n i : Nat), s.size - i = n → i ≤ s.size → Ev (fun k => version_zzVersion.l1 k s (x : Int) (y : Int) (i : Int)) (if 10 ∈ (Lb s).drop i then [] else [s, s.extract x y, s.extract y s.size]) := by
  intro n
  induction n with
  | zero =>
    intro i h1 h2
    refine Evs.at1 fun k => ?_
    rw [at_end (by omega), if_neg (by simp)]
    rw [version_zzVersion.l1, if_neg (by omega), if_pos (by omega), if_pos (by omega), if_pos (by omega), if_pos (by omega)]; rfl
  | succ n ih =>
    intro i h1 h2
    obtain ⟨c, hc, hb⟩ := at_cons (s := s) (i := i) (by omega)
    have q := chr c 10 10 rfl
    rw [hc]
    by_cases h : c = 10
    · rw [if_pos (by rw [h]; simp)]
      refine Evs.at1 fun k => ?_
      rw [version_zzVersion.l1, if_pos (by omega), if_pos (by omega), if_pos (by rw [hb]; exact q.2 h)]
    · have e : (10 ∈ c :: (Lb s).drop (i + 1)) = (10 ∈ (Lb s).drop (i + 1)) := by
        refine propext ⟨fun hm => ?_, fun hm => List.mem_cons_of_mem _ hm⟩
        rcases List.mem_cons.1 hm with e | e
        · exact absurd e.symm h
        · exact e
      simp only [e]
      refine step (f := fun k => version_zzVersion.l1 k s (x : Int) (y : Int) ((i + 1 : Nat) : Int)) (fun k => ?_) (ih (i + 1) (by omega) (by omega))
      rw [version_zzVersion.l1, if_pos (by omega), if_pos (by omega), if_neg (by rw [hb]; exact fun e => h (q.1 e)), w1 hs (by omega)]
theorem j4_ev {s : ByteArray} (hs : Fit s) (x y : Nat) (hx : x ≤ y) (hy : y ≤ s.size) : Ev (fun k => version_zzVersion.j4 k s (x : Int) (y : Int)) (vlist s x y) :=
  step (f := fun k => version_zzVersion.l1 k s (x : Int) (y : Int) (y : Int)) (fun k => by rw [version_zzVersion.j4]) (tail_ev hs x y hx hy _ y rfl hy)
theorem dots_ev {s : ByteArray} (hs : Fit s) (x : Nat) : ∀ (n y : Nat), s.size - y ≤ n → x ≤ y → y ≤ s.size → Ev (fun k => version_zzVersion.l0 k s (x : Int) (y : Int)) (vlist s x (y + dl n ((Lb s).drop y))) := by
  intro n
  induction n with
  | zero =>
    intro y h1 hx h2
    refine step (f := fun k => version_zzVersion.j3 k s (x : Int) (y : Int) false) (fun k => by rw [version_zzVersion.l0, if_neg (by omega)]) ?_
    exact step (f := fun k => version_zzVersion.j4 k s (x : Int) (y : Int)) (fun k => by rw [version_zzVersion.j3, if_neg (by simp)]) (j4_ev hs x y hx h2)
  | succ n ih =>
    intro y h1 hx h2
    have stop : dl (n + 1) ((Lb s).drop y) = 0 → Ev (fun k => version_zzVersion.j4 k s (x : Int) (y : Int)) (vlist s x (y + dl (n + 1) ((Lb s).drop y))) := by
      intro h; rw [h]; exact j4_ev hs x y hx h2
    by_cases hy : y = s.size
    · refine step (f := fun k => version_zzVersion.j3 k s (x : Int) (y : Int) false) (fun k => by rw [version_zzVersion.l0, if_neg (by omega)]) ?_
      refine step (f := fun k => version_zzVersion.j4 k s (x : Int) (y : Int)) (fun k => by rw [version_zzVersion.j3, if_neg (by simp)]) (stop ?_)
      rw [at_end (by omega)]; rfl
    · obtain ⟨c, hc, hb⟩ := at_cons (s := s) (i := y) (by omega)
      have q := chr c 46 46 rfl
      by_cases h : c = 46
      · subst h
        refine step (f := fun k => version_zzVersion.j3 k s (x : Int) (y : Int) true) (fun k => by
          rw [version_zzVersion.l0, if_pos (by omega), if_pos (by omega), show (bt s (y : Int) == 46) = true by rw [hb]; rfl]) ?_
        refine step (f := fun k => (version_zzDigits.f k s ((y + 1 : Nat) : Int)).bind fun t103 => (if t103 = ((y + 1 : Nat) : Int) then (version_zzVersion.j4 k s (x : Int) (y : Int)) else (version_zzVersion.l0 k s (x : Int) t103))) (fun k => by
          rw [version_zzVersion.j3, if_pos rfl, w1 hs (by omega)]) ?_
        refine bindE (digits_ev hs _ (y + 1) rfl (by omega)) ?_
        by_cases h0 : ((Lb s).drop (y + 1)).takeWhile dg = []
        · refine congr (f := fun k => version_zzVersion.j4 k s (x : Int) (y : Int)) (fun k => by rw [if_pos (by rw [h0]; rfl)]) (stop ?_)
          rw [hc]
          refine dl_no fun c' t' e => ?_
          injection e with _ e
          rw [e] at h0
          rcases hd : dg c' with _ | _
          · rfl
          · rw [List.takeWhile_cons_of_pos hd] at h0; cases h0
        · have hl : 0 < (((Lb s).drop (y + 1)).takeWhile dg).length := List.length_pos_iff.2 h0
          have hle := tw_le (p := dg) (s := s) (i := y + 1) (by omega)
          have hdt := drop_tw (p := dg) (Lb s) (y + 1)
          refine congr (f := fun k => version_zzVersion.l0 k s (x : Int) ((y + 1 + (((Lb s).drop (y + 1)).takeWhile dg).length : Nat) : Int)) (fun k => by rw [if_neg (by omega)]) ?_
          have hi := ih (y + 1 + (((Lb s).drop (y + 1)).takeWhile dg).length) (by omega) (by omega) hle
          have he : y + dl (n + 1) ((Lb s).drop y) = y + 1 + (((Lb s).drop (y + 1)).takeWhile dg).length + dl n ((Lb s).drop (y + 1 + (((Lb s).drop (y + 1)).takeWhile dg).length)) := by
            rw [hdt, hc]
            cases hd : (Lb s).drop (y + 1) with
            | nil => rw [hd] at h0; exact absurd rfl h0
            | cons c' t' =>
              have hdg : dg c' = true := by
                rcases hg : dg c' with _ | _
                · rw [hd, List.takeWhile_cons_of_neg (by rw [hg]; simp)] at h0; exact absurd rfl h0
                · rfl
              rw [dl_dot hdg]; omega
          rw [he]
          exact hi
      · refine step (f := fun k => version_zzVersion.j3 k s (x : Int) (y : Int) false) (fun k => by
          rw [version_zzVersion.l0, if_pos (by omega), if_pos (by omega), show (bt s (y : Int) == 46) = false by rw [beq_eq_false_iff_ne, hb]; exact fun e => h (q.1 e)]) ?_
        refine step (f := fun k => version_zzVersion.j4 k s (x : Int) (y : Int)) (fun k => by rw [version_zzVersion.j3, if_neg (by simp)]) (stop ?_)
        rw [hc]
        exact dl_no fun c' t' e => by injection e with e _; exact absurd e h
/-- The pieces that the program finds. -/
def pieces (s : ByteArray) : List ByteArray := if (fieldsOf (Lb s)).1 = [] then [] else if 10 ∈ (fieldsOf (Lb s)).2 then [] else [s, mk (joinP (fieldsOf (Lb s)).1), mk (fieldsOf (Lb s)).2]
theorem extract_mk (s : ByteArray) (a b : Nat) : s.extract a b = mk (((Lb s).drop a).take (b - a)) := ext (by rw [data_extract])
theorem from_ev {s : ByteArray} (hs : Fit s) (x : Nat) (hx : x ≤ s.size) (ha : (Lb s).drop x = ahead (Lb s)) : Ev (fun k => version_zzVersion.j1 k s (x : Int)) (pieces s) := by
  refine step (f := fun k => (version_zzDigits.f k s (x : Int)).bind fun t102 => (if t102 = (x : Int) then (some ([] : List ByteArray)) else (version_zzVersion.l0 k s (x : Int) t102))) (fun k => by rw [version_zzVersion.j1]) ?_
  refine bindE (digits_ev hs _ x rfl hx) ?_
  have hsz : s.size = (Lb s).length := size_len s
  obtain ⟨h1, h2⟩ := fields_spec (Lb s)
  unfold pieces
  by_cases h0 : ((Lb s).drop x).takeWhile dg = []
  · refine congr (f := fun _ => some []) (fun k => by rw [if_pos (by rw [h0]; rfl)]) ?_
    have hf : (fieldsOf (Lb s)).1 = [] := by
      unfold fieldsOf
      rw [← ha]
      cases (Lb s).length with
      | zero => rfl
      | succ n => rw [flds, if_pos h0]
    rw [if_pos hf]
    exact const _
  · have hl : 0 < (((Lb s).drop x).takeWhile dg).length := List.length_pos_iff.2 h0
    have hle := tw_le (p := dg) (s := s) (i := x) hx
    have hdt := drop_tw (p := dg) (Lb s) x
    refine congr (f := fun k => version_zzVersion.l0 k s (x : Int) ((x + (((Lb s).drop x).takeWhile dg).length : Nat) : Int)) (fun k => by rw [if_neg (by omega)]) ?_
    obtain ⟨n, hn⟩ : ∃ n, s.size = n + 1 := ⟨s.size - 1, by omega⟩
    have hd := dots_ev hs x n (x + (((Lb s).drop x).takeWhile dg).length) (by omega) (by omega) hle
    have hlen : (joinP (fieldsOf (Lb s)).1).length = (((Lb s).drop x).takeWhile dg).length + dl n (((Lb s).drop x).dropWhile dg) := by
      unfold fieldsOf
      rw [← ha, ← hsz, hn]
      exact flds_len n _ (by rw [List.length_drop]; omega) h0
    have hf : (fieldsOf (Lb s)).1 ≠ [] := by intro e; rw [e] at hlen; simp [joinP] at hlen; omega
    rw [if_neg hf]
    rw [hdt, Nat.add_assoc, ← hlen] at hd
    have e1 : (Lb s).drop (x + (joinP (fieldsOf (Lb s)).1).length) = (fieldsOf (Lb s)).2 := by
      rw [← List.drop_drop, ha, ← h2, List.drop_left]
    have e2 : s.extract x (x + (joinP (fieldsOf (Lb s)).1).length) = mk (joinP (fieldsOf (Lb s)).1) := by
      rw [extract_mk, ha, Nat.add_sub_cancel_left, ← h2, List.take_left]
    have e3 : s.extract (x + (joinP (fieldsOf (Lb s)).1).length) s.size = mk (fieldsOf (Lb s)).2 := by
      rw [extract_mk, e1, List.take_of_length_le]
      have := congrArg List.length e1
      rw [List.length_drop] at this
      omega
    unfold vlist at hd
    rw [e1, e2, e3] at hd
    exact hd
theorem version_ev {s : ByteArray} (hs : Fit s) : Ev (fun k => version_zzVersion.f k s) (pieces s) := by
  have hb := blanks_ev hs _ 0 rfl (Nat.zero_le _)
  have hle := tw_le (p := wh) (s := s) (i := 0) (Nat.zero_le _)
  have hdt := drop_tw (p := wh) (Lb s) 0
  rw [List.drop_zero, Nat.zero_add] at hb hdt
  rw [List.drop_zero, Nat.zero_add] at hle
  refine bindE (g := fun k => version_zzBlanks.l0 k s (0 : Int)) hb ?_
  generalize ha : ((Lb s).takeWhile wh).length = a at hle hdt
  have hah : ahead (Lb s) = noV ((Lb s).drop a) := by rw [hdt]; rfl
  by_cases hz : a < s.size
  · obtain ⟨c, hc, hbt⟩ := at_cons (s := s) (i := a) hz
    have q := chr c 118 118 rfl
    by_cases h : c = 118
    · refine congr (f := fun k => version_zzVersion.j0 k s (a : Int) true) (fun k => by
        rw [if_pos (by omega), if_pos (by omega), show (bt s (a : Int) == 118) = true by rw [hbt, h]; rfl]) ?_
      refine step (f := fun k => version_zzVersion.j1 k s ((a + 1 : Nat) : Int)) (fun k => by rw [version_zzVersion.j0, if_pos rfl, w1 hs hz]) (from_ev hs (a + 1) hz ?_)
      rw [hah, hc, noV, if_pos h]
    · refine congr (f := fun k => version_zzVersion.j0 k s (a : Int) false) (fun k => by
        rw [if_pos (by omega), if_pos (by omega), show (bt s (a : Int) == 118) = false by rw [beq_eq_false_iff_ne, hbt]; exact fun e => h (q.1 e)]) ?_
      refine step (f := fun k => version_zzVersion.j1 k s (a : Int)) (fun k => by rw [version_zzVersion.j0, if_neg (by simp)]) (from_ev hs a hle ?_)
      rw [hah, hc, noV, if_neg h]
  · refine congr (f := fun k => version_zzVersion.j0 k s (a : Int) false) (fun k => by rw [if_neg (by omega)]) ?_
    refine step (f := fun k => version_zzVersion.j1 k s (a : Int)) (fun k => by rw [version_zzVersion.j0, if_neg (by simp)]) (from_ev hs a hle ?_)
    rw [hah, at_end (by omega)]; rfl
abbrev dot : ByteArray := ⟨#[46]⟩
abbrev idx (i : Nat) (l : Bs) : Int := match cutAt 46 l with
  | some q => ((i + q.1.length : Nat) : Int)
  | none => -1
theorem idx_cons (i : Nat) (c : UInt8) (l : Bs) : idx i (c :: l) = if c = 46 then (i : Int) else idx (i + 1) l := by
  unfold idx
  rw [cutAt]
  by_cases h : c = 46
  · rw [if_pos h, if_pos h]; rfl
  · rw [if_neg h, if_neg h]
    cases cutAt 46 l with
    | none => rfl
    | some q =>
      show ((i + (q.1.length + 1) : Nat) : Int) = ((i + 1 + q.1.length : Nat) : Int)
      congr 1; omega
theorem index_ev {s : ByteArray} (hs : Fit s) : ∀ (n i : Nat), s.size - i = n → i ≤ s.size → Ev (fun k => version_zzIndex.l0 k s dot (i : Int)) (idx i ((Lb s).drop i)) := by
  intro n
  have hd : ((dot.size : Nat) : Int) = 1 := rfl
  induction n with
  | zero =>
    intro i h1 h2
    refine Evs.at1 fun k => ?_
    rw [at_end (by omega), version_zzIndex.l0, hd, w64 _ (by omega) (by unfold Fit at hs; omega), if_neg (by omega)]; rfl
  | succ n ih =>
    intro i h1 h2
    obtain ⟨c, hc, hb⟩ := at_cons (s := s) (i := i) (by omega)
    rw [hc, idx_cons]
    have he : (s.extract i (i + 1)).toList = [c] := by
      rw [toL, data_extract, hc, show i + 1 - i = 1 from by omega]; rfl
    have hn : ((i : Int).toNat) = i := Int.toNat_natCast i
    have hn1 : (((i + 1 : Nat) : Int).toNat) = i + 1 := Int.toNat_natCast (i + 1)
    have hdl : dot.toList = [46] := by rw [toL]
    by_cases h : c = 46
    · rw [if_pos h]
      refine Evs.at1 fun k => ?_
      rw [version_zzIndex.l0, hd, w1 hs (by omega), if_pos (by omega), if_pos (by omega), if_pos (by omega), hn, hn1, he, hdl, h, if_pos rfl]
    · rw [if_neg h]
      refine step (f := fun k => version_zzIndex.l0 k s dot ((i + 1 : Nat) : Int)) (fun k => ?_) (ih (i + 1) (by omega) (by omega))
      rw [version_zzIndex.l0, hd, w1 hs (by omega), if_pos (by omega), if_pos (by omega), if_pos (by omega), hn, hn1, he, hdl, if_neg (by intro e; injection e with e _; exact h e)]
theorem split_ev : ∀ (n : Nat) (s : ByteArray) (ts : List ByteArray), s.size ≤ n → Fit s → ts.length + s.size < 8796093022207 → Ev (fun k => zspl dot k s ts) (ts ++ (spl (Lb s)).map mk) := by
  intro n
  induction n with
  | zero =>
    intro s ts h hs ht
    have hl : Lb s = [] := List.length_eq_zero_iff.1 (by have : s.size = (Lb s).length := size_len s; omega)
    obtain ⟨K, hK⟩ := index_ev hs _ 0 rfl (Nat.zero_le _)
    refine ⟨K + 1, fun k hk => ?_⟩
    obtain ⟨m, rfl⟩ : ∃ m, k = m + 1 := ⟨k - 1, by omega⟩
    have hi : version_zzIndex.f (m + 1) s dot = some (idx 0 ((Lb s).drop 0)) := hK (m + 1) (by omega)
    show zspl dot (m + 1) s ts = _
    rw [zspl, if_pos (by omega), hi, Option.bind_some, List.drop_zero, hl, if_pos (by decide)]
    congr 1
    show ts ++ [s] = ts ++ [mk []]
    rw [show s = mk [] from ext hl]
  | succ n ih =>
    intro s ts h hs ht
    have hsz : s.size = (Lb s).length := size_len s
    obtain ⟨K, hK⟩ := index_ev hs _ 0 rfl (Nat.zero_le _)
    have hd : ((dot.size : Nat) : Int) = 1 := rfl
    cases hc : cutAt 46 (Lb s) with
    | none =>
      refine ⟨K + 1, fun k hk => ?_⟩
      obtain ⟨m, rfl⟩ : ∃ m, k = m + 1 := ⟨k - 1, by omega⟩
      have hi : version_zzIndex.f (m + 1) s dot = some (idx 0 ((Lb s).drop 0)) := hK (m + 1) (by omega)
      have h46 : 46 ∉ Lb s := by
        intro hm
        obtain ⟨u, b, e⟩ := List.append_of_mem hm
        by_cases hu : 46 ∈ u
        · exact absurd hc (by
            have : ∀ l : Bs, 46 ∈ l → cutAt 46 l ≠ none := by
              intro l
              induction l with
              | nil => intro h; cases h
              | cons c t ih =>
                intro h
                rw [cutAt]
                by_cases e : c = 46
                · rw [if_pos e]; simp
                · rw [if_neg e]
                  have := ih ((List.mem_cons.1 h).resolve_left (fun e' => e e'.symm))
                  cases hq : cutAt 46 t with
                  | none => exact absurd hq this
                  | some q => simp
            exact this _ hm)
        · rw [e, cutAt_mid u b hu] at hc; cases hc
      show zspl dot (m + 1) s ts = _
      rw [zspl, if_pos (by omega), hi, Option.bind_some, List.drop_zero]
      unfold idx
      rw [hc, if_pos (by simp), spl_one _ h46]
      congr 1
    | some q =>
      obtain ⟨u, b⟩ := q
      obtain ⟨e, hu⟩ := cutAt_some hc
      have hl := congrArg List.length e
      rw [List.length_append, List.length_cons] at hl
      have hx1 : s.extract (u.length + 1) s.size = mk b := by
        rw [extract_mk]
        apply ext
        show ((Lb s).drop (u.length + 1)).take _ = b
        rw [e, show u.length + 1 = u.length + 1 from rfl, ← List.drop_drop, List.drop_left, List.drop_succ_cons, List.drop_zero, List.take_of_length_le (by omega)]
      have hx0 : s.extract 0 u.length = mk u := by
        rw [extract_mk]
        apply ext
        show ((Lb s).drop 0).take _ = u
        rw [List.drop_zero, Nat.sub_zero, e, List.take_left]
      have hbs : (mk b).size = b.length := by rw [size_len]
      obtain ⟨K', hK'⟩ := ih (mk b) (ts ++ [mk u]) (by rw [hbs]; omega) (by unfold Fit at hs ⊢; rw [hbs]; omega) (by rw [hbs, List.length_append, List.length_singleton]; omega)
      refine ⟨K + K' + 1, fun k hk => ?_⟩
      obtain ⟨m, rfl⟩ : ∃ m, k = m + 1 := ⟨k - 1, by omega⟩
      have hi : version_zzIndex.f (m + 1) s dot = some (idx 0 ((Lb s).drop 0)) := hK (m + 1) (by omega)
      show zspl dot (m + 1) s ts = _
      rw [zspl, if_pos (by omega), hi, Option.bind_some, List.drop_zero]
      unfold idx
      rw [hc]
      simp only [hd]
      rw [if_neg (by omega), if_pos (by omega), show (((0 + u.length : Nat) : Int) + 1).toNat = u.length + 1 by omega, show ((0 + u.length : Nat) : Int).toNat = u.length by omega, hx1, hx0]
      refine (hK' m (by omega)).trans ?_
      congr 1
      show ts ++ [mk u] ++ (spl b).map mk = ts ++ (spl (Lb s)).map mk
      rw [e, spl_dot _ _ hu]
      simp
theorem zsplit_ev {s : ByteArray} (hs : s.size ≤ 1099511627776) : Ev (fun k => version_zzSplit.f k s dot) ((spl (Lb s)).map mk) := by
  have h := split_ev s.size s [] (Nat.le_refl _) (by unfold Fit; omega) (by simp; omega)
  rw [List.nil_append] at h
  refine congr (fun k => ?_) h
  show version_zzSplit.f k s dot = _
  unfold version_zzSplit.f
  rw [if_pos ⟨by omega, by decide⟩]
end Go.Proofs.YtomoefldmgfaoaaDoor.Pv
