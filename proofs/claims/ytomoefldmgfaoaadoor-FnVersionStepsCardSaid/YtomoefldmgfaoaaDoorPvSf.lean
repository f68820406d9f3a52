/- Versions: the reference's step, its ways joined. -/
import Derived.Test.YtomoefldmgfaoaaDoorPvSc
import Derived.Test.YtomoefldmgfaoaaDoorPvSe
set_option linter.unusedVariables false
set_option linter.unusedSimpArgs false
namespace Go.Proofs.YtomoefldmgfaoaaDoor.Pv.SFnVersionSteps
open Go Go.RowKit Go.Proofs.YtomoefldmgfaoaaDoor Go.Proofs.YtomoefldmgfaoaaDoorW.PrintWords Go.Proofs.YtomoefldmgfaoaaDoor.PFnVersionSteps Go.Proofs.YtomoefldmgfaoaaDoor.Txt Go.Proofs.YtomoefldmgfaoaaDoor.Small Go.Proofs.YtomoefldmgfaoaaDoor.Pv

/-- A version whose numbers stand in three places, if it is semantic. -/
def Three (q : Pd) : Prop := q.1 = true → q.2.1.length = 3
theorem kind_three {kind : Int} {l : Bs} {q : Pd} (h : pkind kind l = some q) : Three q := by
  have hs : ∀ {q : Pd}, psem l = some q → Three q := by
    intro q h _
    unfold psem at h
    cases hp : pparse true l with
    | none => rw [hp] at h; cases h
    | some x =>
      rw [hp] at h
      obtain rfl := Option.some.inj h
      show x.1.length = 3
      unfold pparse at hp
      simp only [if_true] at hp
      split at hp
      · cases hp
      · split at hp
        · cases hp
        · split at hp
          · cases hp
          · rename_i h3
            have h3 : (flds l.length (ahead l)).1.length = 3 := Decidable.not_not.1 h3
            cases hn : nums true true (flds l.length (ahead l)).1 with
            | none => rw [hn] at hp; cases hp
            | some ns =>
              have hl := nums_len hn
              rw [hn] at hp
              simp only at hp
              split at hp
              · split at hp
                · cases hp
                · split at hp
                  · obtain rfl := Option.some.inj hp; show ns.length = 3; omega
                  · cases hp
              · obtain rfl := Option.some.inj hp; show ns.length = 3; omega
  have hg : ∀ {q : Pd}, pgen l = some q → Three q := by
    intro q h h1
    unfold pgen at h
    cases hp : pparse false l with
    | none => rw [hp] at h; cases h
    | some x =>
      rw [hp] at h
      obtain rfl := Option.some.inj h
      cases h1
  unfold pkind at h
  split at h
  · exact hg h
  · split at h
    · exact hs h
    · split at h
      · intro h1
        unfold ptwo at h
        cases hp : pgen l with
        | none => rw [hp] at h; cases h
        | some x => rw [hp] at h; obtain rfl := Option.some.inj h; cases h1
      · unfold pany at h
        cases hp : psem l with
        | none => rw [hp] at h; exact hg h
        | some x => rw [hp] at h; obtain rfl := Option.some.inj h; exact hs hp
theorem three_step {q : Pd} (h : Three q) (d : Int) (n : Nat) (off : Int) (s : Bs) : Three (stepV q d n off s) := by
  unfold Three at *
  unfold stepV
  intro h1
  repeat' split
  all_goals first | rfl | (exact h (by simpa [*] using h1)) | (simp_all; done)
theorem three_form {ns : List Nat} (h : ns.length = 3) : ∃ a b c, ns = [a, b, c] := by
  match ns, h with
  | [a, b, c], _ => exact ⟨a, b, c, rfl⟩
theorem newM_off {m : Nat} {d : Int} {u : Nat} {off : Int} (hd : d < 0 ∨ 4 < d) (hw : wide m d u off = false) : newM m d u off = offM m (if d = 5 then wrap64 (u : Int) else if d = 6 then wrap64 (-(wrap64 (u : Int))) else off) := by
  have h1 : byU d u off ≤ 2147483647 ∧ m ≤ 4611686018427387904 := by
    unfold wide at hw
    rw [Bool.or_eq_false_iff, decide_eq_false_iff_not, decide_eq_false_iff_not] at hw
    omega
  unfold newM upB offM
  unfold byU at h1 ⊢
  by_cases h5 : d = 5
  · subst h5
    simp only [if_true, true_or] at h1 ⊢
    rw [w64 _ (by omega) (by omega), if_pos (by simp), if_pos (by omega)]
    omega
  · by_cases h6 : d = 6
    · subst h6
      simp only [if_true, or_true] at h1 ⊢
      rw [if_neg (by simp), if_neg (by omega : ¬ (6 : Int) = 5), w64 (u : Int) (by omega) (by omega), w64 _ (by omega) (by omega)]
      by_cases h0 : u = 0
      · subst h0; simp; omega
      · rw [if_neg (by omega)]
        split <;> omega
    · rw [if_neg (by omega)] at h1
      rw [if_neg h5, if_neg h6, if_neg (show ¬ (d = 5 ∨ d = 6) by omega)]
      by_cases h0 : 0 ≤ off
      · rw [if_pos (by simp [h0, h6]), if_pos h0]; omega
      · rw [if_neg (by simp [h0, h5]), if_neg h0]; split <;> omega
/-- Whether a step is asked. -/
def fineV (q : Pd) (d : Int) (u : Nat) (off : Int) : Bool := if 0 ≤ d ∧ d ≤ 4 then q.1 else !wide (pt q.2.1 1) d u off
abbrev Row (w : World) (A : Option Addr) (c : Nat) (ns : List Nat) : Prop := Kd.C (Kd.int .u64) w A (zs ns).length (zs ns) ∧ (zs ns).length ≤ c
/-- A step: none that is asked, or the version that it makes. -/
theorem stepped_calls (A : Option Addr) (c : Nat) (q : Pd) (d : Int) (u : Nat) (off : Int) (s : ByteArray) (hf : FitP 8589934592 q) (h3 : Three q) (hu : u < 18446744073709551616) (ho0 : -9223372036854775808 ≤ off) (ho1 : off ≤ 9223372036854775807) (w : World) (hr : Row w A c q.2.1) :
    Calls Tryd.prog 19 #[.agg #[.slice A q.2.1.length c, .bool q.1, .string (mk q.2.2.1), .string (mk q.2.2.2)], .agg #[.int .i64 d, .int .u64 (u : Int), .int .i64 off, .string s]] w fun e w' =>
      ((fineV q d u off = false ∧ e = .returned (.tuple #[.agg #[.slice A q.2.1.length c, .bool q.1, .string (mk q.2.2.1), .string (mk q.2.2.2)], .bool false])) ∨ fineV q d u off = true ∧ ∃ A' c', e = .returned (.tuple #[.agg #[.slice A' (stepV q d u off (Lb s)).2.1.length c', .bool (stepV q d u off (Lb s)).1, .string (mk (stepV q d u off (Lb s)).2.2.1), .string (mk (stepV q d u off (Lb s)).2.2.2)], .bool true]) ∧ Row w' A' c' (stepV q d u off (Lb s)).2.1) ∧ Below w.heap.size w w' := by
  obtain ⟨sem, ns, p, b⟩ := q
  have hs : mk (Lb s) = s := Go.Proofs.YtomoefldmgfaoaaDoor.Txt.ext rfl
  by_cases hd : 0 ≤ d ∧ d ≤ 4
  · cases sem with
    | false =>
      refine (st_not A c ns (mk p) (mk b) d u off s w hr.1 hr.2 hd.1 hd.2).mono fun e w' h => ⟨Or.inl ⟨if_pos hd, h.1⟩, h.2⟩
    | true =>
      have hl : ns.length = 3 := h3 rfl
      have hset : ∀ (R : List Nat × ByteArray × ByteArray), R.1.length = ns.length → ((d = 3 ∧ s.size ≠ 0 ∧ R = (ns, s, mk b)) ∨ (d ≠ 3 ∧ ((d = 4 ∧ R = (ns, mk p, s)) ∨ (d = 0 ∧ R = (ns.set 0 u, mk p, mk b)) ∨ (d = 1 ∧ R = (ns.set 1 u, mk p, mk b)) ∨ (d = 2 ∧ R = (ns.set 2 u, mk p, mk b))))) →
          ((stepV (true, ns, p, b) d u off (Lb s)).1 = true ∧ (stepV (true, ns, p, b) d u off (Lb s)).2.1 = R.1 ∧ mk (stepV (true, ns, p, b) d u off (Lb s)).2.2.1 = R.2.1 ∧ mk (stepV (true, ns, p, b) d u off (Lb s)).2.2.2 = R.2.2) →
          Calls Tryd.prog 19 #[.agg #[.slice A ns.length c, .bool true, .string (mk p), .string (mk b)], .agg #[.int .i64 d, .int .u64 (u : Int), .int .i64 off, .string s]] w fun e w' =>
            ((fineV (true, ns, p, b) d u off = false ∧ e = .returned (.tuple #[.agg #[.slice A (true, ns, p, b).2.1.length c, .bool (true, ns, p, b).1, .string (mk (true, ns, p, b).2.2.1), .string (mk (true, ns, p, b).2.2.2)], .bool false])) ∨ fineV (true, ns, p, b) d u off = true ∧ ∃ A' c', e = .returned (.tuple #[.agg #[.slice A' (stepV (true, ns, p, b) d u off (Lb s)).2.1.length c', .bool (stepV (true, ns, p, b) d u off (Lb s)).1, .string (mk (stepV (true, ns, p, b) d u off (Lb s)).2.2.1), .string (mk (stepV (true, ns, p, b) d u off (Lb s)).2.2.2)], .bool true]) ∧ Row w' A' c' (stepV (true, ns, p, b) d u off (Lb s)).2.1) ∧ Below w.heap.size w w' := by
        intro R hRl hR ⟨e1, e2, e3, e4⟩
        rw [e1, e2, e3, e4, hRl]
        exact (st_set A c ns (mk p) (mk b) d u off s w hr.1 hr.2 hl R hR).mono fun e w' ⟨A', c', h1, h2, h4⟩ => ⟨Or.inr ⟨if_pos hd, A', c', h1, h2⟩, h4⟩
      obtain ⟨x, y, z, rfl⟩ := three_form hl
      rcases (show d = 0 ∨ d = 1 ∨ d = 2 ∨ d = 3 ∨ d = 4 by omega) with h | h | h | h | h
      · refine hset ([x, y, z].set 0 u, mk p, mk b) (List.length_set ..) (Or.inr ⟨by omega, Or.inr (Or.inl ⟨h, rfl⟩)⟩) ?_
        subst h
        exact ⟨rfl, rfl, rfl, rfl⟩
      · refine hset ([x, y, z].set 1 u, mk p, mk b) (List.length_set ..) (Or.inr ⟨by omega, Or.inr (Or.inr (Or.inl ⟨h, rfl⟩))⟩) ?_
        subst h
        exact ⟨rfl, rfl, rfl, rfl⟩
      · refine hset ([x, y, z].set 2 u, mk p, mk b) (List.length_set ..) (Or.inr ⟨by omega, Or.inr (Or.inr (Or.inr ⟨h, rfl⟩))⟩) ?_
        subst h
        exact ⟨rfl, rfl, rfl, rfl⟩
      · by_cases h0 : s.size = 0
        · subst h
          have hz : Lb s = [] := List.length_eq_zero_iff.1 (by have e : s.size = (Lb s).length := Go.Proofs.YtomoefldmgfaoaaDoor.Txt.size_len s; omega)
          have hq : stepV (true, [x, y, z], p, b) 3 u off (Lb s) = (true, [x, y, z], p, b) := by
            show (if Lb s = [] then _ else _) = _
            rw [if_pos hz]
          rw [hq]
          exact (st_same A c [x, y, z] (mk p) (mk b) 3 u off s w hr.1 hr.2 rfl h0).mono fun e w' h => ⟨Or.inr ⟨rfl, A, c, h.1, Kd.C_below hr.1 h.2, hr.2⟩, h.2⟩
        · refine hset ([x, y, z], s, mk b) rfl (Or.inl ⟨h, h0, rfl⟩) ?_
          subst h
          have hz : Lb s ≠ [] := fun e => h0 (by have e2 : s.size = (Lb s).length := Go.Proofs.YtomoefldmgfaoaaDoor.Txt.size_len s; rw [e] at e2; exact e2)
          have hq : stepV (true, [x, y, z], p, b) 3 u off (Lb s) = (true, [x, y, z], Lb s, b) := by
            show (if Lb s = [] then _ else _) = _
            rw [if_neg hz]
            rfl
          rw [hq]
          exact ⟨rfl, rfl, hs, rfl⟩
      · refine hset ([x, y, z], mk p, s) rfl (Or.inr ⟨by omega, Or.inl ⟨h, rfl⟩⟩) ?_
        subst h
        exact ⟨rfl, rfl, rfl, hs⟩
  · have hd' : d < 0 ∨ 4 < d := by omega
    have p0 := pt_lt hf.2.2.1 0
    have p1 := pt_lt hf.2.2.1 1
    have hstep : stepV (sem, ns, p, b) d u off (Lb s) = (false, [pt ns 0, offM (pt ns 1) (if d = 5 then wrap64 (u : Int) else if d = 6 then wrap64 (-(wrap64 (u : Int))) else off)], [], []) := by
      unfold stepV
      rw [if_neg (by omega), if_neg (by omega), if_neg (by omega), if_neg (by omega), if_neg (by omega)]
      by_cases h5 : d = 5
      · rw [if_pos h5, if_pos h5]
      · rw [if_neg h5, if_neg h5]
        by_cases h6 : d = 6
        · rw [if_pos h6, if_pos h6]
        · rw [if_neg h6, if_neg h6]
    have fin : ∀ e w', ((wide (pt ns 1) d u off = true ∧ e = Ending.returned (.tuple #[.agg #[.slice A ns.length c, .bool sem, .string (mk p), .string (mk b)], .bool false])) ∨ (wide (pt ns 1) d u off = false ∧ ∃ A' c', e = .returned (.tuple #[.agg #[.slice A' 2 c', .bool false, .string ⟨#[]⟩, .string ⟨#[]⟩], .bool true]) ∧ Kd.C (Kd.int .u64) w' A' (zs [pt ns 0, newM (pt ns 1) d u off]).length (zs [pt ns 0, newM (pt ns 1) d u off]) ∧ 2 ≤ c')) ∧ Below w.heap.size w w' →
        ((fineV (sem, ns, p, b) d u off = false ∧ e = .returned (.tuple #[.agg #[.slice A (sem, ns, p, b).2.1.length c, .bool (sem, ns, p, b).1, .string (mk (sem, ns, p, b).2.2.1), .string (mk (sem, ns, p, b).2.2.2)], .bool false])) ∨ fineV (sem, ns, p, b) d u off = true ∧ ∃ A' c', e = .returned (.tuple #[.agg #[.slice A' (stepV (sem, ns, p, b) d u off (Lb s)).2.1.length c', .bool (stepV (sem, ns, p, b) d u off (Lb s)).1, .string (mk (stepV (sem, ns, p, b) d u off (Lb s)).2.2.1), .string (mk (stepV (sem, ns, p, b) d u off (Lb s)).2.2.2)], .bool true]) ∧ Row w' A' c' (stepV (sem, ns, p, b) d u off (Lb s)).2.1) ∧ Below w.heap.size w w' := by
      rintro e w' ⟨h | ⟨hw, A', c', he, hrow, hc⟩, hb⟩
      · exact ⟨Or.inl ⟨by unfold fineV; rw [if_neg hd]; show (!wide (pt ns 1) d u off) = false; rw [h.1]; rfl, h.2⟩, hb⟩
      · rw [hstep, ← newM_off hd' hw]
        exact ⟨Or.inr ⟨by unfold fineV; rw [if_neg hd]; show (!wide (pt ns 1) d u off) = true; rw [hw]; rfl, A', c', he, hrow, hc⟩, hb⟩
    by_cases h5 : d = 5
    · subst h5
      exact (st_d5 A c ns sem (mk p) (mk b) 5 u off s w hr.1 hr.2 hu p0 p1 rfl).mono fin
    · by_cases h6 : d = 6
      · subst h6
        exact (st_d6 A c ns sem (mk p) (mk b) 6 u off s w hr.1 hr.2 hu p0 p1 rfl).mono fin
      · exact (st_oth A c ns sem (mk p) (mk b) d u off s w hr.1 hr.2 ho0 ho1 p0 p1 (by omega)).mono fin
theorem stepped_no (A : Option Addr) (c : Nat) (q : Pd) (d : Int) (u : Nat) (off : Int) (s : ByteArray) (hf : FitP 8589934592 q) (h3 : Three q) (hu : u < 18446744073709551616) (ho0 : -9223372036854775808 ≤ off) (ho1 : off ≤ 9223372036854775807) (hv : fineV q d u off = false) (w : World) (hr : Row w A c q.2.1) :
    Calls Tryd.prog 19 #[.agg #[.slice A q.2.1.length c, .bool q.1, .string (mk q.2.2.1), .string (mk q.2.2.2)], .agg #[.int .i64 d, .int .u64 (u : Int), .int .i64 off, .string s]] w fun e w' =>
      e = .returned (.tuple #[.agg #[.slice A q.2.1.length c, .bool q.1, .string (mk q.2.2.1), .string (mk q.2.2.2)], .bool false]) ∧ Below w.heap.size w w' :=
  (stepped_calls A c q d u off s hf h3 hu ho0 ho1 w hr).mono fun e w' h => ⟨h.1.elim (fun h => h.2) (fun h => absurd h.1 (by rw [hv]; decide)), h.2⟩
theorem stepped_yes (A : Option Addr) (c : Nat) (q : Pd) (d : Int) (u : Nat) (off : Int) (s : ByteArray) (hf : FitP 8589934592 q) (h3 : Three q) (hu : u < 18446744073709551616) (ho0 : -9223372036854775808 ≤ off) (ho1 : off ≤ 9223372036854775807) (hv : fineV q d u off = true) (w : World) (hr : Row w A c q.2.1) (Q : Pd) (hQ : Q = stepV q d u off (Lb s)) :
    Calls Tryd.prog 19 #[.agg #[.slice A q.2.1.length c, .bool q.1, .string (mk q.2.2.1), .string (mk q.2.2.2)], .agg #[.int .i64 d, .int .u64 (u : Int), .int .i64 off, .string s]] w fun e w' =>
      ∃ A' c', e = .returned (.tuple #[.agg #[.slice A' Q.2.1.length c', .bool Q.1, .string (mk Q.2.2.1), .string (mk Q.2.2.2)], .bool true]) ∧ Row w' A' c' Q.2.1 ∧ Below w.heap.size w w' := by
  subst hQ
  refine (stepped_calls A c q d u off s hf h3 hu ho0 ho1 w hr).mono fun e w' h => ?_
  rcases h with ⟨h | h, hb⟩
  · exact absurd h.1 (by rw [hv]; decide)
  · obtain ⟨-, A', c', h1, h2⟩ := h
    exact ⟨A', c', h1, h2, hb⟩
end Go.Proofs.YtomoefldmgfaoaaDoor.Pv.SFnVersionSteps
