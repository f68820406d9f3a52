/- Arguments of bounded bulk (strings, numbers, structs and slices of these), opened to Lean values with their bounds. -/
import Derived.Test.YthejejeginnbdaaGreatDoorRows
import Derived.Test.YthejejeginnbdaaGreatDoorWWords
import Derived.Deep.Slices
import Derived.WideShapes
import Derived.ChangeArms
set_option linter.unusedVariables false
set_option linter.unusedSimpArgs false
namespace Go.Proofs.YthejejeginnbdaaGreatDoor.OpensN
open Go.RowKit Go.ChangeShapes Go.WideShapes Go.Deep Go.Proofs.YthejejeginnbdaaGreatDoorW.PrintWords

theorem one_le {H : Type} (d : DataW H) : 1 ≤ Rows.uptoBulk d := by
  cases d with
  | lit l => cases l <;> simp [Rows.uptoBulk]
  | nil => simp [Rows.uptoBulk]
  | ptr d => simp [Rows.uptoBulk]
  | slice elems spare => simp [Rows.uptoBulk]
  | agg parts => simp [Rows.uptoBulk]
  | iface t d => simp [Rows.uptoBulk]
  | map entries => simp [Rows.uptoBulk]
  | held h => simp [Rows.uptoBulk]
theorem part_le {H : Type} {d : DataW H} {l : List (DataW H)} (h : d ∈ l) : Rows.uptoBulk d ≤ Rows.uptoBulkAll l := by
  induction l with
  | nil => cases h
  | cons x r ih =>
    simp only [Rows.uptoBulkAll]
    cases List.mem_cons.1 h with
    | inl e => subst e; omega
    | inr e => have := ih e; omega
theorem length_le {H : Type} (l : List (DataW H)) : l.length ≤ Rows.uptoBulkAll l := by
  induction l with
  | nil => simp [Rows.uptoBulkAll]
  | cons x r ih => have := one_le x; simp only [Rows.uptoBulkAll, List.length_cons]; omega

/-- What a reading of bulk at most N gives. -/
def OpensN {α : Type} (N : Nat) (P : Program) (t : TypeId) (d : Kd α) (I : α → Prop) : Prop :=
  ∀ (H : Type) (enc : TypeId × Value → H) (w : World) (n : Nat) (cs : List Value) (y : DataW H × List MemPlace), DataW.trod enc P w 0 (fun _ => true) true n t cs = some y → Rows.uptoBulk y.1 ≤ N → ∃ x, d.K w x cs ∧ I x
theorem opens_int {N : Nat} {P : Program} {t : TypeId} {k : IntKind} (ht : P.underlying t = some (.int k)) : OpensN N P t (Kd.int k) (fun n => (Lit.int k n).wf = true) := by
  intro H enc w n cs y h _
  obtain ⟨a, rfl, _, wa⟩ := DataW.trod_int ht h
  exact ⟨a, rfl, wa⟩
theorem opens_string {N : Nat} {P : Program} {t : TypeId} (ht : P.underlying t = some .string) : OpensN N P t Kd.string (fun s => s.size ≤ N) := by
  intro H enc w n cs y h hb
  obtain ⟨a, rfl, rfl, ha⟩ := DataW.trod_string ht h
  refine ⟨a, rfl, ?_⟩
  have h1 : Rows.uptoBulk (DataW.lit (H := H) (.string a.data.toList)) = a.data.toList.length + 1 := by simp [Rows.uptoBulk]
  have h2 : a.size = a.data.toList.length := by rw [Array.length_toList]; rfl
  simp only at hb
  rw [h1] at hb
  omega
/-- A struct of a number, a string and a number. -/
theorem opens_three {N : Nat} {P : Program} {t t0 t1 t2 : TypeId} {k0 k2 : IntKind} {f0 f1 f2 : Field} (ht : P.underlying t = some (.struct #[f0, f1, f2])) (hC : P.cellsOf t = 3)
    (e0 : f0.type = t0) (e1 : f1.type = t1) (e2 : f2.type = t2) (o0 : f0.offset = 0) (o1 : f1.offset = 1) (o2 : f2.offset = 2) (c0 : P.cellsOf t0 = 1) (c1 : P.cellsOf t1 = 1) (c2 : P.cellsOf t2 = 1)
    (u0 : P.underlying t0 = some (.int k0)) (u1 : P.underlying t1 = some .string) (u2 : P.underlying t2 = some (.int k2)) {H : Type} {enc : TypeId × Value → H} {w : World} {n : Nat} {cs : List Value} {y : DataW H × List MemPlace}
    (hy : DataW.trod enc P w 0 (fun _ => true) true n t cs = some y) (hb : Rows.uptoBulk y.1 ≤ N) : ∃ a s b, cs = [.int k0 a, .string s, .int k2 b] ∧ (Lit.int k0 a).wf = true ∧ s.size ≤ N ∧ (Lit.int k2 b).wf = true := by
  obtain ⟨xs, m, rfl, rfl, hlen, hxl, hf⟩ := DataW.trod_struct ht hy
  have h0 := hf 0 f0 rfl
  have h1 := hf 1 f1 rfl
  have h2 := hf 2 f2 rfl
  subst e0; subst e1; subst e2
  have hx : xs.length = 3 := hxl
  rw [o0, c0, List.getElem?_eq_getElem (by omega)] at h0
  rw [o1, c1, List.getElem?_eq_getElem (by omega)] at h1
  rw [o2, c2, List.getElem?_eq_getElem (by omega)] at h2
  obtain ⟨a, ha, _, wa⟩ := DataW.trod_int u0 h0
  obtain ⟨s, hs, hsd, _⟩ := DataW.trod_string u1 h1
  obtain ⟨b, hbb, _, wb⟩ := DataW.trod_int u2 h2
  have hp : Rows.uptoBulk (xs[1]'(by omega)).1 ≤ Rows.uptoBulkAll (xs.map (·.1)) := part_le (List.mem_map.2 ⟨_, List.getElem_mem _, rfl⟩)
  have hag : Rows.uptoBulk (DataW.agg (xs.map (·.1))) = Rows.uptoBulkAll (xs.map (·.1)) + 1 ∨ Rows.uptoBulkAll (xs.map (·.1)) ≤ Rows.uptoBulk (DataW.agg (xs.map (·.1))) := by
    right; simp only [Rows.uptoBulk]; omega
  have h3 : Rows.uptoBulk (DataW.lit (H := H) (.string s.data.toList)) = s.data.toList.length + 1 := by simp [Rows.uptoBulk]
  have h4 : s.size = s.data.toList.length := by rw [Array.length_toList]; rfl
  rw [hsd] at hp
  have hcs : cs.length = 3 := by rw [hlen, hC]
  match cs, hcs with
  | [x0, x1, x2], _ =>
    simp at ha hs hbb
    subst ha; subst hs; subst hbb
    refine ⟨a, s, b, rfl, wa, ?_, wb⟩
    rcases hag with hag | hag <;> (simp only at hb hp; omega)
/-- A struct of two strings. -/
theorem opens_two {N : Nat} {P : Program} {t t0 t1 : TypeId} {f0 f1 : Field} (ht : P.underlying t = some (.struct #[f0, f1])) (hC : P.cellsOf t = 2)
    (e0 : f0.type = t0) (e1 : f1.type = t1) (o0 : f0.offset = 0) (o1 : f1.offset = 1) (c0 : P.cellsOf t0 = 1) (c1 : P.cellsOf t1 = 1)
    (u0 : P.underlying t0 = some .string) (u1 : P.underlying t1 = some .string) {H : Type} {enc : TypeId × Value → H} {w : World} {n : Nat} {cs : List Value} {y : DataW H × List MemPlace}
    (hy : DataW.trod enc P w 0 (fun _ => true) true n t cs = some y) (hb : Rows.uptoBulk y.1 ≤ N) : ∃ a s, cs = [.string a, .string s] ∧ a.size ≤ N ∧ s.size ≤ N := by
  obtain ⟨xs, m, rfl, rfl, hlen, hxl, hf⟩ := DataW.trod_struct ht hy
  have h0 := hf 0 f0 rfl
  have h1 := hf 1 f1 rfl
  subst e0; subst e1
  have hx : xs.length = 2 := hxl
  rw [o0, c0, List.getElem?_eq_getElem (by omega)] at h0
  rw [o1, c1, List.getElem?_eq_getElem (by omega)] at h1
  obtain ⟨a, ha, had, _⟩ := DataW.trod_string u0 h0
  obtain ⟨s, hs, hsd, _⟩ := DataW.trod_string u1 h1
  have hp0 : Rows.uptoBulk (xs[0]'(by omega)).1 ≤ Rows.uptoBulkAll (xs.map (·.1)) := part_le (List.mem_map.2 ⟨_, List.getElem_mem _, rfl⟩)
  have hp : Rows.uptoBulk (xs[1]'(by omega)).1 ≤ Rows.uptoBulkAll (xs.map (·.1)) := part_le (List.mem_map.2 ⟨_, List.getElem_mem _, rfl⟩)
  have hag : Rows.uptoBulkAll (xs.map (·.1)) ≤ Rows.uptoBulk (DataW.agg (xs.map (·.1))) := by
    simp only [Rows.uptoBulk]; omega
  have h2 : Rows.uptoBulk (DataW.lit (H := H) (.string a.data.toList)) = a.data.toList.length + 1 := by simp [Rows.uptoBulk]
  have h3 : Rows.uptoBulk (DataW.lit (H := H) (.string s.data.toList)) = s.data.toList.length + 1 := by simp [Rows.uptoBulk]
  have h4 : s.size = s.data.toList.length := by rw [Array.length_toList]; rfl
  have h5 : a.size = a.data.toList.length := by rw [Array.length_toList]; rfl
  rw [hsd] at hp
  rw [had] at hp0
  have hcs : cs.length = 2 := by rw [hlen, hC]
  match cs, hcs with
  | [x0, x1], _ =>
    simp at ha hs
    subst ha; subst hs
    refine ⟨a, s, rfl, ?_, ?_⟩ <;> (simp only at hb hp hp0; omega)
theorem list_of {α : Type} {Q : Nat → α → Prop} (n : Nat) (h : ∀ i, i < n → ∃ x, Q i x) : ∃ xs : List α, xs.length = n ∧ ∀ i x, xs[i]? = some x → Q i x := by
  induction n with
  | zero => exact ⟨[], rfl, fun i x hx => by simp at hx⟩
  | succ n ih =>
    obtain ⟨xs, hl, hx⟩ := ih (fun i hi => h i (by omega))
    obtain ⟨x, hq⟩ := h n (by omega)
    refine ⟨xs ++ [x], by simp [hl], fun i y hy => ?_⟩
    by_cases hi : i < xs.length
    · rw [List.getElem?_append_left hi] at hy; exact hx i y hy
    · rw [List.getElem?_append_right (by omega)] at hy
      by_cases h0 : i - xs.length = 0
      · rw [h0] at hy
        simp at hy
        have : i = n := by omega
        subst this; subst hy; exact hq
      · rw [List.getElem?_eq_none (by simp; omega)] at hy
        simp at hy
/-- A slice of them. -/
theorem opens_slice {α : Type} {N : Nat} {P : Program} {t e : TypeId} {d : Kd α} {I : α → Prop} (ht : P.underlying t = some (.slice e)) (hC : P.cellsOf e = d.sz) (h : OpensN N P e d I) :
    OpensN N P t (Kd.slice e d) (fun xs => xs.length ≤ N ∧ ∀ x ∈ xs, I x) := by
  intro H enc w n cs y hy hb
  rcases DataW.trod_slice ht hy with ⟨rfl, _⟩ | ⟨a, len, cap, elems, rest, m, rfl, rfl, rfl, _, hl, hm, hel, hi, _⟩
  · exact ⟨[], ⟨none, 0, rfl, Nat.le_refl _, Kd.C_nil d w⟩, by simp, by simp⟩
  · simp only [Rows.uptoBulk] at hb
    have hlen := length_le (elems.map (·.1))
    rw [List.length_map] at hlen
    have hex : ∀ i, i < len → ∃ x, (∃ c, c.length = d.sz ∧ d.K w x c ∧ ∀ j u, c[j]? = some u → w.cell? (a.add (i * d.sz + j)) = some u) ∧ I x := by
      intro i hil
      have h1 := hi i hil
      rw [List.getElem?_eq_getElem (by omega)] at h1
      obtain ⟨c, hc, htr⟩ := Option.bind_eq_some_iff.1 h1
      have hp : Rows.uptoBulk (elems[i]'(by omega)).1 ≤ Rows.uptoBulkAll (elems.map (·.1)) := part_le (List.mem_map.2 ⟨_, List.getElem_mem _, rfl⟩)
      obtain ⟨x, hk, hx⟩ := h H enc w m c _ htr (by omega)
      rw [hC] at hc
      obtain ⟨_, hcl, hat⟩ := World.cells?_some hc
      refine ⟨x, ⟨c, hcl, hk, fun j u hu => ?_⟩, hx⟩
      have hj : j < c.length := (List.getElem?_eq_some_iff.1 hu).1
      rw [← Go.Deep.add_add, hat j (by omega), hu]
    obtain ⟨xs, hxl, hxs⟩ := list_of len hex
    unfold maxLen at hm
    refine ⟨xs, ⟨some a, cap, by rw [hxl], by omega, ⟨rfl, by omega, fun _ => ⟨a, rfl, fun j p hj => (hxs j p hj).1⟩⟩⟩, by omega, fun x hx => ?_⟩
    obtain ⟨j, hj, rfl⟩ := List.mem_iff_getElem.1 hx
    exact (hxs j _ (List.getElem?_eq_getElem hj)).2
end Go.Proofs.YthejejeginnbdaaGreatDoor.OpensN
