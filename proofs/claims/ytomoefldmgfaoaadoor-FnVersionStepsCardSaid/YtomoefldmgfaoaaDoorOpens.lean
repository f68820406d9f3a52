/- Arguments of whatever shape (numbers, bools, strings, structs and slices of these), opened to Lean values: what the row hands over reads as the printed functions' kinds say. -/
import Derived.Test.YtomoefldmgfaoaaDoorWWords
import Derived.Deep.Slices
import Derived.WideShapes
import Derived.ChangeArms
set_option linter.unusedVariables false
set_option linter.unusedSimpArgs false
namespace Go.Proofs.YtomoefldmgfaoaaDoor.Opens
open Go.RowKit Go.ChangeShapes Go.WideShapes Go.Deep Go.Proofs.YtomoefldmgfaoaaDoorW.PrintWords

def Opens {α : Type} (P : Program) (t : TypeId) (d : Kd α) (I : α → Prop) : Prop :=
  ∀ (H : Type) (enc : TypeId × Value → H) (w : World) (n : Nat) (cs : List Value) (y : DataW H × List MemPlace), DataW.trod enc P w 0 (fun _ => true) true n t cs = some y → ∃ x, d.K w x cs ∧ I x

theorem opens_int {P : Program} {t : TypeId} {k : IntKind} (ht : P.underlying t = some (.int k)) : Opens P t (Kd.int k) (fun n => (Lit.int k n).wf = true) := by
  intro H enc w n cs y h
  obtain ⟨a, rfl, _, wa⟩ := DataW.trod_int ht h
  exact ⟨a, rfl, wa⟩

theorem opens_string {P : Program} {t : TypeId} (ht : P.underlying t = some .string) : Opens P t Kd.string (fun s => s.size ≤ maxLen) := by
  intro H enc w n cs y h
  obtain ⟨a, rfl, _, ha⟩ := DataW.trod_string ht h
  exact ⟨a, rfl, ha⟩

/-- The fields from number `j` on, whose cells begin at `o`. -/
def OpensFrom {α : Type} (P : Program) (fs : Array Field) (j o : Nat) (d : Kd α) (I : α → Prop) : Prop :=
  ∀ (H : Type) (enc : TypeId × Value → H) (w : World) (n : Nat) (cs : List Value) (xs : List (DataW H × List MemPlace)), xs.length = fs.size →
    (∀ (i : Nat) (f : Field), fs[i]? = some f → DataW.trod enc P w 0 (fun _ => true) true n f.type ((cs.drop f.offset).take (P.cellsOf f.type)) = xs[i]?) →
    ∃ x, d.K w x ((cs.drop o).take d.sz) ∧ I x

theorem opens_field {α : Type} {P : Program} {fs : Array Field} {j : Nat} {f : Field} {d : Kd α} {I : α → Prop} (hf : fs[j]? = some f) (h : Opens P f.type d I) (hC : P.cellsOf f.type = d.sz) :
    OpensFrom P fs j f.offset d I := by
  intro H enc w n cs xs hl hx
  have h1 := hx j f hf
  have hj : j < xs.length := by rw [hl]; exact (Array.getElem?_eq_some_iff.1 hf).1
  rw [List.getElem?_eq_getElem hj, hC] at h1
  exact h H enc w n _ _ h1

theorem from_last {α : Type} {P : Program} {fs : Array Field} {j o : Nat} {f : Field} {d : Kd α} {I : α → Prop} (hf : fs[j]? = some f) (ho : f.offset = o) (h : Opens P f.type d I) (hC : P.cellsOf f.type = d.sz) :
    OpensFrom P fs j o d I := by subst ho; exact opens_field hf h hC

theorem from_cons {α β : Type} {P : Program} {fs : Array Field} {j o : Nat} {f : Field} {a : Kd α} {b : Kd β} {I : α → Prop} {J : β → Prop} (hf : fs[j]? = some f) (ho : f.offset = o) (h : Opens P f.type a I) (hC : P.cellsOf f.type = a.sz)
    (hr : OpensFrom P fs (j + 1) (o + a.sz) b J) : OpensFrom P fs j o (Kd.pair a b) (fun x => I x.1 ∧ J x.2) := by
  intro H enc w n cs xs hl hx
  obtain ⟨x, hx1, hi⟩ := from_last hf ho h hC H enc w n cs xs hl hx
  obtain ⟨y, hy1, hj⟩ := hr H enc w n cs xs hl hx
  refine ⟨(x, y), ⟨_, _, ?_, hx1, hy1⟩, hi, hj⟩
  show (cs.drop o).take (a.sz + b.sz) = _
  rw [List.take_add, List.drop_drop]

theorem opens_struct {α : Type} {P : Program} {t : TypeId} {fs : Array Field} {d : Kd α} {I : α → Prop} (ht : P.underlying t = some (.struct fs)) (hC : P.cellsOf t = d.sz) (h : OpensFrom P fs 0 0 d I) : Opens P t d I := by
  intro H enc w n cs y hy
  obtain ⟨xs, m, rfl, _, hlen, hxl, hf⟩ := DataW.trod_struct ht hy
  obtain ⟨x, hk, hi⟩ := h H enc w m cs xs hxl hf
  refine ⟨x, ?_, hi⟩
  rw [List.drop_zero, List.take_of_length_le (by omega)] at hk
  exact hk

theorem opens_iso {α β : Type} {P : Program} {t : TypeId} {d : Kd α} {I : α → Prop} (f : β → α) (g : α → β) (hfg : ∀ y, f (g y) = y) (h : Opens P t d I) : Opens P t (Kd.iso d f) (fun x => I (f x)) := by
  intro H enc w n cs y hy
  obtain ⟨x, hk, hi⟩ := h H enc w n cs y hy
  refine ⟨g x, ?_, ?_⟩
  · show d.K w (f (g x)) cs
    rw [hfg]; exact hk
  · show I (f (g x))
    rw [hfg]; exact hi

theorem list_of {α : Type} {Q : Nat → α → Prop} (n : Nat) (h : ∀ i, i < n → ∃ x, Q i x) : ∃ xs : List α, xs.length = n ∧ ∀ i x, xs[i]? = some x → Q i x := by
  induction n with
  | zero => exact ⟨[], rfl, fun i x hx => by simp at hx⟩
  | succ n ih =>
    obtain ⟨xs, hl, hx⟩ := ih (fun i hi => h i (by omega))
    obtain ⟨x, hq⟩ := h n (by omega)
    refine ⟨xs ++ [x], by simp [hl], fun i y hy => ?_⟩
    by_cases hi : i < xs.length
    · rw [List.getElem?_append_left hi] at hy; exact hx i y hy
    · rw [List.getElem?_append_right (by omega)] at hy
      by_cases h0 : i - xs.length = 0
      · rw [h0] at hy
        simp at hy
        have : i = n := by omega
        subst this; subst hy; exact hq
      · rw [List.getElem?_eq_none (by simp; omega)] at hy
        simp at hy

theorem opens_slice {α : Type} {P : Program} {t e : TypeId} {d : Kd α} {I : α → Prop} (ht : P.underlying t = some (.slice e)) (hC : P.cellsOf e = d.sz) (h : Opens P e d I) :
    Opens P t (Kd.slice e d) (fun xs => xs.length ≤ maxLen ∧ ∀ x ∈ xs, I x) := by
  intro H enc w n cs y hy
  rcases open_slice ht hy with ⟨rfl, _⟩ | ⟨a, len, cap, m, n', D, Pl, rfl, _, hl, hm, hmm, _, hi⟩
  · exact ⟨[], ⟨none, 0, rfl, Nat.le_refl _, Kd.C_nil d w⟩, by simp, by simp⟩
  · have hmc : m = cap := by rw [hmm]; simp
    have hex : ∀ i, i < len → ∃ x, (∃ c, c.length = d.sz ∧ d.K w x c ∧ ∀ j u, c[j]? = some u → w.cell? (a.add (i * d.sz + j)) = some u) ∧ I x := by
      intro i hil
      obtain ⟨c, hc, htr⟩ := hi i (by omega)
      obtain ⟨x, hk, hx⟩ := h H enc w n' c _ htr
      rw [hC] at hc
      obtain ⟨_, hcl, hat⟩ := World.cells?_some hc
      refine ⟨x, ⟨c, hcl, hk, fun j u hu => ?_⟩, hx⟩
      have hj : j < c.length := (List.getElem?_eq_some_iff.1 hu).1
      rw [← Go.Deep.add_add, hat j (by omega), hu]
    obtain ⟨xs, hxl, hxs⟩ := list_of len hex
    unfold maxLen at hm
    refine ⟨xs, ⟨some a, cap, by rw [hxl], by omega, ⟨rfl, by omega, fun _ => ⟨a, rfl, fun j p hj => (hxs j p hj).1⟩⟩⟩, by unfold maxLen; omega, fun x hx => ?_⟩
    obtain ⟨j, hj, rfl⟩ := List.mem_iff_getElem.1 hx
    exact (hxs j _ (List.getElem?_eq_getElem hj)).2

/-- A parameter opened. -/
theorem open_any {α : Type} {P : Program} {t : TypeId} {d : Kd α} {I : α → Prop} (ho : Opens P t d I) {H : Type} {enc : TypeId × Value → H} {w : World} {v : Value} {x : DataW H} {p : List MemPlace}
    (h : DataW.Trod enc P w 0 (fun _ => true) true t v x p) : ∃ z, d.K w z v.cells.toList ∧ I z := by
  obtain ⟨n, hn⟩ := h
  exact ho H enc w n _ _ hn

end Go.Proofs.YtomoefldmgfaoaaDoor.Opens
