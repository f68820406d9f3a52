/- Decimal digits, and numbers times powers of ten in their shortest form: plain facts, with no program in sight. -/
set_option linter.unusedVariables false
set_option linter.unusedSimpArgs false
namespace Go.Proofs.Ytdhooibmibkbeaa.Dec

/-- A list's induction from its end. -/
theorem snoc_ind {P : List Int → Prop} (h0 : P []) (h1 : ∀ l d, P l → P (l ++ [d])) : ∀ l, P l := by
  intro l
  rw [← List.reverse_reverse l]
  induction l.reverse with
  | nil => simpa using h0
  | cons d l ih => rw [List.reverse_cons]; exact h1 _ _ ih

/-- A number's decimal digits, the most significant one first; none of 0. -/
def digs (n : Nat) : List Int := if h : n = 0 then [] else digs (n / 10) ++ [((n % 10 : Nat) : Int)]
termination_by n
decreasing_by omega

theorem digs_zero : digs 0 = [] := by unfold digs; simp
theorem digs_step (n : Nat) (h : n ≠ 0) : digs n = digs (n / 10) ++ [((n % 10 : Nat) : Int)] := by rw [digs]; simp [h]

/-- The number of digits. -/
def val (l : List Int) : Int := l.foldl (fun a d => 10 * a + d) 0

theorem val_nil : val [] = 0 := rfl
theorem val_snoc (l : List Int) (d : Int) : val (l ++ [d]) = 10 * val l + d := by simp [val, List.foldl_append]
theorem val_one (d : Int) : val [d] = d := by simp [val]

theorem val_append (a : List Int) : ∀ b, val (a ++ b) = val a * 10 ^ b.length + val b := by
  refine snoc_ind ?_ ?_
  · simp [val_nil]
  · intro l d ih
    rw [← List.append_assoc, val_snoc, ih, val_snoc, List.length_append]
    simp only [List.length_cons, List.length_nil, Nat.zero_add, Int.pow_succ]
    grind

theorem val_cons (x : Int) (l : List Int) : val (x :: l) = x * 10 ^ l.length + val l := by
  have := val_append [x] l
  rwa [val_one] at this

theorem val_zeros (n : Nat) : val (List.replicate n 0) = 0 := by
  induction n with
  | zero => rfl
  | succ n ih => rw [List.replicate_succ, val_cons, ih]; simp

/-- All are digits. -/
def Dg (l : List Int) : Prop := ∀ d ∈ l, 0 ≤ d ∧ d ≤ 9

theorem Dg.left {a b : List Int} (h : Dg (a ++ b)) : Dg a := fun d hd => h d (List.mem_append_left _ hd)
theorem Dg.right {a b : List Int} (h : Dg (a ++ b)) : Dg b := fun d hd => h d (List.mem_append_right _ hd)
theorem Dg.append {a b : List Int} (h : Dg a) (g : Dg b) : Dg (a ++ b) := fun d hd => (List.mem_append.1 hd).elim (h d) (g d)
theorem Dg.nil : Dg [] := fun _ h => by simp at h
theorem Dg.one {d : Int} (h : 0 ≤ d ∧ d ≤ 9) : Dg [d] := fun x hx => by simp at hx; subst hx; exact h
theorem Dg.zeros (n : Nat) : Dg (List.replicate n 0) := fun x hx => by have := (List.mem_replicate.1 hx).2; omega
theorem Dg.cons {x : Int} {l : List Int} (h : Dg (x :: l)) : (0 ≤ x ∧ x ≤ 9) ∧ Dg l := ⟨h x (by simp), fun d hd => h d (by simp [hd])⟩

theorem val_nonneg : ∀ l, Dg l → 0 ≤ val l := by
  refine snoc_ind ?_ ?_
  · intro _; rw [val_nil]; omega
  · intro l d ih h
    have := ih h.left
    have := h d (by simp)
    rw [val_snoc]; omega

theorem val_lt : ∀ l, Dg l → val l < 10 ^ l.length := by
  refine snoc_ind ?_ ?_
  · intro _; rw [val_nil]; decide
  · intro l d ih h
    have := ih h.left
    have := h d (by simp)
    rw [val_snoc, List.length_append]
    simp only [List.length_cons, List.length_nil, Nat.zero_add, Int.pow_succ]
    omega

theorem val_digs (n : Nat) : val (digs n) = n := by
  induction n using Nat.strongRecOn with
  | _ n ih =>
    by_cases h : n = 0
    · subst h; rw [digs_zero]; rfl
    · rw [digs_step n h, val_snoc, ih (n / 10) (by omega)]; omega

theorem digs_dg (n : Nat) : Dg (digs n) := by
  induction n using Nat.strongRecOn with
  | _ n ih =>
    by_cases h : n = 0
    · subst h; rw [digs_zero]; exact Dg.nil
    · rw [digs_step n h]; exact (ih (n / 10) (by omega)).append (Dg.one (by omega))

theorem digs_ne (n : Nat) (h : n ≠ 0) : digs n ≠ [] := by rw [digs_step n h]; simp

theorem digs_head (n : Nat) : (digs n).head? ≠ some 0 := by
  induction n using Nat.strongRecOn with
  | _ n ih =>
    by_cases h : n = 0
    · subst h; rw [digs_zero]; simp
    · rw [digs_step n h]
      by_cases g : n / 10 = 0
      · rw [g, digs_zero]; simp; omega
      · have := ih (n / 10) (by omega)
        rw [List.head?_append]
        cases hq : (digs (n / 10)).head? with
        | none => rw [List.head?_eq_none_iff] at hq; exact absurd hq (digs_ne _ g)
        | some x => rw [hq] at this; simpa using this

theorem digs_val : ∀ l, Dg l → l.head? ≠ some 0 → digs (val l).toNat = l := by
  refine snoc_ind ?_ ?_
  · intro _ _; rw [val_nil]; exact digs_zero
  · intro l d ih hd h0
    have hl := val_nonneg l hd.left
    have h1 := hd d (by simp)
    rw [val_snoc]
    by_cases hn : l = []
    · subst hn
      have : d ≠ 0 := by intro e; subst e; simp at h0
      rw [val_nil, digs_step _ (by omega), show (10 * 0 + d).toNat / 10 = 0 from by omega, digs_zero, show (((10 * 0 + d).toNat % 10 : Nat) : Int) = d from by omega]
    · have h0' : l.head? ≠ some 0 := by
        cases l with
        | nil => exact absurd rfl hn
        | cons x l => simpa using h0
      have e := ih hd.left h0'
      have : (val l).toNat ≠ 0 := by intro z; rw [z, digs_zero] at e; exact hn e.symm
      rw [digs_step _ (by omega), show (10 * val l + d).toNat / 10 = (val l).toNat from by omega, e, show (((10 * val l + d).toNat % 10 : Nat) : Int) = d from by omega]

theorem digs_len (k : Nat) : ∀ n, (digs n).length ≤ k ↔ n < 10 ^ k := by
  induction k with
  | zero =>
    intro n
    by_cases h : n = 0
    · subst h; rw [digs_zero]; simp
    · rw [digs_step n h]; simp; omega
  | succ k ih =>
    intro n
    by_cases h : n = 0
    · subst h; rw [digs_zero]; simp [Nat.pow_pos]
    · rw [digs_step n h]
      have := ih (n / 10)
      simp only [List.length_append, List.length_cons, List.length_nil, Nat.zero_add, Nat.pow_succ]
      omega

/-- A number without the zeros at its end, and how many they are. -/
def stripN (n : Nat) : Nat × Nat := if h : n = 0 ∨ n % 10 ≠ 0 then (n, 0) else ((stripN (n / 10)).1, (stripN (n / 10)).2 + 1)
termination_by n
decreasing_by omega

theorem stripN_stop (n : Nat) (h : n = 0 ∨ n % 10 ≠ 0) : stripN n = (n, 0) := by rw [stripN]; simp [h]
theorem stripN_ten (n : Nat) (h : n ≠ 0) : stripN (10 * n) = ((stripN n).1, (stripN n).2 + 1) := by
  rw [stripN]
  have e : 10 * n / 10 = n := by omega
  rw [dif_neg (by omega), e]

theorem stripN_is (n : Nat) : n = (stripN n).1 * 10 ^ (stripN n).2 ∧ (n ≠ 0 → (stripN n).1 % 10 ≠ 0) := by
  induction n using Nat.strongRecOn with
  | _ n ih =>
    by_cases h : n = 0 ∨ n % 10 ≠ 0
    · rw [stripN_stop n h]; simp; omega
    · obtain ⟨m, rfl⟩ : ∃ m, n = 10 * m := ⟨n / 10, by omega⟩
      rw [stripN_ten m (by omega)]
      obtain ⟨h1, h2⟩ := ih m (by omega)
      refine ⟨?_, fun _ => h2 (by omega)⟩
      simp only [Nat.pow_succ]
      grind

/-- `m` times ten to the power of `e`, in its shortest form. -/
def canon (m e : Int) : Bool × List Int × Int :=
  if m = 0 then (false, [], 0) else (decide (m < 0), digs (stripN m.natAbs).1, e + (stripN m.natAbs).2)

theorem canon_zero (e : Int) : canon 0 e = (false, [], 0) := by simp [canon]

theorem canon_ten (m e : Int) : canon (10 * m) e = canon m (e + 1) := by
  unfold canon
  by_cases h : m = 0
  · subst h; simp
  · rw [if_neg (by omega), if_neg h, show (10 * m).natAbs = 10 * m.natAbs from by omega, stripN_ten _ (by omega)]
    simp only [Prod.mk.injEq, true_and]
    refine ⟨?_, ?_⟩
    · have : (10 * m < 0) ↔ (m < 0) := by omega
      simp [this]
    · omega

theorem canon_pow (m e : Int) (k : Nat) : canon (m * 10 ^ k) e = canon m (e + k) := by
  induction k generalizing e with
  | zero => simp
  | succ k ih =>
    have : m * 10 ^ (k + 1) = 10 * (m * 10 ^ k) := by rw [Int.pow_succ]; grind
    rw [this, canon_ten, ih]
    congr 1; omega

/-- The sign laid on. -/
def sg (neg : Bool) (x : Int) : Int := if neg = true then -x else x

theorem sg_ten (neg : Bool) (x : Int) : sg neg (10 * x) = 10 * sg neg x := by unfold sg; split <;> omega
theorem sg_zero (neg : Bool) : sg neg 0 = 0 := by unfold sg; split <;> omega

theorem canon_shape (m e : Int) (h : m ≠ 0) : ∃ D n : Nat, D % 10 ≠ 0 ∧ D ≠ 0 ∧ m = sg (decide (m < 0)) (D * 10 ^ n) ∧ canon m e = (decide (m < 0), digs D, e + n) := by
  obtain ⟨h1, h2⟩ := stripN_is m.natAbs
  refine ⟨(stripN m.natAbs).1, (stripN m.natAbs).2, h2 (by omega), ?_, ?_, ?_⟩
  · intro z; exact h2 (by omega) (by rw [z])
  · have e1 : (m.natAbs : Int) = ((stripN m.natAbs).1 : Int) * 10 ^ (stripN m.natAbs).2 := by exact_mod_cast congrArg (Nat.cast (R := Int)) h1
    rw [← e1]; unfold sg
    by_cases g : m < 0
    · simp [g]; omega
    · simp [g]; omega
  · unfold canon; rw [if_neg h]

theorem canon_trim (neg : Bool) (l : List Int) (d e : Int) (hd : Dg (l ++ [d])) (h0 : (l ++ [d]).head? ≠ some 0) (h1 : d ≠ 0) :
    canon (sg neg (val (l ++ [d]))) e = (neg, l ++ [d], e) := by
  have hl := val_nonneg l hd.left
  have h2 := hd d (by simp)
  have hv : val (l ++ [d]) = 10 * val l + d := val_snoc l d
  have hg := digs_val _ hd h0
  have ha : (sg neg (val (l ++ [d]))).natAbs = (val (l ++ [d])).toNat := by unfold sg; split <;> omega
  unfold canon
  rw [if_neg (by unfold sg; split <;> omega), ha, stripN_stop _ (Or.inr (by omega)), hg]
  simp only [Prod.mk.injEq, true_and]
  refine ⟨?_, by omega⟩
  unfold sg
  cases neg
  · simp; omega
  · simp; omega

/-- Of a number that does not end with a zero. -/
theorem canon_raw (neg : Bool) (D : Nat) (e : Int) (h : D % 10 ≠ 0) : canon (sg neg D) e = (neg, digs D, e) := by
  have hs := digs_step D (by omega)
  have hd := digs_dg D
  have hh := digs_head D
  rw [hs] at hd hh
  have := canon_trim neg (digs (D / 10)) ((D % 10 : Nat) : Int) e hd hh (by omega)
  rw [← hs, val_digs] at this
  exact this

/-- The whole number of a form whose power is not below 0. -/
def cval (d : Bool × List Int × Int) : Int := sg d.1 (val d.2.1 * 10 ^ d.2.2.toNat)

theorem sg_sg (m : Int) (x : Int) (h : 0 ≤ x) (e : m = sg (decide (m < 0)) x) : sg (decide (m < 0)) x = m := e.symm

theorem cval_canon (m : Int) (n : Nat) : cval (canon m n) = m * 10 ^ n := by
  by_cases h : m = 0
  · subst h; rw [canon_zero]; simp [cval, val_nil, sg]
  · obtain ⟨D, j, _, _, e1, e2⟩ := canon_shape m n h
    rw [e2]
    unfold cval
    simp only [val_digs]
    rw [show ((n : Int) + (j : Int)).toNat = n + j from by omega, Int.pow_add]
    have : sg (decide (m < 0)) ((D : Int) * (10 ^ n * 10 ^ j)) = sg (decide (m < 0)) (D * 10 ^ j) * 10 ^ n := by
      unfold sg; split <;> grind
    rw [this, ← e1]

theorem canon_inj {a b : Int} (h : canon a 0 = canon b 0) : a = b := by
  have h1 := cval_canon a 0
  have h2 := cval_canon b 0
  simp only [Int.natCast_zero, Int.pow_zero, Int.mul_one] at h1 h2
  rw [← h1, ← h2, h]

/-- Each form is that of a number that does not end with a zero, or of 0. -/
theorem canon_split (m e : Int) : (m = 0 ∧ canon m e = (false, [], 0)) ∨ ∃ (neg : Bool) (D : Nat) (E : Int), D % 10 ≠ 0 ∧ canon m e = (neg, digs D, E) ∧ canon m e = canon (sg neg D) E ∧ e ≤ E ∧ m = sg neg D * 10 ^ (E - e).toNat ∧ neg = decide (m < 0) := by
  by_cases h : m = 0
  · subst h; exact Or.inl ⟨rfl, canon_zero e⟩
  · obtain ⟨D, n, h1, _, e1, e2⟩ := canon_shape m e h
    refine Or.inr ⟨decide (m < 0), D, e + n, h1, e2, ?_, by omega, ?_, rfl⟩
    · rw [canon_raw _ _ _ h1, e2]
    · rw [show (e + (n : Int) - e).toNat = n from by omega]
      have : sg (decide (m < 0)) ((D : Int) * 10 ^ n) = sg (decide (m < 0)) D * 10 ^ n := by unfold sg; split <;> grind
      rw [← this]; exact e1

theorem getD_set (l : List Int) (i j : Nat) (v : Int) (h : i < l.length) : (l.set i v).getD j 0 = if i = j then v else l.getD j 0 := by
  simp only [List.getD_eq_getElem?_getD, List.getElem?_set]
  by_cases e : i = j
  · subst e; simp [h]
  · simp [e]

theorem val_set : ∀ (l : List Int) (i : Nat) (v : Int), i < l.length → val (l.set i v) = val l + (v - l.getD i 0) * 10 ^ (l.length - 1 - i) := by
  intro l
  induction l with
  | nil => intro i v h; simp at h
  | cons x l ih =>
    intro i v h
    cases i with
    | zero => simp only [List.set_cons_zero, val_cons, List.getD_cons_zero, List.length_cons, Nat.add_sub_cancel, Nat.sub_zero]; grind
    | succ i =>
      simp only [List.length_cons] at h
      simp only [List.set_cons_succ, val_cons, List.getD_cons_succ, List.length_cons, List.length_set]
      rw [ih i v (by omega), show l.length + 1 - 1 - (i + 1) = l.length - 1 - i from by omega]
      omega

theorem dg_getD {l : List Int} (h : ∀ j, 0 ≤ l.getD j 0 ∧ l.getD j 0 ≤ 9) : Dg l := by
  intro d hd
  obtain ⟨j, hj, rfl⟩ := List.mem_iff_getElem.1 hd
  have := h j
  rw [List.getD_eq_getElem?_getD, List.getElem?_eq_getElem hj] at this
  simpa using this

theorem getD_dg {l : List Int} (h : Dg l) (j : Nat) : 0 ≤ l.getD j 0 ∧ l.getD j 0 ≤ 9 := by
  rw [List.getD_eq_getElem?_getD]
  by_cases g : j < l.length
  · rw [List.getElem?_eq_getElem g]; exact h _ (List.getElem_mem g)
  · rw [List.getElem?_eq_none (by omega)]; simp

theorem val_drop (l : List Int) (i : Nat) (h : i < l.length) : val (l.drop i) = l.getD i 0 * 10 ^ (l.length - 1 - i) + val (l.drop (i + 1)) := by
  rw [List.drop_eq_getElem_cons h, val_cons, List.length_drop, List.getD_eq_getElem?_getD, List.getElem?_eq_getElem h]
  simp only [Option.getD_some]
  rw [show l.length - (i + 1) = l.length - 1 - i from by omega]

theorem dd {a b : Int} (ha : 0 ≤ a ∧ a ≤ 9) (hb : 0 ≤ b ∧ b ≤ 9) : 0 ≤ a * b ∧ a * b ≤ 81 :=
  ⟨Int.mul_nonneg ha.1 hb.1, Int.mul_le_mul ha.2 hb.2 hb.1 (by decide)⟩

/-- How long a form is. -/
theorem canon_len (m e : Int) (L : Nat) (h : m.natAbs < 10 ^ L) : ∀ neg D E, canon m e = (neg, digs D, E) → (E + (digs D).length ≤ 0 ∨ E + (digs D).length ≤ e + L) ∧ (digs D).length ≤ L := by
  intro neg D E hc
  rcases canon_split m e with ⟨rfl, hz⟩ | ⟨neg', D', E', hD, hc', _, h0, hm, _⟩
  · rw [hz] at hc
    simp only [Prod.mk.injEq] at hc
    obtain ⟨_, h2, h3⟩ := hc
    rw [← h2, ← h3]; simp
  · rw [hc] at hc'
    simp only [Prod.mk.injEq] at hc'
    obtain ⟨_, h2, h3⟩ := hc'
    rw [h2, h3]
    obtain ⟨n, hn⟩ := Int.eq_ofNat_of_zero_le (show 0 ≤ E' - e by omega)
    rw [hn, Int.toNat_natCast] at hm
    have ha : m.natAbs = D' * 10 ^ n := by
      rw [hm, Int.natAbs_mul, Int.natAbs_pow]
      have : (sg neg' (D' : Int)).natAbs = D' := by unfold sg; split <;> omega
      rw [this]; rfl
    rw [ha] at h
    have hnL : n ≤ L := by
      by_cases g : n ≤ L
      · exact g
      · exfalso
        have h1 : 10 ^ L ≤ 10 ^ n := Nat.pow_le_pow_right (by decide) (by omega)
        have h2 : 1 * 10 ^ n ≤ D' * 10 ^ n := Nat.mul_le_mul_right _ (by omega)
        omega
    have hD' : D' < 10 ^ (L - n) := by
      have e1 : 10 ^ L = 10 ^ (L - n) * 10 ^ n := by rw [← Nat.pow_add]; congr 1; omega
      rw [e1] at h
      exact Nat.lt_of_mul_lt_mul_right h
    have := (digs_len (L - n) D').2 hD'
    omega

theorem canon_room (m e : Int) (L : Nat) (h : m.natAbs < 10 ^ L) : (canon m e).2.1.length ≤ L ∧ ((canon m e).2.2 ≤ 0 ∨ (canon m e).2.2 ≤ e + L) ∧ ((canon m e).2.2 = 0 ∨ e ≤ (canon m e).2.2) := by
  rcases canon_split m e with ⟨rfl, hz⟩ | ⟨neg', D', E', hD, hc', _, h0, hm, _⟩
  · rw [hz]; simp
  · have := canon_len m e L h neg' D' E' hc'
    rw [hc']; simp only
    omega

end Go.Proofs.Ytdhooibmibkbeaa.Dec
