/- Versions: pre-release and build, as the program reads them and as the reference does: the same. -/
import Derived.Test.YtomoefldmgfaoaaDoorPvN
set_option linter.unusedVariables false
set_option linter.unusedSimpArgs false
namespace Go.Proofs.YtomoefldmgfaoaaDoor.Pv
open Go

def numeric (l : Bs) : Bool := l != [] && l.all dg
def ids (plainly : Bool) (x : Bs) : Bool := (spl x).all fun c => c.all al && c != [] && !(plainly && numeric c && bad c)
def trimR : Bs → Bs
  | [] => []
  | c :: t => if trimR t = [] ∧ wh c then [] else c :: trimR t
/-- Ahead of the first of a sign, and behind it. -/
def cutAt (sg : UInt8) : Bs → Option (Bs × Bs)
  | [] => none
  | c :: t => if c = sg then some ([], t) else (cutAt sg t).map fun q => (c :: q.1, q.2)
def preOf (u b : Bs) : Option (Bs × Bs) := match u with
  | [] => some ([], b)
  | c :: p => if c = 45 ∧ ids true p then some (p, b) else none
def specX (r : Bs) : Option (Bs × Bs) := match cutAt 43 (trimR r) with
  | some (u, b) => if ids false b then preOf u b else none
  | none => preOf (trimR r) []
def long : Nat → Bs → Bool
  | _, [] => false
  | n, c :: t => if dg c then decide (20 ≤ n + 1) || long (n + 1) t else long 0 t
def asm (p b bl : Bs) : Bs := (if p = [] then [] else 45 :: p) ++ ((if b = [] then [] else 43 :: b) ++ bl)

theorem al_of_dg {c : UInt8} (h : dg c = true) : al c = true := by simp [al, h]
theorem al_not_wh {c : UInt8} (h : al c = true) : wh c = false := by
  rcases hw : wh c with _ | _
  · rfl
  · simp only [wh, Bool.or_eq_true, beq_iff_eq] at hw
    rcases hw with (((rfl | rfl) | rfl) | rfl) | rfl <;> cases h
/-- What ends a text of words. -/
def Ends (t : Bs) : Prop := t = [] ∨ ∃ c u, t = c :: u ∧ al c = false ∧ c ≠ 46
theorem takeWhile_ends {a t : Bs} (ha : ∀ c ∈ a, al c = true) (ht : t = [] ∨ ∃ c u, t = c :: u ∧ al c = false) : (a ++ t).takeWhile al = a ∧ (a ++ t).dropWhile al = t := by
  induction a with
  | nil =>
    rcases ht with rfl | ⟨c, u, rfl, hc⟩
    · exact ⟨rfl, rfl⟩
    · rw [List.nil_append, List.takeWhile_cons_of_neg (by rw [hc]; simp), List.dropWhile_cons_of_neg (by rw [hc]; simp)]; exact ⟨rfl, rfl⟩
  | cons c a ih =>
    have hc := ha c List.mem_cons_self
    obtain ⟨i1, i2⟩ := ih (fun d hd => ha d (List.mem_cons_of_mem _ hd))
    rw [List.cons_append, List.takeWhile_cons_of_pos hc, List.dropWhile_cons_of_pos hc, i1, i2]; exact ⟨rfl, rfl⟩
theorem wlen_join : ∀ (fs : List Bs) (n : Nat) (t : Bs), fs ≠ [] → (∀ f ∈ fs, f ≠ [] ∧ ∀ c ∈ f, al c = true) → Ends t → (joinP fs ++ t).length ≤ n → wlen n (joinP fs ++ t) = (joinP fs).length := by
  intro fs
  induction fs with
  | nil => intro n t h; exact absurd rfl h
  | cons a fs ih =>
    intro n t _ hf ht hn
    obtain ⟨ha0, ha⟩ := hf a List.mem_cons_self
    have ha1 : 0 < a.length := List.length_pos_iff.2 ha0
    cases fs with
    | nil =>
      rw [joinP] at hn ⊢
      obtain ⟨n, rfl⟩ : ∃ m, n = m + 1 := ⟨n - 1, by rw [List.length_append] at hn; omega⟩
      obtain ⟨e1, e2⟩ := takeWhile_ends (t := t) ha (by rcases ht with rfl | ⟨c, u, rfl, h1, _⟩; exact Or.inl rfl; exact Or.inr ⟨c, u, rfl, h1⟩)
      rw [wlen, e1, if_neg (by omega), e2]
      rcases ht with rfl | ⟨c, u, rfl, _, h2⟩
      · rfl
      · split
        · rename_i h
          injection h with h _
          exact absurd h h2
        · rfl
    | cons b fs =>
      rw [joinP_cons a (by simp)] at hn ⊢
      rw [List.append_assoc, List.cons_append] at hn ⊢
      obtain ⟨n, rfl⟩ : ∃ m, n = m + 1 := ⟨n - 1, by rw [List.length_append] at hn; omega⟩
      obtain ⟨e1, e2⟩ := takeWhile_ends (t := 46 :: (joinP (b :: fs) ++ t)) ha (Or.inr ⟨46, _, rfl, al_dot⟩)
      have hi := ih n t (by simp) (fun f h => hf f (List.mem_cons_of_mem _ h)) ht (by rw [List.length_append, List.length_cons] at hn; omega)
      have hb : 0 < (joinP (b :: fs)).length := by
        obtain ⟨hb0, _⟩ := hf b (by simp)
        have hb1 : 0 < b.length := List.length_pos_iff.2 hb0
        cases fs with
        | nil => exact hb1
        | cons d fs => rw [joinP_cons b (by simp), List.length_append]; omega
      rw [wlen, e1, if_neg (by omega), e2]
      simp only
      rw [hi, if_neg (by omega), List.length_append, List.length_cons]
      omega
theorem wlen_ids {x t : Bs} (n : Nat) (hx : ids false x = true) (ht : Ends t) (hn : (x ++ t).length ≤ n) : wlen n (x ++ t) = x.length ∧ 0 < x.length := by
  have hf : ∀ f ∈ spl x, f ≠ [] ∧ ∀ c ∈ f, al c = true := by
    intro f h
    have := List.all_eq_true.1 hx f h
    simp only [Bool.false_and, Bool.not_false, Bool.and_true, Bool.and_eq_true, List.all_eq_true, bne_iff_ne] at this
    exact ⟨this.2, this.1⟩
  have h := wlen_join (spl x) n t (spl_ne x) hf ht (by rw [join_spl]; exact hn)
  rw [join_spl] at h
  refine ⟨h, ?_⟩
  rcases x with _ | ⟨c, x⟩
  · exact absurd rfl (hf [] (by simp [spl])).1
  · simp
theorem ids_false {x : Bs} (h : ids true x = true) : ids false x = true := by
  refine List.all_eq_true.2 fun c hc => ?_
  have := List.all_eq_true.1 h c hc
  simp only [Bool.and_eq_true, Bool.false_and, Bool.not_false, and_true] at this ⊢
  exact this.1
theorem wlen_spec : ∀ (n : Nat) (l : Bs), l.length ≤ n → 0 < wlen n l → wlen n l ≤ l.length ∧ ids false (l.take (wlen n l)) = true := by
  intro n
  induction n with
  | zero => intro l _ h; exact absurd h (by simp [wlen])
  | succ n ih =>
    intro l hl h
    have hcut := List.takeWhile_append_dropWhile (p := al) (l := l)
    have hle := takeWhile_len_le (p := al) l
    have hall : (l.takeWhile al).all al = true := List.all_eq_true.2 fun c hc => mem_takeWhile l c hc
    have hnd : 46 ∉ l.takeWhile al := fun e => by have := mem_takeWhile l 46 e; rw [al_dot] at this; cases this
    have base : 0 < (l.takeWhile al).length → ids false (l.take (l.takeWhile al).length) = true := by
      intro h0
      rw [take_takeWhile, ids, spl_one _ hnd]
      have : l.takeWhile al ≠ [] := List.length_pos_iff.1 h0
      simp [hall, this]
    rw [wlen] at h ⊢
    split at h
    · exact absurd h (by omega)
    · rename_i h0
      rw [if_neg h0]
      split at h
      · rename_i t ht
        rw [ht] at hcut
        show (if wlen n t = 0 then (l.takeWhile al).length else (l.takeWhile al).length + 1 + wlen n t) ≤ l.length ∧ ids false (l.take (if wlen n t = 0 then (l.takeWhile al).length else (l.takeWhile al).length + 1 + wlen n t)) = true
        have hlen : t.length ≤ n := by
          have := congrArg List.length hcut
          rw [List.length_append, List.length_cons] at this
          omega
        split at h
        · rename_i hw
          rw [if_pos hw]
          exact ⟨hle, base (by omega)⟩
        · rename_i hw
          rw [if_neg hw]
          obtain ⟨i1, i2⟩ := ih t hlen (by omega)
          have hlt := congrArg List.length hcut
          rw [List.length_append, List.length_cons] at hlt
          refine ⟨by omega, ?_⟩
          have e : l.take ((l.takeWhile al).length + 1 + wlen n t) = l.takeWhile al ++ 46 :: t.take (wlen n t) := by
            have hg : ∀ (x : Bs) (m : Nat), (x ++ 46 :: t).take (x.length + 1 + m) = x ++ 46 :: t.take m := by
              intro x m
              rw [show x.length + 1 + m = x.length + (m + 1) by omega, List.take_length_add_append, List.take_succ_cons]
            have h9 := hg (l.takeWhile al) (wlen n t)
            rw [hcut] at h9
            exact h9
          rw [e, ids, spl_dot _ _ hnd, List.all_cons]
          have : l.takeWhile al ≠ [] := List.length_pos_iff.1 (by omega)
          have i2' : (spl (t.take (wlen n t))).all (fun c => c.all al && c != [] && !(false && numeric c && bad c)) = true := i2
          rw [i2']
          simp [hall, this]
      · exact ⟨hle, base (by omega)⟩
theorem part_spec (sg : UInt8) (l : Bs) : ((part sg l).1 = [] ∧ (part sg l).2 = l) ∨ (∃ t, l = sg :: t ∧ t = (part sg l).1 ++ (part sg l).2 ∧ ids false (part sg l).1 = true ∧ (part sg l).1 ≠ []) := by
  cases l with
  | nil => exact Or.inl ⟨rfl, rfl⟩
  | cons c t =>
    rw [part]
    split
    · rename_i h
      obtain ⟨rfl, h⟩ := h
      obtain ⟨h1, h2⟩ := wlen_spec t.length t (Nat.le_refl _) h
      refine Or.inr ⟨t, rfl, (List.take_append_drop _ _).symm, h2, ?_⟩
      intro e
      have := congrArg List.length e
      simp only [List.length_take, List.length_nil] at this
      omega
    · exact Or.inl ⟨rfl, rfl⟩
theorem extra_asm {r p b : Bs} (h : extra r = some (p, b)) : ∃ bl, bl.all wh = true ∧ r = asm p b bl ∧ (p = [] ∨ ids false p = true) ∧ (b = [] ∨ ids false b = true) := by
  unfold extra at h
  split at h
  · rename_i hw
    injection h with h
    injection h with hp hb
    rw [← hp, ← hb]
    refine ⟨_, hw, ?_, ?_, ?_⟩
    · unfold asm
      rcases part_spec 45 r with ⟨e1, e2⟩ | ⟨t, e1, e2, e3, e4⟩ <;> rcases part_spec 43 (part 45 r).2 with ⟨f1, f2⟩ | ⟨u, f1, f2, f3, f4⟩
      · rw [e1, f1, f2, e2]; rfl
      · rw [e1, if_pos rfl, if_neg f4, List.cons_append, ← f2, ← f1, e2]; rfl
      · rw [if_neg e4, f1, f2, if_pos rfl, List.nil_append, List.cons_append, ← e2]; exact e1
      · rw [if_neg e4, if_neg f4, List.cons_append, List.cons_append, ← f2, ← f1, ← e2]; exact e1
    · rcases part_spec 45 r with ⟨e1, e2⟩ | ⟨t, e1, e2, e3, e4⟩
      · exact Or.inl e1
      · exact Or.inr e3
    · rcases part_spec 43 (part 45 r).2 with ⟨f1, f2⟩ | ⟨u, f1, f2, f3, f4⟩
      · exact Or.inl f1
      · exact Or.inr f3
  · cases h
theorem ends_wh {bl : Bs} (h : bl.all wh = true) : Ends bl := by
  cases bl with
  | nil => exact Or.inl rfl
  | cons c t =>
    have hc : wh c = true := List.all_eq_true.1 h c List.mem_cons_self
    refine Or.inr ⟨c, t, rfl, ?_, ?_⟩
    · rcases ha : al c with _ | _
      · rfl
      · rw [al_not_wh ha] at hc; cases hc
    · rintro rfl; cases hc
theorem part_no {sg : UInt8} {l : Bs} (h : ∀ t, l ≠ sg :: t) : part sg l = ([], l) := by
  cases l with
  | nil => rfl
  | cons c t => rw [part, if_neg]; rintro ⟨rfl, _⟩; exact h t rfl
theorem part_yes {sg : UInt8} {x t : Bs} (hx : ids false x = true) (ht : Ends t) : part sg (sg :: (x ++ t)) = (x, t) := by
  obtain ⟨h1, h2⟩ := wlen_ids (x ++ t).length hx ht (Nat.le_refl _)
  rw [part, h1, if_pos ⟨rfl, h2⟩, List.take_left', List.drop_left'] <;> rfl
theorem asm_extra {p b bl : Bs} (hbl : bl.all wh = true) (hp : p = [] ∨ ids false p = true) (hb : b = [] ∨ ids false b = true) : extra (asm p b bl) = some (p, b) := by
  have nil_no : ids false [] = false := rfl
  have h43 : part 43 ((if b = [] then [] else 43 :: b) ++ bl) = (b, bl) := by
    by_cases e : b = []
    · subst e
      rw [if_pos rfl, List.nil_append]
      exact part_no (fun t e => by subst e; cases (List.all_eq_true.1 hbl 43 List.mem_cons_self))
    · rw [if_neg e, List.cons_append]
      exact part_yes (hb.resolve_left e) (ends_wh hbl)
  have h45 : part 45 (asm p b bl) = (p, (if b = [] then [] else 43 :: b) ++ bl) := by
    unfold asm
    by_cases e : p = []
    · subst e
      rw [if_pos rfl, List.nil_append]
      refine part_no (fun t ht => ?_)
      by_cases e : b = []
      · rw [if_pos e, List.nil_append] at ht
        subst ht; cases (List.all_eq_true.1 hbl 45 List.mem_cons_self)
      · rw [if_neg e, List.cons_append] at ht; injection ht with ht; cases ht
    · rw [if_neg e, List.cons_append]
      refine part_yes (hp.resolve_left e) ?_
      by_cases e : b = []
      · rw [if_pos e, List.nil_append]; exact ends_wh hbl
      · rw [if_neg e, List.cons_append]; exact Or.inr ⟨43, _, rfl, rfl, by decide⟩
  unfold extra
  rw [h45]
  simp only
  rw [h43, if_pos hbl]
theorem trimR_wh : ∀ (bl : Bs), bl.all wh = true → trimR bl = []
  | [], _ => rfl
  | c :: t, h => by
    rw [List.all_cons, Bool.and_eq_true] at h
    rw [trimR, trimR_wh t h.2, if_pos ⟨rfl, h.1⟩]
theorem trimR_last : ∀ (x : Bs) (c : UInt8) (bl : Bs), bl.all wh = true → wh c = false → trimR (x ++ c :: bl) = x ++ [c]
  | [], c, bl, hb, hc => by rw [List.nil_append, trimR, trimR_wh bl hb, if_neg (by rw [hc]; simp)]; rfl
  | d :: x, c, bl, hb, hc => by rw [List.cons_append, trimR, trimR_last x c bl hb hc, if_neg (by simp)]; rfl
theorem trimR_cut : ∀ (r : Bs), ∃ bl, bl.all wh = true ∧ r = trimR r ++ bl
  | [] => ⟨[], rfl, rfl⟩
  | c :: t => by
    obtain ⟨bl, h1, h2⟩ := trimR_cut t
    rw [trimR]
    split
    · rename_i h
      rw [h.1, List.nil_append] at h2
      exact ⟨c :: t, by rw [List.all_cons, h.2, h2, h1]; rfl, rfl⟩
    · exact ⟨bl, h1, by rw [List.cons_append, ← h2]⟩
theorem cutAt_some : ∀ {sg : UInt8} {t u b : Bs}, cutAt sg t = some (u, b) → t = u ++ sg :: b ∧ sg ∉ u
  | sg, [], u, b, h => by cases h
  | sg, c :: t, u, b, h => by
    rw [cutAt] at h
    split at h
    · rename_i e
      injection h with h
      injection h with h1 h2
      subst h1 h2 e
      exact ⟨rfl, by simp⟩
    · rename_i e
      cases hq : cutAt sg t with
      | none => rw [hq] at h; cases h
      | some q =>
        rw [hq] at h
        injection h with h
        injection h with h1 h2
        obtain ⟨e1, e2⟩ := cutAt_some (u := q.1) (b := q.2) hq
        subst h1 h2
        refine ⟨by rw [List.cons_append, ← e1], fun hm => ?_⟩
        rcases List.mem_cons.1 hm with rfl | hm
        · exact e rfl
        · exact e2 hm
theorem cutAt_none : ∀ {sg : UInt8} {t : Bs}, sg ∉ t → cutAt sg t = none
  | sg, [], _ => rfl
  | sg, c :: t, h => by
    rw [cutAt, if_neg (fun e => h (by rw [e]; exact List.mem_cons_self)), cutAt_none (fun e => h (List.mem_cons_of_mem _ e))]; rfl
theorem cutAt_mid : ∀ {sg : UInt8} (u b : Bs), sg ∉ u → cutAt sg (u ++ sg :: b) = some (u, b)
  | sg, [], b, _ => by rw [List.nil_append, cutAt, if_pos rfl]
  | sg, c :: u, b, h => by
    rw [List.cons_append, cutAt, if_neg (fun e => h (by rw [e]; exact List.mem_cons_self)), cutAt_mid u b (fun e => h (List.mem_cons_of_mem _ e))]; rfl
/-- Of words each byte is one of them, or a point. -/
theorem join_mem : ∀ (fs : List Bs) (c : UInt8), c ∈ joinP fs → c = 46 ∨ ∃ f ∈ fs, c ∈ f
  | [], c, h => by cases h
  | [a], c, h => Or.inr ⟨a, by simp, h⟩
  | a :: b :: t, c, h => by
    rw [joinP_cons a (by simp)] at h
    rcases List.mem_append.1 h with h | h
    · exact Or.inr ⟨a, by simp, h⟩
    · rcases List.mem_cons.1 h with h | h
      · exact Or.inl h
      · rcases join_mem (b :: t) c h with h | ⟨f, h1, h2⟩
        · exact Or.inl h
        · exact Or.inr ⟨f, List.mem_cons_of_mem _ h1, h2⟩
theorem ids_mem {x : Bs} (h : ids false x = true) (c : UInt8) (hc : c ∈ x) : c = 46 ∨ al c = true := by
  rw [← join_spl x] at hc
  rcases join_mem _ c hc with h1 | ⟨f, h1, h2⟩
  · exact Or.inl h1
  · have := List.all_eq_true.1 h f h1
    simp only [Bool.and_eq_true, List.all_eq_true] at this
    exact Or.inr (this.1.1 c h2)
theorem ids_not {x : Bs} (h : ids false x = true) {c : UInt8} (h1 : c ≠ 46) (h2 : al c = false) : c ∉ x := fun hc => by
  rcases ids_mem h c hc with e | e
  · exact h1 e
  · rw [h2] at e; cases e
theorem ids_last {x : Bs} (h : ids false x = true) : ∃ y c, x = y ++ [c] ∧ wh c = false := by
  have hne : x ≠ [] := by rintro rfl; cases h
  refine ⟨x.dropLast, x.getLast hne, (List.dropLast_concat_getLast hne).symm, ?_⟩
  rcases ids_mem h _ (List.getLast_mem hne) with e | e
  · rw [e]; rfl
  · exact al_not_wh e
theorem trimR_asm {p b bl : Bs} (hbl : bl.all wh = true) (hp : p = [] ∨ ids false p = true) (hb : b = [] ∨ ids false b = true) : trimR (asm p b bl) = (if p = [] then [] else 45 :: p) ++ (if b = [] then [] else 43 :: b) := by
  unfold asm
  by_cases e : b = []
  · rw [if_pos e, List.nil_append, List.append_nil]
    by_cases e' : p = []
    · rw [if_pos e', List.nil_append, trimR_wh bl hbl]
    · rw [if_neg e']
      obtain ⟨y, c, rfl, hc⟩ := ids_last (hp.resolve_left e')
      rw [show (45 :: (y ++ [c])) ++ bl = (45 :: y) ++ c :: bl by simp, trimR_last _ c bl hbl hc]; rfl
  · rw [if_neg e]
    obtain ⟨y, c, rfl, hc⟩ := ids_last (hb.resolve_left e)
    rw [show (if p = [] then [] else 45 :: p) ++ ((43 :: (y ++ [c])) ++ bl) = ((if p = [] then [] else 45 :: p) ++ (43 :: y)) ++ c :: bl by simp, trimR_last _ c bl hbl hc]
    simp
theorem okPre_plain {c : Bs} (h : numeric c = true → (vn c).isSome = true) (h' : (vn c).isSome = true → numeric c = true) : okPre c = !(numeric c && bad c) := by
  unfold okPre
  rcases hv : (vn c).isSome with _ | _ <;> rcases hn : numeric c with _ | _
  · rfl
  · rw [h hn] at hv; cases hv
  · rw [h' hv] at hn; cases hn
  · rfl
theorem specX_iff {r : Bs} (hvn : ∀ p, (∃ x y, r = x ++ p ++ y) → ∀ c ∈ spl p, (numeric c = true ↔ (vn c).isSome = true)) (p b : Bs) : specX r = some (p, b) ↔ (extra r = some (p, b) ∧ (spl p).all okPre = true) := by
  constructor
  · intro h
    obtain ⟨bl, hbl, hr⟩ := trimR_cut r
    have key : ∀ (u : Bs), preOf u b = some (p, b) → (p = [] ∧ u = [] ∨ u = 45 :: p ∧ ids true p = true) := by
      intro u h
      cases u with
      | nil => injection h with h; injection h with h1 h2; exact Or.inl ⟨h1.symm, rfl⟩
      | cons c q =>
        rw [preOf] at h
        split at h
        · rename_i hc
          injection h with h; injection h with h1 h2
          subst h1
          exact Or.inr ⟨by rw [hc.1], hc.2⟩
        · cases h
    have fin : ∀ u, (p = [] ∧ u = [] ∨ u = 45 :: p ∧ ids true p = true) → r = u ++ ((if b = [] then [] else 43 :: b) ++ bl) → (b = [] ∨ ids false b = true) → (extra r = some (p, b) ∧ (spl p).all okPre = true) := by
      intro u hu hr hb
      have hp0 : ids true p = true → p ≠ [] := by rintro h rfl; cases h
      have hru : r = asm p b bl := by
        unfold asm
        rcases hu with ⟨h1, h2⟩ | ⟨h1, h2⟩
        · rw [if_pos h1, hr, h2]
        · rw [if_neg (hp0 h2), hr, h1]
      refine ⟨?_, ?_⟩
      · rw [hru]
        refine asm_extra hbl ?_ hb
        rcases hu with ⟨h1, h2⟩ | ⟨h1, h2⟩
        · exact Or.inl h1
        · exact Or.inr (ids_false h2)
      · rcases hu with ⟨h1, h2⟩ | ⟨h1, h2⟩
        · rw [h1]; rfl
        · refine List.all_eq_true.2 fun c hc => ?_
          have hiff := hvn p ⟨[45], (if b = [] then [] else 43 :: b) ++ bl, by rw [hr, h1]; simp⟩ c hc
          rw [okPre_plain hiff.1 hiff.2]
          have := List.all_eq_true.1 h2 c hc
          simp only [Bool.and_eq_true, Bool.true_and] at this
          exact this.2
    unfold specX at h
    split at h
    · rename_i u b' hc
      split at h
      · rename_i hb
        have hb' : b' = b := by
          cases u with
          | nil => injection h with h; injection h
          | cons d q =>
            rw [preOf] at h
            split at h
            · injection h with h; injection h
            · cases h
        subst hb'
        obtain ⟨e1, e2⟩ := cutAt_some hc
        have hb0 : b' ≠ [] := by rintro rfl; cases hb
        exact fin u (key u h) (by rw [if_neg hb0, hr]; conv => lhs; lhs; rw [e1]
                                  simp) (Or.inr hb)
      · cases h
    · have hb' : b = [] := by
        generalize trimR r = u at h
        cases u with
        | nil => injection h with h; injection h with _ h; exact h.symm
        | cons d q =>
          rw [preOf] at h
          split at h
          · injection h with h; injection h with _ h; exact h.symm
          · cases h
      subst hb'
      exact fin _ (key _ h) (by rw [if_pos rfl, List.nil_append]; exact hr) (Or.inl rfl)
  · rintro ⟨he, hok⟩
    obtain ⟨bl, hbl, hr, hp, hb⟩ := extra_asm he
    have hpid : p ≠ [] → ids true p = true := by
      intro hp0
      have hp1 := hp.resolve_left hp0
      refine List.all_eq_true.2 fun c hc => ?_
      have hiff := hvn p ⟨[45], (if b = [] then [] else 43 :: b) ++ bl, by rw [hr, asm, if_neg hp0]; simp⟩ c hc
      have h1 := List.all_eq_true.1 hp1 c hc
      have h2 := List.all_eq_true.1 hok c hc
      rw [okPre_plain hiff.1 hiff.2] at h2
      simp only [Bool.and_eq_true, Bool.false_and, Bool.not_false, and_true, Bool.true_and] at h1 h2 ⊢
      exact ⟨h1, h2⟩
    have hpre : preOf (if p = [] then [] else 45 :: p) b = some (p, b) := by
      by_cases e : p = []
      · rw [if_pos e, preOf, e]
      · rw [if_neg e, preOf, if_pos ⟨rfl, hpid e⟩]
    have h43 : 43 ∉ (if p = [] then [] else 45 :: p) := by
      by_cases e : p = []
      · rw [if_pos e]; simp
      · rw [if_neg e]
        intro hm
        rcases List.mem_cons.1 hm with h | h
        · cases h
        · exact ids_not (hp.resolve_left e) (by decide) rfl h
    unfold specX
    rw [hr, trimR_asm hbl hp hb]
    by_cases e : b = []
    · subst e
      rw [if_pos rfl, List.append_nil, cutAt_none h43]
      exact hpre
    · rw [if_neg e, cutAt_mid _ _ h43]
      simp only
      rw [if_pos (hb.resolve_left e)]
      exact hpre
theorem long_run : ∀ (f : Bs) (n : Nat) (y : Bs), (∀ c ∈ f, dg c = true) → long n (f ++ y) = false → n < 20 → n + f.length < 20
  | [], n, y, _, _, hn => by simpa using hn
  | c :: f, n, y, hf, h, hn => by
    rw [List.cons_append, long, if_pos (hf c List.mem_cons_self), Bool.or_eq_false_iff] at h
    have h1 : ¬ 20 ≤ n + 1 := of_decide_eq_false h.1
    have := long_run f (n + 1) y (fun c hc => hf c (List.mem_cons_of_mem _ hc)) h.2 (by omega)
    rw [List.length_cons]; omega
theorem long_tail : ∀ (x : Bs) (n : Nat) (y : Bs), n < 20 → long n (x ++ y) = false → ∃ m, m < 20 ∧ long m y = false
  | [], n, y, hn, h => ⟨n, hn, h⟩
  | c :: x, n, y, hn, h => by
    rw [List.cons_append, long] at h
    split at h
    · rw [Bool.or_eq_false_iff] at h
      exact long_tail x (n + 1) y (by have : ¬ 20 ≤ n + 1 := of_decide_eq_false h.1; omega) h.2
    · exact long_tail x 0 y (by omega) h
def stepD (a : Nat) (c : UInt8) : Nat := a * 10 + (c.toNat - 48)
def valFrom (a : Nat) (l : Bs) : Nat := l.foldl stepD a
theorem valFrom_nil (a : Nat) : valFrom a [] = a := List.foldl_nil ..
theorem valFrom_cons (a : Nat) (c : UInt8) (t : Bs) : valFrom a (c :: t) = valFrom (stepD a c) t := List.foldl_cons ..
theorem stepD_eq (a : Nat) (c : UInt8) : stepD a c = a * 10 + (c.toNat - 48) := rfl
theorem valFrom_lt : ∀ (l : Bs) (a k : Nat), (∀ c ∈ l, dg c = true) → a < 10 ^ k → valFrom a l < 10 ^ (k + l.length)
  | [], a, k, _, h => h
  | c :: t, a, k, hd, h => by
    have hc := hd c List.mem_cons_self
    simp only [dg, Bool.and_eq_true, decide_eq_true_eq] at hc
    have := valFrom_lt t (stepD a c) (k + 1) (fun c hc => hd c (List.mem_cons_of_mem _ hc)) (by rw [Nat.pow_succ, stepD_eq]; omega)
    rw [valFrom_cons, List.length_cons, show k + (t.length + 1) = k + 1 + t.length by omega]
    exact this
theorem le_valFrom : ∀ (l : Bs) (a : Nat), a ≤ valFrom a l
  | [], a => Nat.le_refl _
  | c :: t, a => by
    have := le_valFrom t (stepD a c)
    rw [valFrom_cons]
    have h := stepD_eq a c
    omega
theorem parse_digits : ∀ (l : Bs) (a : Nat), (∀ c ∈ l, dg c = true) → a < 18446744073709551616 → Lib.parseUint10 a l = if valFrom a l < 18446744073709551616 then .ok (valFrom a l) else .range
  | [], a, _, h => by rw [valFrom_nil, if_pos h]; rfl
  | c :: t, a, hd, h => by
    have hc := hd c List.mem_cons_self
    have hc' : 48 ≤ c.toNat ∧ c.toNat ≤ 57 := by simpa only [dg, Bool.and_eq_true, decide_eq_true_eq] using hc
    have hl := le_valFrom t (stepD a c)
    have hs := stepD_eq a c
    rw [Lib.parseUint10, if_pos hc', valFrom_cons, ← hs]
    split
    · rw [if_neg (by omega)]
    · split
      · rw [if_neg (by omega)]
      · exact parse_digits t _ (fun c hc => hd c (List.mem_cons_of_mem _ hc)) (by omega)
theorem parse_nodigit : ∀ (l : Bs) (a u : Nat), Lib.parseUint10 a l = .ok u → ∀ c ∈ l, dg c = true
  | [], _, _, _, c, hc => by cases hc
  | d :: t, a, u, h, c, hc => by
    rw [Lib.parseUint10] at h
    split at h
    · rename_i hd
      split at h
      · cases h
      · split at h
        · cases h
        · rcases List.mem_cons.1 hc with rfl | hc
          · simp only [dg, Bool.and_eq_true, decide_eq_true_eq]; exact hd
          · exact parse_nodigit t _ u h c hc
    · cases h
theorem vn_numeric {l : Bs} {u : Nat} (h : vn l = some u) : numeric l = true ∧ u = valFrom 0 l := by
  unfold vn at h
  split at h
  · rename_i u' hu
    obtain rfl := Option.some.inj h
    unfold Lib.parseMag at hu
    split at hu
    · cases hu
    · rename_i h0
      have hd := parse_nodigit l 0 u' hu
      refine ⟨?_, ?_⟩
      · simp only [numeric, Bool.and_eq_true, bne_iff_ne, List.all_eq_true]; exact ⟨h0, hd⟩
      · rw [parse_digits l 0 hd (by omega)] at hu
        split at hu
        · injection hu with hu; exact hu.symm
        · cases hu
  · cases h
theorem numeric_vn {l : Bs} (h : numeric l = true) (hv : valFrom 0 l < 18446744073709551616) : vn l = some (valFrom 0 l) := by
  simp only [numeric, Bool.and_eq_true, bne_iff_ne, List.all_eq_true] at h
  unfold vn Lib.parseMag
  rw [if_neg h.1, parse_digits l 0 h.2 (by omega), if_pos hv]
theorem numeric_short {l : Bs} (h : numeric l = true) (hl : l.length < 20) : (vn l).isSome = true := by
  have h' := h
  simp only [numeric, Bool.and_eq_true, bne_iff_ne, List.all_eq_true] at h'
  have hv := valFrom_lt l 0 0 h'.2 (by decide)
  have : 10 ^ (0 + l.length) ≤ 10 ^ 19 := Nat.pow_le_pow_right (by decide) (by omega)
  rw [numeric_vn h (by have : (10 : Nat) ^ 19 = 10000000000000000000 := by decide
                       omega)]
  rfl
theorem spl_sub : ∀ (fs : List Bs) (f : Bs), f ∈ fs → ∃ x y, joinP fs = x ++ f ++ y
  | [], f, h => by cases h
  | [a], f, h => by
    rcases List.mem_cons.1 h with rfl | h
    · exact ⟨[], [], by simp [joinP]⟩
    · cases h
  | a :: b :: t, f, h => by
    rw [joinP_cons a (by simp)]
    rcases List.mem_cons.1 h with rfl | h
    · exact ⟨[], 46 :: joinP (b :: t), by simp⟩
    · obtain ⟨x, y, e⟩ := spl_sub (b :: t) f h
      exact ⟨a ++ 46 :: x, y, by rw [e]; simp⟩
theorem short_vn {r : Bs} (hr : long 0 r = false) : ∀ p, (∃ x y, r = x ++ p ++ y) → ∀ c ∈ spl p, (numeric c = true ↔ (vn c).isSome = true) := by
  rintro p ⟨x, y, e⟩ c hc
  refine ⟨fun h => ?_, fun h => ?_⟩
  · obtain ⟨x', y', e'⟩ := spl_sub (spl p) c hc
    rw [join_spl] at e'
    have hd : ∀ d ∈ c, dg d = true := by
      simp only [numeric, Bool.and_eq_true, bne_iff_ne, List.all_eq_true] at h; exact h.2
    rw [e, e', show x ++ (x' ++ c ++ y') ++ y = (x ++ x') ++ (c ++ (y' ++ y)) by simp] at hr
    obtain ⟨m, hm, hl⟩ := long_tail _ 0 _ (by omega) hr
    have := long_run c m _ hd hl hm
    exact numeric_short h (by omega)
  · cases hv : vn c with
    | none => rw [hv] at h; cases h
    | some u => exact (vn_numeric hv).1
end Go.Proofs.YtomoefldmgfaoaaDoor.Pv
