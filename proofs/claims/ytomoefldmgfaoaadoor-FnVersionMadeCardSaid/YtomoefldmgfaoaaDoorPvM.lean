/- Versions: what is written out of its parts is parsed as these parts. -/
import Derived.Test.YtomoefldmgfaoaaDoorPvY
set_option linter.unusedVariables false
set_option linter.unusedSimpArgs false
namespace Go.Proofs.YtomoefldmgfaoaaDoor.Pv
open Go

def EndsD (t : Bs) : Prop := t = [] ∨ ∃ c u, t = c :: u ∧ dg c = false ∧ c ≠ 46
theorem takeWhile_endsD {a t : Bs} (ha : ∀ c ∈ a, dg c = true) (ht : t = [] ∨ ∃ c u, t = c :: u ∧ dg c = false) : (a ++ t).takeWhile dg = a ∧ (a ++ t).dropWhile dg = t := by
  induction a with
  | nil =>
    rcases ht with rfl | ⟨c, u, rfl, hc⟩
    · exact ⟨rfl, rfl⟩
    · rw [List.nil_append, List.takeWhile_cons_of_neg (by rw [hc]; simp), List.dropWhile_cons_of_neg (by rw [hc]; simp)]; exact ⟨rfl, rfl⟩
  | cons c a ih =>
    have hc := ha c List.mem_cons_self
    obtain ⟨i1, i2⟩ := ih (fun d hd => ha d (List.mem_cons_of_mem _ hd))
    rw [List.cons_append, List.takeWhile_cons_of_pos hc, List.dropWhile_cons_of_pos hc, i1, i2]; exact ⟨rfl, rfl⟩
theorem joinP_ne : ∀ (fs : List Bs), fs ≠ [] → (∀ f ∈ fs, f ≠ []) → joinP fs ≠ []
  | [], h, _ => absurd rfl h
  | [a], _, h => h a (by simp)
  | a :: b :: t, _, h => by rw [joinP_cons a (by simp)]; simp
theorem joinP_head : ∀ (fs : List Bs), fs ≠ [] → (∀ f ∈ fs, f ≠ [] ∧ ∀ c ∈ f, dg c = true) → ∃ c u, joinP fs = c :: u ∧ dg c = true
  | [], h, _ => absurd rfl h
  | a :: t, _, h => by
    obtain ⟨h1, h2⟩ := h a (by simp)
    cases a with
    | nil => exact absurd rfl h1
    | cons c u =>
      have hc := h2 c (by simp)
      cases t with
      | nil => exact ⟨c, u, rfl, hc⟩
      | cons b t => exact ⟨c, u ++ 46 :: joinP (b :: t), by rw [joinP_cons _ (by simp), List.cons_append], hc⟩
theorem flds_join : ∀ (fs : List Bs) (n : Nat) (t : Bs), fs ≠ [] → (∀ f ∈ fs, f ≠ [] ∧ ∀ c ∈ f, dg c = true) → EndsD t → (joinP fs ++ t).length ≤ n → flds n (joinP fs ++ t) = (fs, t) := by
  intro fs
  induction fs with
  | nil => intro n t h; exact absurd rfl h
  | cons a fs ih =>
    intro n t _ hf ht hn
    obtain ⟨ha0, ha⟩ := hf a List.mem_cons_self
    have ha1 : 0 < a.length := List.length_pos_iff.2 ha0
    cases fs with
    | nil =>
      rw [joinP] at hn ⊢
      obtain ⟨n, rfl⟩ : ∃ m, n = m + 1 := ⟨n - 1, by rw [List.length_append] at hn; omega⟩
      obtain ⟨e1, e2⟩ := takeWhile_endsD (t := t) ha (by rcases ht with rfl | ⟨c, u, rfl, h1, _⟩; exact Or.inl rfl; exact Or.inr ⟨c, u, rfl, h1⟩)
      rw [flds, e1, if_neg ha0, e2]
      rcases ht with rfl | ⟨c, u, rfl, _, h2⟩
      · rfl
      · split
        · rename_i h
          injection h with h _
          exact absurd h h2
        · rfl
    | cons b fs =>
      rw [joinP_cons a (by simp)] at hn ⊢
      rw [List.append_assoc, List.cons_append] at hn ⊢
      obtain ⟨n, rfl⟩ : ∃ m, n = m + 1 := ⟨n - 1, by rw [List.length_append] at hn; omega⟩
      obtain ⟨e1, e2⟩ := takeWhile_endsD (t := 46 :: (joinP (b :: fs) ++ t)) ha (Or.inr ⟨46, _, rfl, dg_dot⟩)
      have hi := ih n t (by simp) (fun f h => hf f (List.mem_cons_of_mem _ h)) ht (by rw [List.length_append, List.length_cons] at hn; omega)
      obtain ⟨c, u, hu, hc⟩ := joinP_head (b :: fs) (by simp) (fun f h => hf f (List.mem_cons_of_mem _ h))
      rw [hu, List.cons_append] at hi e1 e2 ⊢
      rw [flds, e1, if_neg ha0, e2]
      simp only
      rw [if_pos hc, hi]
def parts3 (a m p : Nat) : List Bs := [Lib.decDigits a, Lib.decDigits m, Lib.decDigits p]
theorem decs_ok (ns : List Nat) : ∀ f ∈ ns.map Lib.decDigits, f ≠ [] ∧ ∀ c ∈ f, dg c = true := by
  intro f hf
  obtain ⟨n, _, rfl⟩ := List.mem_map.1 hf
  exact ⟨dec_ne n, dec_dg n⟩
theorem nums_decs : ∀ (sem first : Bool) (ns : List Nat), (∀ n ∈ ns, n < 18446744073709551616) → nums sem first (ns.map Lib.decDigits) = some ns
  | _, _, [], _ => rfl
  | sem, first, n :: ns, h => by
    rw [List.map_cons, nums, if_neg (by rw [dec_bad]; simp), dec_vn n (h n (by simp))]
    simp only
    rw [nums_decs sem false ns (fun m hm => h m (List.mem_cons_of_mem _ hm))]; rfl
theorem dg_not_wh {c : UInt8} (h : dg c = true) : wh c = false := al_not_wh (al_of_dg h)
theorem dg_not_v {c : UInt8} (h : dg c = true) : c ≠ 118 := by rintro rfl; cases h
theorem dropWhile_all : ∀ (x y : Bs), x.all wh = true → (x ++ y).dropWhile wh = y.dropWhile wh
  | [], y, _ => rfl
  | c :: x, y, h => by
    rw [List.all_cons, Bool.and_eq_true] at h
    rw [List.cons_append, List.dropWhile_cons_of_pos h.1, dropWhile_all x y h.2]
/-- White space and a v ahead of what begins with a digit are left out. -/
theorem ahead_of (x v t : Bs) (hx : x.all wh = true) (hv : v = [] ∨ v = [118]) (c : UInt8) (u : Bs) (ht : t = c :: u) (hc : dg c = true) : ahead (x ++ (v ++ t)) = t := by
  unfold ahead
  rw [dropWhile_all x _ hx]
  subst ht
  rcases hv with rfl | rfl
  · rw [List.nil_append, List.dropWhile_cons_of_neg (by rw [dg_not_wh hc]; simp), noV, if_neg (dg_not_v hc)]
  · rw [List.cons_append, List.nil_append, List.dropWhile_cons_of_neg (by decide), noV, if_pos rfl]
theorem asm_ends {p b bl : Bs} (hbl : bl.all wh = true) : EndsD (asm p b bl) := by
  unfold asm
  by_cases e : p = []
  · rw [if_pos e, List.nil_append]
    by_cases e' : b = []
    · rw [if_pos e', List.nil_append]
      rcases ends_wh hbl with h | ⟨c, u, h, h1, h2⟩
      · exact Or.inl h
      · refine Or.inr ⟨c, u, h, ?_, h2⟩
        rcases hd : dg c with _ | _
        · rfl
        · rw [al_of_dg hd] at h1; cases h1
    · rw [if_neg e', List.cons_append]; exact Or.inr ⟨43, _, rfl, rfl, by decide⟩
  · rw [if_neg e, List.cons_append]; exact Or.inr ⟨45, _, rfl, rfl, by decide⟩
/-- A semantic version that is written out of its parts. -/
theorem made_parse (ns : List Nat) (h3 : ns.length = 3) (hns : ∀ n ∈ ns, n < 18446744073709551616) (x v p b bl : Bs) (hx : x.all wh = true) (hv : v = [] ∨ v = [118]) (hbl : bl.all wh = true) (hp : p = [] ∨ ids true p = true) (hb : b = [] ∨ ids false b = true) (hlp : long 0 p = false) (h10 : 10 ∉ bl) :
    pparse true (x ++ (v ++ (joinP (ns.map Lib.decDigits) ++ asm p b bl))) = some (ns, p, b) := by
  have hne : ns.map Lib.decDigits ≠ [] := by intro e; have h9 := congrArg List.length e; rw [List.length_map, List.length_nil] at h9; omega
  obtain ⟨c, u, hu, hc⟩ := joinP_head _ hne (decs_ok ns)
  have hp' : p = [] ∨ ids false p = true := hp.imp id ids_false
  have ha : ahead (x ++ (v ++ (joinP (ns.map Lib.decDigits) ++ asm p b bl))) = joinP (ns.map Lib.decDigits) ++ asm p b bl := ahead_of x v _ hx hv c (u ++ asm p b bl) (by rw [hu]; rfl) hc
  have hf : fieldsOf (x ++ (v ++ (joinP (ns.map Lib.decDigits) ++ asm p b bl))) = (ns.map Lib.decDigits, asm p b bl) := by
    unfold fieldsOf
    rw [ha]
    exact flds_join _ _ _ hne (decs_ok ns) (asm_ends hbl) (by simp only [List.length_append]; omega)
  have hmem : 10 ∉ asm p b bl := by
    unfold asm
    intro hm
    rcases List.mem_append.1 hm with hm | hm
    · by_cases e : p = []
      · rw [if_pos e] at hm; cases hm
      · rw [if_neg e] at hm
        rcases List.mem_cons.1 hm with hm | hm
        · cases hm
        · exact ids_not (hp'.resolve_left e) (by decide) rfl hm
    · rcases List.mem_append.1 hm with hm | hm
      · by_cases e : b = []
        · rw [if_pos e] at hm; cases hm
        · rw [if_neg e] at hm
          rcases List.mem_cons.1 hm with hm | hm
          · cases hm
          · exact ids_not (hb.resolve_left e) (by decide) rfl hm
      · exact h10 hm
  unfold pparse
  have hf' : flds (x ++ (v ++ (joinP (ns.map Lib.decDigits) ++ asm p b bl))).length (ahead (x ++ (v ++ (joinP (ns.map Lib.decDigits) ++ asm p b bl)))) = (ns.map Lib.decDigits, asm p b bl) := hf
  rw [hf']
  simp only
  rw [if_neg hne, if_neg hmem, if_neg (by rw [if_pos trivial, List.length_map, h3]; simp), nums_decs true true ns hns]
  simp only [Bool.true_and]
  have hok : (spl p).all okPre = true := by
    rcases hp with rfl | hp
    · rfl
    · refine List.all_eq_true.2 fun c hc => ?_
      have hiff := short_vn hlp p ⟨[], [], by simp⟩ c hc
      rw [okPre_plain hiff.1 hiff.2]
      have := List.all_eq_true.1 hp c hc
      simp only [Bool.and_eq_true, Bool.true_and] at this
      exact this.2
  by_cases e : asm p b bl = []
  · rw [if_neg (by rw [e]; simp)]
    have e1 : p = [] := by
      by_cases e1 : p = []
      · exact e1
      · unfold asm at e; rw [if_neg e1] at e; cases e
    have e2 : b = [] := by
      by_cases e2 : b = []
      · exact e2
      · unfold asm at e; rw [if_pos e1, if_neg e2] at e; cases e
    rw [e1, e2]
  · rw [if_pos (by rw [bne_iff_ne]; exact e), asm_extra hbl hp' hb]
    simp only
    rw [if_pos hok]
end Go.Proofs.YtomoefldmgfaoaaDoor.Pv
