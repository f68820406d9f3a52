/- Versions: the greatest one of a list, from the left and from the right; in plain Lean. -/
import Derived.Test.YtomoefldmgfaoaaDoorPvG
import Derived.Test.YtomoefldmgfaoaaDoorPvC
set_option linter.unusedVariables false
set_option linter.unusedSimpArgs false
namespace Go.Proofs.YtomoefldmgfaoaaDoor.Pv
open Go

/-- The reference's way: from the left. -/
def sfold : Option (List Nat) → List Bs → Option (List Nat)
  | o, [] => o
  | o, l :: t => match pgen l with
    | none => sfold o t
    | some q => if pt q.2.1 0 ≤ 1 then (match o with
        | none => sfold (some q.2.1) t
        | some h => if vcmp h q.2.1 < 0 then sfold (some q.2.1) t else sfold (some h) t) else sfold o t
/-- The versions that count. -/
def cand : List Bs → List (List Nat)
  | [] => []
  | l :: t => match pgen l with
    | none => cand t
    | some q => if pt q.2.1 0 ≤ 1 then q.2.1 :: cand t else cand t
def Top (o : Option (List Nat)) (cs : List (List Nat)) : Prop := match o with
  | none => cs = []
  | some h => h ∈ cs ∧ ∀ c ∈ cs, 0 ≤ vcmp h c
theorem sfold_top : ∀ (ls : List Bs) (o : Option (List Nat)) (cs : List (List Nat)), Top o cs → Top (sfold o ls) (cs ++ cand ls)
  | [], o, cs, h => by rw [sfold, cand, List.append_nil]; exact h
  | l :: t, o, cs, h => by
    rw [sfold, cand]
    cases hp : pgen l with
    | none => exact sfold_top t o cs h
    | some q =>
      simp only
      by_cases h1 : pt q.2.1 0 ≤ 1
      · rw [if_pos h1, if_pos h1]
        have e : cs ++ q.2.1 :: cand t = (cs ++ [q.2.1]) ++ cand t := by simp
        rw [e]
        cases o with
        | none =>
          refine sfold_top t _ _ ?_
          have h' : cs = [] := h
          subst h'
          exact ⟨by simp, fun c hc => by rw [List.nil_append, List.mem_singleton] at hc; subst hc; rw [vcmp_refl]; exact Int.le_refl _⟩
        | some x =>
          obtain ⟨hx, hm⟩ := h
          simp only
          by_cases h2 : vcmp x q.2.1 < 0
          · rw [if_pos h2]
            refine sfold_top t _ _ ⟨by simp, fun c hc => ?_⟩
            rcases List.mem_append.1 hc with hc | hc
            · refine vcmp_trans _ x _ ?_ (hm c hc)
              rw [vcmp_neg]; omega
            · rw [List.mem_singleton] at hc; subst hc; rw [vcmp_refl]; exact Int.le_refl _
          · rw [if_neg h2]
            refine sfold_top t _ _ ⟨List.mem_append_left _ hx, fun c hc => ?_⟩
            rcases List.mem_append.1 hc with hc | hc
            · exact hm c hc
            · rw [List.mem_singleton] at hc; subst hc; omega
      · rw [if_neg h1, if_neg h1]; exact sfold_top t o cs h
theorem hscan_top : ∀ (ls : List Bs), Top ((hscan ls).map (·.2.1)) (cand ls)
  | [] => rfl
  | l :: t => by
    have ih := hscan_top t
    rw [hscan, hstep, cand]
    cases hp : pgen l with
    | none => exact ih
    | some q =>
      simp only
      by_cases h1 : pt q.2.1 0 ≤ 1
      · rw [if_neg (by omega), if_pos h1]
        cases ho : hscan t with
        | none =>
          rw [ho] at ih
          have ih' : cand t = [] := ih
          rw [ih']
          exact ⟨by simp, fun c hc => by rw [List.mem_singleton] at hc; subst hc; show 0 ≤ vcmp q.2.1 q.2.1; rw [vcmp_refl]; exact Int.le_refl _⟩
        | some x =>
          rw [ho] at ih
          obtain ⟨hx, hm⟩ := ih
          simp only
          by_cases h2 : vcmp x.2.1 q.2.1 = -1
          · rw [if_pos h2]
            refine ⟨by simp, fun c hc => ?_⟩
            rcases List.mem_cons.1 hc with hc | hc
            · subst hc; show 0 ≤ vcmp q.2.1 q.2.1; rw [vcmp_refl]; exact Int.le_refl _
            · refine vcmp_trans _ x.2.1 _ ?_ (hm c hc)
              show 0 ≤ vcmp q.2.1 x.2.1
              rw [vcmp_neg]; omega
          · rw [if_neg h2]
            refine ⟨List.mem_cons_of_mem _ hx, fun c hc => ?_⟩
            rcases List.mem_cons.1 hc with hc | hc
            · subst hc; show 0 ≤ vcmp x.2.1 q.2.1; have := vcmp_range x.2.1 q.2.1; omega
            · exact hm c hc
      · rw [if_pos (by omega), if_neg h1]; exact ih
/-- Both are greatest. -/
theorem same_top (ls : List Bs) : match sfold none ls, hscan ls with
    | none, none => True
    | some h, some q => vcmp h q.2.1 = 0
    | _, _ => False := by
  have h1 := sfold_top ls none [] rfl
  have h2 := hscan_top ls
  rw [List.nil_append] at h1
  cases hs : sfold none ls with
  | none =>
    rw [hs] at h1
    have h1' : cand ls = [] := h1
    rw [h1'] at h2
    cases hh : hscan ls with
    | none => trivial
    | some q => rw [hh] at h2; exact absurd h2.1 (by simp)
  | some h =>
    rw [hs] at h1
    cases hh : hscan ls with
    | none => rw [hh] at h2; have h2' : cand ls = [] := h2; rw [h2'] at h1; exact absurd h1.1 (by simp)
    | some q =>
      rw [hh] at h2
      have a := h1.2 _ h2.1
      have b := h2.2 _ h1.1
      have b' : 0 ≤ vcmp q.2.1 h := b
      rw [vcmp_neg] at b'
      show vcmp h q.2.1 = 0
      have a' : 0 ≤ vcmp h q.2.1 := a
      omega
end Go.Proofs.YtomoefldmgfaoaaDoor.Pv
