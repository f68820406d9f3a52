/- Versions: what a text says, over lists of bytes; no program in sight. -/
import Derived.Lib.AtoiAll
set_option linter.unusedVariables false
set_option linter.unusedSimpArgs false
namespace Go.Proofs.YtomoefldmgfaoaaDoor.Pv
open Go

abbrev Bs := List UInt8
def wh (c : UInt8) : Bool := c == 32 || c == 9 || c == 10 || c == 12 || c == 13
def dg (c : UInt8) : Bool := decide (48 ≤ c.toNat) && decide (c.toNat ≤ 57)
def al (c : UInt8) : Bool := dg c || c == 45 || (decide (65 ≤ c.toNat) && decide (c.toNat ≤ 90)) || (decide (97 ≤ c.toNat) && decide (c.toNat ≤ 122))
def noV : Bs → Bs
  | [] => []
  | c :: t => if c = 118 then t else c :: t
def ahead (l : Bs) : Bs := noV (l.dropWhile wh)
/-- A text's parts between points. -/
def spl : Bs → List Bs
  | [] => [[]]
  | c :: t => if c = 46 then [] :: spl t else match spl t with
    | [] => [[c]]
    | x :: xs => (c :: x) :: xs
def joinP : List Bs → Bs
  | [] => []
  | [a] => a
  | a :: b :: t => a ++ 46 :: joinP (b :: t)
/-- The fields of digits that a text begins with, and what is left. -/
def flds : Nat → Bs → List Bs × Bs
  | 0, l => ([], l)
  | n + 1, l =>
    if l.takeWhile dg = [] then ([], l)
    else match l.dropWhile dg with
      | 46 :: c :: t => if dg c then (l.takeWhile dg :: (flds n (c :: t)).1, (flds n (c :: t)).2) else ([l.takeWhile dg], 46 :: c :: t)
      | r => ([l.takeWhile dg], r)
def vn (l : Bs) : Option Nat := match Lib.parseMag l with
  | .ok u => some u
  | _ => none
def bad (l : Bs) : Bool := l.head? == some 48 && l != [48]
def nums (sem : Bool) : Bool → List Bs → Option (List Nat)
  | _, [] => some []
  | first, f :: fs => if (first || sem) && bad f then none else match vn f with
    | none => none
    | some n => (nums sem false fs).map (n :: ·)
/-- How long the words are that a text begins with. -/
def wlen : Nat → Bs → Nat
  | 0, _ => 0
  | n + 1, l =>
    if (l.takeWhile al).length = 0 then 0
    else match l.dropWhile al with
      | 46 :: t => if wlen n t = 0 then (l.takeWhile al).length else (l.takeWhile al).length + 1 + wlen n t
      | _ => (l.takeWhile al).length
/-- A sign, and the words behind it. -/
def part (sg : UInt8) (l : Bs) : Bs × Bs := match l with
  | c :: t => if c = sg ∧ 0 < wlen t.length t then (t.take (wlen t.length t), t.drop (wlen t.length t)) else ([], c :: t)
  | [] => ([], [])
def extra (l : Bs) : Option (Bs × Bs) :=
  if (part 43 (part 45 l).2).2.all wh then some ((part 45 l).1, (part 43 (part 45 l).2).1) else none
def okPre (c : Bs) : Bool := !((vn c).isSome && bad c)
/-- What the program makes of a text. -/
def pparse (sem : Bool) (l : Bs) : Option (List Nat × Bs × Bs) :=
  let q := flds l.length (ahead l)
  if q.1 = [] then none
  else if 10 ∈ q.2 then none
  else if (if sem then q.1.length ≠ 3 else q.1.length < 2) then none
  else match nums sem true q.1 with
    | none => none
    | some ns => if sem && q.2 != [] then
        match extra q.2 with
        | none => none
        | some (p, b) => if (spl p).all okPre then some (ns, p, b) else none
      else some (ns, [], [])

theorem vn_lt {l : Bs} {u : Nat} (h : vn l = some u) : u < 18446744073709551616 := by
  unfold vn at h
  split at h
  · rename_i u' hu
    obtain rfl := Option.some.inj h
    exact Lib.parseMag_lt hu
  · cases h
theorem takeWhile_len_le {p : UInt8 → Bool} (l : Bs) : (l.takeWhile p).length ≤ l.length := by
  have := congrArg List.length (List.takeWhile_append_dropWhile (p := p) (l := l))
  rw [List.length_append] at this
  omega
theorem drop_takeWhile {p : UInt8 → Bool} : ∀ (l : Bs), l.drop (l.takeWhile p).length = l.dropWhile p
  | [] => rfl
  | c :: t => by
    by_cases h : p c = true
    · rw [List.takeWhile_cons_of_pos h, List.dropWhile_cons_of_pos h, List.length_cons, List.drop_succ_cons, drop_takeWhile t]
    · rw [List.takeWhile_cons_of_neg h, List.dropWhile_cons_of_neg h]; rfl
theorem take_takeWhile {p : UInt8 → Bool} : ∀ (l : Bs), l.take (l.takeWhile p).length = l.takeWhile p
  | [] => rfl
  | c :: t => by
    by_cases h : p c = true
    · rw [List.takeWhile_cons_of_pos h, List.length_cons, List.take_succ_cons, take_takeWhile t]
    · rw [List.takeWhile_cons_of_neg h]; rfl
theorem joinP_cons (a : Bs) {l : List Bs} (h : l ≠ []) : joinP (a :: l) = a ++ 46 :: joinP l := by
  cases l with
  | nil => exact absurd rfl h
  | cons b t => rfl
theorem spl_ne (l : Bs) : spl l ≠ [] := by
  cases l with
  | nil => simp [spl]
  | cons c t =>
    simp only [spl]
    split
    · simp
    · split <;> simp
/-- A text without a point is one part. -/
theorem spl_one : ∀ (l : Bs), 46 ∉ l → spl l = [l]
  | [], _ => rfl
  | c :: t, h => by
    have h1 : c ≠ 46 := fun e => h (by rw [e]; exact List.mem_cons_self)
    rw [spl, if_neg h1, spl_one t (fun e => h (List.mem_cons_of_mem _ e))]
theorem spl_dot : ∀ (a t : Bs), 46 ∉ a → spl (a ++ 46 :: t) = a :: spl t
  | [], t, _ => by rw [List.nil_append, spl, if_pos rfl]
  | c :: a, t, h => by
    have h1 : c ≠ 46 := fun e => h (by rw [e]; exact List.mem_cons_self)
    rw [List.cons_append, spl, if_neg h1, spl_dot a t (fun e => h (List.mem_cons_of_mem _ e))]
theorem spl_join : ∀ (fs : List Bs), fs ≠ [] → (∀ f ∈ fs, 46 ∉ f) → spl (joinP fs) = fs
  | [], h, _ => absurd rfl h
  | [a], _, h => by rw [joinP]; exact spl_one a (h a List.mem_cons_self)
  | a :: b :: t, _, h => by
    rw [joinP_cons a (by simp), spl_dot a _ (h a List.mem_cons_self), spl_join (b :: t) (by simp) (fun f hf => h f (List.mem_cons_of_mem _ hf))]
theorem join_spl : ∀ (l : Bs), joinP (spl l) = l
  | [] => rfl
  | c :: t => by
    rw [spl]
    split
    · rename_i e
      rw [joinP_cons [] (spl_ne t), join_spl t, e]; rfl
    · have h := join_spl t
      cases hs : spl t with
      | nil => exact absurd hs (spl_ne t)
      | cons x xs =>
        rw [hs] at h
        show joinP ((c :: x) :: xs) = c :: t
        cases xs with
        | nil => rw [joinP] at h ⊢; rw [h]
        | cons y ys => rw [joinP_cons _ (by simp)] at h ⊢; rw [List.cons_append, h]
theorem dg_dot : dg 46 = false := rfl
theorem al_dot : al 46 = false := rfl
theorem mem_takeWhile {p : UInt8 → Bool} : ∀ (l : Bs) (c : UInt8), c ∈ l.takeWhile p → p c = true
  | [], _, h => by cases h
  | d :: t, c, h => by
    by_cases hp : p d = true
    · rw [List.takeWhile_cons_of_pos hp] at h
      rcases List.mem_cons.1 h with rfl | h
      · exact hp
      · exact mem_takeWhile t c h
    · rw [List.takeWhile_cons_of_neg hp] at h; cases h
/-- The fields are digits, none of them empty; joined, and what is left behind, they are the text. -/
theorem flds_spec : ∀ (n : Nat) (l : Bs), l.length ≤ n → (∀ f ∈ (flds n l).1, f ≠ [] ∧ ∀ c ∈ f, dg c = true) ∧ joinP (flds n l).1 ++ (flds n l).2 = l ∧ ((flds n l).1 = [] → l.takeWhile dg = [] ) := by
  intro n
  induction n with
  | zero =>
    intro l h
    have : l = [] := List.length_eq_zero_iff.1 (by omega)
    subst this
    exact ⟨(by intro f hf; exact absurd hf (List.not_mem_nil)), rfl, fun _ => rfl⟩
  | succ n ih =>
    intro l h
    have hcut := List.takeWhile_append_dropWhile (p := dg) (l := l)
    rw [flds]
    split
    · rename_i h0
      exact ⟨(by intro f hf; exact absurd hf (List.not_mem_nil)), (by simp [joinP]), fun _ => h0⟩
    · rename_i h0
      have hd : ∀ c ∈ l.takeWhile dg, dg c = true := fun c hc => mem_takeWhile l c hc
      have hl0 : 0 < (l.takeWhile dg).length := List.length_pos_iff.2 h0
      split
      · rename_i c t hr
        rw [hr] at hcut
        split
        · rename_i hc
          have hlen : (c :: t).length ≤ n := by
            have := congrArg List.length hcut
            rw [List.length_append] at this
            simp at this ⊢
            omega
          obtain ⟨i1, i2, i3⟩ := ih (c :: t) hlen
          have hne : (flds n (c :: t)).1 ≠ [] := by
            intro e
            have := i3 e
            rw [List.takeWhile_cons_of_pos hc] at this
            cases this
          refine ⟨?_, ?_, fun e => by cases e⟩
          · intro f hf
            rcases List.mem_cons.1 hf with rfl | hf
            · exact ⟨h0, hd⟩
            · exact i1 f hf
          · show joinP (_ :: (flds n (c :: t)).1) ++ _ = l
            rw [joinP_cons _ hne, List.append_assoc, List.cons_append, i2, hcut]
        · refine ⟨?_, ?_, fun e => by cases e⟩
          · intro f hf
            rcases List.mem_cons.1 hf with rfl | hf
            · exact ⟨h0, hd⟩
            · cases hf
          · exact hcut
      · refine ⟨?_, ?_, fun e => by cases e⟩
        · intro f hf
          rcases List.mem_cons.1 hf with rfl | hf
          · exact ⟨h0, hd⟩
          · cases hf
        · exact hcut
theorem nodot_of_dg {f : Bs} (h : ∀ c ∈ f, dg c = true) : 46 ∉ f := fun e => by have := h 46 e; rw [dg_dot] at this; cases this
end Go.Proofs.YtomoefldmgfaoaaDoor.Pv
