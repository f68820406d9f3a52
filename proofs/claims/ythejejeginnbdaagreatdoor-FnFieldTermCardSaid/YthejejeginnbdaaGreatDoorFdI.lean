/- Selectors of fields in memory: their terms, and the methods of a term. -/
import Derived.Test.YthejejeginnbdaaGreatDoorFdU
import Derived.Test.YthejejeginnbdaaGreatDoorPFnFieldTermx
import Derived.Test.YthejejeginnbdaaGreatDoorTxt
import Derived.Deep.RegionHeld3
import Derived.Maps.OwnSet
import Derived.Maps.StringElems
import Derived.Maps.Views
import Derived.StringKeys
import Derived.WalkKit
import Derived.WalkMore
import Derived.WalkSpells
import Derived.BigCall
set_option linter.unusedVariables false
set_option linter.unusedSimpArgs false
namespace Go.Proofs.YthejejeginnbdaaGreatDoor.Fd
open Go Go.RowKit Go.Maps Go.Proofs.YthejejeginnbdaaGreatDoorW.PrintWords Go.Proofs.YthejejeginnbdaaGreatDoor.Txt Go.Proofs.YthejejeginnbdaaGreatDoor Go.Proofs.YthejejeginnbdaaGreatDoor.PFnFieldTerm

/-- A term: whether it asks for the value, the field, the value. -/
abbrev Tm := Bool × ByteArray × ByteArray
def ptrT (b : Bool) : TypeId := if b then 74 else 71
def celT (b : Bool) : TypeId := if b then 75 else 73
def enc (x : Bool × Nat) : Value := .iface (ptrT x.1) (.pointer (some ⟨x.2, 0, none⟩))
def TermAt (w : World) (x : Bool × Nat) (t : Tm) : Prop := x.1 = t.1 ∧ w.heap[x.2]? = some (.cells #[.string t.2.1, .string t.2.2] (celT t.1) (0, 0))
theorem TermAt.below {w w' : World} {x : Bool × Nat} {t : Tm} (h : TermAt w x t) (hb : Below w.heap.size w w') : TermAt w' x t := ⟨h.1, blk_below h.2 hb⟩
theorem TermAt.lt {w : World} {x : Bool × Nat} {t : Tm} (h : TermAt w x t) : x.2 < w.heap.size := blk_lt h.2
def none_ (t : Tm) : Bool := t.2.1.data.toList.isEmpty && t.2.2.data.toList.isEmpty
theorem id_any (a b : ByteArray) (w : World) : Calls Tryz.prog 31 #[.string a, .string b] w fun e w' => e = .returned (.tuple #[.string a, .string b, .nilIface]) ∧ w = w' := by
  go_enter Tryz.func31, Tryz.ntmps31
  go_wp2
  go_ret3
  exact ⟨rfl, rfl⟩
theorem every_any (w : World) : Calls Tryz.prog 105 #[] w fun e w' => (∃ A c, e = .returned (.iface 91 (.slice A 0 c))) ∧ Below w.heap.size w w' := by
  go_enter Tryz.func105, Tryz.ntmps105
  go_wp2
  go_ret
  exact ⟨⟨_, _, rfl⟩, by repeat (first | exact Below.refl _ _ | apply below_alloc | apply below_drew1)⟩
/-- What a term is turned to by the function that changes nothing. -/
def ToldT (w w' : World) (e : Ending) (t : Tm) : Prop :=
  if none_ t = true then ∃ A c, e = .returned (.tuple #[.iface 91 (.slice A 0 c), .nilIface])
  else ∃ g, e = .returned (.tuple #[enc (t.1, g), .nilIface]) ∧ TermAt w' (t.1, g) t ∧ w.heap.size ≤ g

set_option maxRecDepth 100000 in
set_option maxHeartbeats 4000000 in
theorem transform_true (g : Nat) (f v : ByteArray) (w : World) (h : TermAt w (true, g) (true, f, v)) :
    Calls Tryz.prog 112 #[.pointer (some ⟨g, 0, none⟩), .func (.func 31) #[] #[]] w fun e w' => ToldT w w' e (true, f, v) ∧ Below w.heap.size w w' := by
  have mixed : Tryz.prog.follows .mixedOrders = true := by kernel_rfl
  have hu := Tryz.underlying75
  have c0 : w.cell? ⟨g, 0, none⟩ = some (.string f) := blk_cell h.2 0
  have c1 : w.cell? ⟨g, 1, none⟩ = some (.string v) := blk_cell h.2 1
  have sf := size_len f
  have sv := size_len v
  clear h
  by_cases hf : f.data.toList = []
  · have f0 : ((f.size : Int) == 0) = true := beq_iff_eq.2 (by rw [sf, hf]; rfl)
    by_cases hv : v.data.toList = []
    · have v0 : ((v.size : Int) == 0) = true := beq_iff_eq.2 (by rw [sv, hv]; rfl)
      have HN : Aside0 (none_ (true, f, v) = true) := ⟨by unfold none_; simp only [hf, hv]; rfl⟩
      clear sf sv hf hv
      go_enter Tryz.func112, Tryz.ntmps112
      go_wp2
      go_region_held3 (fun w' => w'.cell? ⟨g, 0, none⟩ = some (.string f) ∧ w'.cell? ⟨g, 1, none⟩ = some (.string v)) (first | exact ⟨c0, c1⟩)
        (first | (go_at_call 31; (with_reducible refine (id_any _ _ _).mono ?_); rintro e w1 ⟨rfl, rfl⟩))
      all_goals go_wp2_with (first | (go_at_call 105; (with_reducible refine (every_any _).mono ?_); rintro e w2 ⟨⟨A, c, rfl⟩, hb⟩; have B2 := Aside0.mk (below_step (below_drew1 (Below.refl w.heap.size w)) hb); clear hb))
      all_goals go_ret2
      all_goals exact ⟨by unfold ToldT; rw [if_pos HN.out]; exact ⟨_, _, rfl⟩, B2.out⟩
    · have v0 : ((v.size : Int) == 0) = false := beq_eq_false_iff_ne.2 (fun e => hv (List.length_eq_zero_iff.1 (by omega)))
      have HN : Aside0 (¬ none_ (true, f, v) = true) := ⟨by unfold none_; simp only [hf]; cases hq : v.data.toList with | nil => exact absurd hq hv | cons a b => simp⟩
      clear sf sv hf hv
      go_enter Tryz.func112, Tryz.ntmps112
      go_wp2
      go_region_held3 (fun w' => w'.cell? ⟨g, 0, none⟩ = some (.string f) ∧ w'.cell? ⟨g, 1, none⟩ = some (.string v)) (first | exact ⟨c0, c1⟩)
        (first | (go_at_call 31; (with_reducible refine (id_any _ _ _).mono ?_); rintro e w1 ⟨rfl, rfl⟩))
      all_goals go_wp2
      all_goals go_ret2
      all_goals exact ⟨by unfold ToldT; rw [if_neg HN.out]; exact ⟨w.heap.size, rfl, ⟨rfl, blk_new w.drew _⟩, Nat.le_refl _⟩, below_alloc (below_drew1 (Below.refl _ _)) _⟩
  · have f0 : ((f.size : Int) == 0) = false := beq_eq_false_iff_ne.2 (fun e => hf (List.length_eq_zero_iff.1 (by omega)))
    have HN : Aside0 (¬ none_ (true, f, v) = true) := ⟨by unfold none_; cases hq : f.data.toList with | nil => exact absurd hq hf | cons a b => simp [hq]⟩
    clear sf sv hf
    go_enter Tryz.func112, Tryz.ntmps112
    go_wp2
    go_region_held3 (fun w' => w'.cell? ⟨g, 0, none⟩ = some (.string f) ∧ w'.cell? ⟨g, 1, none⟩ = some (.string v)) (first | exact ⟨c0, c1⟩)
      (first | (go_at_call 31; (with_reducible refine (id_any _ _ _).mono ?_); rintro e w1 ⟨rfl, rfl⟩))
    all_goals go_wp2
    all_goals go_ret2
    all_goals exact ⟨by unfold ToldT; rw [if_neg HN.out]; exact ⟨w.heap.size, rfl, ⟨rfl, blk_new w.drew _⟩, Nat.le_refl _⟩, below_alloc (below_drew1 (Below.refl _ _)) _⟩
theorem empty_true (g : Nat) (w : World) : Calls Tryz.prog 107 #[.pointer (some ⟨g, 0, none⟩)] w fun e w' => e = .returned (.bool false) ∧ w = w' := by
  go_enter Tryz.func107, Tryz.ntmps107
  go_wp2
  go_ret
  exact ⟨rfl, rfl⟩

set_option maxRecDepth 100000 in
set_option maxHeartbeats 4000000 in
theorem transform_false (g : Nat) (f v : ByteArray) (w : World) (h : TermAt w (false, g) (false, f, v)) :
    Calls Tryz.prog 103 #[.pointer (some ⟨g, 0, none⟩), .func (.func 31) #[] #[]] w fun e w' => ToldT w w' e (false, f, v) ∧ Below w.heap.size w w' := by
  have mixed : Tryz.prog.follows .mixedOrders = true := by kernel_rfl
  have hu := Tryz.underlying73
  have c0 : w.cell? ⟨g, 0, none⟩ = some (.string f) := blk_cell h.2 0
  have c1 : w.cell? ⟨g, 1, none⟩ = some (.string v) := blk_cell h.2 1
  have sf := size_len f
  have sv := size_len v
  clear h
  by_cases hf : f.data.toList = []
  · have f0 : ((f.size : Int) == 0) = true := beq_iff_eq.2 (by rw [sf, hf]; rfl)
    by_cases hv : v.data.toList = []
    · have v0 : ((v.size : Int) == 0) = true := beq_iff_eq.2 (by rw [sv, hv]; rfl)
      have HN : Aside0 (none_ (false, f, v) = true) := ⟨by unfold none_; simp only [hf, hv]; rfl⟩
      clear sf sv hf hv
      go_enter Tryz.func103, Tryz.ntmps103
      go_wp2
      go_region_held3 (fun w' => w'.cell? ⟨g, 0, none⟩ = some (.string f) ∧ w'.cell? ⟨g, 1, none⟩ = some (.string v)) (first | exact ⟨c0, c1⟩)
        (first | (go_at_call 31; (with_reducible refine (id_any _ _ _).mono ?_); rintro e w1 ⟨rfl, rfl⟩))
      all_goals go_wp2_with (first | (go_at_call 105; (with_reducible refine (every_any _).mono ?_); rintro e w2 ⟨⟨A, c, rfl⟩, hb⟩; have B2 := Aside0.mk (below_step (below_drew1 (Below.refl w.heap.size w)) hb); clear hb))
      all_goals go_ret2
      all_goals exact ⟨by unfold ToldT; rw [if_pos HN.out]; exact ⟨_, _, rfl⟩, B2.out⟩
    · have v0 : ((v.size : Int) == 0) = false := beq_eq_false_iff_ne.2 (fun e => hv (List.length_eq_zero_iff.1 (by omega)))
      have HN : Aside0 (¬ none_ (false, f, v) = true) := ⟨by unfold none_; simp only [hf]; cases hq : v.data.toList with | nil => exact absurd hq hv | cons a b => simp⟩
      clear sf sv hf hv
      go_enter Tryz.func103, Tryz.ntmps103
      go_wp2
      go_region_held3 (fun w' => w'.cell? ⟨g, 0, none⟩ = some (.string f) ∧ w'.cell? ⟨g, 1, none⟩ = some (.string v)) (first | exact ⟨c0, c1⟩)
        (first | (go_at_call 31; (with_reducible refine (id_any _ _ _).mono ?_); rintro e w1 ⟨rfl, rfl⟩))
      all_goals go_wp2
      all_goals go_ret2
      all_goals exact ⟨by unfold ToldT; rw [if_neg HN.out]; exact ⟨w.heap.size, rfl, ⟨rfl, blk_new w.drew _⟩, Nat.le_refl _⟩, below_alloc (below_drew1 (Below.refl _ _)) _⟩
  · have f0 : ((f.size : Int) == 0) = false := beq_eq_false_iff_ne.2 (fun e => hf (List.length_eq_zero_iff.1 (by omega)))
    have HN : Aside0 (¬ none_ (false, f, v) = true) := ⟨by unfold none_; cases hq : f.data.toList with | nil => exact absurd hq hf | cons a b => simp [hq]⟩
    clear sf sv hf
    go_enter Tryz.func103, Tryz.ntmps103
    go_wp2
    go_region_held3 (fun w' => w'.cell? ⟨g, 0, none⟩ = some (.string f) ∧ w'.cell? ⟨g, 1, none⟩ = some (.string v)) (first | exact ⟨c0, c1⟩)
      (first | (go_at_call 31; (with_reducible refine (id_any _ _ _).mono ?_); rintro e w1 ⟨rfl, rfl⟩))
    all_goals go_wp2
    all_goals go_ret2
    all_goals exact ⟨by unfold ToldT; rw [if_neg HN.out]; exact ⟨w.heap.size, rfl, ⟨rfl, blk_new w.drew _⟩, Nat.le_refl _⟩, below_alloc (below_drew1 (Below.refl _ _)) _⟩
theorem empty_false (g : Nat) (w : World) : Calls Tryz.prog 98 #[.pointer (some ⟨g, 0, none⟩)] w fun e w' => e = .returned (.bool false) ∧ w = w' := by
  go_enter Tryz.func98, Tryz.ntmps98
  go_wp2
  go_ret
  exact ⟨rfl, rfl⟩
end Go.Proofs.YthejejeginnbdaaGreatDoor.Fd
