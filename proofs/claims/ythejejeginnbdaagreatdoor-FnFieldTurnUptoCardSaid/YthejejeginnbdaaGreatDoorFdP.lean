/- Selectors of fields in memory: their terms, and the methods of a term. -/
import Derived.Test.YthejejeginnbdaaGreatDoorFdU
import Derived.Test.YthejejeginnbdaaGreatDoorPFnFieldTurnx
import Derived.Test.YthejejeginnbdaaGreatDoorTxt
import Derived.Deep.RegionHeld3
import Derived.Maps.OwnSet
import Derived.Maps.StringElems
import Derived.Maps.Views
import Derived.StringKeys
import Derived.WalkKit
import Derived.WalkMore
import Derived.WalkSpells
import Derived.BigCall
import Derived.Test.YthejejeginnbdaaGreatDoorFdC
import Derived.Test.YthejejeginnbdaaGreatDoorFdS
set_option linter.unusedVariables false
set_option linter.unusedSimpArgs false
namespace Go.Proofs.YthejejeginnbdaaGreatDoor.Fd
open Go Go.RowKit Go.Maps Go.Proofs.YthejejeginnbdaaGreatDoorW.PrintWords Go.Proofs.YthejejeginnbdaaGreatDoor.Txt Go.Proofs.YthejejeginnbdaaGreatDoor Go.Proofs.YthejejeginnbdaaGreatDoor.PFnFieldTurn

/-- A term: whether it asks for the value, the field, the value. -/
abbrev Tm := Bool × ByteArray × ByteArray
def ptrT (b : Bool) : TypeId := if b then 74 else 71
def celT (b : Bool) : TypeId := if b then 75 else 73
def enc (x : Bool × Nat) : Value := .iface (ptrT x.1) (.pointer (some ⟨x.2, 0, none⟩))
def TermAt (w : World) (x : Bool × Nat) (t : Tm) : Prop := x.1 = t.1 ∧ w.heap[x.2]? = some (.cells #[.string t.2.1, .string t.2.2] (celT t.1) (0, 0))
theorem TermAt.below {w w' : World} {x : Bool × Nat} {t : Tm} (h : TermAt w x t) (hb : Below w.heap.size w w') : TermAt w' x t := ⟨h.1, blk_below h.2 hb⟩
theorem TermAt.lt {w : World} {x : Bool × Nat} {t : Tm} (h : TermAt w x t) : x.2 < w.heap.size := blk_lt h.2
def none_ (t : Tm) : Bool := t.2.1.data.toList.isEmpty && t.2.2.data.toList.isEmpty
theorem id_any (a b : ByteArray) (w : World) : Calls Tryz.prog 31 #[.string a, .string b] w fun e w' => e = .returned (.tuple #[.string a, .string b, .nilIface]) ∧ w = w' := by
  go_enter Tryz.func31, Tryz.ntmps31
  go_wp2
  go_ret3
  exact ⟨rfl, rfl⟩
theorem every_any (w : World) : Calls Tryz.prog 105 #[] w fun e w' => (∃ A c, e = .returned (.iface 91 (.slice A 0 c))) ∧ Below w.heap.size w w' := by
  go_enter Tryz.func105, Tryz.ntmps105
  go_wp2
  go_ret
  exact ⟨⟨_, _, rfl⟩, by repeat (first | exact Below.refl _ _ | apply below_alloc | apply below_drew1)⟩
/-- What a term is turned to by the function that changes nothing. -/
def ToldT (w w' : World) (e : Ending) (t : Tm) : Prop :=
  if none_ t = true then ∃ A c, e = .returned (.tuple #[.iface 91 (.slice A 0 c), .nilIface])
  else ∃ g, e = .returned (.tuple #[enc (t.1, g), .nilIface]) ∧ TermAt w' (t.1, g) t ∧ w.heap.size ≤ g

set_option maxRecDepth 100000 in
set_option maxHeartbeats 4000000 in
theorem transform_true (g : Nat) (f v : ByteArray) (w : World) (h : TermAt w (true, g) (true, f, v)) :
    Calls Tryz.prog 112 #[.pointer (some ⟨g, 0, none⟩), .func (.func 31) #[] #[]] w fun e w' => ToldT w w' e (true, f, v) ∧ Below w.heap.size w w' := by
  have mixed : Tryz.prog.follows .mixedOrders = true := by kernel_rfl
  have hu := Tryz.underlying75
  have c0 : w.cell? ⟨g, 0, none⟩ = some (.string f) := blk_cell h.2 0
  have c1 : w.cell? ⟨g, 1, none⟩ = some (.string v) := blk_cell h.2 1
  have sf := size_len f
  have sv := size_len v
  clear h
  by_cases hf : f.data.toList = []
  · have f0 : ((f.size : Int) == 0) = true := beq_iff_eq.2 (by rw [sf, hf]; rfl)
    by_cases hv : v.data.toList = []
    · have v0 : ((v.size : Int) == 0) = true := beq_iff_eq.2 (by rw [sv, hv]; rfl)
      have HN : Aside0 (none_ (true, f, v) = true) := ⟨by unfold none_; simp only [hf, hv]; rfl⟩
      clear sf sv hf hv
      go_enter Tryz.func112, Tryz.ntmps112
      go_wp2
      go_region_held3 (fun w' => w'.cell? ⟨g, 0, none⟩ = some (.string f) ∧ w'.cell? ⟨g, 1, none⟩ = some (.string v)) (first | exact ⟨c0, c1⟩)
        (first | (go_at_call 31; (with_reducible refine (id_any _ _ _).mono ?_); rintro e w1 ⟨rfl, rfl⟩))
      all_goals go_wp2_with (first | (go_at_call 105; (with_reducible refine (every_any _).mono ?_); rintro e w2 ⟨⟨A, c, rfl⟩, hb⟩; have B2 := Aside0.mk (below_step (below_drew1 (Below.refl w.heap.size w)) hb); clear hb))
      all_goals go_ret2
      all_goals exact ⟨by unfold ToldT; rw [if_pos HN.out]; exact ⟨_, _, rfl⟩, B2.out⟩
    · have v0 : ((v.size : Int) == 0) = false := beq_eq_false_iff_ne.2 (fun e => hv (List.length_eq_zero_iff.1 (by omega)))
      have HN : Aside0 (¬ none_ (true, f, v) = true) := ⟨by unfold none_; simp only [hf]; cases hq : v.data.toList with | nil => exact absurd hq hv | cons a b => simp⟩
      clear sf sv hf hv
      go_enter Tryz.func112, Tryz.ntmps112
      go_wp2
      go_region_held3 (fun w' => w'.cell? ⟨g, 0, none⟩ = some (.string f) ∧ w'.cell? ⟨g, 1, none⟩ = some (.string v)) (first | exact ⟨c0, c1⟩)
        (first | (go_at_call 31; (with_reducible refine (id_any _ _ _).mono ?_); rintro e w1 ⟨rfl, rfl⟩))
      all_goals go_wp2
      all_goals go_ret2
      all_goals exact ⟨by unfold ToldT; rw [if_neg HN.out]; exact ⟨w.heap.size, rfl, ⟨rfl, blk_new w.drew _⟩, Nat.le_refl _⟩, below_alloc (below_drew1 (Below.refl _ _)) _⟩
  · have f0 : ((f.size : Int) == 0) = false := beq_eq_false_iff_ne.2 (fun e => hf (List.length_eq_zero_iff.1 (by omega)))
    have HN : Aside0 (¬ none_ (true, f, v) = true) := ⟨by unfold none_; cases hq : f.data.toList with | nil => exact absurd hq hf | cons a b => simp [hq]⟩
    clear sf sv hf
    go_enter Tryz.func112, Tryz.ntmps112
    go_wp2
    go_region_held3 (fun w' => w'.cell? ⟨g, 0, none⟩ = some (.string f) ∧ w'.cell? ⟨g, 1, none⟩ = some (.string v)) (first | exact ⟨c0, c1⟩)
      (first | (go_at_call 31; (with_reducible refine (id_any _ _ _).mono ?_); rintro e w1 ⟨rfl, rfl⟩))
    all_goals go_wp2
    all_goals go_ret2
    all_goals exact ⟨by unfold ToldT; rw [if_neg HN.out]; exact ⟨w.heap.size, rfl, ⟨rfl, blk_new w.drew _⟩, Nat.le_refl _⟩, below_alloc (below_drew1 (Below.refl _ _)) _⟩
theorem empty_true (g : Nat) (w : World) : Calls Tryz.prog 107 #[.pointer (some ⟨g, 0, none⟩)] w fun e w' => e = .returned (.bool false) ∧ w = w' := by
  go_enter Tryz.func107, Tryz.ntmps107
  go_wp2
  go_ret
  exact ⟨rfl, rfl⟩

set_option maxRecDepth 100000 in
set_option maxHeartbeats 4000000 in
theorem transform_false (g : Nat) (f v : ByteArray) (w : World) (h : TermAt w (false, g) (false, f, v)) :
    Calls Tryz.prog 103 #[.pointer (some ⟨g, 0, none⟩), .func (.func 31) #[] #[]] w fun e w' => ToldT w w' e (false, f, v) ∧ Below w.heap.size w w' := by
  have mixed : Tryz.prog.follows .mixedOrders = true := by kernel_rfl
  have hu := Tryz.underlying73
  have c0 : w.cell? ⟨g, 0, none⟩ = some (.string f) := blk_cell h.2 0
  have c1 : w.cell? ⟨g, 1, none⟩ = some (.string v) := blk_cell h.2 1
  have sf := size_len f
  have sv := size_len v
  clear h
  by_cases hf : f.data.toList = []
  · have f0 : ((f.size : Int) == 0) = true := beq_iff_eq.2 (by rw [sf, hf]; rfl)
    by_cases hv : v.data.toList = []
    · have v0 : ((v.size : Int) == 0) = true := beq_iff_eq.2 (by rw [sv, hv]; rfl)
      have HN : Aside0 (none_ (false, f, v) = true) := ⟨by unfold none_; simp only [hf, hv]; rfl⟩
      clear sf sv hf hv
      go_enter Tryz.func103, Tryz.ntmps103
      go_wp2
      go_region_held3 (fun w' => w'.cell? ⟨g, 0, none⟩ = some (.string f) ∧ w'.cell? ⟨g, 1, none⟩ = some (.string v)) (first | exact ⟨c0, c1⟩)
        (first | (go_at_call 31; (with_reducible refine (id_any _ _ _).mono ?_); rintro e w1 ⟨rfl, rfl⟩))
      all_goals go_wp2_with (first | (go_at_call 105; (with_reducible refine (every_any _).mono ?_); rintro e w2 ⟨⟨A, c, rfl⟩, hb⟩; have B2 := Aside0.mk (below_step (below_drew1 (Below.refl w.heap.size w)) hb); clear hb))
      all_goals go_ret2
      all_goals exact ⟨by unfold ToldT; rw [if_pos HN.out]; exact ⟨_, _, rfl⟩, B2.out⟩
    · have v0 : ((v.size : Int) == 0) = false := beq_eq_false_iff_ne.2 (fun e => hv (List.length_eq_zero_iff.1 (by omega)))
      have HN : Aside0 (¬ none_ (false, f, v) = true) := ⟨by unfold none_; simp only [hf]; cases hq : v.data.toList with | nil => exact absurd hq hv | cons a b => simp⟩
      clear sf sv hf hv
      go_enter Tryz.func103, Tryz.ntmps103
      go_wp2
      go_region_held3 (fun w' => w'.cell? ⟨g, 0, none⟩ = some (.string f) ∧ w'.cell? ⟨g, 1, none⟩ = some (.string v)) (first | exact ⟨c0, c1⟩)
        (first | (go_at_call 31; (with_reducible refine (id_any _ _ _).mono ?_); rintro e w1 ⟨rfl, rfl⟩))
      all_goals go_wp2
      all_goals go_ret2
      all_goals exact ⟨by unfold ToldT; rw [if_neg HN.out]; exact ⟨w.heap.size, rfl, ⟨rfl, blk_new w.drew _⟩, Nat.le_refl _⟩, below_alloc (below_drew1 (Below.refl _ _)) _⟩
  · have f0 : ((f.size : Int) == 0) = false := beq_eq_false_iff_ne.2 (fun e => hf (List.length_eq_zero_iff.1 (by omega)))
    have HN : Aside0 (¬ none_ (false, f, v) = true) := ⟨by unfold none_; cases hq : f.data.toList with | nil => exact absurd hq hf | cons a b => simp [hq]⟩
    clear sf sv hf
    go_enter Tryz.func103, Tryz.ntmps103
    go_wp2
    go_region_held3 (fun w' => w'.cell? ⟨g, 0, none⟩ = some (.string f) ∧ w'.cell? ⟨g, 1, none⟩ = some (.string v)) (first | exact ⟨c0, c1⟩)
      (first | (go_at_call 31; (with_reducible refine (id_any _ _ _).mono ?_); rintro e w1 ⟨rfl, rfl⟩))
    all_goals go_wp2
    all_goals go_ret2
    all_goals exact ⟨by unfold ToldT; rw [if_neg HN.out]; exact ⟨w.heap.size, rfl, ⟨rfl, blk_new w.drew _⟩, Nat.le_refl _⟩, below_alloc (below_drew1 (Below.refl _ _)) _⟩
theorem empty_false (g : Nat) (w : World) : Calls Tryz.prog 98 #[.pointer (some ⟨g, 0, none⟩)] w fun e w' => e = .returned (.bool false) ∧ w = w' := by
  go_enter Tryz.func98, Tryz.ntmps98
  go_wp2
  go_ret
  exact ⟨rfl, rfl⟩
end Go.Proofs.YthejejeginnbdaaGreatDoor.Fd

/- Selectors of fields: those of many terms; a text parsed to a selector. -/
set_option linter.unusedVariables false
set_option linter.unusedSimpArgs false
namespace Go.Proofs.YthejejeginnbdaaGreatDoor.Fd
open Go Go.RowKit Go.Maps Go.Proofs.YthejejeginnbdaaGreatDoorW.PrintWords Go.Proofs.YthejejeginnbdaaGreatDoor.Txt Go.Proofs.YthejejeginnbdaaGreatDoor Go.Proofs.YthejejeginnbdaaGreatDoor.PFnFieldTurn Go.Proofs.YthejejeginnbdaaGreatDoor.EscN Go.Proofs.YthejejeginnbdaaGreatDoor.FdN Go.Proofs.YthejejeginnbdaaGreatDoor.FdC Go.Proofs.YthejejeginnbdaaGreatDoor.FdS Go.Proofs.YthejejeginnbdaaGreatDoor.FdU

theorem infoI : (Tryz.prog.info? 47).map (fun i => (i.zero, i.size, i.bytes)) = some (some .nilIface, 1, 16) := by kernel_rfl
theorem enc1 : ∀ x, (enc x).oneCell' = true := fun _ => rfl
abbrev kI : Kd (Bool × Nat) := Kd.scalar enc enc1
theorem at_I {w : World} {A : Option Addr} {n : Nat} {xs : List (Bool × Nat)} (h : kI.C w A n xs) (i : Int) (h0 : 0 ≤ i) (h1 : i < n) : ∃ ad, A = some ad ∧ w.cell? (ad.add i.toNat) = some (enc (rdOf (true, 0) xs i)) :=
  ReadsOf.at_ (Kd.reads_of_C (enc := enc) (d := (true, 0)) (h1 := enc1) h) i h0 h1
def Terms (w : World) : List (Bool × Nat) → List Tm → Prop
  | [], [] => True
  | x :: xs, t :: L => TermAt w x t ∧ Terms w xs L
  | _, _ => False
theorem Terms.len {w : World} : ∀ {xs : List (Bool × Nat)} {L : List Tm}, Terms w xs L → xs.length = L.length
  | [], [], _ => rfl
  | _ :: _, _ :: _, h => by rw [List.length_cons, List.length_cons, Terms.len h.2]
theorem Terms.imp {w w' : World} (hq : ∀ x t, TermAt w x t → TermAt w' x t) : ∀ {xs : List (Bool × Nat)} {L : List Tm}, Terms w xs L → Terms w' xs L
  | [], [], _ => trivial
  | _ :: _, _ :: _, h => ⟨hq _ _ h.1, Terms.imp hq h.2⟩
theorem Terms.below {w w' : World} {xs : List (Bool × Nat)} {L : List Tm} (h : Terms w xs L) (hb : Below w.heap.size w w') : Terms w' xs L := h.imp fun _ _ hq => hq.below hb
theorem celT_ne (b : Bool) : 47 ≠ celT b := by cases b <;> decide
theorem Terms.grown {w w' : World} {base : Nat} {ok : Nat → Prop} {v : Value} {ys xs : List (Bool × Nat)} {L : List Tm} (h : Terms w xs L) (hr : Kd.R kI 47 w base ok v ys) (hg : w.grownBy w' v.ownBlock) : Terms w' xs L :=
  h.imp fun _ t hq => ⟨hq.1, blk_grown hq.2 hg (Kd.R_ne hr hq.2 (celT_ne t.1))⟩
theorem Terms.snoc {w : World} {x : Bool × Nat} {t : Tm} (hx : TermAt w x t) : ∀ {xs : List (Bool × Nat)} {L : List Tm}, Terms w xs L → Terms w (xs ++ [x]) (L ++ [t])
  | [], [], _ => ⟨hx, trivial⟩
  | _ :: _, _ :: _, h => ⟨h.1, Terms.snoc hx h.2⟩
theorem Terms.at0 {w : World} : ∀ {xs : List (Bool × Nat)} {L : List Tm}, Terms w xs L → ∀ (i : Nat) (h1 : i < xs.length) (h2 : i < L.length), TermAt w xs[i] L[i]
  | _ :: _, _ :: _, h, 0, _, _ => h.1
  | _ :: _, _ :: _, h, i + 1, h1, h2 => Terms.at0 h.2 i (by simpa using h1) (by simpa using h2)
theorem Terms.at {w : World} {xs : List (Bool × Nat)} {L : List Tm} (h : Terms w xs L) (i : Nat) (hi : i < L.length) : TermAt w (rdOf (true, 0) xs (i : Int)) L[i] := by
  have hx : i < xs.length := by rw [h.len]; exact hi
  have e : rdOf (true, 0) xs (i : Int) = xs[i] := by unfold rdOf; rw [Int.toNat_natCast, List.getD_eq_getElem?_getD, List.getElem?_eq_getElem hx]; rfl
  rw [e]
  exact h.at0 i hx hi
/-- A slice of the call's own with these terms. -/
def Items (w : World) (base : Nat) (v : Value) (L : List Tm) : Prop := ∃ xs, Kd.R kI 47 w base (fun _ => True) v xs ∧ Terms w xs L
/-- A selector of these terms. -/
def IsSel (w : World) (v : Value) (L : List Tm) : Prop :=
  (∃ t g, L = [t] ∧ v = enc (t.1, g) ∧ TermAt w (t.1, g) t) ∨ (∃ A c xs, v = .iface 91 (.slice A L.length c) ∧ kI.C w A xs.length xs ∧ Terms w xs L)
theorem IsSel.below {w w' : World} {v : Value} {L : List Tm} (h : IsSel w v L) (hb : Below w.heap.size w w') : IsSel w' v L := by
  rcases h with ⟨t, g, h1, h2, h3⟩ | ⟨A, c, xs, h1, h2, h3⟩
  · exact Or.inl ⟨t, g, h1, h2, h3.below hb⟩
  · exact Or.inr ⟨A, c, xs, h1, Kd.C_below h2 hb, h3.below hb⟩
theorem IsSel.none (w : World) (A : Option Addr) (c : Nat) (hr : kI.C w A 0 []) : IsSel w (.iface 91 (.slice A 0 c)) [] := Or.inr ⟨A, c, [], rfl, hr, trivial⟩
abbrev keep (L : List Tm) : List Tm := L.filter fun t => !none_ t
theorem na_Transform_true (g : Nat) (w : World) : (nilAhead 268 74 (.pointer (some ⟨g, 0, none⟩)) "Transform").run Tryz.prog w = .ok (some false) w := by kernel_rfl
theorem me_Transform_true (g : Nat) (w : World) : (method 268 74 (.pointer (some ⟨g, 0, none⟩)) "Transform").run Tryz.prog w = .ok (112, .pointer (some ⟨g, 0, none⟩)) w := by kernel_rfl
theorem na_Empty_true (g : Nat) (w : World) : (nilAhead 268 74 (.pointer (some ⟨g, 0, none⟩)) "Empty").run Tryz.prog w = .ok (some false) w := by kernel_rfl
theorem me_Empty_true (g : Nat) (w : World) : (method 268 74 (.pointer (some ⟨g, 0, none⟩)) "Empty").run Tryz.prog w = .ok (107, .pointer (some ⟨g, 0, none⟩)) w := by kernel_rfl
theorem na_Matches_true (g : Nat) (w : World) : (nilAhead 268 74 (.pointer (some ⟨g, 0, none⟩)) "Matches").run Tryz.prog w = .ok (some false) w := by kernel_rfl
theorem me_Matches_true (g : Nat) (w : World) : (method 268 74 (.pointer (some ⟨g, 0, none⟩)) "Matches").run Tryz.prog w = .ok (108, .pointer (some ⟨g, 0, none⟩)) w := by kernel_rfl
theorem na_Transform_false (g : Nat) (w : World) : (nilAhead 268 71 (.pointer (some ⟨g, 0, none⟩)) "Transform").run Tryz.prog w = .ok (some false) w := by kernel_rfl
theorem me_Transform_false (g : Nat) (w : World) : (method 268 71 (.pointer (some ⟨g, 0, none⟩)) "Transform").run Tryz.prog w = .ok (103, .pointer (some ⟨g, 0, none⟩)) w := by kernel_rfl
theorem na_Empty_false (g : Nat) (w : World) : (nilAhead 268 71 (.pointer (some ⟨g, 0, none⟩)) "Empty").run Tryz.prog w = .ok (some false) w := by kernel_rfl
theorem me_Empty_false (g : Nat) (w : World) : (method 268 71 (.pointer (some ⟨g, 0, none⟩)) "Empty").run Tryz.prog w = .ok (98, .pointer (some ⟨g, 0, none⟩)) w := by kernel_rfl
theorem na_Matches_false (g : Nat) (w : World) : (nilAhead 268 71 (.pointer (some ⟨g, 0, none⟩)) "Matches").run Tryz.prog w = .ok (some false) w := by kernel_rfl
theorem me_Matches_false (g : Nat) (w : World) : (method 268 71 (.pointer (some ⟨g, 0, none⟩)) "Matches").run Tryz.prog w = .ok (99, .pointer (some ⟨g, 0, none⟩)) w := by kernel_rfl
theorem na_Empty_and (A : Option Addr) (n c : Nat) (w : World) : (nilAhead 268 91 (.slice A n c) "Empty").run Tryz.prog w = .ok (some false) w := by kernel_rfl
theorem me_Empty_and (A : Option Addr) (n c : Nat) (w : World) : (method 268 91 (.slice A n c) "Empty").run Tryz.prog w = .ok (118, .slice A n c) w := by kernel_rfl
theorem na_Matches_and (A : Option Addr) (n c : Nat) (w : World) : (nilAhead 268 91 (.slice A n c) "Matches").run Tryz.prog w = .ok (some false) w := by kernel_rfl
theorem me_Matches_and (A : Option Addr) (n c : Nat) (w : World) : (method 268 91 (.slice A n c) "Matches").run Tryz.prog w = .ok (119, .slice A n c) w := by kernel_rfl

theorem emptyAnd_none (A : Option Addr) (c : Nat) (w : World) : Calls Tryz.prog 118 #[.slice A 0 c] w fun e w' => e = .returned (.bool true) ∧ Below w.heap.size w w' := by
  have en0 : ∀ W n c, (binOp .eql 91 (.slice none n c) (.slice none 0 0)).run Tryz.prog W = .ok (.bool true) W := fun W n c => Lib.run_eql_slice_nil_nil W n c Tryz.underlying91
  have en1 : ∀ W a n c, (binOp .eql 91 (.slice (some a) n c) (.slice none 0 0)).run Tryz.prog W = .ok (.bool false) W := fun W a n c => Lib.run_eql_slice_some_nil W a n c Tryz.underlying91
  cases A with
  | none =>
    go_enter Tryz.func118, Tryz.ntmps118
    go_wp2
    go_ret
    exact ⟨rfl, Below.refl _ _⟩
  | some a =>
    go_enter Tryz.func118, Tryz.ntmps118
    go_wp2
    go_ret
    exact ⟨rfl, Below.refl _ _⟩
theorem make_items (n : Nat) (hn : n ≤ 8589934592) : ∃ cs0 : Array Value, cs0.size = n ∧ ∀ W, Sem.run Tryz.prog (Instr.makeSlice 88 (.int .i64 0) (.int .i64 (n : Int))) W = .ok (.slice (some ⟨W.heap.size, 0, none⟩) 0 n) (W.alloc (.cells cs0 47)) := by
  obtain ⟨i0, hi, hz0, hz1, hz2⟩ := info_parts infoI
  refine ⟨madeCells Value.nilIface.cells (n * i0.size), ?_, fun W => ?_⟩
  rotate_left
  · have := run_make (P := Tryz.prog) W 88 47 i0 _ Tryz.underlying88 hi hz0 .i64 .i64 (0 : Int) (n : Int) (by omega) (by omega) (by rw [hz2]; omega) (by omega)
    simp only [Int.toNat_natCast] at this
    exact this
  · rw [size_madeCells, hz1, Nat.mul_one]
end Go.Proofs.YthejejeginnbdaaGreatDoor.Fd

/- Selectors of fields: those of many terms, turned by the function that changes nothing. -/
set_option linter.unusedVariables false
set_option linter.unusedSimpArgs false
namespace Go.Proofs.YthejejeginnbdaaGreatDoor.Fd
open Go Go.RowKit Go.Maps Go.Proofs.YthejejeginnbdaaGreatDoorW.PrintWords Go.Proofs.YthejejeginnbdaaGreatDoor.Txt Go.Proofs.YthejejeginnbdaaGreatDoor Go.Proofs.YthejejeginnbdaaGreatDoor.PFnFieldTurn Go.Proofs.YthejejeginnbdaaGreatDoor.EscN Go.Proofs.YthejejeginnbdaaGreatDoor.FdN Go.Proofs.YthejejeginnbdaaGreatDoor.FdC Go.Proofs.YthejejeginnbdaaGreatDoor.FdS Go.Proofs.YthejejeginnbdaaGreatDoor.FdU

theorem keep_snoc (L : List Tm) (t : Tm) : keep (L ++ [t]) = keep L ++ (if none_ t = true then [] else [t]) := by
  unfold keep
  rw [List.filter_append]
  cases h : none_ t with
  | true => rw [if_pos rfl]; simp [h]
  | false => rw [if_neg (by simp)]; simp [h]
theorem keep_len (L : List Tm) : (keep L).length ≤ L.length := List.length_filter_le ..
set_option maxRecDepth 1000000 in
set_option maxHeartbeats 12800000 in
theorem andTransform_any (A : Option Addr) (c : Nat) (xs : List (Bool × Nat)) (L : List Tm) (w : World) (hC : kI.C w A xs.length xs) (hT : Terms w xs L) (hl : L.length ≤ 8589934592) :
    Calls Tryz.prog 36 #[.slice A L.length c, .func (.func 31) #[] #[]] w fun e w' => (∃ A c ys, e = .returned (.tuple #[.iface 91 (.slice A (keep L).length c), .nilIface]) ∧ kI.C w' A ys.length ys ∧ Terms w' ys (keep L)) ∧ Below w.heap.size w w' := by
  have mixed : Tryz.prog.follows .mixedOrders = true := by kernel_rfl
  have HC := Aside0.mk hC
  have HT := Aside0.mk hT
  have HLL := Aside0.mk hl
  have hlen : xs.length = L.length := hT.len
  have HLEN := Aside0.mk hlen
  obtain ⟨cs0, hcs, hmk⟩ := make_items L.length hl
  have HR0 : Aside0 (Kd.R kI 47 (w.alloc (.cells cs0 47)) w.heap.size (fun _ => True) (.slice (some ⟨w.heap.size, 0, none⟩) 0 L.length) []) := ⟨by
    refine ⟨fun q hq => trivial, [], ⟨rfl, Or.inr ⟨w.heap.size, L.length, cs0, rfl, Nat.le_refl _, blk_new w _, Nat.zero_le _, by unfold maxLen; omega, by rw [hcs]; exact (Nat.mul_one _).symm, rfl⟩⟩, Reps.none _ _⟩⟩
  clear hC hT hl hlen hcs
  go_enter Tryz.func36, Tryz.ntmps36
  go_wp2
  clear hmk
  go_loopw [6, 16] (fun v i wr => ∃ (k : Nat) (ys : List (Bool × Nat)), k ≤ L.length ∧ i = .int .i64 (k : Int) ∧ Aside0 (Kd.R kI 47 wr w.heap.size (fun _ => True) v ys) ∧ Aside0 (Terms wr ys (keep (L.take k))) ∧ Aside0 (Below w.heap.size w wr)) (fun _ i _ => L.length - (intOf i).toNat)
  case atStart => exact ⟨0, [], Nat.zero_le _, rfl, HR0, ⟨trivial⟩, ⟨below_alloc (Below.refl _ _) _⟩⟩
  case round =>
    clear HR0
    obtain ⟨k, ys, hk, rfl, HY, HTY, HB⟩ := hrel
    by_cases hlt : k < L.length
    · have p : (0 ≤ (k : Int)) = True := eq_true (by omega)
      have q : ((k : Int) < (L.length : Int)) = True := eq_true (by omega)
      have w9 : wrap64 ((k : Int) + 1) = ((k + 1 : Nat) : Int) := Small.w64s k (by have := HLL.out; omega)
      have W9 := Aside0.mk w9
      obtain ⟨ad, rfl, hx⟩ := at_I (Kd.C_below HC.out HB.out) (k : Int) (by omega) (by have := HLEN.out; omega)
      rw [Int.toNat_natCast] at hx
      have ht := (HT.out.below HB.out).at k hlt
      have hkp : Aside0 (keep (L.take (k + 1)) = keep (L.take k) ++ (if none_ L[k] = true then [] else [L[k]])) := ⟨by rw [List.take_succ_eq_append_getElem hlt, keep_snoc]⟩
      have HM := Aside0.mk (show L.length - (((k + 1 : Nat) : Int)).toNat < L.length - ((k : Int)).toNat by omega)
      have HK := Aside0.mk (show k + 1 ≤ L.length from hlt)
      have HYL : Aside0 (ys.length ≤ 8589934592) := ⟨by rw [HTY.out.len]; have := keep_len (L.take k); rw [List.length_take] at this; have := HLL.out; omega⟩
      generalize rdOf (true, 0) xs (k : Int) = x at hx ht
      generalize L[k] = t at ht hkp
      obtain ⟨b, f, v⟩ := t
      obtain ⟨xb, g⟩ := x
      obtain ⟨hb0, hblk⟩ := ht
      have hb1 : xb = b := hb0
      subst hb1
      obtain ⟨Ao, co, eo⟩ := Kd.R_slice HY.out
      subst eo
      clear hk hlt w9
      cases xb with
      | true =>
        have hx' : wr.cell? (ad.add k) = some (.iface 74 (.pointer (some ⟨g, 0, none⟩))) := hx
        clear hx
        have HTR := Aside0.mk (transform_true g f v wr ⟨rfl, hblk⟩)
        have nat := na_Transform_true g
        have met := me_Transform_true g
        clear hblk hb0
        by_cases hn : none_ (true, f, v) = true
        · have HN := Aside0.mk hn
          rw [if_pos hn, List.append_nil] at hkp
          have naE := na_Empty_and
          have meE := me_Empty_and
          clear hn
          go_wp2_with (first
            | (go_at_call 112; (with_reducible refine (HTR.out).mono ?_); rintro e w1 ⟨ht, hb⟩; unfold ToldT at ht; rw [if_pos HN.out] at ht; obtain ⟨A1, c1, rfl⟩ := ht; have B1 := Aside0.mk (below_step HB.out hb); have Y1 := Aside0.mk (Kd.R_below HY.out hb); have T1 := Aside0.mk (HTY.out.below hb); clear hb)
            | (go_at_call 118; (with_reducible refine (emptyAnd_none _ _ _).mono ?_); rintro e w2 ⟨rfl, hb⟩; have B2 := Aside0.mk (below_step B1.out hb); have Y2 := Aside0.mk (Kd.R_below Y1.out hb); have T2 := Aside0.mk (T1.out.below hb); clear hb))
          go_roundw
          case measure => rw [W9.out]; exact HM.out
          case rel => exact ⟨k + 1, ys, HK.out, by rw [W9.out], Y2, ⟨by rw [hkp.out]; exact T2.out⟩, B2⟩
        · have HN := Aside0.mk hn
          rw [if_neg hn] at hkp
          have naE := na_Empty_true
          have meE := me_Empty_true
          clear hn
          go_wp2_with (first
            | (go_at_call 112; (with_reducible refine (HTR.out).mono ?_); rintro e w1 ⟨ht, hb⟩; unfold ToldT at ht; rw [if_neg HN.out] at ht; obtain ⟨g1, he, hta, hge⟩ := ht; replace he : e = .returned (.tuple #[.iface 74 (.pointer (some ⟨g1, 0, none⟩)), .nilIface]) := he; subst he; have B1 := Aside0.mk (below_step HB.out hb); have Y1 := Aside0.mk (Kd.R_below HY.out hb); have T1 := Aside0.mk (HTY.out.below hb); have TA := Aside0.mk hta; clear hb hta hge)
            | (go_at_call 107; (with_reducible refine (empty_true _ _).mono ?_); rintro e w2 ⟨rfl, rfl⟩)
            | ((with_reducible refine gate_builtin (b := .append) (xs := #[.tmp 32, .tmp 34]) rfl ?_); at_builtin; refine Kd.R_append kI (w0 := w) w.heap.size rfl (.tmp 32) (.tmp 34) 88 47 .nilIface 16 rfl Tryz.underlying88 infoI rfl (by decide) (by decide) (.slice Ao ys.length co) ys (true, g1) [.iface 74 (.pointer (some ⟨g1, 0, none⟩))] (fun _ => True) (fun _ => False) rfl rfl ?aP (fun _ hk => hk.elim) (fun _ _ => trivial) ?aO ?aB ?aS ?aL ?_; (case aP => exact rfl); (case aB => exact B1.out); (case aO => exact Y1.out); (case aS => exact below_size B1.out); (case aL => have := HYL.out; omega); intro v9 w9 ho hb hg hat; have YO := Aside0.mk ho; have BO := Aside0.mk hb; have TO := Aside0.mk (T1.out.grown Y1.out hg); have TAO : Aside0 (TermAt w9 (true, g1) (true, f, v)) := ⟨⟨rfl, blk_grown TA.out.2 hg (Kd.R_ne Y1.out TA.out.2 (celT_ne true))⟩⟩; clear ho hb hg hat))
          go_roundw
          case measure => rw [W9.out]; exact HM.out
          case rel => exact ⟨k + 1, _, HK.out, by rw [W9.out], YO, ⟨by rw [hkp.out]; exact Terms.snoc TAO.out TO.out⟩, BO⟩
      | false =>
        have hx' : wr.cell? (ad.add k) = some (.iface 71 (.pointer (some ⟨g, 0, none⟩))) := hx
        clear hx
        have HTR := Aside0.mk (transform_false g f v wr ⟨rfl, hblk⟩)
        have nat := na_Transform_false g
        have met := me_Transform_false g
        clear hblk hb0
        by_cases hn : none_ (false, f, v) = true
        · have HN := Aside0.mk hn
          rw [if_pos hn, List.append_nil] at hkp
          have naE := na_Empty_and
          have meE := me_Empty_and
          clear hn
          go_wp2_with (first
            | (go_at_call 103; (with_reducible refine (HTR.out).mono ?_); rintro e w1 ⟨ht, hb⟩; unfold ToldT at ht; rw [if_pos HN.out] at ht; obtain ⟨A1, c1, rfl⟩ := ht; have B1 := Aside0.mk (below_step HB.out hb); have Y1 := Aside0.mk (Kd.R_below HY.out hb); have T1 := Aside0.mk (HTY.out.below hb); clear hb)
            | (go_at_call 118; (with_reducible refine (emptyAnd_none _ _ _).mono ?_); rintro e w2 ⟨rfl, hb⟩; have B2 := Aside0.mk (below_step B1.out hb); have Y2 := Aside0.mk (Kd.R_below Y1.out hb); have T2 := Aside0.mk (T1.out.below hb); clear hb))
          go_roundw
          case measure => rw [W9.out]; exact HM.out
          case rel => exact ⟨k + 1, ys, HK.out, by rw [W9.out], Y2, ⟨by rw [hkp.out]; exact T2.out⟩, B2⟩
        · have HN := Aside0.mk hn
          rw [if_neg hn] at hkp
          have naE := na_Empty_false
          have meE := me_Empty_false
          clear hn
          go_wp2_with (first
            | (go_at_call 103; (with_reducible refine (HTR.out).mono ?_); rintro e w1 ⟨ht, hb⟩; unfold ToldT at ht; rw [if_neg HN.out] at ht; obtain ⟨g1, he, hta, hge⟩ := ht; replace he : e = .returned (.tuple #[.iface 71 (.pointer (some ⟨g1, 0, none⟩)), .nilIface]) := he; subst he; have B1 := Aside0.mk (below_step HB.out hb); have Y1 := Aside0.mk (Kd.R_below HY.out hb); have T1 := Aside0.mk (HTY.out.below hb); have TA := Aside0.mk hta; clear hb hta hge)
            | (go_at_call 98; (with_reducible refine (empty_false _ _).mono ?_); rintro e w2 ⟨rfl, rfl⟩)
            | ((with_reducible refine gate_builtin (b := .append) (xs := #[.tmp 32, .tmp 34]) rfl ?_); at_builtin; refine Kd.R_append kI (w0 := w) w.heap.size rfl (.tmp 32) (.tmp 34) 88 47 .nilIface 16 rfl Tryz.underlying88 infoI rfl (by decide) (by decide) (.slice Ao ys.length co) ys (false, g1) [.iface 71 (.pointer (some ⟨g1, 0, none⟩))] (fun _ => True) (fun _ => False) rfl rfl ?aP (fun _ hk => hk.elim) (fun _ _ => trivial) ?aO ?aB ?aS ?aL ?_; (case aP => exact rfl); (case aB => exact B1.out); (case aO => exact Y1.out); (case aS => exact below_size B1.out); (case aL => have := HYL.out; omega); intro v9 w9 ho hb hg hat; have YO := Aside0.mk ho; have BO := Aside0.mk hb; have TO := Aside0.mk (T1.out.grown Y1.out hg); have TAO : Aside0 (TermAt w9 (false, g1) (false, f, v)) := ⟨⟨rfl, blk_grown TA.out.2 hg (Kd.R_ne Y1.out TA.out.2 (celT_ne false))⟩⟩; clear ho hb hg hat))
          go_roundw
          case measure => rw [W9.out]; exact HM.out
          case rel => exact ⟨k + 1, _, HK.out, by rw [W9.out], YO, ⟨by rw [hkp.out]; exact Terms.snoc TAO.out TO.out⟩, BO⟩
    · have q : ((k : Int) < (L.length : Int)) = False := eq_false (by omega)
      have hke : k = L.length := by omega
      subst hke
      have HT9 := HTY.out
      rw [List.take_length] at HT9
      obtain ⟨A9, c9, e9, hl9, hC9⟩ := Kd.R_reads HY.out
      subst e9
      have HL9 := Aside0.mk HT9.len
      have HT8 := Aside0.mk HT9
      have HC9 := Aside0.mk hC9
      clear HT9 hC9 hl9 hk hlt
      go_wp2
      go_ret2
      exact ⟨⟨A9, c9, ys, by first | (rw [HL9.out]; done) | (rw [HL9.out]; rfl) | (rw [← HL9.out]; rfl), HC9.out, HT8.out⟩, HB.out⟩
end Go.Proofs.YthejejeginnbdaaGreatDoor.Fd

/- A text parsed to a selector of fields: the walk. -/
set_option linter.unusedVariables false
set_option linter.unusedSimpArgs false
namespace Go.Proofs.YthejejeginnbdaaGreatDoor.Fd
open Go Go.RowKit Go.Maps Go.Proofs.YthejejeginnbdaaGreatDoorW.PrintWords Go.Proofs.YthejejeginnbdaaGreatDoor.Txt Go.Proofs.YthejejeginnbdaaGreatDoor Go.Proofs.YthejejeginnbdaaGreatDoor.PFnFieldTurn Go.Proofs.YthejejeginnbdaaGreatDoor.EscN Go.Proofs.YthejejeginnbdaaGreatDoor.FdN Go.Proofs.YthejejeginnbdaaGreatDoor.FdC Go.Proofs.YthejejeginnbdaaGreatDoor.FdS Go.Proofs.YthejejeginnbdaaGreatDoor.FdU

/-- The terms of pieces; none: one of them is no term. -/
def items : List (List UInt8) → Option (List Tm)
  | [] => some []
  | p :: ps => if p = [] then items ps else match cutOp p with
    | none => none
    | some q => match un q.2.2 with
      | none => none
      | some v => (items ps).map (((!(q.2.1 == [33, 61])), mk q.1, mk v) :: ·)
/-- A piece's value is UTF-8. -/
def VOk (p : List UInt8) : Prop := ∀ a o b, cutOp p = some (a, o, b) → Val b
def ToldP (w w' : World) (e : Ending) : Option (List Tm) → Prop
  | none => ∃ (X : TypeId) (x : Value), e = .returned (.tuple #[.nilIface, .iface X x])
  | some L => ∃ v, e = .returned (.tuple #[v, .nilIface]) ∧ IsSel w' v (keep L)
theorem items_skip {p : List UInt8} {ps : List (List UInt8)} (h : p = []) : items (p :: ps) = items ps := by rw [items, if_pos h]
theorem items_no {p : List UInt8} {ps : List (List UInt8)} (h : p ≠ []) (hc : cutOp p = none) : items (p :: ps) = none := by rw [items, if_neg h, hc]
theorem items_bad {p a o b : List UInt8} {ps : List (List UInt8)} (h : p ≠ []) (hc : cutOp p = some (a, o, b)) (hu : un b = none) : items (p :: ps) = none := by rw [items, if_neg h, hc]; simp only [hu]
theorem items_yes {p a o b v : List UInt8} {ps : List (List UInt8)} (h : p ≠ []) (hc : cutOp p = some (a, o, b)) (hu : un b = some v) : items (p :: ps) = (items ps).map ((!(o == [33, 61]), mk a, mk v) :: ·) := by rw [items, if_neg h, hc]; simp only [hu]
theorem isSel_one {w : World} {b : Bool} {g : Nat} {t : Tm} (h : TermAt w (b, g) t) (hn : ¬ none_ t = true) : IsSel w (enc (t.1, g)) (keep [t]) := by
  have e : keep [t] = [t] := by unfold keep; rw [List.filter_cons_of_pos (by cases hq : none_ t with | true => exact absurd hq hn | false => rfl)]; rfl
  rw [e]
  exact Or.inl ⟨t, g, rfl, rfl, ⟨rfl, h.2⟩⟩
theorem isSel_nil (w : World) (A : Option Addr) (c : Nat) {t : Tm} (hn : none_ t = true) : IsSel w (.iface 91 (.slice A 0 c)) (keep [t]) := by
  have e : keep [t] = [] := by unfold keep; rw [List.filter_cons_of_neg (by rw [hn]; simp)]; rfl
  rw [e]
  exact IsSel.none w A c ⟨rfl, by simp, fun h => absurd h (Nat.lt_irrefl 0)⟩
theorem rd_mk (qs : List (List UInt8)) (k : Nat) (h : k < qs.length) : rdOf ByteArray.empty (qs.map mk) (k : Int) = mk qs[k] := by
  unfold rdOf
  rw [Int.toNat_natCast, List.getD_eq_getElem?_getD, List.getElem?_map, List.getElem?_eq_getElem h]; rfl
set_option maxRecDepth 1000000 in
set_option maxHeartbeats 25600000 in
theorem parts_any (s : ByteArray) (K : Nat) (ts : List ByteArray) (hts : fields_splitTerms.f K s = some ts) (hvs : ∀ p ∈ ts, VOk p.data.toList) (hsz : ∀ p ∈ ts, p.size ≤ 8589934592) (hn : ts.length ≤ 8589934592) (w : World) :
    Calls Tryz.prog 30 #[.string s, .func (.func 31) #[] #[]] w fun e w' => ToldP w w' e (items (srt (ts.map fun s => s.data.toList))) ∧ Below w.heap.size w w' := by
  have mixed : Tryz.prog.follows .mixedOrders = true := by kernel_rfl
  have hu71 := Tryz.underlying75
  have hu69 := Tryz.underlying73
  obtain ⟨qs, hqs⟩ : ∃ qs, qs = srt (ts.map fun s => s.data.toList) := ⟨_, rfl⟩
  have hql : qs.length = ts.length := by rw [hqs, srt_len, List.length_map]
  have hqm : ∀ q ∈ qs, VOk q ∧ q.length ≤ 8589934592 := fun q hq => by
    rw [hqs] at hq
    have := (List.mergeSort_perm (ts.map fun s => s.data.toList) leB).mem_iff.1 hq
    obtain ⟨p, hp, rfl⟩ := List.mem_map.1 this
    exact ⟨hvs p hp, by have := hsz p hp; have e := size_len p; omega⟩
  have HQM := Aside0.mk hqm
  have HSP := Aside0.mk (fun w => fields_splitTerms.calls K s ts w hts)
  have HSO := Aside0.mk (fun (w1 : World) (hB : Below w.heap.size w w1) (A : Option Addr) (n c : Nat) (hR : Kd.R Kd.string 9 w1 w.heap.size (fun _ => True) (.slice A n c) ts) => by
    have := sort_any w w1 hB A n c ts hR (by omega)
    rw [← hqs] at this
    exact this)
  have HQL : Aside0 (qs.length ≤ 8589934592) := ⟨by omega⟩
  have HTS := Aside0.mk hql
  rw [← hqs]
  clear hqs hql hqm hts hvs hsz hn
  go_enter Tryz.func30, Tryz.ntmps30
  go_wp2_with (first
    | (go_at_call 32; (with_reducible refine (HSP.out _).mono ?_); rintro e w1 ⟨v0, rfl, hr, hb⟩; obtain ⟨A, cp, he⟩ := Kd.R_slice hr; subst he; have R1 := Aside0.mk hr; have B1 := Aside0.mk hb; clear hr hb)
    | (go_at_call 33; (with_reducible refine (HSO.out _ B1.out _ _ _ R1.out).mono ?_); rintro e w2 ⟨rfl, hr, hb⟩; have R2 := Aside0.mk hr; have B2 := Aside0.mk hb; clear hr hb))
  have C2 : Aside0 (Kd.C Kd.string w2 A qs.length (qs.map mk)) := ⟨by
    obtain ⟨h1, h2, h3⟩ := Kd.R_reads' R2.out
    rw [List.length_map] at h3
    exact h3⟩
  rw [← HTS.out]
  clear HSP HSO R1 B1 R2 HTS
  go_loopw [7, 22] (fun v i wr => ∃ (k : Nat) (ys : List (Bool × Nat)) (Lk : List Tm), k ≤ qs.length ∧ i = .int .i64 (k : Int) ∧ Aside0 (Kd.R kI 47 wr w2.heap.size (fun _ => True) v ys) ∧ Aside0 (Terms wr ys Lk) ∧ Aside0 (items qs = (items (qs.drop k)).map (Lk ++ ·)) ∧ Aside0 (Lk.length ≤ k) ∧ Aside0 (Below w2.heap.size w2 wr)) (fun _ i _ => qs.length - (intOf i).toNat)
  case atStart => exact ⟨0, [], [], Nat.zero_le _, rfl, ⟨Kd.R_nil _ _ _ _ _⟩, ⟨trivial⟩, ⟨by simp⟩, ⟨Nat.le_refl _⟩, ⟨Below.refl _ _⟩⟩
  case round =>
    obtain ⟨k, ys, Lk, hk, rfl, HY, HTY, HI, HLK, HB⟩ := hrel
    by_cases hlt : k < qs.length
    · have p : (0 ≤ (k : Int)) = True := eq_true (by omega)
      have q : ((k : Int) < (qs.length : Int)) = True := eq_true (by omega)
      have w9 : wrap64 ((k : Int) + 1) = ((k + 1 : Nat) : Int) := Small.w64s k (by have := HQL.out; omega)
      have W9 := Aside0.mk w9
      obtain ⟨ad, rfl, hx⟩ := Kd.at_string (Kd.C_below C2.out HB.out) (k : Int) (by omega) (by omega)
      rw [Int.toNat_natCast, rd_mk qs k hlt] at hx
      have hd : qs.drop k = qs[k] :: qs.drop (k + 1) := List.drop_eq_getElem_cons hlt
      have hqk := HQM.out _ (List.getElem_mem hlt)
      have HM := Aside0.mk (show qs.length - (((k + 1 : Nat) : Int)).toNat < qs.length - ((k : Int)).toNat by omega)
      have HK := Aside0.mk (show k + 1 ≤ qs.length from hlt)
      have HYL : Aside0 (ys.length ≤ 8589934592) := ⟨by rw [HTY.out.len]; have := HLK.out; have := HQL.out; omega⟩
      have HI2 := HI.out
      rw [hd] at HI2
      generalize qs[k] = pc at hx hqk HI2
      clear HI hd hk hlt w9
      by_cases h0 : pc = []
      · rw [items_skip h0] at HI2
        have HI3 := Aside0.mk HI2
        have e1 : (mk pc).toList = [] := by rw [toL]; exact h0
        have e2 : ((mk pc).toList == []) = true := by rw [e1]; rfl
        have e3 : (mk pc).toList.isEmpty = true := by rw [e1]; rfl
        have e4 : pc.isEmpty = true := by rw [h0]; rfl
        clear h0 HI2 hqk
        go_wp2
        go_roundw
        case measure => rw [W9.out]; exact HM.out
        case rel => exact ⟨k + 1, ys, Lk, HK.out, by rw [W9.out], HY, HTY, HI3, ⟨by have := HLK.out; omega⟩, HB⟩
      · have e1 : ((mk pc).toList = []) = False := eq_false (fun h => h0 (by rw [toL] at h; exact h))
        have e2 : ((mk pc).toList == []) = false := beq_eq_false_iff_ne.2 (fun h => h0 (by rw [toL] at h; exact h))
        have e3 : (mk pc).toList.isEmpty = false := by cases hq : (mk pc).toList with | nil => exact absurd (by rw [toL] at hq; exact hq) h0 | cons a b => rfl
        have e4 : pc.isEmpty = false := by cases pc with | nil => exact absurd rfl h0 | cons a b => rfl
        have hsp := fun w => split_any (mk pc) (by have := hqk.2; have e := size_len (mk pc); have e' : (mk pc).data.toList = pc := rfl; rw [e'] at e; omega) w
        have hpd : (mk pc).data.toList = pc := rfl
        rw [hpd] at hsp
        cases hc : cutOp pc with
        | none =>
          rw [items_no h0 hc] at HI2
          rw [hc] at hsp
          have HI3 : Aside0 (items qs = none) := ⟨HI2⟩
          have HSP := Aside0.mk hsp
          clear h0 HI2 hqk hc hpd hsp
          go_wp2_with (first
            | (go_at_call 34; (with_reducible refine (HSP.out _).mono ?_); rintro e w3 ⟨ht, hb⟩; replace ht : e = .returned (.tuple #[.string ⟨#[]⟩, .string ⟨#[]⟩, .string ⟨#[]⟩, .bool false]) := ht; subst ht; have B3 := Aside0.mk (below_step HB.out hb); clear hb)
            | (go_at_call 29; (with_reducible refine (errors_New.calls _ _).mono ?_); rintro e w4 ⟨⟨x, rfl⟩, hb⟩; have B4 := Aside0.mk (below_step B3.out hb); clear hb))
          go_ret2
          exact ⟨by rw [HI3.out]; exact ⟨_, _, rfl⟩, below_step B2.out B4.out⟩
        | some cq =>
          obtain ⟨a, o, b⟩ := cq
          rw [hc] at hsp
          obtain ⟨hj, ho⟩ := cut_join pc a o b hc
          have hval : Val b := hqk.1 a o b hc
          have hbl : b.length ≤ 8589934592 := by have := congrArg List.length hj; rw [List.length_append, List.length_append] at this; have := hqk.2; omega
          have hun := fun w => unescape_any (mk b) hval (by have e := size_len (mk b); have e' : (mk b).data.toList = b := rfl; rw [e'] at e; omega) w
          have hbd : (mk b).data.toList = b := rfl
          rw [hbd] at hun
          cases hu : un b with
          | none =>
            rw [items_bad h0 hc hu] at HI2
            rw [hu] at hun
            have HI3 : Aside0 (items qs = none) := ⟨HI2⟩
            have HSP := Aside0.mk hsp
            have HUN := Aside0.mk hun
            clear h0 HI2 hqk hc hpd hsp hun hu hbd hbl hval hj ho
            go_wp2_with (first
              | (go_at_call 34; (with_reducible refine (HSP.out _).mono ?_); rintro e w3 ⟨ht, hb⟩; replace ht : e = .returned (.tuple #[.string ⟨a.toArray⟩, .string ⟨o.toArray⟩, .string ⟨b.toArray⟩, .bool true]) := ht; subst ht; have B3 := Aside0.mk (below_step HB.out hb); clear hb)
              | (go_at_call 35; (with_reducible refine (HUN.out _).mono ?_); rintro e w4 ⟨ht, hb⟩; replace ht : ∃ (X : TypeId) (x : Value), e = .returned (.tuple #[.string ⟨#[]⟩, .iface X x]) := ht; obtain ⟨X, x, rfl⟩ := ht; have B4 := Aside0.mk (below_step B3.out hb); clear hb))
            go_ret2
            exact ⟨by rw [HI3.out]; exact ⟨_, _, rfl⟩, below_step B2.out B4.out⟩
          | some v =>
            rw [items_yes h0 hc hu] at HI2
            rw [hu] at hun
            have HSP := Aside0.mk hsp
            have HUN := Aside0.mk hun
            obtain ⟨Ao, co, eo⟩ := Kd.R_slice HY.out
            subst eo
            clear h0 hqk hc hpd hsp hun hu hbd hbl hval hj
            rcases ho with rfl | rfl | rfl
            · have HI3 : Aside0 (items qs = (items (qs.drop (k + 1))).map ((Lk ++ [(false, mk a, mk v)]) ++ ·)) := ⟨by rw [HI2, Option.map_map]; congr 1; funext z; simp⟩
              clear HI2
              go_wp2_with (first
                | (go_at_call 34; (with_reducible refine (HSP.out _).mono ?_); rintro e w3 ⟨ht, hb⟩; replace ht : e = .returned (.tuple #[.string ⟨a.toArray⟩, .string ⟨#[33, 61]⟩, .string ⟨b.toArray⟩, .bool true]) := ht; subst ht; have B3 := Aside0.mk (below_step HB.out hb); have Y3 := Aside0.mk (Kd.R_below HY.out hb); have T3 := Aside0.mk (HTY.out.below hb); clear hb)
                | (go_at_call 35; (with_reducible refine (HUN.out _).mono ?_); rintro e w4 ⟨ht, hb⟩; replace ht : e = .returned (.tuple #[.string ⟨v.toArray⟩, .nilIface]) := ht; subst ht; have B4 := Aside0.mk (below_alloc (below_step B3.out hb) (.cells #[.string ⟨a.toArray⟩, .string ⟨v.toArray⟩] 73 (0, 0))); have Y4 := Aside0.mk (Kd.R_alloc (Kd.R_below Y3.out hb) (.cells #[.string ⟨a.toArray⟩, .string ⟨v.toArray⟩] 73 (0, 0))); have T4 := Aside0.mk ((T3.out.below hb).below (below_alloc (Below.refl _ _) (.cells #[.string ⟨a.toArray⟩, .string ⟨v.toArray⟩] 73 (0, 0)))); have TA := Aside0.mk (show TermAt (w4.alloc (.cells #[.string ⟨a.toArray⟩, .string ⟨v.toArray⟩] 73 (0, 0))) (false, w4.heap.size) (false, mk a, mk v) from ⟨rfl, blk_new w4 _⟩); clear hb)
                | ((with_reducible refine gate_builtin (b := .append) (xs := #[.tmp 50, .tmp 56]) rfl ?_); at_builtin; refine Kd.R_append kI (w0 := w2) w2.heap.size rfl (.tmp 50) (.tmp 56) 88 47 .nilIface 16 rfl Tryz.underlying88 infoI rfl (by decide) (by decide) (.slice Ao ys.length co) ys (false, w4.heap.size) [.iface 71 (.pointer (some ⟨w4.heap.size, 0, none⟩))] (fun _ => True) (fun _ => False) rfl ?aX ?aP (fun _ hk => hk.elim) (fun _ _ => trivial) ?aO ?aB ?aS ?aL ?_; (case aX => first | rfl | (go_simp; done)); (case aP => exact rfl); (case aB => exact B4.out); (case aO => exact Y4.out); (case aS => exact below_size B4.out); (case aL => have := HYL.out; omega); intro v9 w9 ho hb hg hat; have YO := Aside0.mk ho; have BO := Aside0.mk hb; have TO := Aside0.mk (T4.out.grown Y4.out hg); have TAO : Aside0 (TermAt w9 (false, w4.heap.size) (false, mk a, mk v)) := ⟨⟨rfl, blk_grown TA.out.2 hg (Kd.R_ne Y4.out TA.out.2 (celT_ne false))⟩⟩; clear ho hb hg hat))
              go_roundw
              case measure => rw [W9.out]; exact HM.out
              case rel => exact ⟨k + 1, _, _, HK.out, by rw [W9.out], YO, ⟨Terms.snoc TAO.out TO.out⟩, HI3, ⟨by rw [List.length_append]; have := HLK.out; simp only [List.length_cons, List.length_nil]; omega⟩, BO⟩
            · have HI3 : Aside0 (items qs = (items (qs.drop (k + 1))).map ((Lk ++ [(true, mk a, mk v)]) ++ ·)) := ⟨by rw [HI2, Option.map_map]; congr 1; funext z; simp⟩
              clear HI2
              go_wp2_with (first
                | (go_at_call 34; (with_reducible refine (HSP.out _).mono ?_); rintro e w3 ⟨ht, hb⟩; replace ht : e = .returned (.tuple #[.string ⟨a.toArray⟩, .string ⟨#[61, 61]⟩, .string ⟨b.toArray⟩, .bool true]) := ht; subst ht; have B3 := Aside0.mk (below_step HB.out hb); have Y3 := Aside0.mk (Kd.R_below HY.out hb); have T3 := Aside0.mk (HTY.out.below hb); clear hb)
                | (go_at_call 35; (with_reducible refine (HUN.out _).mono ?_); rintro e w4 ⟨ht, hb⟩; replace ht : e = .returned (.tuple #[.string ⟨v.toArray⟩, .nilIface]) := ht; subst ht; have B4 := Aside0.mk (below_alloc (below_step B3.out hb) (.cells #[.string ⟨a.toArray⟩, .string ⟨v.toArray⟩] 75 (0, 0))); have Y4 := Aside0.mk (Kd.R_alloc (Kd.R_below Y3.out hb) (.cells #[.string ⟨a.toArray⟩, .string ⟨v.toArray⟩] 75 (0, 0))); have T4 := Aside0.mk ((T3.out.below hb).below (below_alloc (Below.refl _ _) (.cells #[.string ⟨a.toArray⟩, .string ⟨v.toArray⟩] 75 (0, 0)))); have TA := Aside0.mk (show TermAt (w4.alloc (.cells #[.string ⟨a.toArray⟩, .string ⟨v.toArray⟩] 75 (0, 0))) (true, w4.heap.size) (true, mk a, mk v) from ⟨rfl, blk_new w4 _⟩); clear hb)
                | ((with_reducible refine gate_builtin (b := .append) (xs := #[.tmp 60, .tmp 66]) rfl ?_); at_builtin; refine Kd.R_append kI (w0 := w2) w2.heap.size rfl (.tmp 60) (.tmp 66) 88 47 .nilIface 16 rfl Tryz.underlying88 infoI rfl (by decide) (by decide) (.slice Ao ys.length co) ys (true, w4.heap.size) [.iface 74 (.pointer (some ⟨w4.heap.size, 0, none⟩))] (fun _ => True) (fun _ => False) rfl ?aX ?aP (fun _ hk => hk.elim) (fun _ _ => trivial) ?aO ?aB ?aS ?aL ?_; (case aX => first | rfl | (go_simp; done)); (case aP => exact rfl); (case aB => exact B4.out); (case aO => exact Y4.out); (case aS => exact below_size B4.out); (case aL => have := HYL.out; omega); intro v9 w9 ho hb hg hat; have YO := Aside0.mk ho; have BO := Aside0.mk hb; have TO := Aside0.mk (T4.out.grown Y4.out hg); have TAO : Aside0 (TermAt w9 (true, w4.heap.size) (true, mk a, mk v)) := ⟨⟨rfl, blk_grown TA.out.2 hg (Kd.R_ne Y4.out TA.out.2 (celT_ne true))⟩⟩; clear ho hb hg hat))
              go_roundw
              case measure => rw [W9.out]; exact HM.out
              case rel => exact ⟨k + 1, _, _, HK.out, by rw [W9.out], YO, ⟨Terms.snoc TAO.out TO.out⟩, HI3, ⟨by rw [List.length_append]; have := HLK.out; simp only [List.length_cons, List.length_nil]; omega⟩, BO⟩
            · have HI3 : Aside0 (items qs = (items (qs.drop (k + 1))).map ((Lk ++ [(true, mk a, mk v)]) ++ ·)) := ⟨by rw [HI2, Option.map_map]; congr 1; funext z; simp⟩
              clear HI2
              go_wp2_with (first
                | (go_at_call 34; (with_reducible refine (HSP.out _).mono ?_); rintro e w3 ⟨ht, hb⟩; replace ht : e = .returned (.tuple #[.string ⟨a.toArray⟩, .string ⟨#[61]⟩, .string ⟨b.toArray⟩, .bool true]) := ht; subst ht; have B3 := Aside0.mk (below_step HB.out hb); have Y3 := Aside0.mk (Kd.R_below HY.out hb); have T3 := Aside0.mk (HTY.out.below hb); clear hb)
                | (go_at_call 35; (with_reducible refine (HUN.out _).mono ?_); rintro e w4 ⟨ht, hb⟩; replace ht : e = .returned (.tuple #[.string ⟨v.toArray⟩, .nilIface]) := ht; subst ht; have B4 := Aside0.mk (below_alloc (below_step B3.out hb) (.cells #[.string ⟨a.toArray⟩, .string ⟨v.toArray⟩] 75 (0, 0))); have Y4 := Aside0.mk (Kd.R_alloc (Kd.R_below Y3.out hb) (.cells #[.string ⟨a.toArray⟩, .string ⟨v.toArray⟩] 75 (0, 0))); have T4 := Aside0.mk ((T3.out.below hb).below (below_alloc (Below.refl _ _) (.cells #[.string ⟨a.toArray⟩, .string ⟨v.toArray⟩] 75 (0, 0)))); have TA := Aside0.mk (show TermAt (w4.alloc (.cells #[.string ⟨a.toArray⟩, .string ⟨v.toArray⟩] 75 (0, 0))) (true, w4.heap.size) (true, mk a, mk v) from ⟨rfl, blk_new w4 _⟩); clear hb)
                | ((with_reducible refine gate_builtin (b := .append) (xs := #[.tmp 70, .tmp 76]) rfl ?_); at_builtin; refine Kd.R_append kI (w0 := w2) w2.heap.size rfl (.tmp 70) (.tmp 76) 88 47 .nilIface 16 rfl Tryz.underlying88 infoI rfl (by decide) (by decide) (.slice Ao ys.length co) ys (true, w4.heap.size) [.iface 74 (.pointer (some ⟨w4.heap.size, 0, none⟩))] (fun _ => True) (fun _ => False) rfl ?aX ?aP (fun _ hk => hk.elim) (fun _ _ => trivial) ?aO ?aB ?aS ?aL ?_; (case aX => first | rfl | (go_simp; done)); (case aP => exact rfl); (case aB => exact B4.out); (case aO => exact Y4.out); (case aS => exact below_size B4.out); (case aL => have := HYL.out; omega); intro v9 w9 ho hb hg hat; have YO := Aside0.mk ho; have BO := Aside0.mk hb; have TO := Aside0.mk (T4.out.grown Y4.out hg); have TAO : Aside0 (TermAt w9 (true, w4.heap.size) (true, mk a, mk v)) := ⟨⟨rfl, blk_grown TA.out.2 hg (Kd.R_ne Y4.out TA.out.2 (celT_ne true))⟩⟩; clear ho hb hg hat))
              go_roundw
              case measure => rw [W9.out]; exact HM.out
              case rel => exact ⟨k + 1, _, _, HK.out, by rw [W9.out], YO, ⟨Terms.snoc TAO.out TO.out⟩, HI3, ⟨by rw [List.length_append]; have := HLK.out; simp only [List.length_cons, List.length_nil]; omega⟩, BO⟩
    · have q : ((k : Int) < (qs.length : Int)) = False := eq_false (by omega)
      have hke : k = qs.length := by omega
      have HF : Aside0 (items qs = some Lk) := ⟨by rw [HI.out, List.drop_eq_nil_of_le (by omega)]; simp [items]⟩
      obtain ⟨Ao, co, eo, hl9, hC9⟩ := Kd.R_reads HY.out
      subst eo
      have hlen := HTY.out.len
      have HCY := Aside0.mk hC9
      have HLL : Lk.length ≤ 8589934592 := by have := HLK.out; have := HQL.out; omega
      by_cases h1 : Lk.length = 1
      · obtain ⟨t, ht1⟩ : ∃ t, Lk = [t] := by
          match Lk, h1 with
          | [t], _ => exact ⟨t, rfl⟩
        subst ht1
        obtain ⟨b, f, v⟩ := t
        have hone : ys.length = 1 := hlen
        obtain ⟨ad, rfl, hx⟩ := at_I hC9 (0 : Int) (by omega) (by omega)
        have ht0 := HTY.out.at 0 (by simp)
        have e0 : ((0 : Nat) : Int) = 0 := rfl
        rw [e0] at ht0
        generalize rdOf (true, 0) ys (0 : Int) = x at hx ht0
        obtain ⟨xb, g⟩ := x
        obtain ⟨hb0, hblk⟩ := ht0
        have hb1 : xb = b := hb0
        subst hb1
        have hone' : ((ys.length : Int) == 1) = true := beq_iff_eq.2 (by omega)
        have hone2 : ((ys.length : Int) = 1) = True := eq_true (by omega)
        have hone3 : (0 < ys.length) = True := eq_true (by omega)
        have hone4 : ((0 : Int) < (ys.length : Int)) = True := eq_true (by omega)
        have hone5 : (ys.length = 1) = True := eq_true hone
        rw [show (0 : Int).toNat = 0 from rfl, Addr.add_zero'] at hx
        clear hke hl9 hC9 hlen h1 hlt hk HLL
        cases xb with
        | true =>
          have hx' : wr.cell? ad = some (.iface 74 (.pointer (some ⟨g, 0, none⟩))) := hx
          clear hx
          have HTR := Aside0.mk (transform_true g f v wr ⟨rfl, hblk⟩)
          have nat := na_Transform_true g
          have met := me_Transform_true g
          clear hblk hb0
          by_cases hn : none_ (true, f, v) = true
          · have HN := Aside0.mk hn
            clear hn
            go_wp2_with (first
              | (go_at_call 112; (with_reducible refine (HTR.out).mono ?_); rintro e w5 ⟨ht, hb⟩; unfold ToldT at ht; rw [if_pos HN.out] at ht; obtain ⟨A1, c1, rfl⟩ := ht; have B5 := Aside0.mk (below_step HB.out hb); clear hb))
            go_ret2
            exact ⟨by rw [HF.out]; exact ⟨_, rfl, isSel_nil _ A1 c1 HN.out⟩, below_step B2.out B5.out⟩
          · have HN := Aside0.mk hn
            clear hn
            go_wp2_with (first
              | (go_at_call 112; (with_reducible refine (HTR.out).mono ?_); rintro e w5 ⟨ht, hb⟩; unfold ToldT at ht; rw [if_neg HN.out] at ht; obtain ⟨g1, he, hta, hge⟩ := ht; subst he; have B5 := Aside0.mk (below_step HB.out hb); have TA := Aside0.mk hta; clear hb hta hge))
            go_ret2
            exact ⟨by rw [HF.out]; exact ⟨_, rfl, isSel_one TA.out HN.out⟩, below_step B2.out B5.out⟩
        | false =>
          have hx' : wr.cell? ad = some (.iface 71 (.pointer (some ⟨g, 0, none⟩))) := hx
          clear hx
          have HTR := Aside0.mk (transform_false g f v wr ⟨rfl, hblk⟩)
          have nat := na_Transform_false g
          have met := me_Transform_false g
          clear hblk hb0
          by_cases hn : none_ (false, f, v) = true
          · have HN := Aside0.mk hn
            clear hn
            go_wp2_with (first
              | (go_at_call 103; (with_reducible refine (HTR.out).mono ?_); rintro e w5 ⟨ht, hb⟩; unfold ToldT at ht; rw [if_pos HN.out] at ht; obtain ⟨A1, c1, rfl⟩ := ht; have B5 := Aside0.mk (below_step HB.out hb); clear hb))
            go_ret2
            exact ⟨by rw [HF.out]; exact ⟨_, rfl, isSel_nil _ A1 c1 HN.out⟩, below_step B2.out B5.out⟩
          · have HN := Aside0.mk hn
            clear hn
            go_wp2_with (first
              | (go_at_call 103; (with_reducible refine (HTR.out).mono ?_); rintro e w5 ⟨ht, hb⟩; unfold ToldT at ht; rw [if_neg HN.out] at ht; obtain ⟨g1, he, hta, hge⟩ := ht; subst he; have B5 := Aside0.mk (below_step HB.out hb); have TA := Aside0.mk hta; clear hb hta hge))
            go_ret2
            exact ⟨by rw [HF.out]; exact ⟨_, rfl, isSel_one TA.out HN.out⟩, below_step B2.out B5.out⟩
      · have hone : ¬ ys.length = 1 := by rw [hlen]; exact h1
        have hone' : ((ys.length : Int) == 1) = false := beq_eq_false_iff_ne.2 (by omega)
        have hone2 : ((ys.length : Int) = 1) = False := eq_false (by omega)
        have hone5 : (ys.length = 1) = False := eq_false hone
        have HAT := Aside0.mk (andTransform_any Ao co ys Lk wr hC9 HTY.out HLL)
        rw [← hlen] at HAT
        clear hke hl9 hC9 hlen h1 hlt hk HLL hone
        go_wp2_with (first
          | (go_at_call 36; (with_reducible refine (HAT.out).mono ?_); rintro e w5 ⟨⟨A5, c5, zs, rfl, hc5, ht5⟩, hb⟩; have C5 := Aside0.mk hc5; have T5 := Aside0.mk ht5; have B5 := Aside0.mk (below_step HB.out hb); clear hb hc5 ht5))
        go_ret2
        exact ⟨by rw [HF.out]; exact ⟨_, rfl, Or.inr ⟨A5, c5, zs, rfl, C5.out, T5.out⟩⟩, below_step B2.out B5.out⟩
set_option maxRecDepth 1000000 in
theorem parse_any (s : ByteArray) (K : Nat) (ts : List ByteArray) (hts : fields_splitTerms.f K s = some ts) (hvs : ∀ p ∈ ts, VOk p.data.toList) (hsz : ∀ p ∈ ts, p.size ≤ 8589934592) (hn : ts.length ≤ 8589934592) (w : World) :
    Calls Tryz.prog 24 #[.string s] w fun e w' => ToldP w w' e (items (srt (ts.map fun s => s.data.toList))) ∧ Below w.heap.size w w' := by
  have mixed : Tryz.prog.follows .mixedOrders = true := by kernel_rfl
  have HC := Aside0.mk (parts_any s K ts hts hvs hsz hn w)
  clear hts hvs hsz hn
  cases hi : items (srt (ts.map fun s => s.data.toList)) with
  | none =>
    rw [hi] at HC
    go_enter Tryz.func24, Tryz.ntmps24
    go_wp2_with (first | (go_at_call 30; (with_reducible refine (HC.out).mono ?_); rintro e w1 ⟨ht, hb⟩; replace ht : ∃ (X : TypeId) (x : Value), e = .returned (.tuple #[.nilIface, .iface X x]) := ht; obtain ⟨X, x, rfl⟩ := ht; have B1 := Aside0.mk hb; clear hb))
    go_ret2
    exact ⟨⟨_, _, rfl⟩, B1.out⟩
  | some L =>
    rw [hi] at HC
    go_enter Tryz.func24, Tryz.ntmps24
    go_wp2_with (first | (go_at_call 30; (with_reducible refine (HC.out).mono ?_); rintro e w1 ⟨ht, hb⟩; replace ht : ∃ v, e = .returned (.tuple #[v, .nilIface]) ∧ IsSel w1 v (keep L) := ht; obtain ⟨v, rfl, hs⟩ := ht; have S1 := Aside0.mk hs; have B1 := Aside0.mk hb; clear hb hs))
    go_ret2
    exact ⟨⟨_, rfl, S1.out⟩, B1.out⟩

end Go.Proofs.YthejejeginnbdaaGreatDoor.Fd
