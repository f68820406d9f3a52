/- A selector turned: the closure, and a term's Transform by it. -/
import Derived.Test.YthejejeginnbdaaGreatDoorFdM
import Derived.Test.YthejejeginnbdaaGreatDoorFdH
import Derived.Test.YthejejeginnbdaaGreatDoorFdR
set_option linter.unusedVariables false
set_option linter.unusedSimpArgs false
namespace Go.Proofs.YthejejeginnbdaaGreatDoor.Fd
open Go Go.RowKit Go.Maps Go.Proofs.YthejejeginnbdaaGreatDoorW.PrintWords Go.Proofs.YthejejeginnbdaaGreatDoor.Txt Go.Proofs.YthejejeginnbdaaGreatDoor Go.Proofs.YthejejeginnbdaaGreatDoor.PFnFieldTurn Go.Proofs.YthejejeginnbdaaGreatDoor.EscN Go.Proofs.YthejejeginnbdaaGreatDoor.FdN Go.Proofs.YthejejeginnbdaaGreatDoor.FdC Go.Proofs.YthejejeginnbdaaGreatDoor.FdS Go.Proofs.YthejejeginnbdaaGreatDoor.FdU

/-- What the closure tells. -/
def tf (N : List S43) (drop fail f v : ByteArray) : Option (ByteArray × ByteArray) :=
  if f.data.toList = fail.data.toList then none
  else if f.data.toList = drop.data.toList then some (⟨#[]⟩, ⟨#[]⟩)
  else match findP N f with
    | some n => some (n, v)
    | none => some (f, v)
/-- The closure's captured cells. -/
structure Caps (w : World) (gf gd gm b n : Nat) (N : List S43) (drop fail : ByteArray) : Prop where
  c0 : w.heap[gf]? = some (.cells #[.string fail] 9)
  c1 : w.heap[gd]? = some (.cells #[.string drop] 9)
  c2 : w.heap[gm]? = some (.cells #[.map (some b)] 53)
  m : IsMapS w b n N
theorem Caps.below {w w' : World} {gf gd gm b n : Nat} {N : List S43} {drop fail : ByteArray} (h : Caps w gf gd gm b n N drop fail) (hb : Below w.heap.size w w') : Caps w' gf gd gm b n N drop fail :=
  ⟨blk_below h.c0 hb, blk_below h.c1 hb, blk_below h.c2 hb, h.m.below hb⟩
def ToldC (e : Ending) : Option (ByteArray × ByteArray) → Prop
  | none => ∃ (X : TypeId) (x : Value), e = .returned (.tuple #[.string ⟨#[]⟩, .string ⟨#[]⟩, .iface X x])
  | some p => e = .returned (.tuple #[.string p.1, .string p.2, .nilIface])
abbrev cap (g : Nat) : Value := .pointer (some ⟨g, 0, none⟩)
set_option maxRecDepth 100000 in
set_option maxHeartbeats 4000000 in
theorem turn_fn (gf gd gm b n : Nat) (N : List S43) (drop fail f v : ByteArray) (w : World) (h : Caps w gf gd gm b n N drop fail) (hf : f.size ≤ maxLen) :
    Calls Tryz.prog 28 #[.string f, .string v, cap gf, cap gd, cap gm] w fun e w' => ToldC e (tf N drop fail f v) ∧ Below w.heap.size w w' := by
  have mixed : Tryz.prog.follows .mixedOrders = true := by kernel_rfl
  have c0 : w.cell? ⟨gf, 0, none⟩ = some (.string fail) := blk_cell h.c0 0
  have c1 : w.cell? ⟨gd, 0, none⟩ = some (.string drop) := blk_cell h.c1 0
  have c2 : w.cell? ⟨gm, 0, none⟩ = some (.map (some b)) := blk_cell h.c2 0
  have hm := h.m
  clear h
  by_cases h1 : f.data.toList = fail.data.toList
  · have d1 : (f.toList == fail.toList) = true := beq_iff_eq.2 (by rw [toL, toL]; exact h1)
    have HE : Aside0 (tf N drop fail f v = none) := ⟨by unfold tf; rw [if_pos h1]⟩
    clear h1 hm hf
    go_enter Tryz.func28, Tryz.ntmps28
    go_wp2_with (first | (go_at_call 29; (with_reducible refine (errors_New.calls _ _).mono ?_); rintro e w1 ⟨⟨xe, rfl⟩, hb⟩; have HQ := Aside0.mk hb; clear hb))
    go_ret3
    exact ⟨by rw [HE.out]; exact ⟨_, _, rfl⟩, HQ.out⟩
  have d1 : (f.toList == fail.toList) = false := beq_eq_false_iff_ne.2 (by rw [toL, toL]; exact h1)
  by_cases h2 : f.data.toList = drop.data.toList
  · have d2 : (f.toList == drop.toList) = true := beq_iff_eq.2 (by rw [toL, toL]; exact h2)
    have HE : Aside0 (tf N drop fail f v = some (⟨#[]⟩, ⟨#[]⟩)) := ⟨by unfold tf; rw [if_neg h1, if_pos h2]⟩
    clear h1 h2 hm hf
    go_enter Tryz.func28, Tryz.ntmps28
    go_wp2
    go_ret3
    exact ⟨by rw [HE.out]; rfl, Below.refl _ _⟩
  have d2 : (f.toList == drop.toList) = false := beq_eq_false_iff_ne.2 (by rw [toL, toL]; exact h2)
  obtain ⟨D, hown, hD⟩ := hm
  obtain ⟨u0, ps, hrun, hv⟩ := hown.look_ok lawS Tryz.underlying53 (zeroS w) (zd := .lit (.string [])) (zp := []) elemE (WideMaps.keyOf_string_mk Tryz.underlying9 hf)
  obtain ⟨u, rfl, hu, _⟩ := plainElem_string_inv Tryz.underlying9 hv
  have hh := (hD f (.lit (.string []))).1
  have h2' := (hD f (.lit (.string []))).2
  have hu' : (D.atKey (.string f.data.toList) (.lit (.string [])) : DataW Unit) = .lit (.string u.data.toList) := congrArg Prod.fst hu
  rw [hu'] at h2'
  cases hq : findP N f with
  | some n0 =>
    rw [hq] at hh h2'
    have he : u = n0 := by injection h2' with h2'; injection h2' with h2'; exact ext h2'
    subst he
    have HE : Aside0 (tf N drop fail f v = some (u, v)) := ⟨by unfold tf; rw [if_neg h1, if_neg h2, hq]⟩
    rw [hh] at hrun
    clear h1 h2 hf hv hu hu' h2' hh hD hown hq
    go_enter Tryz.func28, Tryz.ntmps28
    go_wp2
    go_ret3
    exact ⟨by rw [HE.out]; rfl, Below.refl _ _⟩
  | none =>
    rw [hq] at hh h2'
    have HE : Aside0 (tf N drop fail f v = some (f, v)) := ⟨by unfold tf; rw [if_neg h1, if_neg h2, hq]⟩
    rw [hh] at hrun
    clear h1 h2 hf hv hu hu' h2' hh hD hown hq
    go_enter Tryz.func28, Tryz.ntmps28
    go_wp2
    go_ret3
    exact ⟨by rw [HE.out]; rfl, Below.refl _ _⟩
/-- What a term is turned to. -/
def ToldX (w w' : World) (e : Ending) (b : Bool) : Option (ByteArray × ByteArray) → Prop
  | none => ∃ (X : TypeId) (x : Value), e = .returned (.tuple #[.nilIface, .iface X x])
  | some p => if none_ (b, p.1, p.2) = true then ∃ A c, e = .returned (.tuple #[.iface 91 (.slice A 0 c), .nilIface])
    else ∃ g, e = .returned (.tuple #[enc (b, g), .nilIface]) ∧ TermAt w' (b, g) (b, p.1, p.2) ∧ w.heap.size ≤ g

set_option maxRecDepth 100000 in
set_option maxHeartbeats 8000000 in
theorem turn_true (g : Nat) (f v : ByteArray) (k0 k1 k2 : Value) (r : Option (ByteArray × ByteArray)) (w : World) (h : TermAt w (true, g) (true, f, v)) (hF : ∀ w', Below w.heap.size w w' → Calls Tryz.prog 28 #[.string f, .string v, k0, k1, k2] w' fun e w'' => ToldC e r ∧ Below w'.heap.size w' w'') :
    Calls Tryz.prog 112 #[.pointer (some ⟨g, 0, none⟩), .func (.func 28) #[] #[k0, k1, k2]] w fun e w' => ToldX w w' e true r ∧ Below w.heap.size w w' := by
  have mixed : Tryz.prog.follows .mixedOrders = true := by kernel_rfl
  have hu := Tryz.underlying75
  have c0 : w.cell? ⟨g, 0, none⟩ = some (.string f) := blk_cell h.2 0
  have c1 : w.cell? ⟨g, 1, none⟩ = some (.string v) := blk_cell h.2 1
  have HF := Aside0.mk hF
  clear h hF
  cases r with
  | none =>
    go_enter Tryz.func112, Tryz.ntmps112
    go_wp2
    go_region_held3 (fun w' => w'.cell? ⟨g, 0, none⟩ = some (.string f) ∧ w'.cell? ⟨g, 1, none⟩ = some (.string v)) (first | exact ⟨c0, c1⟩)
      (first | (go_at_call 28; (with_reducible refine (HF.out _ (below_drew1 (Below.refl w.heap.size w))).mono ?_); rintro e w1 ⟨ht, hb⟩; obtain ⟨X, x, rfl⟩ := (show ∃ (X : TypeId) (x : Value), e = .returned (.tuple #[.string ⟨#[]⟩, .string ⟨#[]⟩, .iface X x]) from ht); have B1 := Aside0.mk (below_step (below_drew1 (Below.refl w.heap.size w)) hb); have c0 := (hb.cell (World.block_lt_of_cell? _ _ c0)).trans c0; have c1 := (hb.cell (World.block_lt_of_cell? _ _ c1)).trans c1; clear hb))
    all_goals go_wp2
    all_goals go_ret2
    all_goals exact ⟨⟨_, _, rfl⟩, B1.out⟩
  | some p =>
    obtain ⟨a, u⟩ := p
    have sf := size_len a
    have sv := size_len u
    by_cases hf : a.data.toList = []
    · have f0 : ((a.size : Int) == 0) = true := beq_iff_eq.2 (by rw [sf, hf]; rfl)
      by_cases hv : u.data.toList = []
      · have v0 : ((u.size : Int) == 0) = true := beq_iff_eq.2 (by rw [sv, hv]; rfl)
        have HN : Aside0 (none_ (true, a, u) = true) := ⟨by unfold none_; simp only [hf, hv]; rfl⟩
        clear sf sv hf hv
        go_enter Tryz.func112, Tryz.ntmps112
        go_wp2
        go_region_held3 (fun w' => w'.cell? ⟨g, 0, none⟩ = some (.string f) ∧ w'.cell? ⟨g, 1, none⟩ = some (.string v)) (first | exact ⟨c0, c1⟩)
          (first | (go_at_call 28; (with_reducible refine (HF.out _ (below_drew1 (Below.refl w.heap.size w))).mono ?_); rintro e w1 ⟨ht, hb⟩; replace ht : e = .returned (.tuple #[.string a, .string u, .nilIface]) := ht; subst ht; have B1 := Aside0.mk (below_step (below_drew1 (Below.refl w.heap.size w)) hb); have c0 := (hb.cell (World.block_lt_of_cell? _ _ c0)).trans c0; have c1 := (hb.cell (World.block_lt_of_cell? _ _ c1)).trans c1; clear hb))
        all_goals go_wp2_with (first | (go_at_call 105; (with_reducible refine (every_any _).mono ?_); rintro e w2 ⟨⟨A, c, rfl⟩, hb⟩; have B2 := Aside0.mk (below_step B1.out hb); clear hb))
        all_goals go_ret2
        all_goals exact ⟨by unfold ToldX; dsimp only; rw [if_pos HN.out]; exact ⟨_, _, rfl⟩, B2.out⟩
      · have v0 : ((u.size : Int) == 0) = false := beq_eq_false_iff_ne.2 (fun e => hv (List.length_eq_zero_iff.1 (by omega)))
        have HN : Aside0 (¬ none_ (true, a, u) = true) := ⟨by unfold none_; simp only [hf]; cases hq : u.data.toList with | nil => exact absurd hq hv | cons a b => simp⟩
        clear sf sv hf hv
        go_enter Tryz.func112, Tryz.ntmps112
        go_wp2
        go_region_held3 (fun w' => w'.cell? ⟨g, 0, none⟩ = some (.string f) ∧ w'.cell? ⟨g, 1, none⟩ = some (.string v)) (first | exact ⟨c0, c1⟩)
          (first | (go_at_call 28; (with_reducible refine (HF.out _ (below_drew1 (Below.refl w.heap.size w))).mono ?_); rintro e w1 ⟨ht, hb⟩; replace ht : e = .returned (.tuple #[.string a, .string u, .nilIface]) := ht; subst ht; have B1 := Aside0.mk (below_step (below_drew1 (Below.refl w.heap.size w)) hb); have c0 := (hb.cell (World.block_lt_of_cell? _ _ c0)).trans c0; have c1 := (hb.cell (World.block_lt_of_cell? _ _ c1)).trans c1; clear hb))
        all_goals go_wp2
        all_goals go_ret2
        all_goals exact ⟨by unfold ToldX; dsimp only; rw [if_neg HN.out]; exact ⟨w1.heap.size, rfl, ⟨rfl, blk_new w1 _⟩, below_size B1.out⟩, below_alloc B1.out _⟩
    · have f0 : ((a.size : Int) == 0) = false := beq_eq_false_iff_ne.2 (fun e => hf (List.length_eq_zero_iff.1 (by omega)))
      have HN : Aside0 (¬ none_ (true, a, u) = true) := ⟨by unfold none_; cases hq : a.data.toList with | nil => exact absurd hq hf | cons a b => simp [hq]⟩
      clear sf sv hf
      go_enter Tryz.func112, Tryz.ntmps112
      go_wp2
      go_region_held3 (fun w' => w'.cell? ⟨g, 0, none⟩ = some (.string f) ∧ w'.cell? ⟨g, 1, none⟩ = some (.string v)) (first | exact ⟨c0, c1⟩)
        (first | (go_at_call 28; (with_reducible refine (HF.out _ (below_drew1 (Below.refl w.heap.size w))).mono ?_); rintro e w1 ⟨ht, hb⟩; replace ht : e = .returned (.tuple #[.string a, .string u, .nilIface]) := ht; subst ht; have B1 := Aside0.mk (below_step (below_drew1 (Below.refl w.heap.size w)) hb); have c0 := (hb.cell (World.block_lt_of_cell? _ _ c0)).trans c0; have c1 := (hb.cell (World.block_lt_of_cell? _ _ c1)).trans c1; clear hb))
      all_goals go_wp2
      all_goals go_ret2
      all_goals exact ⟨by unfold ToldX; dsimp only; rw [if_neg HN.out]; exact ⟨w1.heap.size, rfl, ⟨rfl, blk_new w1 _⟩, below_size B1.out⟩, below_alloc B1.out _⟩

set_option maxRecDepth 100000 in
set_option maxHeartbeats 8000000 in
theorem turn_false (g : Nat) (f v : ByteArray) (k0 k1 k2 : Value) (r : Option (ByteArray × ByteArray)) (w : World) (h : TermAt w (false, g) (false, f, v)) (hF : ∀ w', Below w.heap.size w w' → Calls Tryz.prog 28 #[.string f, .string v, k0, k1, k2] w' fun e w'' => ToldC e r ∧ Below w'.heap.size w' w'') :
    Calls Tryz.prog 103 #[.pointer (some ⟨g, 0, none⟩), .func (.func 28) #[] #[k0, k1, k2]] w fun e w' => ToldX w w' e false r ∧ Below w.heap.size w w' := by
  have mixed : Tryz.prog.follows .mixedOrders = true := by kernel_rfl
  have hu := Tryz.underlying73
  have c0 : w.cell? ⟨g, 0, none⟩ = some (.string f) := blk_cell h.2 0
  have c1 : w.cell? ⟨g, 1, none⟩ = some (.string v) := blk_cell h.2 1
  have HF := Aside0.mk hF
  clear h hF
  cases r with
  | none =>
    go_enter Tryz.func103, Tryz.ntmps103
    go_wp2
    go_region_held3 (fun w' => w'.cell? ⟨g, 0, none⟩ = some (.string f) ∧ w'.cell? ⟨g, 1, none⟩ = some (.string v)) (first | exact ⟨c0, c1⟩)
      (first | (go_at_call 28; (with_reducible refine (HF.out _ (below_drew1 (Below.refl w.heap.size w))).mono ?_); rintro e w1 ⟨ht, hb⟩; obtain ⟨X, x, rfl⟩ := (show ∃ (X : TypeId) (x : Value), e = .returned (.tuple #[.string ⟨#[]⟩, .string ⟨#[]⟩, .iface X x]) from ht); have B1 := Aside0.mk (below_step (below_drew1 (Below.refl w.heap.size w)) hb); have c0 := (hb.cell (World.block_lt_of_cell? _ _ c0)).trans c0; have c1 := (hb.cell (World.block_lt_of_cell? _ _ c1)).trans c1; clear hb))
    all_goals go_wp2
    all_goals go_ret2
    all_goals exact ⟨⟨_, _, rfl⟩, B1.out⟩
  | some p =>
    obtain ⟨a, u⟩ := p
    have sf := size_len a
    have sv := size_len u
    by_cases hf : a.data.toList = []
    · have f0 : ((a.size : Int) == 0) = true := beq_iff_eq.2 (by rw [sf, hf]; rfl)
      by_cases hv : u.data.toList = []
      · have v0 : ((u.size : Int) == 0) = true := beq_iff_eq.2 (by rw [sv, hv]; rfl)
        have HN : Aside0 (none_ (false, a, u) = true) := ⟨by unfold none_; simp only [hf, hv]; rfl⟩
        clear sf sv hf hv
        go_enter Tryz.func103, Tryz.ntmps103
        go_wp2
        go_region_held3 (fun w' => w'.cell? ⟨g, 0, none⟩ = some (.string f) ∧ w'.cell? ⟨g, 1, none⟩ = some (.string v)) (first | exact ⟨c0, c1⟩)
          (first | (go_at_call 28; (with_reducible refine (HF.out _ (below_drew1 (Below.refl w.heap.size w))).mono ?_); rintro e w1 ⟨ht, hb⟩; replace ht : e = .returned (.tuple #[.string a, .string u, .nilIface]) := ht; subst ht; have B1 := Aside0.mk (below_step (below_drew1 (Below.refl w.heap.size w)) hb); have c0 := (hb.cell (World.block_lt_of_cell? _ _ c0)).trans c0; have c1 := (hb.cell (World.block_lt_of_cell? _ _ c1)).trans c1; clear hb))
        all_goals go_wp2_with (first | (go_at_call 105; (with_reducible refine (every_any _).mono ?_); rintro e w2 ⟨⟨A, c, rfl⟩, hb⟩; have B2 := Aside0.mk (below_step B1.out hb); clear hb))
        all_goals go_ret2
        all_goals exact ⟨by unfold ToldX; dsimp only; rw [if_pos HN.out]; exact ⟨_, _, rfl⟩, B2.out⟩
      · have v0 : ((u.size : Int) == 0) = false := beq_eq_false_iff_ne.2 (fun e => hv (List.length_eq_zero_iff.1 (by omega)))
        have HN : Aside0 (¬ none_ (false, a, u) = true) := ⟨by unfold none_; simp only [hf]; cases hq : u.data.toList with | nil => exact absurd hq hv | cons a b => simp⟩
        clear sf sv hf hv
        go_enter Tryz.func103, Tryz.ntmps103
        go_wp2
        go_region_held3 (fun w' => w'.cell? ⟨g, 0, none⟩ = some (.string f) ∧ w'.cell? ⟨g, 1, none⟩ = some (.string v)) (first | exact ⟨c0, c1⟩)
          (first | (go_at_call 28; (with_reducible refine (HF.out _ (below_drew1 (Below.refl w.heap.size w))).mono ?_); rintro e w1 ⟨ht, hb⟩; replace ht : e = .returned (.tuple #[.string a, .string u, .nilIface]) := ht; subst ht; have B1 := Aside0.mk (below_step (below_drew1 (Below.refl w.heap.size w)) hb); have c0 := (hb.cell (World.block_lt_of_cell? _ _ c0)).trans c0; have c1 := (hb.cell (World.block_lt_of_cell? _ _ c1)).trans c1; clear hb))
        all_goals go_wp2
        all_goals go_ret2
        all_goals exact ⟨by unfold ToldX; dsimp only; rw [if_neg HN.out]; exact ⟨w1.heap.size, rfl, ⟨rfl, blk_new w1 _⟩, below_size B1.out⟩, below_alloc B1.out _⟩
    · have f0 : ((a.size : Int) == 0) = false := beq_eq_false_iff_ne.2 (fun e => hf (List.length_eq_zero_iff.1 (by omega)))
      have HN : Aside0 (¬ none_ (false, a, u) = true) := ⟨by unfold none_; cases hq : a.data.toList with | nil => exact absurd hq hf | cons a b => simp [hq]⟩
      clear sf sv hf
      go_enter Tryz.func103, Tryz.ntmps103
      go_wp2
      go_region_held3 (fun w' => w'.cell? ⟨g, 0, none⟩ = some (.string f) ∧ w'.cell? ⟨g, 1, none⟩ = some (.string v)) (first | exact ⟨c0, c1⟩)
        (first | (go_at_call 28; (with_reducible refine (HF.out _ (below_drew1 (Below.refl w.heap.size w))).mono ?_); rintro e w1 ⟨ht, hb⟩; replace ht : e = .returned (.tuple #[.string a, .string u, .nilIface]) := ht; subst ht; have B1 := Aside0.mk (below_step (below_drew1 (Below.refl w.heap.size w)) hb); have c0 := (hb.cell (World.block_lt_of_cell? _ _ c0)).trans c0; have c1 := (hb.cell (World.block_lt_of_cell? _ _ c1)).trans c1; clear hb))
      all_goals go_wp2
      all_goals go_ret2
      all_goals exact ⟨by unfold ToldX; dsimp only; rw [if_neg HN.out]; exact ⟨w1.heap.size, rfl, ⟨rfl, blk_new w1 _⟩, below_size B1.out⟩, below_alloc B1.out _⟩
end Go.Proofs.YthejejeginnbdaaGreatDoor.Fd

/- A selector of many terms turned. -/
set_option linter.unusedVariables false
set_option linter.unusedSimpArgs false
namespace Go.Proofs.YthejejeginnbdaaGreatDoor.Fd
open Go Go.RowKit Go.Maps Go.Proofs.YthejejeginnbdaaGreatDoorW.PrintWords Go.Proofs.YthejejeginnbdaaGreatDoor.Txt Go.Proofs.YthejejeginnbdaaGreatDoor Go.Proofs.YthejejeginnbdaaGreatDoor.PFnFieldTurn Go.Proofs.YthejejeginnbdaaGreatDoor.EscN Go.Proofs.YthejejeginnbdaaGreatDoor.FdN Go.Proofs.YthejejeginnbdaaGreatDoor.FdC Go.Proofs.YthejejeginnbdaaGreatDoor.FdS Go.Proofs.YthejejeginnbdaaGreatDoor.FdU

def turnL (tx : Tm → Option (ByteArray × ByteArray)) : List Tm → Option (List Tm)
  | [] => some []
  | t :: r => match tx t with
    | none => none
    | some p => (turnL tx r).map ((if none_ (t.1, p.1, p.2) = true then [] else [(t.1, p.1, p.2)]) ++ ·)
theorem turn_no {tx : Tm → Option (ByteArray × ByteArray)} {t : Tm} {r : List Tm} (h : tx t = none) : turnL tx (t :: r) = none := by rw [turnL, h]
theorem turn_yes {tx : Tm → Option (ByteArray × ByteArray)} {t : Tm} {r : List Tm} {p : ByteArray × ByteArray} (h : tx t = some p) : turnL tx (t :: r) = (turnL tx r).map ((if none_ (t.1, p.1, p.2) = true then [] else [(t.1, p.1, p.2)]) ++ ·) := by rw [turnL, h]
def ToldA (w' : World) (e : Ending) : Option (List Tm) → Prop
  | none => ∃ (X : TypeId) (x : Value), e = .returned (.tuple #[.nilIface, .iface X x])
  | some R => ∃ A c ys, e = .returned (.tuple #[.iface 91 (.slice A R.length c), .nilIface]) ∧ kI.C w' A ys.length ys ∧ Terms w' ys R
set_option maxRecDepth 1000000 in
set_option maxHeartbeats 12800000 in
theorem andTurn_any (tx : Tm → Option (ByteArray × ByteArray)) (k0 k1 k2 : Value) (A : Option Addr) (c : Nat) (xs : List (Bool × Nat)) (L : List Tm) (w : World) (hC : kI.C w A xs.length xs) (hT : Terms w xs L) (hl : L.length ≤ 8589934592)
    (hF : ∀ t ∈ L, ∀ w', Below w.heap.size w w' → Calls Tryz.prog 28 #[.string t.2.1, .string t.2.2, k0, k1, k2] w' fun e w'' => ToldC e (tx t) ∧ Below w'.heap.size w' w'') :
    Calls Tryz.prog 36 #[.slice A L.length c, .func (.func 28) #[] #[k0, k1, k2]] w fun e w' => ToldA w' e (turnL tx L) ∧ Below w.heap.size w w' := by
  have mixed : Tryz.prog.follows .mixedOrders = true := by kernel_rfl
  have HC := Aside0.mk hC
  have HT := Aside0.mk hT
  have HLL := Aside0.mk hl
  have HF := Aside0.mk hF
  have hlen : xs.length = L.length := hT.len
  have HLEN := Aside0.mk hlen
  obtain ⟨cs0, hcs, hmk⟩ := make_items L.length hl
  have HR0 : Aside0 (Kd.R kI 47 (w.alloc (.cells cs0 47)) w.heap.size (fun _ => True) (.slice (some ⟨w.heap.size, 0, none⟩) 0 L.length) []) := ⟨by
    refine ⟨fun q hq => trivial, [], ⟨rfl, Or.inr ⟨w.heap.size, L.length, cs0, rfl, Nat.le_refl _, blk_new w _, Nat.zero_le _, by unfold maxLen; omega, by rw [hcs]; exact (Nat.mul_one _).symm, rfl⟩⟩, Reps.none _ _⟩⟩
  have HI0 : Aside0 (turnL tx L = (turnL tx (L.drop 0)).map (([] : List Tm) ++ ·)) := ⟨by rw [List.drop_zero]; simp⟩
  clear hC hT hl hlen hcs hF
  go_enter Tryz.func36, Tryz.ntmps36
  go_wp2
  clear hmk
  go_loopw [6, 16] (fun v i wr => ∃ (k : Nat) (ys : List (Bool × Nat)) (acc : List Tm), k ≤ L.length ∧ i = .int .i64 (k : Int) ∧ Aside0 (Kd.R kI 47 wr w.heap.size (fun _ => True) v ys) ∧ Aside0 (Terms wr ys acc) ∧ Aside0 (turnL tx L = (turnL tx (L.drop k)).map (acc ++ ·)) ∧ Aside0 (acc.length ≤ k) ∧ Aside0 (Below w.heap.size w wr)) (fun _ i _ => L.length - (intOf i).toNat)
  case atStart => exact ⟨0, [], [], Nat.zero_le _, rfl, HR0, ⟨trivial⟩, HI0, ⟨Nat.le_refl _⟩, ⟨below_alloc (Below.refl _ _) _⟩⟩
  case round =>
    clear HR0 HI0
    obtain ⟨k, ys, acc, hk, rfl, HY, HTY, HI, HAL, HB⟩ := hrel
    by_cases hlt : k < L.length
    · have p : (0 ≤ (k : Int)) = True := eq_true (by omega)
      have q : ((k : Int) < (L.length : Int)) = True := eq_true (by omega)
      have w9 : wrap64 ((k : Int) + 1) = ((k + 1 : Nat) : Int) := Small.w64s k (by have := HLL.out; omega)
      have W9 := Aside0.mk w9
      obtain ⟨ad, rfl, hx⟩ := at_I (Kd.C_below HC.out HB.out) (k : Int) (by omega) (by have := HLEN.out; omega)
      rw [Int.toNat_natCast] at hx
      have ht := (HT.out.below HB.out).at k hlt
      have hi := HI.out
      rw [List.drop_eq_getElem_cons hlt] at hi
      have hfk := HF.out _ (List.getElem_mem hlt)
      have HM := Aside0.mk (show L.length - (((k + 1 : Nat) : Int)).toNat < L.length - ((k : Int)).toNat by omega)
      have HK := Aside0.mk (show k + 1 ≤ L.length from hlt)
      have HYL : Aside0 (ys.length ≤ 8589934592) := ⟨by rw [HTY.out.len]; have := HAL.out; have := HLL.out; omega⟩
      generalize rdOf (true, 0) xs (k : Int) = x at hx ht
      generalize L[k] = t at ht hi hfk
      obtain ⟨b, f, v⟩ := t
      obtain ⟨xb, g⟩ := x
      obtain ⟨hb0, hblk⟩ := ht
      have hb1 : xb = b := hb0
      subst hb1
      obtain ⟨Ao, co, eo⟩ := Kd.R_slice HY.out
      subst eo
      clear hk hlt w9
      cases xb with
      | true =>
        have hx' : wr.cell? (ad.add k) = some (.iface 74 (.pointer (some ⟨g, 0, none⟩))) := hx
        clear hx
        have hq9 := turn_true g f v k0 k1 k2 (tx (true, f, v)) wr ⟨rfl, hblk⟩ (fun w' x => hfk w' (below_step HB.out x))
        have nat := na_Transform_true g
        have met := me_Transform_true g
        clear hblk hb0 hfk
        cases hr : tx (true, f, v) with
        | none =>
          rw [turn_no hr] at hi
          have HNO : Aside0 (turnL tx L = none) := ⟨by rw [hi]; rfl⟩
          rw [hr] at hq9
          have HTR := Aside0.mk hq9
          clear hi hr hq9
          go_wp2_with (first
            | (go_at_call 112; (with_reducible refine (HTR.out).mono ?_); rintro e w1 ⟨ht, hb⟩; replace ht : ∃ (X : TypeId) (x : Value), e = .returned (.tuple #[.nilIface, .iface X x]) := ht; obtain ⟨X, x, rfl⟩ := ht; have B1 := Aside0.mk (below_step HB.out hb); clear hb))
          go_ret2
          exact ⟨by rw [HNO.out]; exact ⟨_, _, rfl⟩, B1.out⟩
        | some p =>
          obtain ⟨a, u⟩ := p
          rw [turn_yes hr] at hi
          rw [hr] at hq9
          have HTR := Aside0.mk hq9
          by_cases hn : none_ (true, a, u) = true
          · have HI1 : Aside0 (turnL tx L = (turnL tx (L.drop (k + 1))).map (acc ++ ·)) := ⟨by rw [hi, if_pos hn, Option.map_map]; congr 1⟩
            have HN := Aside0.mk hn
            have naE := na_Empty_and
            have meE := me_Empty_and
            clear hn hi hr hq9
            go_wp2_with (first
              | (go_at_call 112; (with_reducible refine (HTR.out).mono ?_); rintro e w1 ⟨ht, hb⟩; unfold ToldX at ht; dsimp only at ht; rw [if_pos HN.out] at ht; obtain ⟨A1, c1, rfl⟩ := ht; have B1 := Aside0.mk (below_step HB.out hb); have Y1 := Aside0.mk (Kd.R_below HY.out hb); have T1 := Aside0.mk (HTY.out.below hb); clear hb)
              | (go_at_call 118; (with_reducible refine (emptyAnd_none _ _ _).mono ?_); rintro e w2 ⟨rfl, hb⟩; have B2 := Aside0.mk (below_step B1.out hb); have Y2 := Aside0.mk (Kd.R_below Y1.out hb); have T2 := Aside0.mk (T1.out.below hb); clear hb))
            go_roundw
            case measure => rw [W9.out]; exact HM.out
            case rel => exact ⟨k + 1, ys, acc, HK.out, by rw [W9.out], Y2, T2, HI1, ⟨Nat.le_succ_of_le HAL.out⟩, B2⟩
          · have HI1 : Aside0 (turnL tx L = (turnL tx (L.drop (k + 1))).map ((acc ++ [(true, a, u)]) ++ ·)) := ⟨by rw [hi, if_neg hn, Option.map_map]; congr 1; funext z; simp⟩
            have HAL1 : Aside0 ((acc ++ [(true, a, u)]).length ≤ k + 1) := ⟨by rw [List.length_append]; have := HAL.out; simp only [List.length_cons, List.length_nil]; omega⟩
            have HN := Aside0.mk hn
            have naE := na_Empty_true
            have meE := me_Empty_true
            clear hn hi hr hq9
            go_wp2_with (first
              | (go_at_call 112; (with_reducible refine (HTR.out).mono ?_); rintro e w1 ⟨ht, hb⟩; unfold ToldX at ht; dsimp only at ht; rw [if_neg HN.out] at ht; obtain ⟨g1, he, hta, hge⟩ := ht; replace he : e = .returned (.tuple #[.iface 74 (.pointer (some ⟨g1, 0, none⟩)), .nilIface]) := he; subst he; have B1 := Aside0.mk (below_step HB.out hb); have Y1 := Aside0.mk (Kd.R_below HY.out hb); have T1 := Aside0.mk (HTY.out.below hb); have TA := Aside0.mk hta; clear hb hta hge)
              | (go_at_call 107; (with_reducible refine (empty_true _ _).mono ?_); rintro e w2 ⟨rfl, rfl⟩)
              | ((with_reducible refine gate_builtin (b := .append) (xs := #[.tmp 32, .tmp 34]) rfl ?_); at_builtin; refine Kd.R_append kI (w0 := w) w.heap.size rfl (.tmp 32) (.tmp 34) 88 47 .nilIface 16 rfl Tryz.underlying88 infoI rfl (by decide) (by decide) (.slice Ao ys.length co) ys (true, g1) [.iface 74 (.pointer (some ⟨g1, 0, none⟩))] (fun _ => True) (fun _ => False) rfl rfl ?aP (fun _ hk => hk.elim) (fun _ _ => trivial) ?aO ?aB ?aS ?aL ?_; (case aP => exact rfl); (case aB => exact B1.out); (case aO => exact Y1.out); (case aS => exact below_size B1.out); (case aL => have := HYL.out; omega); intro v9 w9 ho hb hg hat; have YO := Aside0.mk ho; have BO := Aside0.mk hb; have TO := Aside0.mk (T1.out.grown Y1.out hg); have TAO : Aside0 (TermAt w9 (true, g1) (true, a, u)) := ⟨⟨rfl, blk_grown TA.out.2 hg (Kd.R_ne Y1.out TA.out.2 (celT_ne true))⟩⟩; clear ho hb hg hat))
            go_roundw
            case measure => rw [W9.out]; exact HM.out
            case rel => exact ⟨k + 1, _, _, HK.out, by rw [W9.out], YO, ⟨Terms.snoc TAO.out TO.out⟩, HI1, HAL1, BO⟩
      | false =>
        have hx' : wr.cell? (ad.add k) = some (.iface 71 (.pointer (some ⟨g, 0, none⟩))) := hx
        clear hx
        have hq9 := turn_false g f v k0 k1 k2 (tx (false, f, v)) wr ⟨rfl, hblk⟩ (fun w' x => hfk w' (below_step HB.out x))
        have nat := na_Transform_false g
        have met := me_Transform_false g
        clear hblk hb0 hfk
        cases hr : tx (false, f, v) with
        | none =>
          rw [turn_no hr] at hi
          have HNO : Aside0 (turnL tx L = none) := ⟨by rw [hi]; rfl⟩
          rw [hr] at hq9
          have HTR := Aside0.mk hq9
          clear hi hr hq9
          go_wp2_with (first
            | (go_at_call 103; (with_reducible refine (HTR.out).mono ?_); rintro e w1 ⟨ht, hb⟩; replace ht : ∃ (X : TypeId) (x : Value), e = .returned (.tuple #[.nilIface, .iface X x]) := ht; obtain ⟨X, x, rfl⟩ := ht; have B1 := Aside0.mk (below_step HB.out hb); clear hb))
          go_ret2
          exact ⟨by rw [HNO.out]; exact ⟨_, _, rfl⟩, B1.out⟩
        | some p =>
          obtain ⟨a, u⟩ := p
          rw [turn_yes hr] at hi
          rw [hr] at hq9
          have HTR := Aside0.mk hq9
          by_cases hn : none_ (false, a, u) = true
          · have HI1 : Aside0 (turnL tx L = (turnL tx (L.drop (k + 1))).map (acc ++ ·)) := ⟨by rw [hi, if_pos hn, Option.map_map]; congr 1⟩
            have HN := Aside0.mk hn
            have naE := na_Empty_and
            have meE := me_Empty_and
            clear hn hi hr hq9
            go_wp2_with (first
              | (go_at_call 103; (with_reducible refine (HTR.out).mono ?_); rintro e w1 ⟨ht, hb⟩; unfold ToldX at ht; dsimp only at ht; rw [if_pos HN.out] at ht; obtain ⟨A1, c1, rfl⟩ := ht; have B1 := Aside0.mk (below_step HB.out hb); have Y1 := Aside0.mk (Kd.R_below HY.out hb); have T1 := Aside0.mk (HTY.out.below hb); clear hb)
              | (go_at_call 118; (with_reducible refine (emptyAnd_none _ _ _).mono ?_); rintro e w2 ⟨rfl, hb⟩; have B2 := Aside0.mk (below_step B1.out hb); have Y2 := Aside0.mk (Kd.R_below Y1.out hb); have T2 := Aside0.mk (T1.out.below hb); clear hb))
            go_roundw
            case measure => rw [W9.out]; exact HM.out
            case rel => exact ⟨k + 1, ys, acc, HK.out, by rw [W9.out], Y2, T2, HI1, ⟨Nat.le_succ_of_le HAL.out⟩, B2⟩
          · have HI1 : Aside0 (turnL tx L = (turnL tx (L.drop (k + 1))).map ((acc ++ [(false, a, u)]) ++ ·)) := ⟨by rw [hi, if_neg hn, Option.map_map]; congr 1; funext z; simp⟩
            have HAL1 : Aside0 ((acc ++ [(false, a, u)]).length ≤ k + 1) := ⟨by rw [List.length_append]; have := HAL.out; simp only [List.length_cons, List.length_nil]; omega⟩
            have HN := Aside0.mk hn
            have naE := na_Empty_false
            have meE := me_Empty_false
            clear hn hi hr hq9
            go_wp2_with (first
              | (go_at_call 103; (with_reducible refine (HTR.out).mono ?_); rintro e w1 ⟨ht, hb⟩; unfold ToldX at ht; dsimp only at ht; rw [if_neg HN.out] at ht; obtain ⟨g1, he, hta, hge⟩ := ht; replace he : e = .returned (.tuple #[.iface 71 (.pointer (some ⟨g1, 0, none⟩)), .nilIface]) := he; subst he; have B1 := Aside0.mk (below_step HB.out hb); have Y1 := Aside0.mk (Kd.R_below HY.out hb); have T1 := Aside0.mk (HTY.out.below hb); have TA := Aside0.mk hta; clear hb hta hge)
              | (go_at_call 98; (with_reducible refine (empty_false _ _).mono ?_); rintro e w2 ⟨rfl, rfl⟩)
              | ((with_reducible refine gate_builtin (b := .append) (xs := #[.tmp 32, .tmp 34]) rfl ?_); at_builtin; refine Kd.R_append kI (w0 := w) w.heap.size rfl (.tmp 32) (.tmp 34) 88 47 .nilIface 16 rfl Tryz.underlying88 infoI rfl (by decide) (by decide) (.slice Ao ys.length co) ys (false, g1) [.iface 71 (.pointer (some ⟨g1, 0, none⟩))] (fun _ => True) (fun _ => False) rfl rfl ?aP (fun _ hk => hk.elim) (fun _ _ => trivial) ?aO ?aB ?aS ?aL ?_; (case aP => exact rfl); (case aB => exact B1.out); (case aO => exact Y1.out); (case aS => exact below_size B1.out); (case aL => have := HYL.out; omega); intro v9 w9 ho hb hg hat; have YO := Aside0.mk ho; have BO := Aside0.mk hb; have TO := Aside0.mk (T1.out.grown Y1.out hg); have TAO : Aside0 (TermAt w9 (false, g1) (false, a, u)) := ⟨⟨rfl, blk_grown TA.out.2 hg (Kd.R_ne Y1.out TA.out.2 (celT_ne false))⟩⟩; clear ho hb hg hat))
            go_roundw
            case measure => rw [W9.out]; exact HM.out
            case rel => exact ⟨k + 1, _, _, HK.out, by rw [W9.out], YO, ⟨Terms.snoc TAO.out TO.out⟩, HI1, HAL1, BO⟩
    · have q : ((k : Int) < (L.length : Int)) = False := eq_false (by omega)
      have hke : k = L.length := by omega
      have HI9 : Aside0 (turnL tx L = some acc) := ⟨by rw [HI.out, hke, List.drop_length]; simp [turnL]⟩
      obtain ⟨A9, c9, e9, hl9, hC9⟩ := Kd.R_reads HY.out
      subst e9
      have HL9 := Aside0.mk HTY.out.len
      have HC9 := Aside0.mk hC9
      clear hC9 hl9 hk hlt hke
      go_wp2
      go_ret2
      exact ⟨by rw [HI9.out]; exact ⟨A9, c9, ys, by first | (rw [HL9.out]; done) | (rw [HL9.out]; rfl) | (rw [← HL9.out]; rfl), HC9.out, HTY.out⟩, HB.out⟩
end Go.Proofs.YthejejeginnbdaaGreatDoor.Fd

/- impl.FieldTurn: terms and text of a turned selector. -/
set_option linter.unusedVariables false
set_option linter.unusedSimpArgs false
namespace Go.Proofs.YthejejeginnbdaaGreatDoor.Fd
open Go Go.RowKit Go.Maps Go.Proofs.YthejejeginnbdaaGreatDoorW.PrintWords Go.Proofs.YthejejeginnbdaaGreatDoor.Txt Go.Proofs.YthejejeginnbdaaGreatDoor Go.Proofs.YthejejeginnbdaaGreatDoor.PFnFieldTurn Go.Proofs.YthejejeginnbdaaGreatDoor.EscN Go.Proofs.YthejejeginnbdaaGreatDoor.FdN Go.Proofs.YthejejeginnbdaaGreatDoor.FdC Go.Proofs.YthejejeginnbdaaGreatDoor.FdS Go.Proofs.YthejejeginnbdaaGreatDoor.FdU

def ToldR (w' : World) (e : Ending) : Option (List Tm) → Prop
  | none => e = .returned (.tuple #[.slice none 0 0, .string ⟨#[]⟩, .bool true])
  | some R => ∃ A c, e = .returned (.tuple #[.slice A (R.map tmD).length c, .string (joinT R), .bool false]) ∧ kT.C w' A (R.map tmD).length (R.map tmD) ∧ (R.map tmD).length ≤ c
def tfx (N : List S43) (drop fail : ByteArray) (t : Tm) : Option (ByteArray × ByteArray) := tf N drop fail t.2.1 t.2.2
theorem na_Transform_and (A : Option Addr) (n c : Nat) (w : World) : (nilAhead 268 91 (.slice A n c) "Transform").run Tryz.prog w = .ok (some false) w := by kernel_rfl
theorem me_Transform_and (A : Option Addr) (n c : Nat) (w : World) : (method 268 91 (.slice A n c) "Transform").run Tryz.prog w = .ok (36, .slice A n c) w := by kernel_rfl
theorem terms_none (w : World) (A : Option Addr) (c : Nat) : Calls Tryz.prog 19 #[.iface 91 (.slice A 0 c)] w fun e w' => ToldD w w' e [] :=
  terms_and A c [] [] w ⟨rfl, by simp, fun h => absurd h (Nat.lt_irrefl 0)⟩ trivial (by simp)
theorem text_none (w : World) (A : Option Addr) (c : Nat) : Calls Tryz.prog 122 #[.slice A 0 c] w fun e w' => e = .returned (.string (joinT [])) ∧ Below w.heap.size w w' :=
  andText_any A c [] [] w ⟨rfl, by simp, fun h => absurd h (Nat.lt_irrefl 0)⟩ trivial (by simp) (fun t ht => by cases ht) (by decide)
set_option maxRecDepth 1000000 in
set_option maxHeartbeats 12800000 in
theorem fieldTurn_any (s : ByteArray) (K : Nat) (ts : List ByteArray) (hts : fields_splitTerms.f K s = some ts) (hvs : ∀ p ∈ ts, VOk p.data.toList) (hsz : ∀ p ∈ ts, p.size ≤ 8589934592) (hn : ts.length ≤ 8589934592)
    (A1 : Option Addr) (c1 : Nat) (N : List S43) (drop fail : ByteArray) (w : World) (hr : Kd.C k43 w A1 N.length N) (hl : N.length ≤ 4294967296) (hls : ∀ x ∈ N, x.f0.size ≤ 4294967296 ∧ x.f1.size ≤ 4294967296)
    (hI : ∀ I, items (srt (ts.map fun s => s.data.toList)) = some I → I.length ≤ 8589934592 ∧ (∀ t ∈ I, t.2.1.size ≤ 2147483647) ∧ ∀ R, turnL (tfx N drop fail) (keep I) = some R → (∀ t ∈ R, t.2.1.size ≤ 2147483647 ∧ t.2.2.size ≤ 2147483647) ∧ R.length ≤ 8589934592 ∧ (joinT R).size ≤ 140737488355328) :
    Calls Tryz.prog 14 #[.string s, .slice A1 N.length c1, .string drop, .string fail] w fun e w' => ToldR w' e ((items (srt (ts.map fun s => s.data.toList))).bind fun I => turnL (tfx N drop fail) (keep I)) ∧ Below w.heap.size w w' := by
  have mixed : Tryz.prog.follows .mixedOrders = true := by kernel_rfl
  have HP := Aside0.mk (fun w1 => parse_any s K ts hts hvs hsz hn w1)
  have HLB := Aside0.mk (fun (w1 : World) (x : Below w.heap.size w w1) => fieldSet_any A1 c1 N w1 (Kd.C_below hr x) hl hls)
  have HI := Aside0.mk hI
  obtain ⟨W2, hW2⟩ : ∃ W2, W2 = (w.alloc (.cells #[.string drop] 9)).alloc (.cells #[.string fail] 9) := ⟨_, rfl⟩
  have BW : Aside0 (Below w.heap.size w W2) := ⟨by rw [hW2]; exact below_alloc (below_alloc (Below.refl _ _) _) _⟩
  have GD : Aside0 (W2.heap[w.heap.size]? = some (.cells #[.string drop] 9)) := ⟨by rw [hW2]; exact blk_below (blk_new w _) (below_alloc (Below.refl _ _) _)⟩
  have GF : Aside0 (W2.heap[w.heap.size + 1]? = some (.cells #[.string fail] 9)) := ⟨by rw [hW2]; have := blk_new (w.alloc (.cells #[.string drop] 9)) (.cells #[.string fail] 9); simpa using this⟩
  clear hts hvs hsz hn hr hl hls hI
  cases hi : items (srt (ts.map fun s => s.data.toList)) with
  | none =>
    rw [hi] at HP
    clear hi HI HLB
    go_enter Tryz.func14, Tryz.ntmps14
    go_wp2_with fail
    rw [← hW2]
    refine (HP.out _).mono ?_
    rintro e w1 ⟨ht, hb⟩
    replace ht : ∃ (X : TypeId) (x : Value), e = .returned (.tuple #[.nilIface, .iface X x]) := ht
    obtain ⟨X, x, rfl⟩ := ht
    have B1 := Aside0.mk (below_step BW.out hb)
    clear hb
    go_wp2
    go_ret3
    exact ⟨rfl, B1.out⟩
  | some I =>
    rw [hi] at HP
    obtain ⟨hl, hs0, hR⟩ := HI.out I hi
    clear HI hi
    have hkl : (keep I).length ≤ 8589934592 := Nat.le_trans (keep_len I) hl
    have hks : ∀ t ∈ keep I, t.2.1.size ≤ 2147483647 := fun t ht => hs0 t (List.mem_filter.1 ht).1
    have HKL := Aside0.mk hkl
    have HKS := Aside0.mk hks
    have HR := Aside0.mk hR
    have HP2 : Aside0 (∀ w1 : World, Calls Tryz.prog 24 #[.string s] w1 fun e w' => (∃ v, e = .returned (.tuple #[v, .nilIface]) ∧ IsSel w' v (keep I)) ∧ Below w1.heap.size w1 w') := HP
    show Calls _ _ _ _ fun e w' => ToldR w' e (turnL (tfx N drop fail) (keep I)) ∧ Below w.heap.size w w'
    generalize keep I = L at HP2 HKL HKS HR
    clear HP hl hs0 hkl hks hR
    go_enter Tryz.func14, Tryz.ntmps14
    go_wp2_with fail
    rw [← hW2]
    refine (HP2.out _).mono ?_
    rintro e w1 ⟨⟨v, rfl, hs⟩, hb⟩
    have S1 := Aside0.mk hs
    have B1 := Aside0.mk (below_step BW.out hb)
    have GD1 := Aside0.mk (blk_below GD.out hb)
    have GF1 := Aside0.mk (blk_below GF.out hb)
    clear hb hs HP2 GD GF BW hW2
    go_wp2_with fail
    refine (HLB.out _ B1.out).mono ?_
    rintro e w2 ⟨b, rfl, hm, hb⟩
    have S2 := Aside0.mk (S1.out.below hb)
    have B2 := Aside0.mk (below_step B1.out hb)
    have GD2 := Aside0.mk (blk_below GD1.out hb)
    have GF2 := Aside0.mk (blk_below GF1.out hb)
    obtain ⟨W4, hW4⟩ : ∃ W4, W4 = w2.alloc (.cells #[.map (some b)] 53) := ⟨_, rfl⟩
    have B4 : Aside0 (Below w.heap.size w W4) := ⟨by rw [hW4]; exact below_alloc B2.out _⟩
    have bb := below_alloc (Below.refl w2.heap.size w2) (.cells #[.map (some b)] 53)
    have CP : Aside0 (Caps W4 (w.heap.size + 1) w.heap.size w2.heap.size b N.length N drop fail) := ⟨by
      rw [hW4]; exact ⟨blk_below GF2.out bb, blk_below GD2.out bb, blk_new w2 _, hm.below bb⟩⟩
    have S4 : Aside0 (IsSel W4 v L) := ⟨by rw [hW4]; exact S2.out.below bb⟩
    have HFN : Aside0 (∀ t ∈ L, ∀ w', Below W4.heap.size W4 w' → Calls Tryz.prog 28 #[.string t.2.1, .string t.2.2, cap (w.heap.size + 1), cap w.heap.size, cap w2.heap.size] w' fun e w'' => ToldC e (tfx N drop fail t) ∧ Below w'.heap.size w' w'') := ⟨fun t ht w' x => turn_fn _ _ _ b N.length N drop fail t.2.1 t.2.2 w' (CP.out.below x) (by have := HKS.out t ht; unfold maxLen; omega)⟩
    clear hb hm bb S1 S2 B1 GD1 GF1 GD2 GF2 HLB CP HKS
    have hs := S4.out
    clear S4
    rcases hs with ⟨t, g, hL, hv, ht⟩ | ⟨A3, c3, xs, hv, hC3, hT3⟩
    · obtain ⟨bt, f, u⟩ := t
      have hfn := HFN.out (bt, f, u) (by rw [hL]; exact List.mem_singleton.2 rfl)
      cases bt with
      | true =>
        replace hv : v = .iface 74 (.pointer (some ⟨g, 0, none⟩)) := hv
        subst hv
        have hq9 := turn_true g f u (cap (w.heap.size + 1)) (cap w.heap.size) (cap w2.heap.size) (tfx N drop fail (true, f, u)) W4 ht hfn
        have nat := na_Transform_true g
        have met := me_Transform_true g
        clear ht hfn HFN
        cases hr : tfx N drop fail (true, f, u) with
        | none =>
          have HNO : Aside0 (turnL (tfx N drop fail) L = none) := ⟨by rw [hL]; exact turn_no hr⟩
          rw [hr] at hq9
          have HTR := Aside0.mk hq9
          clear hq9 hL hr
          go_wp2_with fail
          rw [← hW4]
          refine (HTR.out).mono ?_
          rintro e w5 ⟨ht, hb⟩
          replace ht : ∃ (X : TypeId) (x : Value), e = .returned (.tuple #[.nilIface, .iface X x]) := ht
          obtain ⟨X, x, rfl⟩ := ht
          have B5 := Aside0.mk (below_step B4.out hb)
          clear hb nat met
          go_wp2
          go_ret3
          exact ⟨by rw [HNO.out]; rfl, B5.out⟩
        | some p =>
          obtain ⟨a, y⟩ := p
          have htn : turnL (tfx N drop fail) L = some (if none_ (true, a, y) = true then [] else [(true, a, y)]) := by
            rw [hL, turn_yes hr, turnL, Option.map_some, List.append_nil]
          rw [hr] at hq9
          have HTR := Aside0.mk hq9
          clear hq9 hr
          by_cases hn : none_ (true, a, y) = true
          · rw [if_pos hn] at htn
            have HTN := Aside0.mk htn
            have HN := Aside0.mk hn
            clear htn hn hL
            go_wp2_with fail
            rw [← hW4]
            refine (HTR.out).mono ?_
            rintro e w5 ⟨ht, hb⟩
            unfold ToldX at ht
            dsimp only at ht
            rw [if_pos HN.out] at ht
            obtain ⟨A5, c5, rfl⟩ := ht
            have B5 := Aside0.mk (below_step B4.out hb)
            have HTM := Aside0.mk (terms_none w5 A5 c5)
            have HTX := Aside0.mk (fun (w6 : World) (x : Below w5.heap.size w5 w6) => text_none w6 A5 c5)
            have nas := na_String_and A5 0 c5
            have mes := me_String_and A5 0 c5
            clear hb nat met
            go_wp2_with (first
              | (go_at_call 19; (with_reducible refine (HTM.out).mono ?_); rintro e w6 ⟨⟨A6, c6, rfl, hc, hl⟩, hb⟩; have B6 := Aside0.mk hb; have C6 := Aside0.mk hc; have L6 := Aside0.mk hl; clear hb hc hl)
              | (go_at_call 122; (with_reducible refine (HTX.out _ B6.out).mono ?_); rintro e w7 ⟨rfl, hb⟩; have B7 := Aside0.mk (below_step (below_step B5.out B6.out) hb); have C7 := Aside0.mk (Kd.C_below C6.out hb); clear hb))
            go_ret3
            exact ⟨by rw [HTN.out]; exact ⟨A6, c6, by first | rfl | (rw [List.length_map]; rfl), C7.out, L6.out⟩, B7.out⟩
          · rw [if_neg hn] at htn
            obtain ⟨hr1, hr2, hr3⟩ := HR.out _ htn
            have hz := hr1 (true, a, y) (List.mem_singleton.2 rfl)
            have HTN := Aside0.mk htn
            have HN := Aside0.mk hn
            clear htn hn hL hr1 hr2 hr3
            go_wp2_with fail
            rw [← hW4]
            refine (HTR.out).mono ?_
            rintro e w5 ⟨ht, hb⟩
            unfold ToldX at ht
            dsimp only at ht
            rw [if_neg HN.out] at ht
            obtain ⟨g5, he, hta, -⟩ := ht
            replace he : e = .returned (.tuple #[.iface 74 (.pointer (some ⟨g5, 0, none⟩)), .nilIface]) := he
            subst he
            have B5 := Aside0.mk (below_step B4.out hb)
            have HTM := Aside0.mk (terms_true g5 a y w5 hta)
            have HTX := Aside0.mk (fun (w6 : World) (x : Below w5.heap.size w5 w6) => text_true g5 a y w6 (hta.below x) hz.1 hz.2)
            have nas := na_String_true g5
            have mes := me_String_true g5
            clear hb nat met hta hz
            go_wp2_with (first
              | (go_at_call 19; (with_reducible refine (HTM.out).mono ?_); rintro e w6 ⟨⟨A6, c6, rfl, hc, hl⟩, hb⟩; have B6 := Aside0.mk hb; have C6 := Aside0.mk hc; have L6 := Aside0.mk hl; clear hb hc hl)
              | (go_at_call 111; (with_reducible refine (HTX.out _ B6.out).mono ?_); rintro e w7 ⟨rfl, hb⟩; have B7 := Aside0.mk (below_step (below_step B5.out B6.out) hb); have C7 := Aside0.mk (Kd.C_below C6.out hb); clear hb))
            go_ret3
            exact ⟨by rw [HTN.out]; exact ⟨A6, c6, by first | rfl | (rw [joinT_one]; rfl) | (rw [List.length_map]; rfl), C7.out, L6.out⟩, B7.out⟩
      | false =>
        replace hv : v = .iface 71 (.pointer (some ⟨g, 0, none⟩)) := hv
        subst hv
        have hq9 := turn_false g f u (cap (w.heap.size + 1)) (cap w.heap.size) (cap w2.heap.size) (tfx N drop fail (false, f, u)) W4 ht hfn
        have nat := na_Transform_false g
        have met := me_Transform_false g
        clear ht hfn HFN
        cases hr : tfx N drop fail (false, f, u) with
        | none =>
          have HNO : Aside0 (turnL (tfx N drop fail) L = none) := ⟨by rw [hL]; exact turn_no hr⟩
          rw [hr] at hq9
          have HTR := Aside0.mk hq9
          clear hq9 hL hr
          go_wp2_with fail
          rw [← hW4]
          refine (HTR.out).mono ?_
          rintro e w5 ⟨ht, hb⟩
          replace ht : ∃ (X : TypeId) (x : Value), e = .returned (.tuple #[.nilIface, .iface X x]) := ht
          obtain ⟨X, x, rfl⟩ := ht
          have B5 := Aside0.mk (below_step B4.out hb)
          clear hb nat met
          go_wp2
          go_ret3
          exact ⟨by rw [HNO.out]; rfl, B5.out⟩
        | some p =>
          obtain ⟨a, y⟩ := p
          have htn : turnL (tfx N drop fail) L = some (if none_ (false, a, y) = true then [] else [(false, a, y)]) := by
            rw [hL, turn_yes hr, turnL, Option.map_some, List.append_nil]
          rw [hr] at hq9
          have HTR := Aside0.mk hq9
          clear hq9 hr
          by_cases hn : none_ (false, a, y) = true
          · rw [if_pos hn] at htn
            have HTN := Aside0.mk htn
            have HN := Aside0.mk hn
            clear htn hn hL
            go_wp2_with fail
            rw [← hW4]
            refine (HTR.out).mono ?_
            rintro e w5 ⟨ht, hb⟩
            unfold ToldX at ht
            dsimp only at ht
            rw [if_pos HN.out] at ht
            obtain ⟨A5, c5, rfl⟩ := ht
            have B5 := Aside0.mk (below_step B4.out hb)
            have HTM := Aside0.mk (terms_none w5 A5 c5)
            have HTX := Aside0.mk (fun (w6 : World) (x : Below w5.heap.size w5 w6) => text_none w6 A5 c5)
            have nas := na_String_and A5 0 c5
            have mes := me_String_and A5 0 c5
            clear hb nat met
            go_wp2_with (first
              | (go_at_call 19; (with_reducible refine (HTM.out).mono ?_); rintro e w6 ⟨⟨A6, c6, rfl, hc, hl⟩, hb⟩; have B6 := Aside0.mk hb; have C6 := Aside0.mk hc; have L6 := Aside0.mk hl; clear hb hc hl)
              | (go_at_call 122; (with_reducible refine (HTX.out _ B6.out).mono ?_); rintro e w7 ⟨rfl, hb⟩; have B7 := Aside0.mk (below_step (below_step B5.out B6.out) hb); have C7 := Aside0.mk (Kd.C_below C6.out hb); clear hb))
            go_ret3
            exact ⟨by rw [HTN.out]; exact ⟨A6, c6, by first | rfl | (rw [List.length_map]; rfl), C7.out, L6.out⟩, B7.out⟩
          · rw [if_neg hn] at htn
            obtain ⟨hr1, hr2, hr3⟩ := HR.out _ htn
            have hz := hr1 (false, a, y) (List.mem_singleton.2 rfl)
            have HTN := Aside0.mk htn
            have HN := Aside0.mk hn
            clear htn hn hL hr1 hr2 hr3
            go_wp2_with fail
            rw [← hW4]
            refine (HTR.out).mono ?_
            rintro e w5 ⟨ht, hb⟩
            unfold ToldX at ht
            dsimp only at ht
            rw [if_neg HN.out] at ht
            obtain ⟨g5, he, hta, -⟩ := ht
            replace he : e = .returned (.tuple #[.iface 71 (.pointer (some ⟨g5, 0, none⟩)), .nilIface]) := he
            subst he
            have B5 := Aside0.mk (below_step B4.out hb)
            have HTM := Aside0.mk (terms_false g5 a y w5 hta)
            have HTX := Aside0.mk (fun (w6 : World) (x : Below w5.heap.size w5 w6) => text_false g5 a y w6 (hta.below x) hz.1 hz.2)
            have nas := na_String_false g5
            have mes := me_String_false g5
            clear hb nat met hta hz
            go_wp2_with (first
              | (go_at_call 19; (with_reducible refine (HTM.out).mono ?_); rintro e w6 ⟨⟨A6, c6, rfl, hc, hl⟩, hb⟩; have B6 := Aside0.mk hb; have C6 := Aside0.mk hc; have L6 := Aside0.mk hl; clear hb hc hl)
              | (go_at_call 102; (with_reducible refine (HTX.out _ B6.out).mono ?_); rintro e w7 ⟨rfl, hb⟩; have B7 := Aside0.mk (below_step (below_step B5.out B6.out) hb); have C7 := Aside0.mk (Kd.C_below C6.out hb); clear hb))
            go_ret3
            exact ⟨by rw [HTN.out]; exact ⟨A6, c6, by first | rfl | (rw [joinT_one]; rfl) | (rw [List.length_map]; rfl), C7.out, L6.out⟩, B7.out⟩
    · subst hv
      have HTR := Aside0.mk (andTurn_any (tfx N drop fail) (cap (w.heap.size + 1)) (cap w.heap.size) (cap w2.heap.size) A3 c3 xs L W4 hC3 hT3 HKL.out HFN.out)
      have nat := na_Transform_and A3 L.length c3
      have met := me_Transform_and A3 L.length c3
      clear hC3 hT3 HFN
      cases hq : turnL (tfx N drop fail) L with
      | none =>
        rw [hq] at HTR
        have HQ := Aside0.mk hq
        clear hq
        go_wp2_with fail
        rw [← hW4]
        refine (HTR.out).mono ?_
        rintro e w5 ⟨ht, hb⟩
        replace ht : ∃ (X : TypeId) (x : Value), e = .returned (.tuple #[.nilIface, .iface X x]) := ht
        obtain ⟨X, x, rfl⟩ := ht
        have B5 := Aside0.mk (below_step B4.out hb)
        clear hb nat met
        go_wp2
        go_ret3
        exact ⟨by rw [HQ.out]; rfl, B5.out⟩
      | some R =>
        rw [hq] at HTR
        obtain ⟨hr1, hr2, hr3⟩ := HR.out R hq
        have HR1 := Aside0.mk hr1
        have HR2 := Aside0.mk hr2
        have HR3 := Aside0.mk hr3
        have HTN := Aside0.mk hq
        clear hr1 hr2 hr3 hq
        go_wp2_with fail
        rw [← hW4]
        refine (HTR.out).mono ?_
        rintro e w5 ⟨ht, hb⟩
        replace ht : ∃ A c ys, e = .returned (.tuple #[.iface 91 (.slice A R.length c), .nilIface]) ∧ kI.C w5 A ys.length ys ∧ Terms w5 ys R := ht
        obtain ⟨A5, c5, ys, rfl, hC5, hT5⟩ := ht
        have B5 := Aside0.mk (below_step B4.out hb)
        have HTM := Aside0.mk (terms_and A5 c5 ys R w5 hC5 hT5 HR2.out)
        have HTX := Aside0.mk (fun (w6 : World) (x : Below w5.heap.size w5 w6) => andText_any A5 c5 ys R w6 (Kd.C_below hC5 x) (hT5.below x) HR2.out HR1.out HR3.out)
        clear hb nat met hC5 hT5
        have nas := na_String_and A5 R.length c5
        have mes := me_String_and A5 R.length c5
        go_wp2_with (first
          | (go_at_call 19; (with_reducible refine (HTM.out).mono ?_); rintro e w6 ⟨⟨A6, c6, rfl, hc, hl⟩, hb⟩; have B6 := Aside0.mk hb; have C6 := Aside0.mk hc; have L6 := Aside0.mk hl; clear hb hc hl)
          | (go_at_call 122; (with_reducible refine (HTX.out _ B6.out).mono ?_); rintro e w7 ⟨rfl, hb⟩; have B7 := Aside0.mk (below_step (below_step B5.out B6.out) hb); have C7 := Aside0.mk (Kd.C_below C6.out hb); clear hb))
        go_ret3
        exact ⟨by rw [HTN.out]; exact ⟨A6, c6, by first | rfl | (rw [List.length_map]; rfl), C7.out, L6.out⟩, B7.out⟩
end Go.Proofs.YthejejeginnbdaaGreatDoor.Fd

/- The reference's turned terms are the program's; plain. -/
set_option linter.unusedVariables false
set_option linter.unusedSimpArgs false
namespace Go.Proofs.YthejejeginnbdaaGreatDoor.FdTd
open Go Go.RowKit Go.Proofs.YthejejeginnbdaaGreatDoor.PFnFieldTurn Go.Proofs.YthejejeginnbdaaGreatDoorW.PrintWords Go.Proofs.YthejejeginnbdaaGreatDoor.Txt Go.Proofs.YthejejeginnbdaaGreatDoor Go.Proofs.YthejejeginnbdaaGreatDoor.EscN Go.Proofs.YthejejeginnbdaaGreatDoor.FdN Go.Proofs.YthejejeginnbdaaGreatDoor.FdC Go.Proofs.YthejejeginnbdaaGreatDoor.FdS Go.Proofs.YthejejeginnbdaaGreatDoor.Fd Go.Proofs.YthejejeginnbdaaGreatDoor.FdR

def turnR (o : Option (List Tm)) (acc : List S26) : List S26 × Bool := match o with
  | none => ([], false)
  | some R => (acc ++ R.map tmS, true)
theorem nil_toL (s : ByteArray) : s.toList = [] ↔ s.data.toList.isEmpty = true := by rw [toL, List.isEmpty_iff]
theorem turn_ev (N : List S43) (hN : N.length ≤ 4294967296) (drop fail : ByteArray) (ts : List Tm) (ht : ts.length ≤ 4294967296) : ∀ (n i : Nat) (acc : List S26), ts.length - i = n → i ≤ ts.length → acc.length ≤ i → Ev (fun k => spec_FieldTurn.l0 k (ts.map tmS) N drop fail acc (i : Int)) (turnR (turnL (tfx N drop fail) (ts.drop i)) acc) := by
  intro n
  induction n with
  | zero =>
    intro i acc h1 h2 h3
    refine Evs.at1 fun k => ?_
    rw [List.drop_eq_nil_of_le (by omega), spec_FieldTurn.l0, if_neg (by rw [List.length_map]; omega), turnL]
    unfold turnR; simp
  | succ n ih =>
    intro i acc h1 h2 h3
    have hlt : i < ts.length := by omega
    have hr : rd_T26 (ts.map tmS) (i : Int) = tmS ts[i] := by rw [rd44 (by rw [List.length_map]; exact hlt), List.getElem_map]
    have hw : wrap64 ((i : Int) + 1) = ((i + 1 : Nat) : Int) := Small.w64s i (by omega)
    rw [List.drop_eq_getElem_cons hlt]
    have i0 := ih (i + 1) acc (by omega) hlt (by omega)
    have i1 := fun (t : Tm) => ih (i + 1) (acc ++ [tmS t]) (by omega) hlt (by rw [List.length_append]; simp only [List.length_cons, List.length_nil]; omega)
    have hf := find_f N ts[i].2.1 (by omega)
    generalize hrd : ts.drop (i + 1) = rest at i0 i1
    generalize ts[i] = t at hr hf
    obtain ⟨b, f, v⟩ := t
    have hlen : ((i : Int) < ((ts.map tmS).length : Int)) := by rw [List.length_map]; omega
    have f0 : (tmS (b, f, v)).f0 = f := rfl
    have f2 : (tmS (b, f, v)).f2 = v := rfl
    have ha : acc.length < 2932031007402 := by omega
    by_cases e1 : f.data.toList = fail.data.toList
    · have hx : tfx N drop fail (b, f, v) = none := by unfold tfx tf; rw [if_pos e1]
      rw [turn_no hx]
      refine Evs.at1 fun k => ?_
      rw [spec_FieldTurn.l0, if_pos hlen, if_pos (by omega), hr, f0, toL, toL, if_pos e1]; rfl
    by_cases e2 : f.data.toList = drop.data.toList
    · have hx : tfx N drop fail (b, f, v) = some (⟨#[]⟩, ⟨#[]⟩) := by unfold tfx tf; rw [if_neg e1, if_pos e2]
      rw [turn_yes hx, if_pos (show none_ (b, (⟨#[]⟩ : ByteArray), (⟨#[]⟩ : ByteArray)) = true from rfl)]
      have e : turnR ((turnL (tfx N drop fail) rest).map (([] : List Tm) ++ ·)) acc = turnR (turnL (tfx N drop fail) rest) acc := by
        cases turnL (tfx N drop fail) rest with
        | none => rfl
        | some R => rfl
      rw [e]
      refine Ev.step (fun k => ?_) i0
      rw [spec_FieldTurn.l0, if_pos hlen, if_pos (by omega), hr, f0, toL, toL, if_neg e1, toL, if_pos e2, if_pos rfl, hw]
    -- what is put to the end, or left out
    have fin : ∀ (p : ByteArray × ByteArray), tfx N drop fail (b, f, v) = some p → ∀ F : Nat → Option (List S26 × Bool), (∀ k, F k = if p.1.toList = [] then (if p.2.toList = [] then spec_FieldTurn.l0 k (ts.map tmS) N drop fail acc ((i + 1 : Nat) : Int) else if acc.length < 2932031007402 then spec_FieldTurn.l0 k (ts.map tmS) N drop fail (acc ++ [tmS (b, p.1, p.2)]) ((i + 1 : Nat) : Int) else none) else if acc.length < 2932031007402 then spec_FieldTurn.l0 k (ts.map tmS) N drop fail (acc ++ [tmS (b, p.1, p.2)]) ((i + 1 : Nat) : Int) else none) → Ev F (turnR (turnL (tfx N drop fail) ((b, f, v) :: rest)) acc) := by
      intro p hp F hF
      obtain ⟨a, u⟩ := p
      rw [turn_yes hp]
      by_cases hn : none_ (b, a, u) = true
      · have hn' := hn
        unfold none_ at hn'
        rw [Bool.and_eq_true] at hn'
        rw [if_pos hn]
        have e : turnR ((turnL (tfx N drop fail) rest).map (([] : List Tm) ++ ·)) acc = turnR (turnL (tfx N drop fail) rest) acc := by
          cases turnL (tfx N drop fail) rest with
          | none => rfl
          | some R => rfl
        rw [e]
        obtain ⟨K, hK⟩ := i0
        exact ⟨K, fun k hk => by rw [hF, if_pos ((nil_toL _).2 hn'.1), if_pos ((nil_toL _).2 hn'.2)]; exact hK k hk⟩
      · rw [if_neg hn]
        have e : turnR ((turnL (tfx N drop fail) rest).map ([(b, a, u)] ++ ·)) acc = turnR (turnL (tfx N drop fail) rest) (acc ++ [tmS (b, a, u)]) := by
          cases turnL (tfx N drop fail) rest with
          | none => rfl
          | some R => unfold turnR; simp
        rw [e]
        obtain ⟨K, hK⟩ := i1 (b, a, u)
        refine ⟨K, fun k hk => ?_⟩
        rw [hF]
        by_cases ea : a.toList = []
        · have eu : ¬ u.toList = [] := fun eu => hn (by unfold none_; rw [Bool.and_eq_true]; exact ⟨(nil_toL _).1 ea, (nil_toL _).1 eu⟩)
          rw [if_pos ea, if_neg eu, if_pos ha]; exact hK k hk
        · rw [if_neg ea, if_pos ha]; exact hK k hk
    obtain ⟨K1, hK1⟩ := hf
    have step : ∀ k, K1 ≤ k → spec_FieldTurn.l0 (k + 1) (ts.map tmS) N drop fail acc (i : Int) = (if (findP N f).isSome = true then (if ((findP N f).getD ⟨#[]⟩).toList = ([] : List UInt8) then (if v.toList = ([] : List UInt8) then (spec_FieldTurn.l0 k (ts.map tmS) N drop fail acc ((i + 1 : Nat) : Int)) else (if acc.length < 2932031007402 then (spec_FieldTurn.l0 k (ts.map tmS) N drop fail (acc ++ [tmS (b, (findP N f).getD ⟨#[]⟩, v)]) ((i + 1 : Nat) : Int)) else (none))) else (if acc.length < 2932031007402 then (spec_FieldTurn.l0 k (ts.map tmS) N drop fail (acc ++ [tmS (b, (findP N f).getD ⟨#[]⟩, v)]) ((i + 1 : Nat) : Int)) else (none))) else (if f.toList = ([] : List UInt8) then (if v.toList = ([] : List UInt8) then (spec_FieldTurn.l0 k (ts.map tmS) N drop fail acc ((i + 1 : Nat) : Int)) else (if acc.length < 2932031007402 then (spec_FieldTurn.l0 k (ts.map tmS) N drop fail (acc ++ [tmS (b, f, v)]) ((i + 1 : Nat) : Int)) else (none))) else (if acc.length < 2932031007402 then (spec_FieldTurn.l0 k (ts.map tmS) N drop fail (acc ++ [tmS (b, f, v)]) ((i + 1 : Nat) : Int)) else (none)))) := fun k hk => by
      have hq : spec_Find.f k N f = _ := hK1 k hk
      rw [spec_FieldTurn.l0, if_pos hlen, if_pos (by omega), hr, f0, toL, toL, if_neg e1, toL, if_neg e2, hq, Option.bind_some, hw]
      rfl
    cases hq : findP N f with
    | some n0 =>
      have hx : tfx N drop fail (b, f, v) = some (n0, v) := by unfold tfx tf; rw [if_neg e1, if_neg e2, hq]
      rw [hq] at step
      obtain ⟨K, hK⟩ := fin (n0, v) hx _ (fun k => rfl)
      refine ⟨K1 + K + 1, fun k hk => ?_⟩
      obtain ⟨k, rfl⟩ : ∃ m, k = m + 1 := ⟨k - 1, by omega⟩
      show spec_FieldTurn.l0 (k + 1) (ts.map tmS) N drop fail acc (i : Int) = _
      rw [step k (by omega)]
      exact hK k (by omega)
    | none =>
      have hx : tfx N drop fail (b, f, v) = some (f, v) := by unfold tfx tf; rw [if_neg e1, if_neg e2, hq]
      rw [hq] at step
      obtain ⟨K, hK⟩ := fin (f, v) hx _ (fun k => rfl)
      refine ⟨K1 + K + 1, fun k hk => ?_⟩
      obtain ⟨k, rfl⟩ : ∃ m, k = m + 1 := ⟨k - 1, by omega⟩
      show spec_FieldTurn.l0 (k + 1) (ts.map tmS) N drop fail acc (i : Int) = _
      rw [step k (by omega)]
      exact hK k (by omega)
theorem fieldTurn_ev (N : List S43) (hN : N.length ≤ 4294967296) (drop fail : ByteArray) (ts : List Tm) (ht : ts.length ≤ 4294967296) : Ev (fun k => spec_FieldTurn.f k (ts.map tmS) N drop fail) (turnR (turnL (tfx N drop fail) ts) []) := by
  have := turn_ev N hN drop fail ts ht _ 0 [] rfl (Nat.zero_le _) (Nat.le_refl _)
  rw [List.drop_zero] at this
  exact this
end Go.Proofs.YthejejeginnbdaaGreatDoor.FdTd
