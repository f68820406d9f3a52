/- Selectors of fields: those of many terms; a text parsed to a selector. -/
import Derived.Test.YthejejeginnbdaaGreatDoorFdI
import Derived.Test.YthejejeginnbdaaGreatDoorFdC
import Derived.Test.YthejejeginnbdaaGreatDoorFdS
import Derived.Test.YthejejeginnbdaaGreatDoorFdU
set_option linter.unusedVariables false
set_option linter.unusedSimpArgs false
namespace Go.Proofs.YthejejeginnbdaaGreatDoor.Fd
open Go Go.RowKit Go.Maps Go.Proofs.YthejejeginnbdaaGreatDoorW.PrintWords Go.Proofs.YthejejeginnbdaaGreatDoor.Txt Go.Proofs.YthejejeginnbdaaGreatDoor Go.Proofs.YthejejeginnbdaaGreatDoor.PFnFieldTerm Go.Proofs.YthejejeginnbdaaGreatDoor.EscN Go.Proofs.YthejejeginnbdaaGreatDoor.FdN Go.Proofs.YthejejeginnbdaaGreatDoor.FdC Go.Proofs.YthejejeginnbdaaGreatDoor.FdS Go.Proofs.YthejejeginnbdaaGreatDoor.FdU

theorem infoI : (Tryz.prog.info? 47).map (fun i => (i.zero, i.size, i.bytes)) = some (some .nilIface, 1, 16) := by kernel_rfl
theorem enc1 : ∀ x, (enc x).oneCell' = true := fun _ => rfl
abbrev kI : Kd (Bool × Nat) := Kd.scalar enc enc1
theorem at_I {w : World} {A : Option Addr} {n : Nat} {xs : List (Bool × Nat)} (h : kI.C w A n xs) (i : Int) (h0 : 0 ≤ i) (h1 : i < n) : ∃ ad, A = some ad ∧ w.cell? (ad.add i.toNat) = some (enc (rdOf (true, 0) xs i)) :=
  ReadsOf.at_ (Kd.reads_of_C (enc := enc) (d := (true, 0)) (h1 := enc1) h) i h0 h1
def Terms (w : World) : List (Bool × Nat) → List Tm → Prop
  | [], [] => True
  | x :: xs, t :: L => TermAt w x t ∧ Terms w xs L
  | _, _ => False
theorem Terms.len {w : World} : ∀ {xs : List (Bool × Nat)} {L : List Tm}, Terms w xs L → xs.length = L.length
  | [], [], _ => rfl
  | _ :: _, _ :: _, h => by rw [List.length_cons, List.length_cons, Terms.len h.2]
theorem Terms.imp {w w' : World} (hq : ∀ x t, TermAt w x t → TermAt w' x t) : ∀ {xs : List (Bool × Nat)} {L : List Tm}, Terms w xs L → Terms w' xs L
  | [], [], _ => trivial
  | _ :: _, _ :: _, h => ⟨hq _ _ h.1, Terms.imp hq h.2⟩
theorem Terms.below {w w' : World} {xs : List (Bool × Nat)} {L : List Tm} (h : Terms w xs L) (hb : Below w.heap.size w w') : Terms w' xs L := h.imp fun _ _ hq => hq.below hb
theorem celT_ne (b : Bool) : 47 ≠ celT b := by cases b <;> decide
theorem Terms.grown {w w' : World} {base : Nat} {ok : Nat → Prop} {v : Value} {ys xs : List (Bool × Nat)} {L : List Tm} (h : Terms w xs L) (hr : Kd.R kI 47 w base ok v ys) (hg : w.grownBy w' v.ownBlock) : Terms w' xs L :=
  h.imp fun _ t hq => ⟨hq.1, blk_grown hq.2 hg (Kd.R_ne hr hq.2 (celT_ne t.1))⟩
theorem Terms.snoc {w : World} {x : Bool × Nat} {t : Tm} (hx : TermAt w x t) : ∀ {xs : List (Bool × Nat)} {L : List Tm}, Terms w xs L → Terms w (xs ++ [x]) (L ++ [t])
  | [], [], _ => ⟨hx, trivial⟩
  | _ :: _, _ :: _, h => ⟨h.1, Terms.snoc hx h.2⟩
theorem Terms.at0 {w : World} : ∀ {xs : List (Bool × Nat)} {L : List Tm}, Terms w xs L → ∀ (i : Nat) (h1 : i < xs.length) (h2 : i < L.length), TermAt w xs[i] L[i]
  | _ :: _, _ :: _, h, 0, _, _ => h.1
  | _ :: _, _ :: _, h, i + 1, h1, h2 => Terms.at0 h.2 i (by simpa using h1) (by simpa using h2)
theorem Terms.at {w : World} {xs : List (Bool × Nat)} {L : List Tm} (h : Terms w xs L) (i : Nat) (hi : i < L.length) : TermAt w (rdOf (true, 0) xs (i : Int)) L[i] := by
  have hx : i < xs.length := by rw [h.len]; exact hi
  have e : rdOf (true, 0) xs (i : Int) = xs[i] := by unfold rdOf; rw [Int.toNat_natCast, List.getD_eq_getElem?_getD, List.getElem?_eq_getElem hx]; rfl
  rw [e]
  exact h.at0 i hx hi
/-- A slice of the call's own with these terms. -/
def Items (w : World) (base : Nat) (v : Value) (L : List Tm) : Prop := ∃ xs, Kd.R kI 47 w base (fun _ => True) v xs ∧ Terms w xs L
/-- A selector of these terms. -/
def IsSel (w : World) (v : Value) (L : List Tm) : Prop :=
  (∃ t g, L = [t] ∧ v = enc (t.1, g) ∧ TermAt w (t.1, g) t) ∨ (∃ A c xs, v = .iface 91 (.slice A L.length c) ∧ kI.C w A xs.length xs ∧ Terms w xs L)
theorem IsSel.below {w w' : World} {v : Value} {L : List Tm} (h : IsSel w v L) (hb : Below w.heap.size w w') : IsSel w' v L := by
  rcases h with ⟨t, g, h1, h2, h3⟩ | ⟨A, c, xs, h1, h2, h3⟩
  · exact Or.inl ⟨t, g, h1, h2, h3.below hb⟩
  · exact Or.inr ⟨A, c, xs, h1, Kd.C_below h2 hb, h3.below hb⟩
theorem IsSel.none (w : World) (A : Option Addr) (c : Nat) (hr : kI.C w A 0 []) : IsSel w (.iface 91 (.slice A 0 c)) [] := Or.inr ⟨A, c, [], rfl, hr, trivial⟩
abbrev keep (L : List Tm) : List Tm := L.filter fun t => !none_ t
theorem na_Transform_true (g : Nat) (w : World) : (nilAhead 268 74 (.pointer (some ⟨g, 0, none⟩)) "Transform").run Tryz.prog w = .ok (some false) w := by kernel_rfl
theorem me_Transform_true (g : Nat) (w : World) : (method 268 74 (.pointer (some ⟨g, 0, none⟩)) "Transform").run Tryz.prog w = .ok (112, .pointer (some ⟨g, 0, none⟩)) w := by kernel_rfl
theorem na_Empty_true (g : Nat) (w : World) : (nilAhead 268 74 (.pointer (some ⟨g, 0, none⟩)) "Empty").run Tryz.prog w = .ok (some false) w := by kernel_rfl
theorem me_Empty_true (g : Nat) (w : World) : (method 268 74 (.pointer (some ⟨g, 0, none⟩)) "Empty").run Tryz.prog w = .ok (107, .pointer (some ⟨g, 0, none⟩)) w := by kernel_rfl
theorem na_Matches_true (g : Nat) (w : World) : (nilAhead 268 74 (.pointer (some ⟨g, 0, none⟩)) "Matches").run Tryz.prog w = .ok (some false) w := by kernel_rfl
theorem me_Matches_true (g : Nat) (w : World) : (method 268 74 (.pointer (some ⟨g, 0, none⟩)) "Matches").run Tryz.prog w = .ok (108, .pointer (some ⟨g, 0, none⟩)) w := by kernel_rfl
theorem na_Transform_false (g : Nat) (w : World) : (nilAhead 268 71 (.pointer (some ⟨g, 0, none⟩)) "Transform").run Tryz.prog w = .ok (some false) w := by kernel_rfl
theorem me_Transform_false (g : Nat) (w : World) : (method 268 71 (.pointer (some ⟨g, 0, none⟩)) "Transform").run Tryz.prog w = .ok (103, .pointer (some ⟨g, 0, none⟩)) w := by kernel_rfl
theorem na_Empty_false (g : Nat) (w : World) : (nilAhead 268 71 (.pointer (some ⟨g, 0, none⟩)) "Empty").run Tryz.prog w = .ok (some false) w := by kernel_rfl
theorem me_Empty_false (g : Nat) (w : World) : (method 268 71 (.pointer (some ⟨g, 0, none⟩)) "Empty").run Tryz.prog w = .ok (98, .pointer (some ⟨g, 0, none⟩)) w := by kernel_rfl
theorem na_Matches_false (g : Nat) (w : World) : (nilAhead 268 71 (.pointer (some ⟨g, 0, none⟩)) "Matches").run Tryz.prog w = .ok (some false) w := by kernel_rfl
theorem me_Matches_false (g : Nat) (w : World) : (method 268 71 (.pointer (some ⟨g, 0, none⟩)) "Matches").run Tryz.prog w = .ok (99, .pointer (some ⟨g, 0, none⟩)) w := by kernel_rfl
theorem na_Empty_and (A : Option Addr) (n c : Nat) (w : World) : (nilAhead 268 91 (.slice A n c) "Empty").run Tryz.prog w = .ok (some false) w := by kernel_rfl
theorem me_Empty_and (A : Option Addr) (n c : Nat) (w : World) : (method 268 91 (.slice A n c) "Empty").run Tryz.prog w = .ok (118, .slice A n c) w := by kernel_rfl
theorem na_Matches_and (A : Option Addr) (n c : Nat) (w : World) : (nilAhead 268 91 (.slice A n c) "Matches").run Tryz.prog w = .ok (some false) w := by kernel_rfl
theorem me_Matches_and (A : Option Addr) (n c : Nat) (w : World) : (method 268 91 (.slice A n c) "Matches").run Tryz.prog w = .ok (119, .slice A n c) w := by kernel_rfl

theorem emptyAnd_none (A : Option Addr) (c : Nat) (w : World) : Calls Tryz.prog 118 #[.slice A 0 c] w fun e w' => e = .returned (.bool true) ∧ Below w.heap.size w w' := by
  have en0 : ∀ W n c, (binOp .eql 91 (.slice none n c) (.slice none 0 0)).run Tryz.prog W = .ok (.bool true) W := fun W n c => Lib.run_eql_slice_nil_nil W n c Tryz.underlying91
  have en1 : ∀ W a n c, (binOp .eql 91 (.slice (some a) n c) (.slice none 0 0)).run Tryz.prog W = .ok (.bool false) W := fun W a n c => Lib.run_eql_slice_some_nil W a n c Tryz.underlying91
  cases A with
  | none =>
    go_enter Tryz.func118, Tryz.ntmps118
    go_wp2
    go_ret
    exact ⟨rfl, Below.refl _ _⟩
  | some a =>
    go_enter Tryz.func118, Tryz.ntmps118
    go_wp2
    go_ret
    exact ⟨rfl, Below.refl _ _⟩
theorem make_items (n : Nat) (hn : n ≤ 8589934592) : ∃ cs0 : Array Value, cs0.size = n ∧ ∀ W, Sem.run Tryz.prog (Instr.makeSlice 88 (.int .i64 0) (.int .i64 (n : Int))) W = .ok (.slice (some ⟨W.heap.size, 0, none⟩) 0 n) (W.alloc (.cells cs0 47)) := by
  obtain ⟨i0, hi, hz0, hz1, hz2⟩ := info_parts infoI
  refine ⟨madeCells Value.nilIface.cells (n * i0.size), ?_, fun W => ?_⟩
  rotate_left
  · have := run_make (P := Tryz.prog) W 88 47 i0 _ Tryz.underlying88 hi hz0 .i64 .i64 (0 : Int) (n : Int) (by omega) (by omega) (by rw [hz2]; omega) (by omega)
    simp only [Int.toNat_natCast] at this
    exact this
  · rw [size_madeCells, hz1, Nat.mul_one]
end Go.Proofs.YthejejeginnbdaaGreatDoor.Fd
