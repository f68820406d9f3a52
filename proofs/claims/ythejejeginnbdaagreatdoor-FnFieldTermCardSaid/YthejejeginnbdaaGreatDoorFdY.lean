/- What a selector tells: its requirements, its text. -/
import Derived.Test.YthejejeginnbdaaGreatDoorFdP
import Derived.Test.YthejejeginnbdaaGreatDoorFdE
import Derived.Test.YthejejeginnbdaaGreatDoorShelf
set_option linter.unusedVariables false
set_option linter.unusedSimpArgs false
namespace Go.Proofs.YthejejeginnbdaaGreatDoor.Fd
open Go Go.RowKit Go.Maps Go.Proofs.YthejejeginnbdaaGreatDoorW.PrintWords Go.Proofs.YthejejeginnbdaaGreatDoor.Txt Go.Proofs.YthejejeginnbdaaGreatDoor Go.Proofs.YthejejeginnbdaaGreatDoor.PFnFieldTerm Go.Proofs.YthejejeginnbdaaGreatDoor.EscN Go.Proofs.YthejejeginnbdaaGreatDoor.FdN Go.Proofs.YthejejeginnbdaaGreatDoor.FdC Go.Proofs.YthejejeginnbdaaGreatDoor.FdS Go.Proofs.YthejejeginnbdaaGreatDoor.FdU

theorem infoQ : (Tryz.prog.info? 81).map (fun i => (i.zero, i.size, i.bytes)) = some (some (.agg #[(.string ⟨#[]⟩), (.string ⟨#[]⟩), (.string ⟨#[]⟩)]), 3, 48) := by kernel_rfl
theorem infoT : (Tryz.prog.info? 26).map (fun i => (i.zero, i.size, i.bytes)) = some (some (.agg #[(.string ⟨#[]⟩), (.string ⟨#[]⟩), (.string ⟨#[]⟩)]), 3, 48) := by kernel_rfl
theorem infoS : (Tryz.prog.info? 9).map (fun i => (i.zero, i.size, i.bytes)) = some (some (.string ⟨#[]⟩), 1, 16) := by kernel_rfl
def opB (b : Bool) : ByteArray := if b then ⟨#[61]⟩ else ⟨#[33, 61]⟩
/-- A term as a requirement. -/
def rqS (t : Tm) : S26 := ⟨opB t.1, t.2.1, t.2.2⟩
abbrev kT : Kd S26 := k26
theorem row1 (w : World) (x : S26) (e : TypeId) : kT.C (w.alloc (.cells #[.string x.f0, .string x.f1, .string x.f2] e)) (some ⟨w.heap.size, 0, none⟩) 1 [x] := by
  refine ⟨rfl, by omega, fun _ => ⟨_, rfl, fun j p hj => ?_⟩⟩
  cases j with
  | succ j => simp at hj
  | zero =>
    simp at hj
    subst hj
    refine ⟨[.string x.f0, .string x.f1, .string x.f2], rfl, k26_mk _ x, fun i u hi => ?_⟩
    have hb := blk_new w (.cells #[.string x.f0, .string x.f1, .string x.f2] e)
    match i, hi with
    | 0, hi => simp at hi; subst hi; exact blk_cell hb 0
    | 1, hi => simp at hi; subst hi; exact blk_cell hb 1
    | 2, hi => simp at hi; subst hi; exact blk_cell hb 2
/-- What a term tells as its requirements. -/
def ToldQ (w w' : World) (e : Ending) (L : List S26) : Prop := (∃ A c, e = .returned (.slice A L.length c) ∧ kT.C w' A L.length L ∧ L.length ≤ c) ∧ Below w.heap.size w w'
/-- A term's text. -/
def txt (t : Tm) : ByteArray := t.2.1 ++ (if t.1 then (⟨#[61]⟩ : ByteArray) else ⟨#[33, 61]⟩) ++ mk (esc t.2.2.data.toList)

set_option maxRecDepth 100000 in
set_option maxHeartbeats 4000000 in
theorem req_true (g : Nat) (f v : ByteArray) (w : World) (h : TermAt w (true, g) (true, f, v)) :
    Calls Tryz.prog 109 #[.pointer (some ⟨g, 0, none⟩)] w fun e w' => ToldQ w w' e [rqS (true, f, v)] := by
  have mixed : Tryz.prog.follows .mixedOrders = true := by kernel_rfl
  have hu := Tryz.underlying75
  have c0 : w.cell? ⟨g, 0, none⟩ = some (.string f) := blk_cell h.2 0
  have c1 : w.cell? ⟨g, 1, none⟩ = some (.string v) := blk_cell h.2 1
  clear h
  go_enter Tryz.func109, Tryz.ntmps109
  go_wp2
  go_region_held3 (fun w' => w'.cell? ⟨g, 0, none⟩ = some (.string f) ∧ w'.cell? ⟨g, 1, none⟩ = some (.string v)) (first | exact ⟨c0, c1⟩ | exact ⟨((below_drew1 (below_alloc (Below.refl w.heap.size w) _)).cell (World.block_lt_of_cell? w _ c0)).trans c0, ((below_drew1 (below_alloc (Below.refl w.heap.size w) _)).cell (World.block_lt_of_cell? w _ c1)).trans c1⟩) (first | fail)
  all_goals go_wp2
  all_goals go_ret
  all_goals exact ⟨⟨some ⟨w.heap.size, 0, none⟩, 1, rfl, row1 w.drew (rqS (true, f, v)) _, Nat.le_refl _⟩, below_alloc (below_drew1 (Below.refl _ _)) _⟩
set_option maxRecDepth 100000 in
set_option maxHeartbeats 4000000 in
theorem text_true (g : Nat) (f v : ByteArray) (w : World) (h : TermAt w (true, g) (true, f, v)) (hf : f.size ≤ 2147483647) (hv : v.size ≤ 2147483647) :
    Calls Tryz.prog 111 #[.pointer (some ⟨g, 0, none⟩)] w fun e w' => e = .returned (.string (txt (true, f, v))) ∧ Below w.heap.size w w' := by
  have mixed : Tryz.prog.follows .mixedOrders = true := by kernel_rfl
  have hu := Tryz.underlying75
  have c0 : w.cell? ⟨g, 0, none⟩ = some (.string f) := blk_cell h.2 0
  have c1 : w.cell? ⟨g, 1, none⟩ = some (.string v) := blk_cell h.2 1
  have HE : Aside0 (∀ w1 : World, Calls Tryz.prog 104 #[.string v] w1 fun e w' => e = .returned (.string (mk (esc v.data.toList))) ∧ Below w1.heap.size w1 w') := ⟨fun w1 => FdE.escape_any v hv w1⟩
  have hel : (mk (esc v.data.toList)).size ≤ 8589934592 := by
    rw [size_len]; have := esc_len v.data.toList; rw [← size_len] at this; show (esc v.data.toList).length ≤ _; omega
  have s1 := ByteArray.size_append (a := f) (b := (⟨#[61]⟩ : ByteArray))
  have s2 : (⟨#[61]⟩ : ByteArray).size = 1 := rfl
  have z1 : (f.size + 1 ≤ 9223372036854775807) = True := eq_true (by omega)
  have z2 : (9223372036854775807 < f.size + 1) = False := eq_false (by omega)
  have z3 : ((f ++ (⟨#[61]⟩ : ByteArray)).size + (mk (esc v.data.toList)).size ≤ 9223372036854775807) = True := eq_true (by omega)
  have z4 : (9223372036854775807 < (f ++ (⟨#[61]⟩ : ByteArray)).size + (mk (esc v.data.toList)).size) = False := eq_false (by omega)
  have z5 : (f.size + 1 + (mk (esc v.data.toList)).size ≤ 9223372036854775807) = True := eq_true (by omega)
  have z6 : (9223372036854775807 < f.size + 1 + (mk (esc v.data.toList)).size) = False := eq_false (by omega)
  have HT : Aside0 (txt (true, f, v) = f ++ (⟨#[61]⟩ : ByteArray) ++ mk (esc v.data.toList)) := ⟨rfl⟩
  generalize hx : mk (esc v.data.toList) = x at HE hel z3 z4 z5 z6 HT
  clear h hx hv s1 s2 hel hf
  go_enter Tryz.func111, Tryz.ntmps111
  go_wp2
  go_region_held3 (fun w' => w'.cell? ⟨g, 0, none⟩ = some (.string f) ∧ w'.cell? ⟨g, 1, none⟩ = some (.string v)) (first | exact ⟨c0, c1⟩)
    (first | (go_at_call 104; (with_reducible refine (HE.out _).mono ?_); rintro e w1 ⟨rfl, hb⟩; have B1 := Aside0.mk hb; have c0 := (hb.cell (World.block_lt_of_cell? _ _ c0)).trans c0; have c1 := (hb.cell (World.block_lt_of_cell? _ _ c1)).trans c1; clear hb))
  all_goals go_wp2
  all_goals go_ret
  all_goals exact ⟨by rw [HT.out]; rfl, by first | exact B1.out | exact below_step (below_drew1 (Below.refl _ _)) B1.out⟩
theorem na_Requirements_true (g : Nat) (w : World) : (nilAhead 268 74 (.pointer (some ⟨g, 0, none⟩)) "Requirements").run Tryz.prog w = .ok (some false) w := by kernel_rfl
theorem me_Requirements_true (g : Nat) (w : World) : (method 268 74 (.pointer (some ⟨g, 0, none⟩)) "Requirements").run Tryz.prog w = .ok (109, .pointer (some ⟨g, 0, none⟩)) w := by kernel_rfl
theorem na_String_true (g : Nat) (w : World) : (nilAhead 268 74 (.pointer (some ⟨g, 0, none⟩)) "String").run Tryz.prog w = .ok (some false) w := by kernel_rfl
theorem me_String_true (g : Nat) (w : World) : (method 268 74 (.pointer (some ⟨g, 0, none⟩)) "String").run Tryz.prog w = .ok (111, .pointer (some ⟨g, 0, none⟩)) w := by kernel_rfl

set_option maxRecDepth 100000 in
set_option maxHeartbeats 4000000 in
theorem req_false (g : Nat) (f v : ByteArray) (w : World) (h : TermAt w (false, g) (false, f, v)) :
    Calls Tryz.prog 100 #[.pointer (some ⟨g, 0, none⟩)] w fun e w' => ToldQ w w' e [rqS (false, f, v)] := by
  have mixed : Tryz.prog.follows .mixedOrders = true := by kernel_rfl
  have hu := Tryz.underlying73
  have c0 : w.cell? ⟨g, 0, none⟩ = some (.string f) := blk_cell h.2 0
  have c1 : w.cell? ⟨g, 1, none⟩ = some (.string v) := blk_cell h.2 1
  clear h
  go_enter Tryz.func100, Tryz.ntmps100
  go_wp2
  go_region_held3 (fun w' => w'.cell? ⟨g, 0, none⟩ = some (.string f) ∧ w'.cell? ⟨g, 1, none⟩ = some (.string v)) (first | exact ⟨c0, c1⟩ | exact ⟨((below_drew1 (below_alloc (Below.refl w.heap.size w) _)).cell (World.block_lt_of_cell? w _ c0)).trans c0, ((below_drew1 (below_alloc (Below.refl w.heap.size w) _)).cell (World.block_lt_of_cell? w _ c1)).trans c1⟩) (first | fail)
  all_goals go_wp2
  all_goals go_ret
  all_goals exact ⟨⟨some ⟨w.heap.size, 0, none⟩, 1, rfl, row1 w.drew (rqS (false, f, v)) _, Nat.le_refl _⟩, below_alloc (below_drew1 (Below.refl _ _)) _⟩
set_option maxRecDepth 100000 in
set_option maxHeartbeats 4000000 in
theorem text_false (g : Nat) (f v : ByteArray) (w : World) (h : TermAt w (false, g) (false, f, v)) (hf : f.size ≤ 2147483647) (hv : v.size ≤ 2147483647) :
    Calls Tryz.prog 102 #[.pointer (some ⟨g, 0, none⟩)] w fun e w' => e = .returned (.string (txt (false, f, v))) ∧ Below w.heap.size w w' := by
  have mixed : Tryz.prog.follows .mixedOrders = true := by kernel_rfl
  have hu := Tryz.underlying73
  have c0 : w.cell? ⟨g, 0, none⟩ = some (.string f) := blk_cell h.2 0
  have c1 : w.cell? ⟨g, 1, none⟩ = some (.string v) := blk_cell h.2 1
  have HE : Aside0 (∀ w1 : World, Calls Tryz.prog 104 #[.string v] w1 fun e w' => e = .returned (.string (mk (esc v.data.toList))) ∧ Below w1.heap.size w1 w') := ⟨fun w1 => FdE.escape_any v hv w1⟩
  have hel : (mk (esc v.data.toList)).size ≤ 8589934592 := by
    rw [size_len]; have := esc_len v.data.toList; rw [← size_len] at this; show (esc v.data.toList).length ≤ _; omega
  have s1 := ByteArray.size_append (a := f) (b := (⟨#[33, 61]⟩ : ByteArray))
  have s2 : (⟨#[33, 61]⟩ : ByteArray).size = 2 := rfl
  have z1 : (f.size + 2 ≤ 9223372036854775807) = True := eq_true (by omega)
  have z2 : (9223372036854775807 < f.size + 2) = False := eq_false (by omega)
  have z3 : ((f ++ (⟨#[33, 61]⟩ : ByteArray)).size + (mk (esc v.data.toList)).size ≤ 9223372036854775807) = True := eq_true (by omega)
  have z4 : (9223372036854775807 < (f ++ (⟨#[33, 61]⟩ : ByteArray)).size + (mk (esc v.data.toList)).size) = False := eq_false (by omega)
  have z5 : (f.size + 2 + (mk (esc v.data.toList)).size ≤ 9223372036854775807) = True := eq_true (by omega)
  have z6 : (9223372036854775807 < f.size + 2 + (mk (esc v.data.toList)).size) = False := eq_false (by omega)
  have HT : Aside0 (txt (false, f, v) = f ++ (⟨#[33, 61]⟩ : ByteArray) ++ mk (esc v.data.toList)) := ⟨rfl⟩
  generalize hx : mk (esc v.data.toList) = x at HE hel z3 z4 z5 z6 HT
  clear h hx hv s1 s2 hel hf
  go_enter Tryz.func102, Tryz.ntmps102
  go_wp2
  go_region_held3 (fun w' => w'.cell? ⟨g, 0, none⟩ = some (.string f) ∧ w'.cell? ⟨g, 1, none⟩ = some (.string v)) (first | exact ⟨c0, c1⟩)
    (first | (go_at_call 104; (with_reducible refine (HE.out _).mono ?_); rintro e w1 ⟨rfl, hb⟩; have B1 := Aside0.mk hb; have c0 := (hb.cell (World.block_lt_of_cell? _ _ c0)).trans c0; have c1 := (hb.cell (World.block_lt_of_cell? _ _ c1)).trans c1; clear hb))
  all_goals go_wp2
  all_goals go_ret
  all_goals exact ⟨by rw [HT.out]; rfl, by first | exact B1.out | exact below_step (below_drew1 (Below.refl _ _)) B1.out⟩
theorem na_Requirements_false (g : Nat) (w : World) : (nilAhead 268 71 (.pointer (some ⟨g, 0, none⟩)) "Requirements").run Tryz.prog w = .ok (some false) w := by kernel_rfl
theorem me_Requirements_false (g : Nat) (w : World) : (method 268 71 (.pointer (some ⟨g, 0, none⟩)) "Requirements").run Tryz.prog w = .ok (100, .pointer (some ⟨g, 0, none⟩)) w := by kernel_rfl
theorem na_String_false (g : Nat) (w : World) : (nilAhead 268 71 (.pointer (some ⟨g, 0, none⟩)) "String").run Tryz.prog w = .ok (some false) w := by kernel_rfl
theorem me_String_false (g : Nat) (w : World) : (method 268 71 (.pointer (some ⟨g, 0, none⟩)) "String").run Tryz.prog w = .ok (102, .pointer (some ⟨g, 0, none⟩)) w := by kernel_rfl

theorem na_Requirements_and (A : Option Addr) (n c : Nat) (w : World) : (nilAhead 268 91 (.slice A n c) "Requirements").run Tryz.prog w = .ok (some false) w := by kernel_rfl
theorem me_Requirements_and (A : Option Addr) (n c : Nat) (w : World) : (method 268 91 (.slice A n c) "Requirements").run Tryz.prog w = .ok (120, .slice A n c) w := by kernel_rfl
theorem na_String_and (A : Option Addr) (n c : Nat) (w : World) : (nilAhead 268 91 (.slice A n c) "String").run Tryz.prog w = .ok (some false) w := by kernel_rfl
theorem me_String_and (A : Option Addr) (n c : Nat) (w : World) : (method 268 91 (.slice A n c) "String").run Tryz.prog w = .ok (122, .slice A n c) w := by kernel_rfl
end Go.Proofs.YthejejeginnbdaaGreatDoor.Fd
