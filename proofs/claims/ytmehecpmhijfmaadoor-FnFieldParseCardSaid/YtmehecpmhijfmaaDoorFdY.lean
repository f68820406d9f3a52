/- What a selector tells: its requirements, its text. -/
import Derived.Test.YtmehecpmhijfmaaDoorFdP
import Derived.Test.YtmehecpmhijfmaaDoorFdE
import Derived.Test.YtmehecpmhijfmaaDoorShelf
set_option linter.unusedVariables false
set_option linter.unusedSimpArgs false
namespace Go.Proofs.YtmehecpmhijfmaaDoor.Fd
open Go Go.RowKit Go.Maps Go.Proofs.YtmehecpmhijfmaaDoorW.PrintWords Go.Proofs.YtmehecpmhijfmaaDoor.Txt Go.Proofs.YtmehecpmhijfmaaDoor Go.Proofs.YtmehecpmhijfmaaDoor.PFnFieldParse Go.Proofs.YtmehecpmhijfmaaDoor.EscN Go.Proofs.YtmehecpmhijfmaaDoor.FdN Go.Proofs.YtmehecpmhijfmaaDoor.FdC Go.Proofs.YtmehecpmhijfmaaDoor.FdS Go.Proofs.YtmehecpmhijfmaaDoor.FdU

theorem infoQ : (Tryd.prog.info? 56).map (fun i => (i.zero, i.size, i.bytes)) = some (some (.agg #[(.string ⟨#[]⟩), (.string ⟨#[]⟩), (.string ⟨#[]⟩)]), 3, 48) := by kernel_rfl
def opB (b : Bool) : ByteArray := if b then ⟨#[61]⟩ else ⟨#[33, 61]⟩
/-- A term as a requirement. -/
def rqS (t : Tm) : S47 := ⟨opB t.1, t.2.1, t.2.2⟩
abbrev kT : Kd S47 := k47
theorem row1 (w : World) (x : S47) (e : TypeId) : kT.C (w.alloc (.cells #[.string x.f0, .string x.f1, .string x.f2] e)) (some ⟨w.heap.size, 0, none⟩) 1 [x] := by
  refine ⟨rfl, by omega, fun _ => ⟨_, rfl, fun j p hj => ?_⟩⟩
  cases j with
  | succ j => simp at hj
  | zero =>
    simp at hj
    subst hj
    refine ⟨[.string x.f0, .string x.f1, .string x.f2], rfl, k47_mk _ x, fun i u hi => ?_⟩
    have hb := blk_new w (.cells #[.string x.f0, .string x.f1, .string x.f2] e)
    match i, hi with
    | 0, hi => simp at hi; subst hi; exact blk_cell hb 0
    | 1, hi => simp at hi; subst hi; exact blk_cell hb 1
    | 2, hi => simp at hi; subst hi; exact blk_cell hb 2
/-- What a term tells as its requirements. -/
def ToldQ (w w' : World) (e : Ending) (L : List S47) : Prop := (∃ A c, e = .returned (.slice A L.length c) ∧ kT.C w' A L.length L ∧ L.length ≤ c) ∧ Below w.heap.size w w'
/-- A term's text. -/
def txt (t : Tm) : ByteArray := t.2.1 ++ (if t.1 then (⟨#[61]⟩ : ByteArray) else ⟨#[33, 61]⟩) ++ mk (esc t.2.2.data.toList)

set_option maxRecDepth 100000 in
set_option maxHeartbeats 4000000 in
theorem req_true (g : Nat) (f v : ByteArray) (w : World) (h : TermAt w (true, g) (true, f, v)) :
    Calls Tryd.prog 91 #[.pointer (some ⟨g, 0, none⟩)] w fun e w' => ToldQ w w' e [rqS (true, f, v)] := by
  have mixed : Tryd.prog.follows .mixedOrders = true := by kernel_rfl
  have hu := Tryd.underlying69
  have c0 : w.cell? ⟨g, 0, none⟩ = some (.string f) := blk_cell h.2 0
  have c1 : w.cell? ⟨g, 1, none⟩ = some (.string v) := blk_cell h.2 1
  clear h
  go_enter Tryd.func91, Tryd.ntmps91
  go_wp2
  go_region_held3 (fun w' => w'.cell? ⟨g, 0, none⟩ = some (.string f) ∧ w'.cell? ⟨g, 1, none⟩ = some (.string v)) (first | exact ⟨c0, c1⟩ | exact ⟨((below_drew1 (below_alloc (Below.refl w.heap.size w) _)).cell (World.block_lt_of_cell? w _ c0)).trans c0, ((below_drew1 (below_alloc (Below.refl w.heap.size w) _)).cell (World.block_lt_of_cell? w _ c1)).trans c1⟩) (first | fail)
  all_goals go_wp2
  all_goals go_ret
  all_goals exact ⟨⟨some ⟨w.heap.size, 0, none⟩, 1, rfl, row1 w.drew (rqS (true, f, v)) _, Nat.le_refl _⟩, below_alloc (below_drew1 (Below.refl _ _)) _⟩
set_option maxRecDepth 100000 in
set_option maxHeartbeats 4000000 in
theorem text_true (g : Nat) (f v : ByteArray) (w : World) (h : TermAt w (true, g) (true, f, v)) (hf : f.size ≤ 2147483647) (hv : v.size ≤ 2147483647) :
    Calls Tryd.prog 93 #[.pointer (some ⟨g, 0, none⟩)] w fun e w' => e = .returned (.string (txt (true, f, v))) ∧ Below w.heap.size w w' := by
  have mixed : Tryd.prog.follows .mixedOrders = true := by kernel_rfl
  have hu := Tryd.underlying69
  have c0 : w.cell? ⟨g, 0, none⟩ = some (.string f) := blk_cell h.2 0
  have c1 : w.cell? ⟨g, 1, none⟩ = some (.string v) := blk_cell h.2 1
  have HE : Aside0 (∀ w1 : World, Calls Tryd.prog 86 #[.string v] w1 fun e w' => e = .returned (.string (mk (esc v.data.toList))) ∧ Below w1.heap.size w1 w') := ⟨fun w1 => FdE.escape_any v hv w1⟩
  have hel : (mk (esc v.data.toList)).size ≤ 4294967296 := by
    rw [size_len]; have := esc_len v.data.toList; rw [← size_len] at this; show (esc v.data.toList).length ≤ _; omega
  have s1 := ByteArray.size_append (a := f) (b := (⟨#[61]⟩ : ByteArray))
  have s2 : (⟨#[61]⟩ : ByteArray).size = 1 := rfl
  have z1 : (f.size + 1 ≤ 9223372036854775807) = True := eq_true (by omega)
  have z2 : (9223372036854775807 < f.size + 1) = False := eq_false (by omega)
  have z3 : ((f ++ (⟨#[61]⟩ : ByteArray)).size + (mk (esc v.data.toList)).size ≤ 9223372036854775807) = True := eq_true (by omega)
  have z4 : (9223372036854775807 < (f ++ (⟨#[61]⟩ : ByteArray)).size + (mk (esc v.data.toList)).size) = False := eq_false (by omega)
  have z5 : (f.size + 1 + (mk (esc v.data.toList)).size ≤ 9223372036854775807) = True := eq_true (by omega)
  have z6 : (9223372036854775807 < f.size + 1 + (mk (esc v.data.toList)).size) = False := eq_false (by omega)
  have HT : Aside0 (txt (true, f, v) = f ++ (⟨#[61]⟩ : ByteArray) ++ mk (esc v.data.toList)) := ⟨rfl⟩
  generalize hx : mk (esc v.data.toList) = x at HE hel z3 z4 z5 z6 HT
  clear h hx hv s1 s2 hel hf
  go_enter Tryd.func93, Tryd.ntmps93
  go_wp2
  go_region_held3 (fun w' => w'.cell? ⟨g, 0, none⟩ = some (.string f) ∧ w'.cell? ⟨g, 1, none⟩ = some (.string v)) (first | exact ⟨c0, c1⟩)
    (first | (go_at_call 86; (with_reducible refine (HE.out _).mono ?_); rintro e w1 ⟨rfl, hb⟩; have B1 := Aside0.mk hb; have c0 := (hb.cell (World.block_lt_of_cell? _ _ c0)).trans c0; have c1 := (hb.cell (World.block_lt_of_cell? _ _ c1)).trans c1; clear hb))
  all_goals go_wp2
  all_goals go_ret
  all_goals exact ⟨by rw [HT.out]; rfl, by first | exact B1.out | exact below_step (below_drew1 (Below.refl _ _)) B1.out⟩
theorem na_Requirements_true (g : Nat) (w : World) : (nilAhead 252 68 (.pointer (some ⟨g, 0, none⟩)) "Requirements").run Tryd.prog w = .ok (some false) w := by kernel_rfl
theorem me_Requirements_true (g : Nat) (w : World) : (method 252 68 (.pointer (some ⟨g, 0, none⟩)) "Requirements").run Tryd.prog w = .ok (91, .pointer (some ⟨g, 0, none⟩)) w := by kernel_rfl
theorem na_String_true (g : Nat) (w : World) : (nilAhead 252 68 (.pointer (some ⟨g, 0, none⟩)) "String").run Tryd.prog w = .ok (some false) w := by kernel_rfl
theorem me_String_true (g : Nat) (w : World) : (method 252 68 (.pointer (some ⟨g, 0, none⟩)) "String").run Tryd.prog w = .ok (93, .pointer (some ⟨g, 0, none⟩)) w := by kernel_rfl

set_option maxRecDepth 100000 in
set_option maxHeartbeats 4000000 in
theorem req_false (g : Nat) (f v : ByteArray) (w : World) (h : TermAt w (false, g) (false, f, v)) :
    Calls Tryd.prog 82 #[.pointer (some ⟨g, 0, none⟩)] w fun e w' => ToldQ w w' e [rqS (false, f, v)] := by
  have mixed : Tryd.prog.follows .mixedOrders = true := by kernel_rfl
  have hu := Tryd.underlying67
  have c0 : w.cell? ⟨g, 0, none⟩ = some (.string f) := blk_cell h.2 0
  have c1 : w.cell? ⟨g, 1, none⟩ = some (.string v) := blk_cell h.2 1
  clear h
  go_enter Tryd.func82, Tryd.ntmps82
  go_wp2
  go_region_held3 (fun w' => w'.cell? ⟨g, 0, none⟩ = some (.string f) ∧ w'.cell? ⟨g, 1, none⟩ = some (.string v)) (first | exact ⟨c0, c1⟩ | exact ⟨((below_drew1 (below_alloc (Below.refl w.heap.size w) _)).cell (World.block_lt_of_cell? w _ c0)).trans c0, ((below_drew1 (below_alloc (Below.refl w.heap.size w) _)).cell (World.block_lt_of_cell? w _ c1)).trans c1⟩) (first | fail)
  all_goals go_wp2
  all_goals go_ret
  all_goals exact ⟨⟨some ⟨w.heap.size, 0, none⟩, 1, rfl, row1 w.drew (rqS (false, f, v)) _, Nat.le_refl _⟩, below_alloc (below_drew1 (Below.refl _ _)) _⟩
set_option maxRecDepth 100000 in
set_option maxHeartbeats 4000000 in
theorem text_false (g : Nat) (f v : ByteArray) (w : World) (h : TermAt w (false, g) (false, f, v)) (hf : f.size ≤ 2147483647) (hv : v.size ≤ 2147483647) :
    Calls Tryd.prog 84 #[.pointer (some ⟨g, 0, none⟩)] w fun e w' => e = .returned (.string (txt (false, f, v))) ∧ Below w.heap.size w w' := by
  have mixed : Tryd.prog.follows .mixedOrders = true := by kernel_rfl
  have hu := Tryd.underlying67
  have c0 : w.cell? ⟨g, 0, none⟩ = some (.string f) := blk_cell h.2 0
  have c1 : w.cell? ⟨g, 1, none⟩ = some (.string v) := blk_cell h.2 1
  have HE : Aside0 (∀ w1 : World, Calls Tryd.prog 86 #[.string v] w1 fun e w' => e = .returned (.string (mk (esc v.data.toList))) ∧ Below w1.heap.size w1 w') := ⟨fun w1 => FdE.escape_any v hv w1⟩
  have hel : (mk (esc v.data.toList)).size ≤ 4294967296 := by
    rw [size_len]; have := esc_len v.data.toList; rw [← size_len] at this; show (esc v.data.toList).length ≤ _; omega
  have s1 := ByteArray.size_append (a := f) (b := (⟨#[33, 61]⟩ : ByteArray))
  have s2 : (⟨#[33, 61]⟩ : ByteArray).size = 2 := rfl
  have z1 : (f.size + 2 ≤ 9223372036854775807) = True := eq_true (by omega)
  have z2 : (9223372036854775807 < f.size + 2) = False := eq_false (by omega)
  have z3 : ((f ++ (⟨#[33, 61]⟩ : ByteArray)).size + (mk (esc v.data.toList)).size ≤ 9223372036854775807) = True := eq_true (by omega)
  have z4 : (9223372036854775807 < (f ++ (⟨#[33, 61]⟩ : ByteArray)).size + (mk (esc v.data.toList)).size) = False := eq_false (by omega)
  have z5 : (f.size + 2 + (mk (esc v.data.toList)).size ≤ 9223372036854775807) = True := eq_true (by omega)
  have z6 : (9223372036854775807 < f.size + 2 + (mk (esc v.data.toList)).size) = False := eq_false (by omega)
  have HT : Aside0 (txt (false, f, v) = f ++ (⟨#[33, 61]⟩ : ByteArray) ++ mk (esc v.data.toList)) := ⟨rfl⟩
  generalize hx : mk (esc v.data.toList) = x at HE hel z3 z4 z5 z6 HT
  clear h hx hv s1 s2 hel hf
  go_enter Tryd.func84, Tryd.ntmps84
  go_wp2
  go_region_held3 (fun w' => w'.cell? ⟨g, 0, none⟩ = some (.string f) ∧ w'.cell? ⟨g, 1, none⟩ = some (.string v)) (first | exact ⟨c0, c1⟩)
    (first | (go_at_call 86; (with_reducible refine (HE.out _).mono ?_); rintro e w1 ⟨rfl, hb⟩; have B1 := Aside0.mk hb; have c0 := (hb.cell (World.block_lt_of_cell? _ _ c0)).trans c0; have c1 := (hb.cell (World.block_lt_of_cell? _ _ c1)).trans c1; clear hb))
  all_goals go_wp2
  all_goals go_ret
  all_goals exact ⟨by rw [HT.out]; rfl, by first | exact B1.out | exact below_step (below_drew1 (Below.refl _ _)) B1.out⟩
theorem na_Requirements_false (g : Nat) (w : World) : (nilAhead 252 65 (.pointer (some ⟨g, 0, none⟩)) "Requirements").run Tryd.prog w = .ok (some false) w := by kernel_rfl
theorem me_Requirements_false (g : Nat) (w : World) : (method 252 65 (.pointer (some ⟨g, 0, none⟩)) "Requirements").run Tryd.prog w = .ok (82, .pointer (some ⟨g, 0, none⟩)) w := by kernel_rfl
theorem na_String_false (g : Nat) (w : World) : (nilAhead 252 65 (.pointer (some ⟨g, 0, none⟩)) "String").run Tryd.prog w = .ok (some false) w := by kernel_rfl
theorem me_String_false (g : Nat) (w : World) : (method 252 65 (.pointer (some ⟨g, 0, none⟩)) "String").run Tryd.prog w = .ok (84, .pointer (some ⟨g, 0, none⟩)) w := by kernel_rfl

theorem na_Requirements_and (A : Option Addr) (n c : Nat) (w : World) : (nilAhead 252 71 (.slice A n c) "Requirements").run Tryd.prog w = .ok (some false) w := by kernel_rfl
theorem me_Requirements_and (A : Option Addr) (n c : Nat) (w : World) : (method 252 71 (.slice A n c) "Requirements").run Tryd.prog w = .ok (98, .slice A n c) w := by kernel_rfl
theorem na_String_and (A : Option Addr) (n c : Nat) (w : World) : (nilAhead 252 71 (.slice A n c) "String").run Tryd.prog w = .ok (some false) w := by kernel_rfl
theorem me_String_and (A : Option Addr) (n c : Nat) (w : World) : (method 252 71 (.slice A n c) "String").run Tryd.prog w = .ok (100, .slice A n c) w := by kernel_rfl
end Go.Proofs.YtmehecpmhijfmaaDoor.Fd
