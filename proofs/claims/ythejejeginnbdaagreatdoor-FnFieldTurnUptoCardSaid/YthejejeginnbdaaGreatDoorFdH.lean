/- What a selector tells: its requirements, its text. -/
import Derived.Test.YthejejeginnbdaaGreatDoorFdP
import Derived.Test.YthejejeginnbdaaGreatDoorFdE
import Derived.Test.YthejejeginnbdaaGreatDoorShelf
import Derived.Test.YthejejeginnbdaaGreatDoorFdA
set_option linter.unusedVariables false
set_option linter.unusedSimpArgs false
namespace Go.Proofs.YthejejeginnbdaaGreatDoor.Fd
open Go Go.RowKit Go.Maps Go.Proofs.YthejejeginnbdaaGreatDoorW.PrintWords Go.Proofs.YthejejeginnbdaaGreatDoor.Txt Go.Proofs.YthejejeginnbdaaGreatDoor Go.Proofs.YthejejeginnbdaaGreatDoor.PFnFieldTurn Go.Proofs.YthejejeginnbdaaGreatDoor.EscN Go.Proofs.YthejejeginnbdaaGreatDoor.FdN Go.Proofs.YthejejeginnbdaaGreatDoor.FdC Go.Proofs.YthejejeginnbdaaGreatDoor.FdS Go.Proofs.YthejejeginnbdaaGreatDoor.FdU

theorem infoQ : (Tryz.prog.info? 81).map (fun i => (i.zero, i.size, i.bytes)) = some (some (.agg #[(.string ⟨#[]⟩), (.string ⟨#[]⟩), (.string ⟨#[]⟩)]), 3, 48) := by kernel_rfl
theorem infoT : (Tryz.prog.info? 26).map (fun i => (i.zero, i.size, i.bytes)) = some (some (.agg #[(.string ⟨#[]⟩), (.string ⟨#[]⟩), (.string ⟨#[]⟩)]), 3, 48) := by kernel_rfl
theorem infoS : (Tryz.prog.info? 9).map (fun i => (i.zero, i.size, i.bytes)) = some (some (.string ⟨#[]⟩), 1, 16) := by kernel_rfl
def opB (b : Bool) : ByteArray := if b then ⟨#[61]⟩ else ⟨#[33, 61]⟩
/-- A term as a requirement. -/
def rqS (t : Tm) : S26 := ⟨opB t.1, t.2.1, t.2.2⟩
abbrev kT : Kd S26 := k26
theorem row1 (w : World) (x : S26) (e : TypeId) : kT.C (w.alloc (.cells #[.string x.f0, .string x.f1, .string x.f2] e)) (some ⟨w.heap.size, 0, none⟩) 1 [x] := by
  refine ⟨rfl, by omega, fun _ => ⟨_, rfl, fun j p hj => ?_⟩⟩
  cases j with
  | succ j => simp at hj
  | zero =>
    simp at hj
    subst hj
    refine ⟨[.string x.f0, .string x.f1, .string x.f2], rfl, k26_mk _ x, fun i u hi => ?_⟩
    have hb := blk_new w (.cells #[.string x.f0, .string x.f1, .string x.f2] e)
    match i, hi with
    | 0, hi => simp at hi; subst hi; exact blk_cell hb 0
    | 1, hi => simp at hi; subst hi; exact blk_cell hb 1
    | 2, hi => simp at hi; subst hi; exact blk_cell hb 2
/-- What a term tells as its requirements. -/
def ToldQ (w w' : World) (e : Ending) (L : List S26) : Prop := (∃ A c, e = .returned (.slice A L.length c) ∧ kT.C w' A L.length L ∧ L.length ≤ c) ∧ Below w.heap.size w w'
/-- A term's text. -/
def txt (t : Tm) : ByteArray := t.2.1 ++ (if t.1 then (⟨#[61]⟩ : ByteArray) else ⟨#[33, 61]⟩) ++ mk (esc t.2.2.data.toList)

set_option maxRecDepth 100000 in
set_option maxHeartbeats 4000000 in
theorem req_true (g : Nat) (f v : ByteArray) (w : World) (h : TermAt w (true, g) (true, f, v)) :
    Calls Tryz.prog 109 #[.pointer (some ⟨g, 0, none⟩)] w fun e w' => ToldQ w w' e [rqS (true, f, v)] := by
  have mixed : Tryz.prog.follows .mixedOrders = true := by kernel_rfl
  have hu := Tryz.underlying75
  have c0 : w.cell? ⟨g, 0, none⟩ = some (.string f) := blk_cell h.2 0
  have c1 : w.cell? ⟨g, 1, none⟩ = some (.string v) := blk_cell h.2 1
  clear h
  go_enter Tryz.func109, Tryz.ntmps109
  go_wp2
  go_region_held3 (fun w' => w'.cell? ⟨g, 0, none⟩ = some (.string f) ∧ w'.cell? ⟨g, 1, none⟩ = some (.string v)) (first | exact ⟨c0, c1⟩ | exact ⟨((below_drew1 (below_alloc (Below.refl w.heap.size w) _)).cell (World.block_lt_of_cell? w _ c0)).trans c0, ((below_drew1 (below_alloc (Below.refl w.heap.size w) _)).cell (World.block_lt_of_cell? w _ c1)).trans c1⟩) (first | fail)
  all_goals go_wp2
  all_goals go_ret
  all_goals exact ⟨⟨some ⟨w.heap.size, 0, none⟩, 1, rfl, row1 w.drew (rqS (true, f, v)) _, Nat.le_refl _⟩, below_alloc (below_drew1 (Below.refl _ _)) _⟩
set_option maxRecDepth 100000 in
set_option maxHeartbeats 4000000 in
theorem text_true (g : Nat) (f v : ByteArray) (w : World) (h : TermAt w (true, g) (true, f, v)) (hf : f.size ≤ 2147483647) (hv : v.size ≤ 2147483647) :
    Calls Tryz.prog 111 #[.pointer (some ⟨g, 0, none⟩)] w fun e w' => e = .returned (.string (txt (true, f, v))) ∧ Below w.heap.size w w' := by
  have mixed : Tryz.prog.follows .mixedOrders = true := by kernel_rfl
  have hu := Tryz.underlying75
  have c0 : w.cell? ⟨g, 0, none⟩ = some (.string f) := blk_cell h.2 0
  have c1 : w.cell? ⟨g, 1, none⟩ = some (.string v) := blk_cell h.2 1
  have HE : Aside0 (∀ w1 : World, Calls Tryz.prog 104 #[.string v] w1 fun e w' => e = .returned (.string (mk (esc v.data.toList))) ∧ Below w1.heap.size w1 w') := ⟨fun w1 => FdE.escape_any v hv w1⟩
  have hel : (mk (esc v.data.toList)).size ≤ 8589934592 := by
    rw [size_len]; have := esc_len v.data.toList; rw [← size_len] at this; show (esc v.data.toList).length ≤ _; omega
  have s1 := ByteArray.size_append (a := f) (b := (⟨#[61]⟩ : ByteArray))
  have s2 : (⟨#[61]⟩ : ByteArray).size = 1 := rfl
  have z1 : (f.size + 1 ≤ 9223372036854775807) = True := eq_true (by omega)
  have z2 : (9223372036854775807 < f.size + 1) = False := eq_false (by omega)
  have z3 : ((f ++ (⟨#[61]⟩ : ByteArray)).size + (mk (esc v.data.toList)).size ≤ 9223372036854775807) = True := eq_true (by omega)
  have z4 : (9223372036854775807 < (f ++ (⟨#[61]⟩ : ByteArray)).size + (mk (esc v.data.toList)).size) = False := eq_false (by omega)
  have z5 : (f.size + 1 + (mk (esc v.data.toList)).size ≤ 9223372036854775807) = True := eq_true (by omega)
  have z6 : (9223372036854775807 < f.size + 1 + (mk (esc v.data.toList)).size) = False := eq_false (by omega)
  have HT : Aside0 (txt (true, f, v) = f ++ (⟨#[61]⟩ : ByteArray) ++ mk (esc v.data.toList)) := ⟨rfl⟩
  generalize hx : mk (esc v.data.toList) = x at HE hel z3 z4 z5 z6 HT
  clear h hx hv s1 s2 hel hf
  go_enter Tryz.func111, Tryz.ntmps111
  go_wp2
  go_region_held3 (fun w' => w'.cell? ⟨g, 0, none⟩ = some (.string f) ∧ w'.cell? ⟨g, 1, none⟩ = some (.string v)) (first | exact ⟨c0, c1⟩)
    (first | (go_at_call 104; (with_reducible refine (HE.out _).mono ?_); rintro e w1 ⟨rfl, hb⟩; have B1 := Aside0.mk hb; have c0 := (hb.cell (World.block_lt_of_cell? _ _ c0)).trans c0; have c1 := (hb.cell (World.block_lt_of_cell? _ _ c1)).trans c1; clear hb))
  all_goals go_wp2
  all_goals go_ret
  all_goals exact ⟨by rw [HT.out]; rfl, by first | exact B1.out | exact below_step (below_drew1 (Below.refl _ _)) B1.out⟩
theorem na_Requirements_true (g : Nat) (w : World) : (nilAhead 268 74 (.pointer (some ⟨g, 0, none⟩)) "Requirements").run Tryz.prog w = .ok (some false) w := by kernel_rfl
theorem me_Requirements_true (g : Nat) (w : World) : (method 268 74 (.pointer (some ⟨g, 0, none⟩)) "Requirements").run Tryz.prog w = .ok (109, .pointer (some ⟨g, 0, none⟩)) w := by kernel_rfl
theorem na_String_true (g : Nat) (w : World) : (nilAhead 268 74 (.pointer (some ⟨g, 0, none⟩)) "String").run Tryz.prog w = .ok (some false) w := by kernel_rfl
theorem me_String_true (g : Nat) (w : World) : (method 268 74 (.pointer (some ⟨g, 0, none⟩)) "String").run Tryz.prog w = .ok (111, .pointer (some ⟨g, 0, none⟩)) w := by kernel_rfl

set_option maxRecDepth 100000 in
set_option maxHeartbeats 4000000 in
theorem req_false (g : Nat) (f v : ByteArray) (w : World) (h : TermAt w (false, g) (false, f, v)) :
    Calls Tryz.prog 100 #[.pointer (some ⟨g, 0, none⟩)] w fun e w' => ToldQ w w' e [rqS (false, f, v)] := by
  have mixed : Tryz.prog.follows .mixedOrders = true := by kernel_rfl
  have hu := Tryz.underlying73
  have c0 : w.cell? ⟨g, 0, none⟩ = some (.string f) := blk_cell h.2 0
  have c1 : w.cell? ⟨g, 1, none⟩ = some (.string v) := blk_cell h.2 1
  clear h
  go_enter Tryz.func100, Tryz.ntmps100
  go_wp2
  go_region_held3 (fun w' => w'.cell? ⟨g, 0, none⟩ = some (.string f) ∧ w'.cell? ⟨g, 1, none⟩ = some (.string v)) (first | exact ⟨c0, c1⟩ | exact ⟨((below_drew1 (below_alloc (Below.refl w.heap.size w) _)).cell (World.block_lt_of_cell? w _ c0)).trans c0, ((below_drew1 (below_alloc (Below.refl w.heap.size w) _)).cell (World.block_lt_of_cell? w _ c1)).trans c1⟩) (first | fail)
  all_goals go_wp2
  all_goals go_ret
  all_goals exact ⟨⟨some ⟨w.heap.size, 0, none⟩, 1, rfl, row1 w.drew (rqS (false, f, v)) _, Nat.le_refl _⟩, below_alloc (below_drew1 (Below.refl _ _)) _⟩
set_option maxRecDepth 100000 in
set_option maxHeartbeats 4000000 in
theorem text_false (g : Nat) (f v : ByteArray) (w : World) (h : TermAt w (false, g) (false, f, v)) (hf : f.size ≤ 2147483647) (hv : v.size ≤ 2147483647) :
    Calls Tryz.prog 102 #[.pointer (some ⟨g, 0, none⟩)] w fun e w' => e = .returned (.string (txt (false, f, v))) ∧ Below w.heap.size w w' := by
  have mixed : Tryz.prog.follows .mixedOrders = true := by kernel_rfl
  have hu := Tryz.underlying73
  have c0 : w.cell? ⟨g, 0, none⟩ = some (.string f) := blk_cell h.2 0
  have c1 : w.cell? ⟨g, 1, none⟩ = some (.string v) := blk_cell h.2 1
  have HE : Aside0 (∀ w1 : World, Calls Tryz.prog 104 #[.string v] w1 fun e w' => e = .returned (.string (mk (esc v.data.toList))) ∧ Below w1.heap.size w1 w') := ⟨fun w1 => FdE.escape_any v hv w1⟩
  have hel : (mk (esc v.data.toList)).size ≤ 8589934592 := by
    rw [size_len]; have := esc_len v.data.toList; rw [← size_len] at this; show (esc v.data.toList).length ≤ _; omega
  have s1 := ByteArray.size_append (a := f) (b := (⟨#[33, 61]⟩ : ByteArray))
  have s2 : (⟨#[33, 61]⟩ : ByteArray).size = 2 := rfl
  have z1 : (f.size + 2 ≤ 9223372036854775807) = True := eq_true (by omega)
  have z2 : (9223372036854775807 < f.size + 2) = False := eq_false (by omega)
  have z3 : ((f ++ (⟨#[33, 61]⟩ : ByteArray)).size + (mk (esc v.data.toList)).size ≤ 9223372036854775807) = True := eq_true (by omega)
  have z4 : (9223372036854775807 < (f ++ (⟨#[33, 61]⟩ : ByteArray)).size + (mk (esc v.data.toList)).size) = False := eq_false (by omega)
  have z5 : (f.size + 2 + (mk (esc v.data.toList)).size ≤ 9223372036854775807) = True := eq_true (by omega)
  have z6 : (9223372036854775807 < f.size + 2 + (mk (esc v.data.toList)).size) = False := eq_false (by omega)
  have HT : Aside0 (txt (false, f, v) = f ++ (⟨#[33, 61]⟩ : ByteArray) ++ mk (esc v.data.toList)) := ⟨rfl⟩
  generalize hx : mk (esc v.data.toList) = x at HE hel z3 z4 z5 z6 HT
  clear h hx hv s1 s2 hel hf
  go_enter Tryz.func102, Tryz.ntmps102
  go_wp2
  go_region_held3 (fun w' => w'.cell? ⟨g, 0, none⟩ = some (.string f) ∧ w'.cell? ⟨g, 1, none⟩ = some (.string v)) (first | exact ⟨c0, c1⟩)
    (first | (go_at_call 104; (with_reducible refine (HE.out _).mono ?_); rintro e w1 ⟨rfl, hb⟩; have B1 := Aside0.mk hb; have c0 := (hb.cell (World.block_lt_of_cell? _ _ c0)).trans c0; have c1 := (hb.cell (World.block_lt_of_cell? _ _ c1)).trans c1; clear hb))
  all_goals go_wp2
  all_goals go_ret
  all_goals exact ⟨by rw [HT.out]; rfl, by first | exact B1.out | exact below_step (below_drew1 (Below.refl _ _)) B1.out⟩
theorem na_Requirements_false (g : Nat) (w : World) : (nilAhead 268 71 (.pointer (some ⟨g, 0, none⟩)) "Requirements").run Tryz.prog w = .ok (some false) w := by kernel_rfl
theorem me_Requirements_false (g : Nat) (w : World) : (method 268 71 (.pointer (some ⟨g, 0, none⟩)) "Requirements").run Tryz.prog w = .ok (100, .pointer (some ⟨g, 0, none⟩)) w := by kernel_rfl
theorem na_String_false (g : Nat) (w : World) : (nilAhead 268 71 (.pointer (some ⟨g, 0, none⟩)) "String").run Tryz.prog w = .ok (some false) w := by kernel_rfl
theorem me_String_false (g : Nat) (w : World) : (method 268 71 (.pointer (some ⟨g, 0, none⟩)) "String").run Tryz.prog w = .ok (102, .pointer (some ⟨g, 0, none⟩)) w := by kernel_rfl

theorem na_Requirements_and (A : Option Addr) (n c : Nat) (w : World) : (nilAhead 268 91 (.slice A n c) "Requirements").run Tryz.prog w = .ok (some false) w := by kernel_rfl
theorem me_Requirements_and (A : Option Addr) (n c : Nat) (w : World) : (method 268 91 (.slice A n c) "Requirements").run Tryz.prog w = .ok (120, .slice A n c) w := by kernel_rfl
theorem na_String_and (A : Option Addr) (n c : Nat) (w : World) : (nilAhead 268 91 (.slice A n c) "String").run Tryz.prog w = .ok (some false) w := by kernel_rfl
theorem me_String_and (A : Option Addr) (n c : Nat) (w : World) : (method 268 91 (.slice A n c) "String").run Tryz.prog w = .ok (122, .slice A n c) w := by kernel_rfl
end Go.Proofs.YthejejeginnbdaaGreatDoor.Fd

/- What a selector tells: its requirements, its text; impl.FieldParse. -/
set_option linter.unusedVariables false
set_option linter.unusedSimpArgs false
namespace Go.Proofs.YthejejeginnbdaaGreatDoor.Fd
open Go Go.RowKit Go.Maps Go.Proofs.YthejejeginnbdaaGreatDoorW.PrintWords Go.Proofs.YthejejeginnbdaaGreatDoor.Txt Go.Proofs.YthejejeginnbdaaGreatDoor Go.Proofs.YthejejeginnbdaaGreatDoor.PFnFieldTurn Go.Proofs.YthejejeginnbdaaGreatDoor.EscN Go.Proofs.YthejejeginnbdaaGreatDoor.FdN Go.Proofs.YthejejeginnbdaaGreatDoor.FdC Go.Proofs.YthejejeginnbdaaGreatDoor.FdS Go.Proofs.YthejejeginnbdaaGreatDoor.FdU

theorem make_reqs (n : Nat) (hn : n ≤ 8589934592) : ∃ cs0 : Array Value, cs0.size = n * 3 ∧ ∀ W, Sem.run Tryz.prog (Instr.makeSlice 76 (.int .i64 0) (.int .i64 (n : Int))) W = .ok (.slice (some ⟨W.heap.size, 0, none⟩) 0 n) (W.alloc (.cells cs0 81)) := by
  obtain ⟨i0, hi, hz0, hz1, hz2⟩ := info_parts infoQ
  refine ⟨madeCells (Value.agg #[(.string ⟨#[]⟩), (.string ⟨#[]⟩), (.string ⟨#[]⟩)]).cells (n * i0.size), ?_, fun W => ?_⟩
  rotate_left
  · have := run_make (P := Tryz.prog) W 76 81 i0 _ Tryz.underlying76 hi hz0 .i64 .i64 (0 : Int) (n : Int) (by omega) (by omega) (by rw [hz2]; omega) (by omega)
    simp only [Int.toNat_natCast] at this
    exact this
  · rw [size_madeCells, hz1]
theorem m_of_k (W : World) (base : Nat) (ok : Nat → Prop) (x : S26) (cs : List Value) (h : kT.K W x cs) : kT.M W base ok x cs := by
  obtain rfl := k26_open h
  exact k26_mkM _ _ _ x
set_option maxRecDepth 1000000 in
set_option maxHeartbeats 12800000 in
theorem andReq_any (A : Option Addr) (c : Nat) (xs : List (Bool × Nat)) (L : List Tm) (w : World) (hC : kI.C w A xs.length xs) (hT : Terms w xs L) (hl : L.length ≤ 8589934592) :
    Calls Tryz.prog 120 #[.slice A L.length c] w fun e w' => ToldQ w w' e (L.map rqS) := by
  have mixed : Tryz.prog.follows .mixedOrders = true := by kernel_rfl
  have HC := Aside0.mk hC
  have HT := Aside0.mk hT
  have HLL := Aside0.mk hl
  have hlen : xs.length = L.length := hT.len
  have HLEN := Aside0.mk hlen
  obtain ⟨cs0, hcs, hmk⟩ := make_reqs L.length hl
  have HR0 : Aside0 (Kd.R kT 81 (w.alloc (.cells cs0 81)) w.heap.size (fun _ => True) (.slice (some ⟨w.heap.size, 0, none⟩) 0 L.length) []) := ⟨by
    refine ⟨fun q hq => trivial, [], ⟨rfl, Or.inr ⟨w.heap.size, L.length, cs0, rfl, Nat.le_refl _, blk_new w _, Nat.zero_le _, by unfold maxLen; omega, by rw [hcs]; rfl, rfl⟩⟩, Reps.none _ _⟩⟩
  clear hC hT hl hlen hcs
  go_enter Tryz.func120, Tryz.ntmps120
  go_wp2
  clear hmk
  go_loopw [3, 12] (fun v i wr => ∃ (k : Nat), k ≤ L.length ∧ i = .int .i64 (k : Int) ∧ Aside0 (Kd.R kT 81 wr w.heap.size (fun _ => True) v ((L.take k).map rqS)) ∧ Aside0 (Below w.heap.size w wr)) (fun _ i _ => L.length - (intOf i).toNat)
  case atStart => exact ⟨0, Nat.zero_le _, rfl, HR0, ⟨below_alloc (Below.refl _ _) _⟩⟩
  case round =>
    clear HR0
    obtain ⟨k, hk, rfl, HY, HB⟩ := hrel
    by_cases hlt : k < L.length
    · have p : (0 ≤ (k : Int)) = True := eq_true (by omega)
      have q : ((k : Int) < (L.length : Int)) = True := eq_true (by omega)
      have w9 : wrap64 ((k : Int) + 1) = ((k + 1 : Nat) : Int) := Small.w64s k (by have := HLL.out; omega)
      have W9 := Aside0.mk w9
      obtain ⟨ad, rfl, hx⟩ := at_I (Kd.C_below HC.out HB.out) (k : Int) (by omega) (by have := HLEN.out; omega)
      rw [Int.toNat_natCast] at hx
      have ht := (HT.out.below HB.out).at k hlt
      have hkp : Aside0 ((L.take (k + 1)).map rqS = (L.take k).map rqS ++ [rqS L[k]]) := ⟨by rw [List.take_succ_eq_append_getElem hlt, List.map_append]; rfl⟩
      have HM := Aside0.mk (show L.length - (((k + 1 : Nat) : Int)).toNat < L.length - ((k : Int)).toNat by omega)
      have HK := Aside0.mk (show k + 1 ≤ L.length from hlt)
      have HYL : Aside0 (((L.take k).map rqS).length ≤ 8589934592) := ⟨by rw [List.length_map, List.length_take]; have := HLL.out; omega⟩
      generalize rdOf (true, 0) xs (k : Int) = x at hx ht
      generalize L[k] = t at ht hkp
      generalize (L.take k).map rqS = ys at HY hkp HYL
      obtain ⟨b, f, v⟩ := t
      obtain ⟨xb, g⟩ := x
      obtain ⟨hb0, hblk⟩ := ht
      have hb1 : xb = b := hb0
      subst hb1
      obtain ⟨Ao, co, eo⟩ := Kd.R_slice HY.out
      subst eo
      clear hk hlt w9
      cases xb with
      | true =>
        have hx' : wr.cell? (ad.add k) = some (.iface 74 (.pointer (some ⟨g, 0, none⟩))) := hx
        clear hx
        have HRQ := Aside0.mk (req_true g f v wr ⟨rfl, hblk⟩)
        have nat := na_Requirements_true g
        have met := me_Requirements_true g
        clear hblk hb0
        go_wp2_with (first
          | (go_at_call 109; (with_reducible refine (HRQ.out).mono ?_); rintro e w1 ⟨⟨A1, c1, he, hc1, hl1⟩, hb⟩; replace he : e = .returned (.slice A1 1 c1) := he; subst he; have C1 := Aside0.mk hc1; have B1 := Aside0.mk (below_step HB.out hb); have Y1 := Aside0.mk (Kd.R_below HY.out hb); clear hb hc1 hl1)
          | ((with_reducible refine gate_builtin (b := .append) (xs := #[.tmp 18, .tmp 19]) rfl ?_); at_builtin; refine Kd.R_append_rows2 kT (w0 := w) w.heap.size rfl (.tmp 18) (.tmp 19) 76 77 81 (.agg #[(.string ⟨#[]⟩), (.string ⟨#[]⟩), (.string ⟨#[]⟩)]) 48 rfl Tryz.underlying76 Tryz.underlying77 infoQ rfl (by decide) (by decide) (.slice Ao ys.length co) ys [rqS (true, f, v)] A1 1 c1 (fun _ => True) (fun _ => False) rfl rfl ?aO ?aR (fun x cs h => m_of_k _ _ _ x cs h) (fun _ h => h.elim) (fun _ _ => trivial) ?aB ?aS ?aL ?_; (case aO => exact Y1.out); (case aR => exact C1.out); (case aB => exact B1.out); (case aS => exact below_size B1.out); (case aL => have := HYL.out; omega); intro v9 w9 ho hb hg hat; have YO := Aside0.mk ho; have BO := Aside0.mk hb; clear ho hb hg hat))
        go_roundw
        case measure => rw [W9.out]; exact HM.out
        case rel => exact ⟨k + 1, HK.out, by rw [W9.out], ⟨by rw [hkp.out]; exact YO.out⟩, BO⟩
      | false =>
        have hx' : wr.cell? (ad.add k) = some (.iface 71 (.pointer (some ⟨g, 0, none⟩))) := hx
        clear hx
        have HRQ := Aside0.mk (req_false g f v wr ⟨rfl, hblk⟩)
        have nat := na_Requirements_false g
        have met := me_Requirements_false g
        clear hblk hb0
        go_wp2_with (first
          | (go_at_call 100; (with_reducible refine (HRQ.out).mono ?_); rintro e w1 ⟨⟨A1, c1, he, hc1, hl1⟩, hb⟩; replace he : e = .returned (.slice A1 1 c1) := he; subst he; have C1 := Aside0.mk hc1; have B1 := Aside0.mk (below_step HB.out hb); have Y1 := Aside0.mk (Kd.R_below HY.out hb); clear hb hc1 hl1)
          | ((with_reducible refine gate_builtin (b := .append) (xs := #[.tmp 18, .tmp 19]) rfl ?_); at_builtin; refine Kd.R_append_rows2 kT (w0 := w) w.heap.size rfl (.tmp 18) (.tmp 19) 76 77 81 (.agg #[(.string ⟨#[]⟩), (.string ⟨#[]⟩), (.string ⟨#[]⟩)]) 48 rfl Tryz.underlying76 Tryz.underlying77 infoQ rfl (by decide) (by decide) (.slice Ao ys.length co) ys [rqS (false, f, v)] A1 1 c1 (fun _ => True) (fun _ => False) rfl rfl ?aO ?aR (fun x cs h => m_of_k _ _ _ x cs h) (fun _ h => h.elim) (fun _ _ => trivial) ?aB ?aS ?aL ?_; (case aO => exact Y1.out); (case aR => exact C1.out); (case aB => exact B1.out); (case aS => exact below_size B1.out); (case aL => have := HYL.out; omega); intro v9 w9 ho hb hg hat; have YO := Aside0.mk ho; have BO := Aside0.mk hb; clear ho hb hg hat))
        go_roundw
        case measure => rw [W9.out]; exact HM.out
        case rel => exact ⟨k + 1, HK.out, by rw [W9.out], ⟨by rw [hkp.out]; exact YO.out⟩, BO⟩
    · have q : ((k : Int) < (L.length : Int)) = False := eq_false (by omega)
      have hke : k = L.length := by omega
      subst hke
      have HY9 := HY.out
      rw [List.take_length] at HY9
      obtain ⟨A9, c9, e9, hl9, hC9⟩ := Kd.R_reads HY9
      subst e9
      have HC9 := Aside0.mk hC9
      have HL9 := Aside0.mk hl9
      clear HY9 hC9 hl9 hk hlt
      go_wp2
      go_ret
      exact ⟨⟨A9, c9, rfl, HC9.out, HL9.out⟩, HB.out⟩
/-- Terms as they are written. -/
def joinT (L : List Tm) : ByteArray := ⟨(Lib.join ((L.map txt).map (·.data.toList)) [44]).toArray⟩
theorem joinT_one (t : Tm) : joinT [t] = txt t := by
  unfold joinT
  apply ext
  rw [data_mk]
  simp [Lib.join]
theorem join_any (xs : List ByteArray) (base : Nat) (v : Value) (w : World) (hR : Kd.R Kd.string 9 w base (fun _ => True) v xs) (hn : xs.length ≤ 8589934592) (hs : (Lib.join (xs.map (·.data.toList)) [44]).length ≤ 140737488355328) :
    Calls Tryz.prog 89 #[v, .string ⟨#[44]⟩] w fun e w' => e = .returned (.string ⟨(Lib.join (xs.map (·.data.toList)) [44]).toArray⟩) ∧ Below w.heap.size w w' := by
  obtain ⟨A, c, rfl, hl, hC⟩ := Kd.R_reads hR
  obtain ⟨-, inner, hown, -⟩ := hR
  by_cases h0 : xs = []
  · subst h0
    refine (Tryz.strings_Join_none A c _ w).mono ?_
    rintro e w' ⟨rfl, rfl⟩
    exact ⟨rfl, Below.refl _ _⟩
  · have hpos : 0 < xs.length := List.length_pos_iff.2 h0
    rcases hown.2 with ⟨he, hn0⟩ | ⟨g, cap, cur, he, _, hb, _⟩
    · exact absurd hn0 (by omega)
    · injection he with hA _ hc
      subst hA
      subst hc
      have hg : g < w.heap.size := blk_lt hb
      refine (Tryz.strings_Join g 0 c xs (⟨#[44]⟩ : ByteArray) w (fun j x hj => ?_) hg (by omega) hl hs).mono fun e w' h => h
      have hjl : j < xs.length := (List.getElem?_eq_some_iff.1 hj).1
      obtain ⟨ad, ha, hx⟩ := ReadsOf.at_ (Kd.reads_of_C (enc := Value.string) (d := ByteArray.empty) hC) (j : Int) (by omega) (by omega)
      injection ha with ha
      subst ha
      rw [Int.toNat_natCast] at hx
      have : rdOf ByteArray.empty xs (j : Int) = x := by unfold rdOf; rw [Int.toNat_natCast, List.getD_eq_getElem?_getD, hj]; rfl
      rw [this] at hx
      have ha9 : (⟨g, 0, none⟩ : Addr).add j = ⟨g, 0 + j, none⟩ := by
        cases j with
        | zero => first | rfl | simp [Addr.add]
        | succ j => first | rfl | simp [Addr.add]
      rw [ha9] at hx
      exact hx
set_option maxRecDepth 1000000 in
set_option maxHeartbeats 12800000 in
theorem andText_any (A : Option Addr) (c : Nat) (xs : List (Bool × Nat)) (L : List Tm) (w : World) (hC : kI.C w A xs.length xs) (hT : Terms w xs L) (hl : L.length ≤ 8589934592) (hsz : ∀ t ∈ L, t.2.1.size ≤ 2147483647 ∧ t.2.2.size ≤ 2147483647) (hj : (joinT L).size ≤ 140737488355328) :
    Calls Tryz.prog 122 #[.slice A L.length c] w fun e w' => e = .returned (.string (joinT L)) ∧ Below w.heap.size w w' := by
  have mixed : Tryz.prog.follows .mixedOrders = true := by kernel_rfl
  have HC := Aside0.mk hC
  have HT := Aside0.mk hT
  have HLL := Aside0.mk hl
  have HSZ := Aside0.mk hsz
  have HJ := Aside0.mk hj
  have hlen : xs.length = L.length := hT.len
  have HLEN := Aside0.mk hlen
  clear hC hT hl hlen hsz hj
  go_enter Tryz.func122, Tryz.ntmps122
  go_wp2
  go_loopw [3, 8] (fun v i wr => ∃ (k : Nat), k ≤ L.length ∧ i = .int .i64 (k : Int) ∧ Aside0 (Kd.R Kd.string 9 wr w.heap.size (fun _ => True) v ((L.take k).map txt)) ∧ Aside0 (Below w.heap.size w wr)) (fun _ i _ => L.length - (intOf i).toNat)
  case atStart => exact ⟨0, Nat.zero_le _, rfl, ⟨Kd.R_nil _ _ _ _ _⟩, ⟨Below.refl _ _⟩⟩
  case round =>
    obtain ⟨k, hk, rfl, HY, HB⟩ := hrel
    by_cases hlt : k < L.length
    · have p : (0 ≤ (k : Int)) = True := eq_true (by omega)
      have q : ((k : Int) < (L.length : Int)) = True := eq_true (by omega)
      have w9 : wrap64 ((k : Int) + 1) = ((k + 1 : Nat) : Int) := Small.w64s k (by have := HLL.out; omega)
      have W9 := Aside0.mk w9
      obtain ⟨ad, rfl, hx⟩ := at_I (Kd.C_below HC.out HB.out) (k : Int) (by omega) (by have := HLEN.out; omega)
      rw [Int.toNat_natCast] at hx
      have ht := (HT.out.below HB.out).at k hlt
      have hkp : Aside0 ((L.take (k + 1)).map txt = (L.take k).map txt ++ [txt L[k]]) := ⟨by rw [List.take_succ_eq_append_getElem hlt, List.map_append]; rfl⟩
      have HM := Aside0.mk (show L.length - (((k + 1 : Nat) : Int)).toNat < L.length - ((k : Int)).toNat by omega)
      have HK := Aside0.mk (show k + 1 ≤ L.length from hlt)
      have HYL : Aside0 (((L.take k).map txt).length ≤ 8589934592) := ⟨by rw [List.length_map, List.length_take]; have := HLL.out; omega⟩
      have hst := HSZ.out _ (List.getElem_mem hlt)
      generalize rdOf (true, 0) xs (k : Int) = x at hx ht
      generalize L[k] = t at ht hkp hst
      generalize (L.take k).map txt = ys at HY hkp HYL
      obtain ⟨b, f, v⟩ := t
      obtain ⟨xb, g⟩ := x
      obtain ⟨hb0, hblk⟩ := ht
      have hb1 : xb = b := hb0
      subst hb1
      obtain ⟨Ao, co, eo⟩ := Kd.R_slice HY.out
      subst eo
      clear hk hlt w9
      cases xb with
      | true =>
        have hx' : wr.cell? (ad.add k) = some (.iface 74 (.pointer (some ⟨g, 0, none⟩))) := hx
        clear hx
        have HTX := Aside0.mk (text_true g f v wr ⟨rfl, hblk⟩ hst.1 hst.2)
        have nat := na_String_true g
        have met := me_String_true g
        generalize txt (true, f, v) = tx at HTX hkp
        clear hblk hb0 hst
        go_wp2_with (first
          | (go_at_call 111; (with_reducible refine (HTX.out).mono ?_); rintro e w1 ⟨rfl, hb⟩; have B1 := Aside0.mk (below_step HB.out hb); have Y1 := Aside0.mk (Kd.R_below HY.out hb); clear hb)
          | ((with_reducible refine gate_builtin (b := .append) (xs := #[.tmp 12, .tmp 15]) rfl ?_); at_builtin; refine Kd.R_append Kd.string (w0 := w) w.heap.size rfl (.tmp 12) (.tmp 15) 63 9 (.string ⟨#[]⟩) 16 rfl Tryz.underlying63 infoS rfl (by decide) (by decide) (.slice Ao ys.length co) ys tx [.string tx] (fun _ => True) (fun _ => False) rfl rfl ?aP (fun _ hk => hk.elim) (fun _ _ => trivial) ?aO ?aB ?aS ?aL ?_; (case aP => exact rfl); (case aB => exact B1.out); (case aO => exact Y1.out); (case aS => exact below_size B1.out); (case aL => have := HYL.out; omega); intro v9 w9 ho hb hg hat; have YO := Aside0.mk ho; have BO := Aside0.mk hb; clear ho hb hg hat))
        go_roundw
        case measure => rw [W9.out]; exact HM.out
        case rel => exact ⟨k + 1, HK.out, by rw [W9.out], ⟨by rw [hkp.out]; exact YO.out⟩, BO⟩
      | false =>
        have hx' : wr.cell? (ad.add k) = some (.iface 71 (.pointer (some ⟨g, 0, none⟩))) := hx
        clear hx
        have HTX := Aside0.mk (text_false g f v wr ⟨rfl, hblk⟩ hst.1 hst.2)
        have nat := na_String_false g
        have met := me_String_false g
        generalize txt (false, f, v) = tx at HTX hkp
        clear hblk hb0 hst
        go_wp2_with (first
          | (go_at_call 102; (with_reducible refine (HTX.out).mono ?_); rintro e w1 ⟨rfl, hb⟩; have B1 := Aside0.mk (below_step HB.out hb); have Y1 := Aside0.mk (Kd.R_below HY.out hb); clear hb)
          | ((with_reducible refine gate_builtin (b := .append) (xs := #[.tmp 12, .tmp 15]) rfl ?_); at_builtin; refine Kd.R_append Kd.string (w0 := w) w.heap.size rfl (.tmp 12) (.tmp 15) 63 9 (.string ⟨#[]⟩) 16 rfl Tryz.underlying63 infoS rfl (by decide) (by decide) (.slice Ao ys.length co) ys tx [.string tx] (fun _ => True) (fun _ => False) rfl rfl ?aP (fun _ hk => hk.elim) (fun _ _ => trivial) ?aO ?aB ?aS ?aL ?_; (case aP => exact rfl); (case aB => exact B1.out); (case aO => exact Y1.out); (case aS => exact below_size B1.out); (case aL => have := HYL.out; omega); intro v9 w9 ho hb hg hat; have YO := Aside0.mk ho; have BO := Aside0.mk hb; clear ho hb hg hat))
        go_roundw
        case measure => rw [W9.out]; exact HM.out
        case rel => exact ⟨k + 1, HK.out, by rw [W9.out], ⟨by rw [hkp.out]; exact YO.out⟩, BO⟩
    · have q : ((k : Int) < (L.length : Int)) = False := eq_false (by omega)
      have hke : k = L.length := by omega
      subst hke
      have HY9 := HY.out
      rw [List.take_length] at HY9
      have HJO := Aside0.mk (join_any (L.map txt) _ _ wr HY9 (by rw [List.length_map]; exact HLL.out) (by have := HJ.out; unfold joinT at this; rw [size_len, data_mk] at this; exact this))
      clear HY9 hk hlt
      go_wp2_with (first | (go_at_call 89; (with_reducible refine (HJO.out).mono ?_); rintro e w5 ⟨rfl, hb⟩; have B5 := Aside0.mk (below_step HB.out hb); clear hb))
      go_ret
      exact ⟨by first | rfl | (unfold joinT; rw [List.map_map]; rfl), B5.out⟩
end Go.Proofs.YthejejeginnbdaaGreatDoor.Fd

/- impl.FieldParse: terms and text. -/
set_option linter.unusedVariables false
set_option linter.unusedSimpArgs false
namespace Go.Proofs.YthejejeginnbdaaGreatDoor.Fd
open Go Go.RowKit Go.Maps Go.Proofs.YthejejeginnbdaaGreatDoorW.PrintWords Go.Proofs.YthejejeginnbdaaGreatDoor.Txt Go.Proofs.YthejejeginnbdaaGreatDoor Go.Proofs.YthejejeginnbdaaGreatDoor.PFnFieldTurn Go.Proofs.YthejejeginnbdaaGreatDoor.EscN Go.Proofs.YthejejeginnbdaaGreatDoor.FdN Go.Proofs.YthejejeginnbdaaGreatDoor.FdC Go.Proofs.YthejejeginnbdaaGreatDoor.FdS Go.Proofs.YthejejeginnbdaaGreatDoor.FdU

/-- A term as data. -/
def tmD (t : Tm) : S26 := ⟨t.2.1, opB t.1, t.2.2⟩
/-- What a selector tells as its terms. -/
def ToldD (w w' : World) (e : Ending) (L : List S26) : Prop := (∃ A c, e = .returned (.slice A L.length c) ∧ kT.C w' A L.length L ∧ L.length ≤ c) ∧ Below w.heap.size w w'
theorem rdQ {l : List S26} {i : Nat} (h : i < l.length) : rd_T26 l (i : Int) = l[i] := by simp [rd_T26, List.getD_eq_getElem?_getD, List.getElem?_eq_getElem h]
set_option maxRecDepth 1000000 in
set_option maxHeartbeats 12800000 in
theorem terms_true (g : Nat) (f v : ByteArray) (w : World) (h : TermAt w (true, g) (true, f, v)) :
    Calls Tryz.prog 19 #[.iface 74 (.pointer (some ⟨g, 0, none⟩))] w fun e w' => ToldD w w' e ([(true, f, v)].map tmD) := by
  have mixed : Tryz.prog.follows .mixedOrders = true := by kernel_rfl
  obtain ⟨L, hL⟩ : ∃ L : List Tm, L = [(true, f, v)] := ⟨_, rfl⟩
  have HRQ : Aside0 (Calls Tryz.prog 109 #[.pointer (some ⟨g, 0, none⟩)] w fun e w' => ToldQ w w' e (L.map rqS)) := ⟨by rw [hL]; exact req_true g f v w h⟩
  have HLL : Aside0 (L.length ≤ 8589934592) := ⟨by rw [hL]; show 1 ≤ 8589934592; omega⟩
  have na := na_Requirements_true g
  have me := me_Requirements_true g
  rw [← hL]
  clear h hL
  have hu := Tryz.underlying81
  have hn1 : (L.map rqS).length = L.length := List.length_map ..
  have HN1 := Aside0.mk hn1
  have HGET : Aside0 (∀ (k : Nat) (h : k < L.length), rd_T26 (L.map rqS) (k : Int) = rqS L[k]) := ⟨fun k h => by rw [rdQ (by rw [List.length_map]; exact h), List.getElem_map]⟩
  generalize L.map rqS = QS at HRQ hn1 HN1 HGET
  clear hn1
  go_enter Tryz.func19, Tryz.ntmps19
  go_wp2_with (first | (go_at_call 109; (with_reducible refine (HRQ.out).mono ?_); rintro e w1 ⟨⟨A1, c1, rfl, hc1, hl1⟩, hb⟩; have C1 := Aside0.mk hc1; have B1 := Aside0.mk hb; clear hb hc1 hl1))
  clear HRQ na me
  go_loopw [3, 9] (fun v i wr => ∃ (k : Nat), k ≤ L.length ∧ i = .int .i64 (k : Int) ∧ Aside0 (Kd.R kT 26 wr w1.heap.size (fun _ => True) v ((L.take k).map tmD)) ∧ Aside0 (Below w1.heap.size w1 wr)) (fun _ i _ => L.length - (intOf i).toNat)
  case atStart => exact ⟨0, Nat.zero_le _, rfl, ⟨Kd.R_nil _ _ _ _ _⟩, ⟨Below.refl _ _⟩⟩
  case round =>
    obtain ⟨k, hk, rfl, HY, HB⟩ := hrel
    by_cases hlt : k < L.length
    · have p : (0 ≤ (k : Int)) = True := eq_true (by omega)
      have q : ((k : Int) < (QS.length : Int)) = True := eq_true (by have := HN1.out; omega)
      have w9 : wrap64 ((k : Int) + 1) = ((k + 1 : Nat) : Int) := Small.w64s k (by have := HLL.out; omega)
      have W9 := Aside0.mk w9
      obtain ⟨ad, rfl, x0, x1, x2⟩ := at_T26 C1.out (k : Int) (by omega) (by have := HN1.out; omega)
      simp only [Int.toNat_natCast] at x0 x1 x2
      replace x0 := (HB.out.cell (World.block_lt_of_cell? w1 _ x0)).trans x0
      replace x1 := (HB.out.cell (World.block_lt_of_cell? w1 _ x1)).trans x1
      replace x2 := (HB.out.cell (World.block_lt_of_cell? w1 _ x2)).trans x2
      rw [HGET.out k hlt] at x0 x1 x2
      have hkp : Aside0 ((L.take (k + 1)).map tmD = (L.take k).map tmD ++ [tmD L[k]]) := ⟨by rw [List.take_succ_eq_append_getElem hlt, List.map_append]; rfl⟩
      have HM := Aside0.mk (show L.length - (((k + 1 : Nat) : Int)).toNat < L.length - ((k : Int)).toNat by omega)
      have HK := Aside0.mk (show k + 1 ≤ L.length from hlt)
      have HYL : Aside0 (((L.take k).map tmD).length ≤ 8589934592) := ⟨by rw [List.length_map, List.length_take]; have := HLL.out; omega⟩
      generalize L[k] = t at x0 x1 x2 hkp
      generalize (L.take k).map tmD = ys at HY hkp HYL
      obtain ⟨b, f, v⟩ := t
      replace x0 : wr.cell? (ad.add (k * 3)) = some (.string (opB b)) := x0
      replace x1 : wr.cell? ⟨(ad.add (k * 3)).block, (ad.add (k * 3)).off + 1, none⟩ = some (.string f) := x1
      replace x2 : wr.cell? ⟨(ad.add (k * 3)).block, (ad.add (k * 3)).off + 2, none⟩ = some (.string v) := x2
      have hkp' : Aside0 ((L.take (k + 1)).map tmD = ys ++ [⟨f, opB b, v⟩]) := hkp
      generalize opB b = o at x0 hkp'
      obtain ⟨Ao, co, eo⟩ := Kd.R_slice HY.out
      subst eo
      clear hk hlt w9 hkp
      go_wp2_with (first
        | ((with_reducible refine gate_builtin (b := .append) (xs := #[.tmp 13, .tmp 21]) rfl ?_); at_builtin; refine Kd.R_append kT (w0 := w1) w1.heap.size rfl (.tmp 13) (.tmp 21) 27 26 (.agg #[(.string ⟨#[]⟩), (.string ⟨#[]⟩), (.string ⟨#[]⟩)]) 48 rfl Tryz.underlying27 infoT rfl (by decide) (by decide) (.slice Ao ys.length co) ys (⟨f, o, v⟩ : S26) [.string f, .string o, .string v] (fun _ => True) (fun _ => False) rfl ?aX ?aP (fun _ hk => hk.elim) (fun _ _ => trivial) ?aO ?aB ?aS ?aL ?_; (case aX => first | rfl | (go_simp; done)); (case aP => exact k26_mkM _ _ _ (⟨f, o, v⟩ : S26)); (case aB => exact below_alloc HB.out _); (case aO => exact Kd.R_alloc HY.out _); (case aS => exact below_size (below_alloc HB.out _)); (case aL => have := HYL.out; omega); intro v9 w9 ho hb hg hat; have YO := Aside0.mk ho; have BO := Aside0.mk hb; clear ho hb hg hat))
      go_roundw
      case measure => rw [W9.out]; exact HM.out
      case rel => exact ⟨k + 1, HK.out, by rw [W9.out], ⟨by rw [hkp'.out]; exact YO.out⟩, BO⟩
    · have q : ((k : Int) < (QS.length : Int)) = False := eq_false (by have := HN1.out; omega)
      have hke : k = L.length := by omega
      subst hke
      have HY9 := HY.out
      rw [List.take_length] at HY9
      obtain ⟨A9, c9, e9, hl9, hC9⟩ := Kd.R_reads HY9
      subst e9
      have HC9 := Aside0.mk hC9
      have HL9 := Aside0.mk hl9
      clear HY9 hC9 hl9 hk hlt
      go_wp2
      go_ret
      exact ⟨⟨A9, c9, rfl, HC9.out, HL9.out⟩, below_step B1.out HB.out⟩
set_option maxRecDepth 1000000 in
set_option maxHeartbeats 12800000 in
theorem terms_false (g : Nat) (f v : ByteArray) (w : World) (h : TermAt w (false, g) (false, f, v)) :
    Calls Tryz.prog 19 #[.iface 71 (.pointer (some ⟨g, 0, none⟩))] w fun e w' => ToldD w w' e ([(false, f, v)].map tmD) := by
  have mixed : Tryz.prog.follows .mixedOrders = true := by kernel_rfl
  obtain ⟨L, hL⟩ : ∃ L : List Tm, L = [(false, f, v)] := ⟨_, rfl⟩
  have HRQ : Aside0 (Calls Tryz.prog 100 #[.pointer (some ⟨g, 0, none⟩)] w fun e w' => ToldQ w w' e (L.map rqS)) := ⟨by rw [hL]; exact req_false g f v w h⟩
  have HLL : Aside0 (L.length ≤ 8589934592) := ⟨by rw [hL]; show 1 ≤ 8589934592; omega⟩
  have na := na_Requirements_false g
  have me := me_Requirements_false g
  rw [← hL]
  clear h hL
  have hu := Tryz.underlying81
  have hn1 : (L.map rqS).length = L.length := List.length_map ..
  have HN1 := Aside0.mk hn1
  have HGET : Aside0 (∀ (k : Nat) (h : k < L.length), rd_T26 (L.map rqS) (k : Int) = rqS L[k]) := ⟨fun k h => by rw [rdQ (by rw [List.length_map]; exact h), List.getElem_map]⟩
  generalize L.map rqS = QS at HRQ hn1 HN1 HGET
  clear hn1
  go_enter Tryz.func19, Tryz.ntmps19
  go_wp2_with (first | (go_at_call 100; (with_reducible refine (HRQ.out).mono ?_); rintro e w1 ⟨⟨A1, c1, rfl, hc1, hl1⟩, hb⟩; have C1 := Aside0.mk hc1; have B1 := Aside0.mk hb; clear hb hc1 hl1))
  clear HRQ na me
  go_loopw [3, 9] (fun v i wr => ∃ (k : Nat), k ≤ L.length ∧ i = .int .i64 (k : Int) ∧ Aside0 (Kd.R kT 26 wr w1.heap.size (fun _ => True) v ((L.take k).map tmD)) ∧ Aside0 (Below w1.heap.size w1 wr)) (fun _ i _ => L.length - (intOf i).toNat)
  case atStart => exact ⟨0, Nat.zero_le _, rfl, ⟨Kd.R_nil _ _ _ _ _⟩, ⟨Below.refl _ _⟩⟩
  case round =>
    obtain ⟨k, hk, rfl, HY, HB⟩ := hrel
    by_cases hlt : k < L.length
    · have p : (0 ≤ (k : Int)) = True := eq_true (by omega)
      have q : ((k : Int) < (QS.length : Int)) = True := eq_true (by have := HN1.out; omega)
      have w9 : wrap64 ((k : Int) + 1) = ((k + 1 : Nat) : Int) := Small.w64s k (by have := HLL.out; omega)
      have W9 := Aside0.mk w9
      obtain ⟨ad, rfl, x0, x1, x2⟩ := at_T26 C1.out (k : Int) (by omega) (by have := HN1.out; omega)
      simp only [Int.toNat_natCast] at x0 x1 x2
      replace x0 := (HB.out.cell (World.block_lt_of_cell? w1 _ x0)).trans x0
      replace x1 := (HB.out.cell (World.block_lt_of_cell? w1 _ x1)).trans x1
      replace x2 := (HB.out.cell (World.block_lt_of_cell? w1 _ x2)).trans x2
      rw [HGET.out k hlt] at x0 x1 x2
      have hkp : Aside0 ((L.take (k + 1)).map tmD = (L.take k).map tmD ++ [tmD L[k]]) := ⟨by rw [List.take_succ_eq_append_getElem hlt, List.map_append]; rfl⟩
      have HM := Aside0.mk (show L.length - (((k + 1 : Nat) : Int)).toNat < L.length - ((k : Int)).toNat by omega)
      have HK := Aside0.mk (show k + 1 ≤ L.length from hlt)
      have HYL : Aside0 (((L.take k).map tmD).length ≤ 8589934592) := ⟨by rw [List.length_map, List.length_take]; have := HLL.out; omega⟩
      generalize L[k] = t at x0 x1 x2 hkp
      generalize (L.take k).map tmD = ys at HY hkp HYL
      obtain ⟨b, f, v⟩ := t
      replace x0 : wr.cell? (ad.add (k * 3)) = some (.string (opB b)) := x0
      replace x1 : wr.cell? ⟨(ad.add (k * 3)).block, (ad.add (k * 3)).off + 1, none⟩ = some (.string f) := x1
      replace x2 : wr.cell? ⟨(ad.add (k * 3)).block, (ad.add (k * 3)).off + 2, none⟩ = some (.string v) := x2
      have hkp' : Aside0 ((L.take (k + 1)).map tmD = ys ++ [⟨f, opB b, v⟩]) := hkp
      generalize opB b = o at x0 hkp'
      obtain ⟨Ao, co, eo⟩ := Kd.R_slice HY.out
      subst eo
      clear hk hlt w9 hkp
      go_wp2_with (first
        | ((with_reducible refine gate_builtin (b := .append) (xs := #[.tmp 13, .tmp 21]) rfl ?_); at_builtin; refine Kd.R_append kT (w0 := w1) w1.heap.size rfl (.tmp 13) (.tmp 21) 27 26 (.agg #[(.string ⟨#[]⟩), (.string ⟨#[]⟩), (.string ⟨#[]⟩)]) 48 rfl Tryz.underlying27 infoT rfl (by decide) (by decide) (.slice Ao ys.length co) ys (⟨f, o, v⟩ : S26) [.string f, .string o, .string v] (fun _ => True) (fun _ => False) rfl ?aX ?aP (fun _ hk => hk.elim) (fun _ _ => trivial) ?aO ?aB ?aS ?aL ?_; (case aX => first | rfl | (go_simp; done)); (case aP => exact k26_mkM _ _ _ (⟨f, o, v⟩ : S26)); (case aB => exact below_alloc HB.out _); (case aO => exact Kd.R_alloc HY.out _); (case aS => exact below_size (below_alloc HB.out _)); (case aL => have := HYL.out; omega); intro v9 w9 ho hb hg hat; have YO := Aside0.mk ho; have BO := Aside0.mk hb; clear ho hb hg hat))
      go_roundw
      case measure => rw [W9.out]; exact HM.out
      case rel => exact ⟨k + 1, HK.out, by rw [W9.out], ⟨by rw [hkp'.out]; exact YO.out⟩, BO⟩
    · have q : ((k : Int) < (QS.length : Int)) = False := eq_false (by have := HN1.out; omega)
      have hke : k = L.length := by omega
      subst hke
      have HY9 := HY.out
      rw [List.take_length] at HY9
      obtain ⟨A9, c9, e9, hl9, hC9⟩ := Kd.R_reads HY9
      subst e9
      have HC9 := Aside0.mk hC9
      have HL9 := Aside0.mk hl9
      clear HY9 hC9 hl9 hk hlt
      go_wp2
      go_ret
      exact ⟨⟨A9, c9, rfl, HC9.out, HL9.out⟩, below_step B1.out HB.out⟩
set_option maxRecDepth 1000000 in
set_option maxHeartbeats 12800000 in
theorem terms_and (A : Option Addr) (c : Nat) (xs : List (Bool × Nat)) (L : List Tm) (w : World) (hC : kI.C w A xs.length xs) (hT : Terms w xs L) (hl : L.length ≤ 8589934592) :
    Calls Tryz.prog 19 #[.iface 91 (.slice A L.length c)] w fun e w' => ToldD w w' e (L.map tmD) := by
  have mixed : Tryz.prog.follows .mixedOrders = true := by kernel_rfl
  have HRQ := Aside0.mk (andReq_any A c xs L w hC hT hl)
  have HLL := Aside0.mk hl
  have na := na_Requirements_and A L.length c
  have me := me_Requirements_and A L.length c
  clear hC hT hl
  have hu := Tryz.underlying81
  have hn1 : (L.map rqS).length = L.length := List.length_map ..
  have HN1 := Aside0.mk hn1
  have HGET : Aside0 (∀ (k : Nat) (h : k < L.length), rd_T26 (L.map rqS) (k : Int) = rqS L[k]) := ⟨fun k h => by rw [rdQ (by rw [List.length_map]; exact h), List.getElem_map]⟩
  generalize L.map rqS = QS at HRQ hn1 HN1 HGET
  clear hn1
  go_enter Tryz.func19, Tryz.ntmps19
  go_wp2_with (first | (go_at_call 120; (with_reducible refine (HRQ.out).mono ?_); rintro e w1 ⟨⟨A1, c1, rfl, hc1, hl1⟩, hb⟩; have C1 := Aside0.mk hc1; have B1 := Aside0.mk hb; clear hb hc1 hl1))
  clear HRQ na me
  go_loopw [3, 9] (fun v i wr => ∃ (k : Nat), k ≤ L.length ∧ i = .int .i64 (k : Int) ∧ Aside0 (Kd.R kT 26 wr w1.heap.size (fun _ => True) v ((L.take k).map tmD)) ∧ Aside0 (Below w1.heap.size w1 wr)) (fun _ i _ => L.length - (intOf i).toNat)
  case atStart => exact ⟨0, Nat.zero_le _, rfl, ⟨Kd.R_nil _ _ _ _ _⟩, ⟨Below.refl _ _⟩⟩
  case round =>
    obtain ⟨k, hk, rfl, HY, HB⟩ := hrel
    by_cases hlt : k < L.length
    · have p : (0 ≤ (k : Int)) = True := eq_true (by omega)
      have q : ((k : Int) < (QS.length : Int)) = True := eq_true (by have := HN1.out; omega)
      have w9 : wrap64 ((k : Int) + 1) = ((k + 1 : Nat) : Int) := Small.w64s k (by have := HLL.out; omega)
      have W9 := Aside0.mk w9
      obtain ⟨ad, rfl, x0, x1, x2⟩ := at_T26 C1.out (k : Int) (by omega) (by have := HN1.out; omega)
      simp only [Int.toNat_natCast] at x0 x1 x2
      replace x0 := (HB.out.cell (World.block_lt_of_cell? w1 _ x0)).trans x0
      replace x1 := (HB.out.cell (World.block_lt_of_cell? w1 _ x1)).trans x1
      replace x2 := (HB.out.cell (World.block_lt_of_cell? w1 _ x2)).trans x2
      rw [HGET.out k hlt] at x0 x1 x2
      have hkp : Aside0 ((L.take (k + 1)).map tmD = (L.take k).map tmD ++ [tmD L[k]]) := ⟨by rw [List.take_succ_eq_append_getElem hlt, List.map_append]; rfl⟩
      have HM := Aside0.mk (show L.length - (((k + 1 : Nat) : Int)).toNat < L.length - ((k : Int)).toNat by omega)
      have HK := Aside0.mk (show k + 1 ≤ L.length from hlt)
      have HYL : Aside0 (((L.take k).map tmD).length ≤ 8589934592) := ⟨by rw [List.length_map, List.length_take]; have := HLL.out; omega⟩
      generalize L[k] = t at x0 x1 x2 hkp
      generalize (L.take k).map tmD = ys at HY hkp HYL
      obtain ⟨b, f, v⟩ := t
      replace x0 : wr.cell? (ad.add (k * 3)) = some (.string (opB b)) := x0
      replace x1 : wr.cell? ⟨(ad.add (k * 3)).block, (ad.add (k * 3)).off + 1, none⟩ = some (.string f) := x1
      replace x2 : wr.cell? ⟨(ad.add (k * 3)).block, (ad.add (k * 3)).off + 2, none⟩ = some (.string v) := x2
      have hkp' : Aside0 ((L.take (k + 1)).map tmD = ys ++ [⟨f, opB b, v⟩]) := hkp
      generalize opB b = o at x0 hkp'
      obtain ⟨Ao, co, eo⟩ := Kd.R_slice HY.out
      subst eo
      clear hk hlt w9 hkp
      go_wp2_with (first
        | ((with_reducible refine gate_builtin (b := .append) (xs := #[.tmp 13, .tmp 21]) rfl ?_); at_builtin; refine Kd.R_append kT (w0 := w1) w1.heap.size rfl (.tmp 13) (.tmp 21) 27 26 (.agg #[(.string ⟨#[]⟩), (.string ⟨#[]⟩), (.string ⟨#[]⟩)]) 48 rfl Tryz.underlying27 infoT rfl (by decide) (by decide) (.slice Ao ys.length co) ys (⟨f, o, v⟩ : S26) [.string f, .string o, .string v] (fun _ => True) (fun _ => False) rfl ?aX ?aP (fun _ hk => hk.elim) (fun _ _ => trivial) ?aO ?aB ?aS ?aL ?_; (case aX => first | rfl | (go_simp; done)); (case aP => exact k26_mkM _ _ _ (⟨f, o, v⟩ : S26)); (case aB => exact below_alloc HB.out _); (case aO => exact Kd.R_alloc HY.out _); (case aS => exact below_size (below_alloc HB.out _)); (case aL => have := HYL.out; omega); intro v9 w9 ho hb hg hat; have YO := Aside0.mk ho; have BO := Aside0.mk hb; clear ho hb hg hat))
      go_roundw
      case measure => rw [W9.out]; exact HM.out
      case rel => exact ⟨k + 1, HK.out, by rw [W9.out], ⟨by rw [hkp'.out]; exact YO.out⟩, BO⟩
    · have q : ((k : Int) < (QS.length : Int)) = False := eq_false (by have := HN1.out; omega)
      have hke : k = L.length := by omega
      subst hke
      have HY9 := HY.out
      rw [List.take_length] at HY9
      obtain ⟨A9, c9, e9, hl9, hC9⟩ := Kd.R_reads HY9
      subst e9
      have HC9 := Aside0.mk hC9
      have HL9 := Aside0.mk hl9
      clear HY9 hC9 hl9 hk hlt
      go_wp2
      go_ret
      exact ⟨⟨A9, c9, rfl, HC9.out, HL9.out⟩, below_step B1.out HB.out⟩
theorem terms_any (v : Value) (L : List Tm) (w : World) (h : IsSel w v L) (hl : L.length ≤ 8589934592) : Calls Tryz.prog 19 #[v] w fun e w' => ToldD w w' e (L.map tmD) := by
  rcases h with ⟨t, g, rfl, rfl, ht⟩ | ⟨A, c, xs, rfl, hC, hT⟩
  · obtain ⟨b, f, v⟩ := t
    cases b with
    | true => exact terms_true g f v w ht
    | false => exact terms_false g f v w ht
  · exact terms_and A c xs L w hC hT hl

def ToldF (w' : World) (e : Ending) : Option (List Tm) → Prop
  | none => e = .returned (.tuple #[.slice none 0 0, .string ⟨#[]⟩, .bool true])
  | some I => ∃ A c, e = .returned (.tuple #[.slice A ((keep I).map tmD).length c, .string (joinT (keep I)), .bool false]) ∧ kT.C w' A ((keep I).map tmD).length ((keep I).map tmD) ∧ ((keep I).map tmD).length ≤ c
set_option maxRecDepth 1000000 in
set_option maxHeartbeats 12800000 in
theorem fieldParse_any (s : ByteArray) (K : Nat) (ts : List ByteArray) (hts : fields_splitTerms.f K s = some ts) (hvs : ∀ p ∈ ts, VOk p.data.toList) (hsz : ∀ p ∈ ts, p.size ≤ 8589934592) (hn : ts.length ≤ 8589934592) (w : World)
    (hI : ∀ I, items (srt (ts.map fun s => s.data.toList)) = some I → I.length ≤ 8589934592 ∧ (∀ t ∈ I, t.2.1.size ≤ 2147483647 ∧ t.2.2.size ≤ 2147483647) ∧ (joinT (keep I)).size ≤ 140737488355328) :
    Calls Tryz.prog 12 #[.string s] w fun e w' => ToldF w' e (items (srt (ts.map fun s => s.data.toList))) ∧ Below w.heap.size w w' := by
  have mixed : Tryz.prog.follows .mixedOrders = true := by kernel_rfl
  have HP := Aside0.mk (parse_any s K ts hts hvs hsz hn w)
  have HI := Aside0.mk hI
  clear hts hvs hsz hn hI
  cases hi : items (srt (ts.map fun s => s.data.toList)) with
  | none =>
    rw [hi] at HP
    clear hi HI
    have en1 : ∀ W (X : TypeId) (x : Value), (binOp .neq 60 (.iface X x) .nilIface).run Tryz.prog W = .ok (.bool true) W := fun W X x => by kernel_rfl
    go_enter Tryz.func12, Tryz.ntmps12
    go_wp2_with (first | (go_at_call 24; (with_reducible refine (HP.out).mono ?_); rintro e w1 ⟨ht, hb⟩; replace ht : ∃ (X : TypeId) (x : Value), e = .returned (.tuple #[.nilIface, .iface X x]) := ht; obtain ⟨X, x, rfl⟩ := ht; have B1 := Aside0.mk hb; clear hb))
    go_ret3
    exact ⟨rfl, B1.out⟩
  | some I =>
    rw [hi] at HP
    obtain ⟨hl, hs0, hj⟩ := HI.out I hi
    clear HI hi
    have hkl : (keep I).length ≤ 8589934592 := Nat.le_trans (keep_len I) hl
    have hks : ∀ t ∈ keep I, t.2.1.size ≤ 2147483647 ∧ t.2.2.size ≤ 2147483647 := fun t ht => hs0 t (List.mem_filter.1 ht).1
    have HKL := Aside0.mk hkl
    have HKS := Aside0.mk hks
    have HJ := Aside0.mk hj
    have HP2 : Aside0 (Calls Tryz.prog 24 #[.string s] w fun e w' => (∃ v, e = .returned (.tuple #[v, .nilIface]) ∧ IsSel w' v (keep I)) ∧ Below w.heap.size w w') := HP
    show Calls _ _ _ _ fun e w' => (∃ A c, e = .returned (.tuple #[.slice A ((keep I).map tmD).length c, .string (joinT (keep I)), .bool false]) ∧ kT.C w' A ((keep I).map tmD).length ((keep I).map tmD) ∧ ((keep I).map tmD).length ≤ c) ∧ Below w.heap.size w w'
    generalize keep I = L at HP2 HKL HKS HJ
    clear HP hl hs0 hj hkl hks
    go_enter Tryz.func12, Tryz.ntmps12
    go_wp2_with (first
      | (go_at_call 24; (with_reducible refine (HP2.out).mono ?_); rintro e w1 ⟨⟨v, rfl, hs⟩, hb⟩; have S1 := Aside0.mk hs; have B1 := Aside0.mk hb; clear hb hs))
    have hs := S1.out
    clear S1
    rcases hs with ⟨t, g, hL, hv, ht⟩ | ⟨A3, c3, xs, hv, hC3, hT3⟩
    · obtain ⟨b, f, u⟩ := t
      have hz : f.size ≤ 2147483647 ∧ u.size ≤ 2147483647 := HKS.out (b, f, u) (by rw [hL]; exact List.mem_singleton.2 rfl)
      have HJT : Aside0 (joinT L = txt (b, f, u)) := ⟨by rw [hL, joinT_one]⟩
      cases b with
      | true =>
        replace hv : v = .iface 74 (.pointer (some ⟨g, 0, none⟩)) := hv
        subst hv
        have HTX : Aside0 (∀ w2 : World, Below w1.heap.size w1 w2 → Calls Tryz.prog 111 #[.pointer (some ⟨g, 0, none⟩)] w2 fun e w' => e = .returned (.string (joinT L)) ∧ Below w2.heap.size w2 w') := ⟨fun w2 hb => by rw [HJT.out]; exact text_true g f u w2 (TermAt.below ht hb) hz.1 hz.2⟩
        have nat := na_String_true g
        have met := me_String_true g
        have S1 : Aside0 (IsSel w1 (.iface 74 (.pointer (some ⟨g, 0, none⟩))) L) := ⟨Or.inl ⟨_, g, hL, rfl, ht⟩⟩
        clear hL hz ht
        go_wp2_with (first
          | (go_at_call 19; (with_reducible refine (terms_any _ _ _ S1.out HKL.out).mono ?_); rintro e w2 ⟨⟨A, c, rfl, hc, hl⟩, hb⟩; have W2 := Aside0.mk hb; have B2 := Aside0.mk (below_step B1.out hb); have C2 := Aside0.mk hc; have L2 := Aside0.mk hl; clear hb hc hl)
          | (go_at_call 111; (with_reducible refine (HTX.out _ W2.out).mono ?_); rintro e w3 ⟨rfl, hb⟩; have B3 := Aside0.mk (below_step B2.out hb); have C3 := Aside0.mk (Kd.C_below C2.out hb); clear hb))
        go_ret3
        exact ⟨⟨A, c, by first | rfl | (rw [List.length_map]; rfl), C3.out, L2.out⟩, B3.out⟩
      | false =>
        replace hv : v = .iface 71 (.pointer (some ⟨g, 0, none⟩)) := hv
        subst hv
        have HTX : Aside0 (∀ w2 : World, Below w1.heap.size w1 w2 → Calls Tryz.prog 102 #[.pointer (some ⟨g, 0, none⟩)] w2 fun e w' => e = .returned (.string (joinT L)) ∧ Below w2.heap.size w2 w') := ⟨fun w2 hb => by rw [HJT.out]; exact text_false g f u w2 (TermAt.below ht hb) hz.1 hz.2⟩
        have nat := na_String_false g
        have met := me_String_false g
        have S1 : Aside0 (IsSel w1 (.iface 71 (.pointer (some ⟨g, 0, none⟩))) L) := ⟨Or.inl ⟨_, g, hL, rfl, ht⟩⟩
        clear hL hz ht
        go_wp2_with (first
          | (go_at_call 19; (with_reducible refine (terms_any _ _ _ S1.out HKL.out).mono ?_); rintro e w2 ⟨⟨A, c, rfl, hc, hl⟩, hb⟩; have W2 := Aside0.mk hb; have B2 := Aside0.mk (below_step B1.out hb); have C2 := Aside0.mk hc; have L2 := Aside0.mk hl; clear hb hc hl)
          | (go_at_call 102; (with_reducible refine (HTX.out _ W2.out).mono ?_); rintro e w3 ⟨rfl, hb⟩; have B3 := Aside0.mk (below_step B2.out hb); have C3 := Aside0.mk (Kd.C_below C2.out hb); clear hb))
        go_ret3
        exact ⟨⟨A, c, by first | rfl | (rw [List.length_map]; rfl), C3.out, L2.out⟩, B3.out⟩
    · subst hv
      have S1 : Aside0 (IsSel w1 (.iface 91 (.slice A3 L.length c3)) L) := ⟨Or.inr ⟨A3, c3, xs, rfl, hC3, hT3⟩⟩
      have HTX : Aside0 (∀ w2 : World, Below w1.heap.size w1 w2 → Calls Tryz.prog 122 #[.slice A3 L.length c3] w2 fun e w' => e = .returned (.string (joinT L)) ∧ Below w2.heap.size w2 w') := ⟨fun w2 hb => andText_any A3 c3 xs L w2 (Kd.C_below hC3 hb) (hT3.below hb) HKL.out HKS.out HJ.out⟩
      have nat := na_String_and A3 L.length c3
      have met := me_String_and A3 L.length c3
      clear hC3 hT3
      go_wp2_with (first
        | (go_at_call 19; (with_reducible refine (terms_any _ _ _ S1.out HKL.out).mono ?_); rintro e w2 ⟨⟨A, c, rfl, hc, hl⟩, hb⟩; have W2 := Aside0.mk hb; have B2 := Aside0.mk (below_step B1.out hb); have C2 := Aside0.mk hc; have L2 := Aside0.mk hl; clear hb hc hl)
        | (go_at_call 122; (with_reducible refine (HTX.out _ W2.out).mono ?_); rintro e w3 ⟨rfl, hb⟩; have B3 := Aside0.mk (below_step B2.out hb); have C3 := Aside0.mk (Kd.C_below C2.out hb); clear hb))
      go_ret3
      exact ⟨⟨A, c, by first | rfl | (rw [List.length_map]; rfl), C3.out, L2.out⟩, B3.out⟩
end Go.Proofs.YthejejeginnbdaaGreatDoor.Fd
