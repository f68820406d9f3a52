/- Versions: what the reference makes of a step, walked. -/
import Derived.Test.YtomoefldmgfaoaaDoorPvSb
set_option linter.unusedVariables false
set_option linter.unusedSimpArgs false
namespace Go.Proofs.YtomoefldmgfaoaaDoor.Pv.SFnVersionSteps
open Go Go.RowKit Go.Proofs.YtomoefldmgfaoaaDoor Go.Proofs.YtomoefldmgfaoaaDoorW.PrintWords Go.Proofs.YtomoefldmgfaoaaDoor.PFnVersionSteps Go.Proofs.YtomoefldmgfaoaaDoor.Txt Go.Proofs.YtomoefldmgfaoaaDoor.Small Go.Proofs.YtomoefldmgfaoaaDoor.Pv
open Go.Proofs.YtomoefldmgfaoaaDoorW.PrintMore
attribute [local go_sem] max2_int min2_int max_two min_two max_three min_three max_four min_four
set_option maxHeartbeats 12800000 in
set_option maxRecDepth 100000 in
theorem st_not (A : Option Addr) (c : Nat) (ns : List Nat) (p b : ByteArray) (d : Int) (u : Nat) (off : Int) (s : ByteArray) (w : World) (hr : Kd.C (Kd.int .u64) w A (zs ns).length (zs ns)) (hc : (zs ns).length ≤ c) (h0 : 0 ≤ d) (h4 : d ≤ 4) :
    Calls Tryd.prog 19 #[.agg #[.slice A ns.length c, .bool false, .string p, .string b], .agg #[.int .i64 d, .int .u64 (u : Int), .int .i64 off, .string s]] w fun e w' => e = .returned (.tuple #[.agg #[.slice A ns.length c, .bool false, .string p, .string b], .bool false]) ∧ Below w.heap.size w w' := by
  have q0 : decide (0 ≤ d) = true := decide_eq_true h0
  have q4 : decide (d ≤ 4) = true := decide_eq_true h4
  clear h0 h4
  have mixed : Tryd.prog.follows .mixedOrders = true := by kernel_rfl
  have hu2 := Tryd.underlying26
  have hu3 := Tryd.underlying47
  have HS := Aside0.mk (AtS.start w (c := c) (sem := false) (p := p) (b := b) (d := d) (u := u) (off := off) (s := s) hr)
  have HP0 : Aside0 (∀ W, Kd.C (Kd.int .u64) W A (zs ns).length (zs ns) → Calls Tryd.prog 28 #[.agg #[.slice A ns.length c, .bool false, .string p, .string b], .int .i64 0] W fun e w' => e = .returned (.int .u64 (pt ns 0 : Int)) ∧ Below W.heap.size W w') := ⟨fun W hW => by have h := spec_Version_part.calls A c (zs ns) false p b 0 (pt ns 0 : Int) W hW hc (partZ ns false p b 0); rw [List.length_map] at h; exact h⟩
  have HP1 : Aside0 (∀ W, Kd.C (Kd.int .u64) W A (zs ns).length (zs ns) → Calls Tryd.prog 28 #[.agg #[.slice A ns.length c, .bool false, .string p, .string b], .int .i64 1] W fun e w' => e = .returned (.int .u64 (pt ns 1 : Int)) ∧ Below W.heap.size W w') := ⟨fun W hW => by have h := spec_Version_part.calls A c (zs ns) false p b 1 (pt ns 1 : Int) W hW hc (partZ ns false p b 1); rw [List.length_map] at h; exact h⟩
  have HC := Aside0.mk hc
  clear hr hc
  go_enter Tryd.func19, Tryd.ntmps19
  go_wp2_with fail
  have H0 : Aside0 (AtS w (((w.alloc (boxV A ns.length c false p b)).alloc (boxX d u off s)).alloc (boxV none 0 0 false ⟨#[]⟩ ⟨#[]⟩)) A c ns false p b d u off s) := HS
  clear HS
  generalize ((w.alloc (boxV A ns.length c false p b)).alloc (boxX d u off s)).alloc (boxV none 0 0 false ⟨#[]⟩ ⟨#[]⟩) = W0 at H0 ⊢
  have v0 : W0.cell? ⟨w.heap.size, 0, none⟩ = some (.slice A ns.length c) := blk_cell H0.out.r2 0; have v1 : W0.cell? ⟨w.heap.size, 1, none⟩ = some (.bool false) := blk_cell H0.out.r2 1; have v2 : W0.cell? ⟨w.heap.size, 2, none⟩ = some (.string p) := blk_cell H0.out.r2 2; have v3 : W0.cell? ⟨w.heap.size, 3, none⟩ = some (.string b) := blk_cell H0.out.r2 3;
  go_region_held3 (fun w' => w'.cell? ⟨w.heap.size, 0, none⟩ = some (.slice A ns.length c) ∧ w'.cell? ⟨w.heap.size, 1, none⟩ = some (.bool false) ∧ w'.cell? ⟨w.heap.size, 2, none⟩ = some (.string p) ∧ w'.cell? ⟨w.heap.size, 3, none⟩ = some (.string b)) (first | exact ⟨v0, v1, v2, v3⟩ | exact ⟨x0, x1, x2, x3⟩ | exact ⟨y0, y1, y2, y3⟩) (first
    | (go_at_call 28; (with_reducible refine (HP0.out _ H0.out.drew.row).mono ?_); rintro e w1 ⟨rfl, hb⟩; have H1 := Aside0.mk (H0.out.drew.below hb); clear hb; have x0 : w1.cell? ⟨w.heap.size, 0, none⟩ = some (.slice A ns.length c) := blk_cell H1.out.r2 0; have x1 : w1.cell? ⟨w.heap.size, 1, none⟩ = some (.bool false) := blk_cell H1.out.r2 1; have x2 : w1.cell? ⟨w.heap.size, 2, none⟩ = some (.string p) := blk_cell H1.out.r2 2; have x3 : w1.cell? ⟨w.heap.size, 3, none⟩ = some (.string b) := blk_cell H1.out.r2 3; skip)
    | (go_at_call 28; (with_reducible refine (HP1.out _ H1.out.row).mono ?_); rintro e w2 ⟨rfl, hb⟩; have H2 := Aside0.mk (H1.out.below hb); clear hb; have y0 : w2.cell? ⟨w.heap.size, 0, none⟩ = some (.slice A ns.length c) := blk_cell H2.out.r2 0; have y1 : w2.cell? ⟨w.heap.size, 1, none⟩ = some (.bool false) := blk_cell H2.out.r2 1; have y2 : w2.cell? ⟨w.heap.size, 2, none⟩ = some (.string p) := blk_cell H2.out.r2 2; have y3 : w2.cell? ⟨w.heap.size, 3, none⟩ = some (.string b) := blk_cell H2.out.r2 3; skip))
  clear H0 H1 HP0 HP1 v0 v1 v2 v3 x0 x1 x2 x3
  have z0 : w2.cell? ⟨w.heap.size + 1, 0, none⟩ = some (.int .i64 d) := blk_cell H2.out.r3 0; have z1 : w2.cell? ⟨w.heap.size + 1, 1, none⟩ = some (.int .u64 (u : Int)) := blk_cell H2.out.r3 1; have z2 : w2.cell? ⟨w.heap.size + 1, 2, none⟩ = some (.int .i64 off) := blk_cell H2.out.r3 2; have z3 : w2.cell? ⟨w.heap.size + 1, 3, none⟩ = some (.string s) := blk_cell H2.out.r3 3;
  have o0 : w2.cell? ⟨w.heap.size + 1 + 1, 0, none⟩ = some (.slice none 0 0) := blk_cell H2.out.r4 0; have o1 : w2.cell? ⟨w.heap.size + 1 + 1, 1, none⟩ = some (.bool false) := blk_cell H2.out.r4 1; have o2 : w2.cell? ⟨w.heap.size + 1 + 1, 2, none⟩ = some (.string ⟨#[]⟩) := blk_cell H2.out.r4 2; have o3 : w2.cell? ⟨w.heap.size + 1 + 1, 3, none⟩ = some (.string ⟨#[]⟩) := blk_cell H2.out.r4 3; have fo0 := blk_frozen H2.out.r4 0; have fo1 := blk_frozen H2.out.r4 1; have fo2 := blk_frozen H2.out.r4 2; have fo3 := blk_frozen H2.out.r4 3; skip
  go_wp2
  refine bodyPost_ret (results_ct rfl _ _ (w.heap.size + 1 + 1) 26 #[.slice A ns.length c, .bool false, .string p, .string b] (0, 0) _ rfl (by exact (blk_put (blk_put (blk_put (blk_put H2.out.r4 0 (.slice A ns.length c) rfl) 1 (.bool false) rfl) 2 (.string p) rfl) 3 (.string b) rfl)) Tryd.underlying26 rfl (by kernel_rfl)) rfl ?_
  exact ⟨rfl, (by repeat (first | (with_reducible exact H2.out.bel) | refine below_set ?_ (by show w.heap.size ≤ w.heap.size + 1 + 1; omega) | apply below_alloc | apply pw_below_drewN | apply below_drew1))⟩
set_option maxHeartbeats 12800000 in
set_option maxRecDepth 100000 in
theorem st_same (A : Option Addr) (c : Nat) (ns : List Nat) (p b : ByteArray) (d : Int) (u : Nat) (off : Int) (s : ByteArray) (w : World) (hr : Kd.C (Kd.int .u64) w A (zs ns).length (zs ns)) (hc : (zs ns).length ≤ c) (hd : d = 3) (hs : s.size = 0) :
    Calls Tryd.prog 19 #[.agg #[.slice A ns.length c, .bool true, .string p, .string b], .agg #[.int .i64 d, .int .u64 (u : Int), .int .i64 off, .string s]] w fun e w' => (e = .returned (.tuple #[.agg #[.slice A ns.length c, .bool true, .string p, .string b], .bool true])) ∧ Below w.heap.size w w' := by
  subst hd
  obtain rfl : s = ⟨#[]⟩ := Go.Proofs.YtomoefldmgfaoaaDoor.Txt.ext (List.length_eq_zero_iff.1 (by rw [← size_len]; exact hs))
  clear hs
  have mixed : Tryd.prog.follows .mixedOrders = true := by kernel_rfl
  have hu2 := Tryd.underlying26
  have hu3 := Tryd.underlying47
  have HS := Aside0.mk (AtS.start w (c := c) (sem := true) (p := p) (b := b) (d := 3) (u := u) (off := off) (s := ⟨#[]⟩) hr)
  have HP0 : Aside0 (∀ W, Kd.C (Kd.int .u64) W A (zs ns).length (zs ns) → Calls Tryd.prog 28 #[.agg #[.slice A ns.length c, .bool true, .string p, .string b], .int .i64 0] W fun e w' => e = .returned (.int .u64 (pt ns 0 : Int)) ∧ Below W.heap.size W w') := ⟨fun W hW => by have h := spec_Version_part.calls A c (zs ns) true p b 0 (pt ns 0 : Int) W hW hc (partZ ns true p b 0); rw [List.length_map] at h; exact h⟩
  have HP1 : Aside0 (∀ W, Kd.C (Kd.int .u64) W A (zs ns).length (zs ns) → Calls Tryd.prog 28 #[.agg #[.slice A ns.length c, .bool true, .string p, .string b], .int .i64 1] W fun e w' => e = .returned (.int .u64 (pt ns 1 : Int)) ∧ Below W.heap.size W w') := ⟨fun W hW => by have h := spec_Version_part.calls A c (zs ns) true p b 1 (pt ns 1 : Int) W hW hc (partZ ns true p b 1); rw [List.length_map] at h; exact h⟩
  have HC := Aside0.mk hc
  clear hr hc
  go_enter Tryd.func19, Tryd.ntmps19
  go_wp2_with fail
  have H0 : Aside0 (AtS w (((w.alloc (boxV A ns.length c true p b)).alloc (boxX 3 u off ⟨#[]⟩)).alloc (boxV none 0 0 false ⟨#[]⟩ ⟨#[]⟩)) A c ns true p b 3 u off ⟨#[]⟩) := HS
  clear HS
  generalize ((w.alloc (boxV A ns.length c true p b)).alloc (boxX 3 u off ⟨#[]⟩)).alloc (boxV none 0 0 false ⟨#[]⟩ ⟨#[]⟩) = W0 at H0 ⊢
  have v0 : W0.cell? ⟨w.heap.size, 0, none⟩ = some (.slice A ns.length c) := blk_cell H0.out.r2 0; have v1 : W0.cell? ⟨w.heap.size, 1, none⟩ = some (.bool true) := blk_cell H0.out.r2 1; have v2 : W0.cell? ⟨w.heap.size, 2, none⟩ = some (.string p) := blk_cell H0.out.r2 2; have v3 : W0.cell? ⟨w.heap.size, 3, none⟩ = some (.string b) := blk_cell H0.out.r2 3;
  go_region_held3 (fun w' => w'.cell? ⟨w.heap.size, 0, none⟩ = some (.slice A ns.length c) ∧ w'.cell? ⟨w.heap.size, 1, none⟩ = some (.bool true) ∧ w'.cell? ⟨w.heap.size, 2, none⟩ = some (.string p) ∧ w'.cell? ⟨w.heap.size, 3, none⟩ = some (.string b)) (first | exact ⟨v0, v1, v2, v3⟩ | exact ⟨x0, x1, x2, x3⟩ | exact ⟨y0, y1, y2, y3⟩) (first
    | (go_at_call 28; (with_reducible refine (HP0.out _ H0.out.drew.row).mono ?_); rintro e w1 ⟨rfl, hb⟩; have H1 := Aside0.mk (H0.out.drew.below hb); clear hb; have x0 : w1.cell? ⟨w.heap.size, 0, none⟩ = some (.slice A ns.length c) := blk_cell H1.out.r2 0; have x1 : w1.cell? ⟨w.heap.size, 1, none⟩ = some (.bool true) := blk_cell H1.out.r2 1; have x2 : w1.cell? ⟨w.heap.size, 2, none⟩ = some (.string p) := blk_cell H1.out.r2 2; have x3 : w1.cell? ⟨w.heap.size, 3, none⟩ = some (.string b) := blk_cell H1.out.r2 3; skip)
    | (go_at_call 28; (with_reducible refine (HP1.out _ H1.out.row).mono ?_); rintro e w2 ⟨rfl, hb⟩; have H2 := Aside0.mk (H1.out.below hb); clear hb; have y0 : w2.cell? ⟨w.heap.size, 0, none⟩ = some (.slice A ns.length c) := blk_cell H2.out.r2 0; have y1 : w2.cell? ⟨w.heap.size, 1, none⟩ = some (.bool true) := blk_cell H2.out.r2 1; have y2 : w2.cell? ⟨w.heap.size, 2, none⟩ = some (.string p) := blk_cell H2.out.r2 2; have y3 : w2.cell? ⟨w.heap.size, 3, none⟩ = some (.string b) := blk_cell H2.out.r2 3; skip))
  clear H0 H1 HP0 HP1 v0 v1 v2 v3 x0 x1 x2 x3
  have z0 : w2.cell? ⟨w.heap.size + 1, 0, none⟩ = some (.int .i64 3) := blk_cell H2.out.r3 0; have z1 : w2.cell? ⟨w.heap.size + 1, 1, none⟩ = some (.int .u64 (u : Int)) := blk_cell H2.out.r3 1; have z2 : w2.cell? ⟨w.heap.size + 1, 2, none⟩ = some (.int .i64 off) := blk_cell H2.out.r3 2; have z3 : w2.cell? ⟨w.heap.size + 1, 3, none⟩ = some (.string ⟨#[]⟩) := blk_cell H2.out.r3 3;
  have o0 : w2.cell? ⟨w.heap.size + 1 + 1, 0, none⟩ = some (.slice none 0 0) := blk_cell H2.out.r4 0; have o1 : w2.cell? ⟨w.heap.size + 1 + 1, 1, none⟩ = some (.bool false) := blk_cell H2.out.r4 1; have o2 : w2.cell? ⟨w.heap.size + 1 + 1, 2, none⟩ = some (.string ⟨#[]⟩) := blk_cell H2.out.r4 2; have o3 : w2.cell? ⟨w.heap.size + 1 + 1, 3, none⟩ = some (.string ⟨#[]⟩) := blk_cell H2.out.r4 3; have fo0 := blk_frozen H2.out.r4 0; have fo1 := blk_frozen H2.out.r4 1; have fo2 := blk_frozen H2.out.r4 2; have fo3 := blk_frozen H2.out.r4 3; skip
  go_wp2
  refine bodyPost_ret (results_ct rfl _ _ (w.heap.size + 1 + 1) 26 #[.slice A ns.length c, .bool true, .string p, .string b] (0, 0) _ rfl (by exact (blk_put (blk_put (blk_put (blk_put H2.out.r4 0 (.slice A ns.length c) rfl) 1 (.bool true) rfl) 2 (.string p) rfl) 3 (.string b) rfl)) Tryd.underlying26 rfl (by kernel_rfl)) rfl ?_
  exact ⟨rfl, (by repeat (first | (with_reducible exact H2.out.bel) | refine below_set ?_ (by show w.heap.size ≤ w.heap.size + 1 + 1; omega) | apply below_alloc | apply pw_below_drewN | apply below_drew1))⟩
/-- How far a step goes, and whether it goes up. -/
def byU (d : Int) (u : Nat) (off : Int) : Nat := if d = 5 ∨ d = 6 then u else off.natAbs
def upB (d off : Int) : Bool := decide (d = 5) || (decide (d ≠ 6) && decide (0 ≤ off))
def wide (m : Nat) (d : Int) (u : Nat) (off : Int) : Bool := decide (2147483647 < byU d u off) || decide (4611686018427387904 < m)
theorem wide_yes {m V : Nat} {d : Int} {u : Nat} {off : Int} (hV : V = byU d u off) (h : 2147483647 < V ∨ 4611686018427387904 < m) : wide m d u off = true := by
  unfold wide; rw [← hV]; rcases h with h | h <;> simp [h]
theorem wide_no {m V : Nat} {d : Int} {u : Nat} {off : Int} (hV : V = byU d u off) (h : ¬2147483647 < V) (h2 : ¬4611686018427387904 < m) : wide m d u off = false := by
  unfold wide; rw [← hV]; simp only [h, h2, decide_false]; rfl
def newM (m : Nat) (d : Int) (u : Nat) (off : Int) : Nat := if upB d off = true then m + byU d u off else m - min m (byU d u off)
set_option maxHeartbeats 12800000 in
set_option maxRecDepth 100000 in
theorem st_d5 (A : Option Addr) (c : Nat) (ns : List Nat) (sem : Bool) (p b : ByteArray) (d : Int) (u : Nat) (off : Int) (s : ByteArray) (w : World) (hr : Kd.C (Kd.int .u64) w A (zs ns).length (zs ns)) (hc : (zs ns).length ≤ c) (hu : u < 18446744073709551616) (hp0 : pt ns 0 < 18446744073709551616) (hp1 : pt ns 1 < 18446744073709551616) (hd : d = 5) :
    Calls Tryd.prog 19 #[.agg #[.slice A ns.length c, .bool sem, .string p, .string b], .agg #[.int .i64 d, .int .u64 (u : Int), .int .i64 off, .string s]] w fun e w' => ((wide (pt ns 1) 5 u off = true ∧ e = .returned (.tuple #[.agg #[.slice A ns.length c, .bool sem, .string p, .string b], .bool false])) ∨ (wide (pt ns 1) 5 u off = false ∧ ∃ A' c', e = .returned (.tuple #[.agg #[.slice A' 2 c', .bool false, .string ⟨#[]⟩, .string ⟨#[]⟩], .bool true]) ∧ Kd.C (Kd.int .u64) w' A' (zs [pt ns 0, newM (pt ns 1) 5 u off]).length (zs [pt ns 0, newM (pt ns 1) 5 u off]) ∧ 2 ≤ c')) ∧ Below w.heap.size w w' := by
  subst hd
  have HU := Aside0.mk hu
  have HP := Aside0.mk (And.intro hp0 hp1)
  clear hu hp0 hp1
  have mixed : Tryd.prog.follows .mixedOrders = true := by kernel_rfl
  have hu2 := Tryd.underlying26
  have hu3 := Tryd.underlying47
  have HS := Aside0.mk (AtS.start w (c := c) (sem := sem) (p := p) (b := b) (d := 5) (u := u) (off := off) (s := s) hr)
  have HP0 : Aside0 (∀ W, Kd.C (Kd.int .u64) W A (zs ns).length (zs ns) → Calls Tryd.prog 28 #[.agg #[.slice A ns.length c, .bool sem, .string p, .string b], .int .i64 0] W fun e w' => e = .returned (.int .u64 (pt ns 0 : Int)) ∧ Below W.heap.size W w') := ⟨fun W hW => by have h := spec_Version_part.calls A c (zs ns) sem p b 0 (pt ns 0 : Int) W hW hc (partZ ns sem p b 0); rw [List.length_map] at h; exact h⟩
  have HP1 : Aside0 (∀ W, Kd.C (Kd.int .u64) W A (zs ns).length (zs ns) → Calls Tryd.prog 28 #[.agg #[.slice A ns.length c, .bool sem, .string p, .string b], .int .i64 1] W fun e w' => e = .returned (.int .u64 (pt ns 1 : Int)) ∧ Below W.heap.size W w') := ⟨fun W hW => by have h := spec_Version_part.calls A c (zs ns) sem p b 1 (pt ns 1 : Int) W hW hc (partZ ns sem p b 1); rw [List.length_map] at h; exact h⟩
  have HC := Aside0.mk hc
  clear hr hc
  go_enter Tryd.func19, Tryd.ntmps19
  go_wp2_with fail
  have H0 : Aside0 (AtS w (((w.alloc (boxV A ns.length c sem p b)).alloc (boxX 5 u off s)).alloc (boxV none 0 0 false ⟨#[]⟩ ⟨#[]⟩)) A c ns sem p b 5 u off s) := HS
  clear HS
  generalize ((w.alloc (boxV A ns.length c sem p b)).alloc (boxX 5 u off s)).alloc (boxV none 0 0 false ⟨#[]⟩ ⟨#[]⟩) = W0 at H0 ⊢
  have v0 : W0.cell? ⟨w.heap.size, 0, none⟩ = some (.slice A ns.length c) := blk_cell H0.out.r2 0; have v1 : W0.cell? ⟨w.heap.size, 1, none⟩ = some (.bool sem) := blk_cell H0.out.r2 1; have v2 : W0.cell? ⟨w.heap.size, 2, none⟩ = some (.string p) := blk_cell H0.out.r2 2; have v3 : W0.cell? ⟨w.heap.size, 3, none⟩ = some (.string b) := blk_cell H0.out.r2 3;
  go_region_held3 (fun w' => w'.cell? ⟨w.heap.size, 0, none⟩ = some (.slice A ns.length c) ∧ w'.cell? ⟨w.heap.size, 1, none⟩ = some (.bool sem) ∧ w'.cell? ⟨w.heap.size, 2, none⟩ = some (.string p) ∧ w'.cell? ⟨w.heap.size, 3, none⟩ = some (.string b)) (first | exact ⟨v0, v1, v2, v3⟩ | exact ⟨x0, x1, x2, x3⟩ | exact ⟨y0, y1, y2, y3⟩) (first
    | (go_at_call 28; (with_reducible refine (HP0.out _ H0.out.drew.row).mono ?_); rintro e w1 ⟨rfl, hb⟩; have H1 := Aside0.mk (H0.out.drew.below hb); clear hb; have x0 : w1.cell? ⟨w.heap.size, 0, none⟩ = some (.slice A ns.length c) := blk_cell H1.out.r2 0; have x1 : w1.cell? ⟨w.heap.size, 1, none⟩ = some (.bool sem) := blk_cell H1.out.r2 1; have x2 : w1.cell? ⟨w.heap.size, 2, none⟩ = some (.string p) := blk_cell H1.out.r2 2; have x3 : w1.cell? ⟨w.heap.size, 3, none⟩ = some (.string b) := blk_cell H1.out.r2 3; skip)
    | (go_at_call 28; (with_reducible refine (HP1.out _ H1.out.row).mono ?_); rintro e w2 ⟨rfl, hb⟩; have H2 := Aside0.mk (H1.out.below hb); clear hb; have y0 : w2.cell? ⟨w.heap.size, 0, none⟩ = some (.slice A ns.length c) := blk_cell H2.out.r2 0; have y1 : w2.cell? ⟨w.heap.size, 1, none⟩ = some (.bool sem) := blk_cell H2.out.r2 1; have y2 : w2.cell? ⟨w.heap.size, 2, none⟩ = some (.string p) := blk_cell H2.out.r2 2; have y3 : w2.cell? ⟨w.heap.size, 3, none⟩ = some (.string b) := blk_cell H2.out.r2 3; skip))
  clear H0 H1 HP0 HP1 v0 v1 v2 v3 x0 x1 x2 x3
  have z0 : w2.cell? ⟨w.heap.size + 1, 0, none⟩ = some (.int .i64 5) := blk_cell H2.out.r3 0; have z1 : w2.cell? ⟨w.heap.size + 1, 1, none⟩ = some (.int .u64 (u : Int)) := blk_cell H2.out.r3 1; have z2 : w2.cell? ⟨w.heap.size + 1, 2, none⟩ = some (.int .i64 off) := blk_cell H2.out.r3 2; have z3 : w2.cell? ⟨w.heap.size + 1, 3, none⟩ = some (.string s) := blk_cell H2.out.r3 3;
  have o0 : w2.cell? ⟨w.heap.size + 1 + 1, 0, none⟩ = some (.slice none 0 0) := blk_cell H2.out.r4 0; have o1 : w2.cell? ⟨w.heap.size + 1 + 1, 1, none⟩ = some (.bool false) := blk_cell H2.out.r4 1; have o2 : w2.cell? ⟨w.heap.size + 1 + 1, 2, none⟩ = some (.string ⟨#[]⟩) := blk_cell H2.out.r4 2; have o3 : w2.cell? ⟨w.heap.size + 1 + 1, 3, none⟩ = some (.string ⟨#[]⟩) := blk_cell H2.out.r4 3; have fo0 := blk_frozen H2.out.r4 0; have fo1 := blk_frozen H2.out.r4 1; have fo2 := blk_frozen H2.out.r4 2; have fo3 := blk_frozen H2.out.r4 3; skip
  have hV : u = byU 5 u off := rfl
  by_cases c1 : 2147483647 < u
  · have HW := Aside0.mk (wide_yes (m := pt ns 1) hV (Or.inl c1))
    clear hV
    have c1a : ((2147483647 : Int) < (u : Int)) = True := eq_true (by omega)
    have c1b : (2147483647 < u) = True := eq_true (by omega)
    go_wp2_with fail
    go_region
    go_wp2
    refine bodyPost_ret (results_ct rfl _ _ (w.heap.size + 1 + 1) 26 #[.slice A ns.length c, .bool sem, .string p, .string b] (0, 0) _ rfl (by exact (blk_put (blk_put (blk_put (blk_put (blk_drew H2.out.r4) 0 (.slice A ns.length c) rfl) 1 (.bool sem) rfl) 2 (.string p) rfl) 3 (.string b) rfl)) Tryd.underlying26 rfl (by kernel_rfl)) rfl ?_
    exact ⟨Or.inl ⟨HW.out, rfl⟩, (by repeat (first | (with_reducible exact H2.out.bel) | refine below_set ?_ (by show w.heap.size ≤ w.heap.size + 1 + 1; omega) | apply below_alloc | apply pw_below_drewN | apply below_drew1))⟩
  · by_cases c2 : 4611686018427387904 < pt ns 1
    · have HW := Aside0.mk (wide_yes (m := pt ns 1) hV (Or.inr c2))
      clear hV
      have c1a : ((2147483647 : Int) < (u : Int)) = False := eq_false (by omega)
      have c1b : (2147483647 < u) = False := eq_false (by omega)
      have c2a : ((4611686018427387904 : Int) < (pt ns 1 : Int)) = True := eq_true (by omega)
      have c2b : (4611686018427387904 < pt ns 1) = True := eq_true (by omega)
      go_wp2_with fail
      go_region
      go_wp2
      refine bodyPost_ret (results_ct rfl _ _ (w.heap.size + 1 + 1) 26 #[.slice A ns.length c, .bool sem, .string p, .string b] (0, 0) _ rfl (by exact (blk_put (blk_put (blk_put (blk_put (blk_drew H2.out.r4) 0 (.slice A ns.length c) rfl) 1 (.bool sem) rfl) 2 (.string p) rfl) 3 (.string b) rfl)) Tryd.underlying26 rfl (by kernel_rfl)) rfl ?_
      exact ⟨Or.inl ⟨HW.out, rfl⟩, (by repeat (first | (with_reducible exact H2.out.bel) | refine below_set ?_ (by show w.heap.size ≤ w.heap.size + 1 + 1; omega) | apply below_alloc | apply pw_below_drewN | apply below_drew1))⟩
    · have HW := Aside0.mk (wide_no (m := pt ns 1) hV c1 c2)
      clear hV
      have c1a : ((2147483647 : Int) < (u : Int)) = False := eq_false (by omega)
      have c1b : (2147483647 < u) = False := eq_false (by omega)
      have c2a : ((4611686018427387904 : Int) < (pt ns 1 : Int)) = False := eq_false (by omega)
      have c2b : (4611686018427387904 < pt ns 1) = False := eq_false (by omega)
      go_wp2_with fail
      go_region
      go_wp2_with ((with_reducible refine gate_dst (N := 100) rfl ?_); refine Kd.R_lit (Kd.int .u64) (w0 := w2) w2.heap.size 22 ?hg (N := 100) ?hd (xs := [((pt ns 0 : Int) : Int), ((pt ns 1 : Int) + (u : Int) : Int)]) (inner := [.int .u64 ((pt ns 0 : Int) : Int), .int .u64 ((pt ns 1 : Int) + (u : Int) : Int)]) (ok := fun _ => True) (okp := fun _ => True) ?hr ?hp (fun _ hk => hk) trivial ?hB ?hZ (by simp) ?_; (case hd => rfl); (case hg => rfl); (case hr => first | (go_simp; done) | (go_simp; rfl)); (case hB => exact (by repeat (first | (with_reducible exact Below.refl _ _) | apply pw_below_drewN | apply below_drew1))); (case hZ => first | exact Nat.le_refl _ | (simp; done)); (case hp => exact (((Reps.none _ _).snoc (show Kd.M (Kd.int .u64) _ _ _ ((pt ns 0 : Int) : Int) [.int .u64 ((pt ns 0 : Int) : Int)] from rfl) rfl).snoc (show Kd.M (Kd.int .u64) _ _ _ ((pt ns 1 : Int) + (u : Int) : Int) [.int .u64 ((pt ns 1 : Int) + (u : Int) : Int)] from rfl) rfl)); intro v3 w3 ho hb hgr hat; have H3 := Aside0.mk (H2.out.below hb); obtain ⟨bc, cp, e9, h9, -, -⟩ := Kd.R_form ho (by show 0 < 2; decide); have e9 : v3 = .slice (some ⟨bc, 0, none⟩) 2 cp := e9; subst e9; have R3 := Aside0.mk ho; have N3 : Aside0 (bc ≠ w.heap.size + 1 + 1) := ⟨by have := blk_lt H2.out.r4; omega⟩; clear ho hb hgr hat h9 o0 o1 o2 o3 fo0 fo1 fo2 fo3; have o0 : w3.cell? ⟨w.heap.size + 1 + 1, 0, none⟩ = some (.slice none 0 0) := blk_cell H3.out.r4 0; have o1 : w3.cell? ⟨w.heap.size + 1 + 1, 1, none⟩ = some (.bool false) := blk_cell H3.out.r4 1; have o2 : w3.cell? ⟨w.heap.size + 1 + 1, 2, none⟩ = some (.string ⟨#[]⟩) := blk_cell H3.out.r4 2; have o3 : w3.cell? ⟨w.heap.size + 1 + 1, 3, none⟩ = some (.string ⟨#[]⟩) := blk_cell H3.out.r4 3; have fo0 := blk_frozen H3.out.r4 0; have fo1 := blk_frozen H3.out.r4 1; have fo2 := blk_frozen H3.out.r4 2; have fo3 := blk_frozen H3.out.r4 3; skip)
      refine bodyPost_ret (results_ct rfl _ _ (w.heap.size + 1 + 1) 26 #[.slice (some ⟨bc, 0, none⟩) 2 cp, .bool false, .string ⟨#[]⟩, .string ⟨#[]⟩] (0, 0) _ rfl (by exact (blk_put (blk_put (blk_put (blk_put H3.out.r4 0 (.slice (some ⟨bc, 0, none⟩) 2 cp) rfl) 1 (.bool false) rfl) 2 (.string ⟨#[]⟩) rfl) 3 (.string ⟨#[]⟩) rfl)) Tryd.underlying26 rfl (by kernel_rfl)) rfl ?_
      have HN : zs [pt ns 0, newM (pt ns 1) 5 u off] = [(pt ns 0 : Int), ((pt ns 1 : Int) + (u : Int) : Int)] := by show [(pt ns 0 : Int), ((pt ns 1 + u : Nat) : Int)] = _; rw [Int.natCast_add]
      have hE := row_end (Kd.R_far (p := ⟨w.heap.size + 1 + 1, 3, none⟩) (Kd.R_far (p := ⟨w.heap.size + 1 + 1, 2, none⟩) (Kd.R_far (p := ⟨w.heap.size + 1 + 1, 1, none⟩) (Kd.R_far (p := ⟨w.heap.size + 1 + 1, 0, none⟩) (Kd.R_mono (Kd.R_bound R3.out) (ok' := fun k => True ∧ k ≠ w.heap.size + 1 + 1) (fun k hk => ⟨trivial, by have := blk_lt H2.out.r4; have := hk.2.1; omega⟩)) (fun k hk => by exact hk.2) (.slice (some ⟨bc, 0, none⟩) 2 cp)) (fun k hk => by exact hk.2) (.bool false)) (fun k hk => by exact hk.2) (.string ⟨#[]⟩)) (fun k hk => by exact hk.2) (.string ⟨#[]⟩)) HN
      exact ⟨Or.inr ⟨HW.out, _, _, rfl, hE.1, hE.2⟩, (by repeat (first | (with_reducible exact H3.out.bel) | refine below_set ?_ (by show w.heap.size ≤ w.heap.size + 1 + 1; omega) | apply below_alloc | apply pw_below_drewN | apply below_drew1))⟩
set_option maxHeartbeats 12800000 in
set_option maxRecDepth 100000 in
theorem st_d6 (A : Option Addr) (c : Nat) (ns : List Nat) (sem : Bool) (p b : ByteArray) (d : Int) (u : Nat) (off : Int) (s : ByteArray) (w : World) (hr : Kd.C (Kd.int .u64) w A (zs ns).length (zs ns)) (hc : (zs ns).length ≤ c) (hu : u < 18446744073709551616) (hp0 : pt ns 0 < 18446744073709551616) (hp1 : pt ns 1 < 18446744073709551616) (hd : d = 6) :
    Calls Tryd.prog 19 #[.agg #[.slice A ns.length c, .bool sem, .string p, .string b], .agg #[.int .i64 d, .int .u64 (u : Int), .int .i64 off, .string s]] w fun e w' => ((wide (pt ns 1) 6 u off = true ∧ e = .returned (.tuple #[.agg #[.slice A ns.length c, .bool sem, .string p, .string b], .bool false])) ∨ (wide (pt ns 1) 6 u off = false ∧ ∃ A' c', e = .returned (.tuple #[.agg #[.slice A' 2 c', .bool false, .string ⟨#[]⟩, .string ⟨#[]⟩], .bool true]) ∧ Kd.C (Kd.int .u64) w' A' (zs [pt ns 0, newM (pt ns 1) 6 u off]).length (zs [pt ns 0, newM (pt ns 1) 6 u off]) ∧ 2 ≤ c')) ∧ Below w.heap.size w w' := by
  subst hd
  have HU := Aside0.mk hu
  have HP := Aside0.mk (And.intro hp0 hp1)
  clear hu hp0 hp1
  have mixed : Tryd.prog.follows .mixedOrders = true := by kernel_rfl
  have hu2 := Tryd.underlying26
  have hu3 := Tryd.underlying47
  have HS := Aside0.mk (AtS.start w (c := c) (sem := sem) (p := p) (b := b) (d := 6) (u := u) (off := off) (s := s) hr)
  have HP0 : Aside0 (∀ W, Kd.C (Kd.int .u64) W A (zs ns).length (zs ns) → Calls Tryd.prog 28 #[.agg #[.slice A ns.length c, .bool sem, .string p, .string b], .int .i64 0] W fun e w' => e = .returned (.int .u64 (pt ns 0 : Int)) ∧ Below W.heap.size W w') := ⟨fun W hW => by have h := spec_Version_part.calls A c (zs ns) sem p b 0 (pt ns 0 : Int) W hW hc (partZ ns sem p b 0); rw [List.length_map] at h; exact h⟩
  have HP1 : Aside0 (∀ W, Kd.C (Kd.int .u64) W A (zs ns).length (zs ns) → Calls Tryd.prog 28 #[.agg #[.slice A ns.length c, .bool sem, .string p, .string b], .int .i64 1] W fun e w' => e = .returned (.int .u64 (pt ns 1 : Int)) ∧ Below W.heap.size W w') := ⟨fun W hW => by have h := spec_Version_part.calls A c (zs ns) sem p b 1 (pt ns 1 : Int) W hW hc (partZ ns sem p b 1); rw [List.length_map] at h; exact h⟩
  have HC := Aside0.mk hc
  clear hr hc
  go_enter Tryd.func19, Tryd.ntmps19
  go_wp2_with fail
  have H0 : Aside0 (AtS w (((w.alloc (boxV A ns.length c sem p b)).alloc (boxX 6 u off s)).alloc (boxV none 0 0 false ⟨#[]⟩ ⟨#[]⟩)) A c ns sem p b 6 u off s) := HS
  clear HS
  generalize ((w.alloc (boxV A ns.length c sem p b)).alloc (boxX 6 u off s)).alloc (boxV none 0 0 false ⟨#[]⟩ ⟨#[]⟩) = W0 at H0 ⊢
  have v0 : W0.cell? ⟨w.heap.size, 0, none⟩ = some (.slice A ns.length c) := blk_cell H0.out.r2 0; have v1 : W0.cell? ⟨w.heap.size, 1, none⟩ = some (.bool sem) := blk_cell H0.out.r2 1; have v2 : W0.cell? ⟨w.heap.size, 2, none⟩ = some (.string p) := blk_cell H0.out.r2 2; have v3 : W0.cell? ⟨w.heap.size, 3, none⟩ = some (.string b) := blk_cell H0.out.r2 3;
  go_region_held3 (fun w' => w'.cell? ⟨w.heap.size, 0, none⟩ = some (.slice A ns.length c) ∧ w'.cell? ⟨w.heap.size, 1, none⟩ = some (.bool sem) ∧ w'.cell? ⟨w.heap.size, 2, none⟩ = some (.string p) ∧ w'.cell? ⟨w.heap.size, 3, none⟩ = some (.string b)) (first | exact ⟨v0, v1, v2, v3⟩ | exact ⟨x0, x1, x2, x3⟩ | exact ⟨y0, y1, y2, y3⟩) (first
    | (go_at_call 28; (with_reducible refine (HP0.out _ H0.out.drew.row).mono ?_); rintro e w1 ⟨rfl, hb⟩; have H1 := Aside0.mk (H0.out.drew.below hb); clear hb; have x0 : w1.cell? ⟨w.heap.size, 0, none⟩ = some (.slice A ns.length c) := blk_cell H1.out.r2 0; have x1 : w1.cell? ⟨w.heap.size, 1, none⟩ = some (.bool sem) := blk_cell H1.out.r2 1; have x2 : w1.cell? ⟨w.heap.size, 2, none⟩ = some (.string p) := blk_cell H1.out.r2 2; have x3 : w1.cell? ⟨w.heap.size, 3, none⟩ = some (.string b) := blk_cell H1.out.r2 3; skip)
    | (go_at_call 28; (with_reducible refine (HP1.out _ H1.out.row).mono ?_); rintro e w2 ⟨rfl, hb⟩; have H2 := Aside0.mk (H1.out.below hb); clear hb; have y0 : w2.cell? ⟨w.heap.size, 0, none⟩ = some (.slice A ns.length c) := blk_cell H2.out.r2 0; have y1 : w2.cell? ⟨w.heap.size, 1, none⟩ = some (.bool sem) := blk_cell H2.out.r2 1; have y2 : w2.cell? ⟨w.heap.size, 2, none⟩ = some (.string p) := blk_cell H2.out.r2 2; have y3 : w2.cell? ⟨w.heap.size, 3, none⟩ = some (.string b) := blk_cell H2.out.r2 3; skip))
  clear H0 H1 HP0 HP1 v0 v1 v2 v3 x0 x1 x2 x3
  have z0 : w2.cell? ⟨w.heap.size + 1, 0, none⟩ = some (.int .i64 6) := blk_cell H2.out.r3 0; have z1 : w2.cell? ⟨w.heap.size + 1, 1, none⟩ = some (.int .u64 (u : Int)) := blk_cell H2.out.r3 1; have z2 : w2.cell? ⟨w.heap.size + 1, 2, none⟩ = some (.int .i64 off) := blk_cell H2.out.r3 2; have z3 : w2.cell? ⟨w.heap.size + 1, 3, none⟩ = some (.string s) := blk_cell H2.out.r3 3;
  have o0 : w2.cell? ⟨w.heap.size + 1 + 1, 0, none⟩ = some (.slice none 0 0) := blk_cell H2.out.r4 0; have o1 : w2.cell? ⟨w.heap.size + 1 + 1, 1, none⟩ = some (.bool false) := blk_cell H2.out.r4 1; have o2 : w2.cell? ⟨w.heap.size + 1 + 1, 2, none⟩ = some (.string ⟨#[]⟩) := blk_cell H2.out.r4 2; have o3 : w2.cell? ⟨w.heap.size + 1 + 1, 3, none⟩ = some (.string ⟨#[]⟩) := blk_cell H2.out.r4 3; have fo0 := blk_frozen H2.out.r4 0; have fo1 := blk_frozen H2.out.r4 1; have fo2 := blk_frozen H2.out.r4 2; have fo3 := blk_frozen H2.out.r4 3; skip
  have hV : u = byU 6 u off := rfl
  by_cases c1 : 2147483647 < u
  · have HW := Aside0.mk (wide_yes (m := pt ns 1) hV (Or.inl c1))
    clear hV
    have c1a : ((2147483647 : Int) < (u : Int)) = True := eq_true (by omega)
    have c1b : (2147483647 < u) = True := eq_true (by omega)
    go_wp2_with fail
    go_region
    go_wp2
    refine bodyPost_ret (results_ct rfl _ _ (w.heap.size + 1 + 1) 26 #[.slice A ns.length c, .bool sem, .string p, .string b] (0, 0) _ rfl (by exact (blk_put (blk_put (blk_put (blk_put (blk_drew H2.out.r4) 0 (.slice A ns.length c) rfl) 1 (.bool sem) rfl) 2 (.string p) rfl) 3 (.string b) rfl)) Tryd.underlying26 rfl (by kernel_rfl)) rfl ?_
    exact ⟨Or.inl ⟨HW.out, rfl⟩, (by repeat (first | (with_reducible exact H2.out.bel) | refine below_set ?_ (by show w.heap.size ≤ w.heap.size + 1 + 1; omega) | apply below_alloc | apply pw_below_drewN | apply below_drew1))⟩
  · by_cases c2 : 4611686018427387904 < pt ns 1
    · have HW := Aside0.mk (wide_yes (m := pt ns 1) hV (Or.inr c2))
      clear hV
      have c1a : ((2147483647 : Int) < (u : Int)) = False := eq_false (by omega)
      have c1b : (2147483647 < u) = False := eq_false (by omega)
      have c2a : ((4611686018427387904 : Int) < (pt ns 1 : Int)) = True := eq_true (by omega)
      have c2b : (4611686018427387904 < pt ns 1) = True := eq_true (by omega)
      go_wp2_with fail
      go_region
      go_wp2
      refine bodyPost_ret (results_ct rfl _ _ (w.heap.size + 1 + 1) 26 #[.slice A ns.length c, .bool sem, .string p, .string b] (0, 0) _ rfl (by exact (blk_put (blk_put (blk_put (blk_put (blk_drew H2.out.r4) 0 (.slice A ns.length c) rfl) 1 (.bool sem) rfl) 2 (.string p) rfl) 3 (.string b) rfl)) Tryd.underlying26 rfl (by kernel_rfl)) rfl ?_
      exact ⟨Or.inl ⟨HW.out, rfl⟩, (by repeat (first | (with_reducible exact H2.out.bel) | refine below_set ?_ (by show w.heap.size ≤ w.heap.size + 1 + 1; omega) | apply below_alloc | apply pw_below_drewN | apply below_drew1))⟩
    · have HW := Aside0.mk (wide_no (m := pt ns 1) hV c1 c2)
      clear hV
      have c1a : ((2147483647 : Int) < (u : Int)) = False := eq_false (by omega)
      have c1b : (2147483647 < u) = False := eq_false (by omega)
      have c2a : ((4611686018427387904 : Int) < (pt ns 1 : Int)) = False := eq_false (by omega)
      have c2b : (4611686018427387904 < pt ns 1) = False := eq_false (by omega)
      by_cases c3 : u < pt ns 1
      · have c3a : ((u : Int) < (pt ns 1 : Int)) = True := eq_true (by omega)
        have c3b : (u < pt ns 1) = True := eq_true c3
        go_wp2_with fail
        go_region
        go_wp2_with ((with_reducible refine gate_dst (N := 108) rfl ?_); refine Kd.R_lit (Kd.int .u64) (w0 := w2) w2.heap.size 22 ?hg (N := 108) ?hd (xs := [((pt ns 0 : Int) : Int), ((pt ns 1 : Int) - (u : Int) : Int)]) (inner := [.int .u64 ((pt ns 0 : Int) : Int), .int .u64 ((pt ns 1 : Int) - (u : Int) : Int)]) (ok := fun _ => True) (okp := fun _ => True) ?hr ?hp (fun _ hk => hk) trivial ?hB ?hZ (by simp) ?_; (case hd => rfl); (case hg => rfl); (case hr => first | (go_simp; done) | (go_simp; rfl)); (case hB => exact (by repeat (first | (with_reducible exact Below.refl _ _) | apply pw_below_drewN | apply below_drew1))); (case hZ => first | exact Nat.le_refl _ | (simp; done)); (case hp => exact (((Reps.none _ _).snoc (show Kd.M (Kd.int .u64) _ _ _ ((pt ns 0 : Int) : Int) [.int .u64 ((pt ns 0 : Int) : Int)] from rfl) rfl).snoc (show Kd.M (Kd.int .u64) _ _ _ ((pt ns 1 : Int) - (u : Int) : Int) [.int .u64 ((pt ns 1 : Int) - (u : Int) : Int)] from rfl) rfl)); intro v3 w3 ho hb hgr hat; have H3 := Aside0.mk (H2.out.below hb); obtain ⟨bc, cp, e9, h9, -, -⟩ := Kd.R_form ho (by show 0 < 2; decide); have e9 : v3 = .slice (some ⟨bc, 0, none⟩) 2 cp := e9; subst e9; have R3 := Aside0.mk ho; have N3 : Aside0 (bc ≠ w.heap.size + 1 + 1) := ⟨by have := blk_lt H2.out.r4; omega⟩; clear ho hb hgr hat h9 o0 o1 o2 o3 fo0 fo1 fo2 fo3; have o0 : w3.cell? ⟨w.heap.size + 1 + 1, 0, none⟩ = some (.slice none 0 0) := blk_cell H3.out.r4 0; have o1 : w3.cell? ⟨w.heap.size + 1 + 1, 1, none⟩ = some (.bool false) := blk_cell H3.out.r4 1; have o2 : w3.cell? ⟨w.heap.size + 1 + 1, 2, none⟩ = some (.string ⟨#[]⟩) := blk_cell H3.out.r4 2; have o3 : w3.cell? ⟨w.heap.size + 1 + 1, 3, none⟩ = some (.string ⟨#[]⟩) := blk_cell H3.out.r4 3; have fo0 := blk_frozen H3.out.r4 0; have fo1 := blk_frozen H3.out.r4 1; have fo2 := blk_frozen H3.out.r4 2; have fo3 := blk_frozen H3.out.r4 3; skip)
        refine bodyPost_ret (results_ct rfl _ _ (w.heap.size + 1 + 1) 26 #[.slice (some ⟨bc, 0, none⟩) 2 cp, .bool false, .string ⟨#[]⟩, .string ⟨#[]⟩] (0, 0) _ rfl (by exact (blk_put (blk_put (blk_put (blk_put H3.out.r4 0 (.slice (some ⟨bc, 0, none⟩) 2 cp) rfl) 1 (.bool false) rfl) 2 (.string ⟨#[]⟩) rfl) 3 (.string ⟨#[]⟩) rfl)) Tryd.underlying26 rfl (by kernel_rfl)) rfl ?_
        have HN : zs [pt ns 0, newM (pt ns 1) 6 u off] = [(pt ns 0 : Int), ((pt ns 1 : Int) - (u : Int) : Int)] := by show [(pt ns 0 : Int), ((pt ns 1 - min (pt ns 1) u : Nat) : Int)] = _; rw [show ((pt ns 1 - min (pt ns 1) u : Nat) : Int) = (pt ns 1 : Int) - (u : Int) by omega]
        have hE := row_end (Kd.R_far (p := ⟨w.heap.size + 1 + 1, 3, none⟩) (Kd.R_far (p := ⟨w.heap.size + 1 + 1, 2, none⟩) (Kd.R_far (p := ⟨w.heap.size + 1 + 1, 1, none⟩) (Kd.R_far (p := ⟨w.heap.size + 1 + 1, 0, none⟩) (Kd.R_mono (Kd.R_bound R3.out) (ok' := fun k => True ∧ k ≠ w.heap.size + 1 + 1) (fun k hk => ⟨trivial, by have := blk_lt H2.out.r4; have := hk.2.1; omega⟩)) (fun k hk => by exact hk.2) (.slice (some ⟨bc, 0, none⟩) 2 cp)) (fun k hk => by exact hk.2) (.bool false)) (fun k hk => by exact hk.2) (.string ⟨#[]⟩)) (fun k hk => by exact hk.2) (.string ⟨#[]⟩)) HN
        exact ⟨Or.inr ⟨HW.out, _, _, rfl, hE.1, hE.2⟩, (by repeat (first | (with_reducible exact H3.out.bel) | refine below_set ?_ (by show w.heap.size ≤ w.heap.size + 1 + 1; omega) | apply below_alloc | apply pw_below_drewN | apply below_drew1))⟩
      · have c3a : ((u : Int) < (pt ns 1 : Int)) = False := eq_false (by omega)
        have c3b : (u < pt ns 1) = False := eq_false c3
        go_wp2_with fail
        go_region
        go_wp2_with ((with_reducible refine gate_dst (N := 108) rfl ?_); refine Kd.R_lit (Kd.int .u64) (w0 := w2) w2.heap.size 22 ?hg (N := 108) ?hd (xs := [((pt ns 0 : Int) : Int), (0 : Int)]) (inner := [.int .u64 ((pt ns 0 : Int) : Int), .int .u64 (0 : Int)]) (ok := fun _ => True) (okp := fun _ => True) ?hr ?hp (fun _ hk => hk) trivial ?hB ?hZ (by simp) ?_; (case hd => rfl); (case hg => rfl); (case hr => first | (go_simp; done) | (go_simp; rfl)); (case hB => exact (by repeat (first | (with_reducible exact Below.refl _ _) | apply pw_below_drewN | apply below_drew1))); (case hZ => first | exact Nat.le_refl _ | (simp; done)); (case hp => exact (((Reps.none _ _).snoc (show Kd.M (Kd.int .u64) _ _ _ ((pt ns 0 : Int) : Int) [.int .u64 ((pt ns 0 : Int) : Int)] from rfl) rfl).snoc (show Kd.M (Kd.int .u64) _ _ _ (0 : Int) [.int .u64 (0 : Int)] from rfl) rfl)); intro v3 w3 ho hb hgr hat; have H3 := Aside0.mk (H2.out.below hb); obtain ⟨bc, cp, e9, h9, -, -⟩ := Kd.R_form ho (by show 0 < 2; decide); have e9 : v3 = .slice (some ⟨bc, 0, none⟩) 2 cp := e9; subst e9; have R3 := Aside0.mk ho; have N3 : Aside0 (bc ≠ w.heap.size + 1 + 1) := ⟨by have := blk_lt H2.out.r4; omega⟩; clear ho hb hgr hat h9 o0 o1 o2 o3 fo0 fo1 fo2 fo3; have o0 : w3.cell? ⟨w.heap.size + 1 + 1, 0, none⟩ = some (.slice none 0 0) := blk_cell H3.out.r4 0; have o1 : w3.cell? ⟨w.heap.size + 1 + 1, 1, none⟩ = some (.bool false) := blk_cell H3.out.r4 1; have o2 : w3.cell? ⟨w.heap.size + 1 + 1, 2, none⟩ = some (.string ⟨#[]⟩) := blk_cell H3.out.r4 2; have o3 : w3.cell? ⟨w.heap.size + 1 + 1, 3, none⟩ = some (.string ⟨#[]⟩) := blk_cell H3.out.r4 3; have fo0 := blk_frozen H3.out.r4 0; have fo1 := blk_frozen H3.out.r4 1; have fo2 := blk_frozen H3.out.r4 2; have fo3 := blk_frozen H3.out.r4 3; skip)
        refine bodyPost_ret (results_ct rfl _ _ (w.heap.size + 1 + 1) 26 #[.slice (some ⟨bc, 0, none⟩) 2 cp, .bool false, .string ⟨#[]⟩, .string ⟨#[]⟩] (0, 0) _ rfl (by exact (blk_put (blk_put (blk_put (blk_put H3.out.r4 0 (.slice (some ⟨bc, 0, none⟩) 2 cp) rfl) 1 (.bool false) rfl) 2 (.string ⟨#[]⟩) rfl) 3 (.string ⟨#[]⟩) rfl)) Tryd.underlying26 rfl (by kernel_rfl)) rfl ?_
        have HN : zs [pt ns 0, newM (pt ns 1) 6 u off] = [(pt ns 0 : Int), (0 : Int)] := by show [(pt ns 0 : Int), ((pt ns 1 - min (pt ns 1) u : Nat) : Int)] = _; rw [show ((pt ns 1 - min (pt ns 1) u : Nat) : Int) = 0 by omega]
        have hE := row_end (Kd.R_far (p := ⟨w.heap.size + 1 + 1, 3, none⟩) (Kd.R_far (p := ⟨w.heap.size + 1 + 1, 2, none⟩) (Kd.R_far (p := ⟨w.heap.size + 1 + 1, 1, none⟩) (Kd.R_far (p := ⟨w.heap.size + 1 + 1, 0, none⟩) (Kd.R_mono (Kd.R_bound R3.out) (ok' := fun k => True ∧ k ≠ w.heap.size + 1 + 1) (fun k hk => ⟨trivial, by have := blk_lt H2.out.r4; have := hk.2.1; omega⟩)) (fun k hk => by exact hk.2) (.slice (some ⟨bc, 0, none⟩) 2 cp)) (fun k hk => by exact hk.2) (.bool false)) (fun k hk => by exact hk.2) (.string ⟨#[]⟩)) (fun k hk => by exact hk.2) (.string ⟨#[]⟩)) HN
        exact ⟨Or.inr ⟨HW.out, _, _, rfl, hE.1, hE.2⟩, (by repeat (first | (with_reducible exact H3.out.bel) | refine below_set ?_ (by show w.heap.size ≤ w.heap.size + 1 + 1; omega) | apply below_alloc | apply pw_below_drewN | apply below_drew1))⟩
end Go.Proofs.YtomoefldmgfaoaaDoor.Pv.SFnVersionSteps

set_option linter.unusedVariables false
set_option linter.unusedSimpArgs false
namespace Go.Proofs.YtomoefldmgfaoaaDoor.Pv.SFnVersionSteps
open Go Go.RowKit Go.Proofs.YtomoefldmgfaoaaDoor Go.Proofs.YtomoefldmgfaoaaDoorW.PrintWords Go.Proofs.YtomoefldmgfaoaaDoor.PFnVersionSteps Go.Proofs.YtomoefldmgfaoaaDoor.Txt Go.Proofs.YtomoefldmgfaoaaDoor.Small Go.Proofs.YtomoefldmgfaoaaDoor.Pv
open Go.Proofs.YtomoefldmgfaoaaDoorW.PrintMore
attribute [local go_sem] max2_int min2_int max_two min_two max_three min_three max_four min_four
theorem max_abs (off : Int) (h0 : -9223372036854775808 ≤ off) (h1 : off ≤ 9223372036854775807) : IntKind.u64.wrap (if off < wrap64 (-off) then wrap64 (-off) else off) = (off.natAbs : Int) := by
  by_cases h : off = -9223372036854775808
  · subst h
    have e : wrap64 (-(-9223372036854775808)) = -9223372036854775808 := by unfold wrap64; omega
    rw [e, if_neg (by omega)]
    show (-9223372036854775808 : Int) % 18446744073709551616 = _
    omega
  · have e : wrap64 (-off) = -off := w64 _ (by omega) (by omega)
    rw [e]
    by_cases h2 : off < -off
    · rw [if_pos h2]; show (-off) % 18446744073709551616 = _; omega
    · rw [if_neg h2]; show off % 18446744073709551616 = _; omega
set_option maxHeartbeats 12800000 in
set_option maxRecDepth 100000 in
theorem st_oth (A : Option Addr) (c : Nat) (ns : List Nat) (sem : Bool) (p b : ByteArray) (d : Int) (u : Nat) (off : Int) (s : ByteArray) (w : World) (hr : Kd.C (Kd.int .u64) w A (zs ns).length (zs ns)) (hc : (zs ns).length ≤ c) (ho0 : -9223372036854775808 ≤ off) (ho1 : off ≤ 9223372036854775807) (hp0 : pt ns 0 < 18446744073709551616) (hp1 : pt ns 1 < 18446744073709551616) (hd : d < 0 ∨ 6 < d) :
    Calls Tryd.prog 19 #[.agg #[.slice A ns.length c, .bool sem, .string p, .string b], .agg #[.int .i64 d, .int .u64 (u : Int), .int .i64 off, .string s]] w fun e w' => ((wide (pt ns 1) d u off = true ∧ e = .returned (.tuple #[.agg #[.slice A ns.length c, .bool sem, .string p, .string b], .bool false])) ∨ (wide (pt ns 1) d u off = false ∧ ∃ A' c', e = .returned (.tuple #[.agg #[.slice A' 2 c', .bool false, .string ⟨#[]⟩, .string ⟨#[]⟩], .bool true]) ∧ Kd.C (Kd.int .u64) w' A' (zs [pt ns 0, newM (pt ns 1) d u off]).length (zs [pt ns 0, newM (pt ns 1) d u off]) ∧ 2 ≤ c')) ∧ Below w.heap.size w w' := by
  have HP := Aside0.mk (And.intro hp0 hp1)
  obtain ⟨V, hVn⟩ : ∃ V : Nat, V = off.natAbs := ⟨_, rfl⟩
  have hV : V = byU d u off := by rw [hVn]; unfold byU; rw [if_neg (by omega)]
  have HX : Aside0 (IntKind.u64.wrap (if off < wrap64 (-off) then wrap64 (-off) else off) = (V : Int)) := ⟨by rw [hVn]; exact max_abs off ho0 ho1⟩
  have HU : Aside0 (upB d off = decide (0 ≤ off)) := ⟨by unfold upB; rw [decide_eq_false (by omega : ¬ d = 5), decide_eq_true (by omega : d ≠ 6), Bool.false_or, Bool.true_and]⟩
  have hn : ∀ m, newM m d u off = if 0 ≤ off then m + V else m - min m V := fun m => by unfold newM; rw [HU.out, ← hV]; simp only [decide_eq_true_eq]
  have HNM := Aside0.mk hn
  clear ho0 ho1 hp0 hp1 hn HU
  have mixed : Tryd.prog.follows .mixedOrders = true := by kernel_rfl
  have hu2 := Tryd.underlying26
  have hu3 := Tryd.underlying47
  have HS := Aside0.mk (AtS.start w (c := c) (sem := sem) (p := p) (b := b) (d := d) (u := u) (off := off) (s := s) hr)
  have HP0 : Aside0 (∀ W, Kd.C (Kd.int .u64) W A (zs ns).length (zs ns) → Calls Tryd.prog 28 #[.agg #[.slice A ns.length c, .bool sem, .string p, .string b], .int .i64 0] W fun e w' => e = .returned (.int .u64 (pt ns 0 : Int)) ∧ Below W.heap.size W w') := ⟨fun W hW => by have h := spec_Version_part.calls A c (zs ns) sem p b 0 (pt ns 0 : Int) W hW hc (partZ ns sem p b 0); rw [List.length_map] at h; exact h⟩
  have HP1 : Aside0 (∀ W, Kd.C (Kd.int .u64) W A (zs ns).length (zs ns) → Calls Tryd.prog 28 #[.agg #[.slice A ns.length c, .bool sem, .string p, .string b], .int .i64 1] W fun e w' => e = .returned (.int .u64 (pt ns 1 : Int)) ∧ Below W.heap.size W w') := ⟨fun W hW => by have h := spec_Version_part.calls A c (zs ns) sem p b 1 (pt ns 1 : Int) W hW hc (partZ ns sem p b 1); rw [List.length_map] at h; exact h⟩
  have HC := Aside0.mk hc
  clear hr hc
  go_enter Tryd.func19, Tryd.ntmps19
  go_wp2_with fail
  have H0 : Aside0 (AtS w (((w.alloc (boxV A ns.length c sem p b)).alloc (boxX d u off s)).alloc (boxV none 0 0 false ⟨#[]⟩ ⟨#[]⟩)) A c ns sem p b d u off s) := HS
  clear HS
  generalize ((w.alloc (boxV A ns.length c sem p b)).alloc (boxX d u off s)).alloc (boxV none 0 0 false ⟨#[]⟩ ⟨#[]⟩) = W0 at H0 ⊢
  have v0 : W0.cell? ⟨w.heap.size, 0, none⟩ = some (.slice A ns.length c) := blk_cell H0.out.r2 0; have v1 : W0.cell? ⟨w.heap.size, 1, none⟩ = some (.bool sem) := blk_cell H0.out.r2 1; have v2 : W0.cell? ⟨w.heap.size, 2, none⟩ = some (.string p) := blk_cell H0.out.r2 2; have v3 : W0.cell? ⟨w.heap.size, 3, none⟩ = some (.string b) := blk_cell H0.out.r2 3;
  go_region_held3 (fun w' => w'.cell? ⟨w.heap.size, 0, none⟩ = some (.slice A ns.length c) ∧ w'.cell? ⟨w.heap.size, 1, none⟩ = some (.bool sem) ∧ w'.cell? ⟨w.heap.size, 2, none⟩ = some (.string p) ∧ w'.cell? ⟨w.heap.size, 3, none⟩ = some (.string b)) (first | exact ⟨v0, v1, v2, v3⟩ | exact ⟨x0, x1, x2, x3⟩ | exact ⟨y0, y1, y2, y3⟩) (first
    | (go_at_call 28; (with_reducible refine (HP0.out _ H0.out.drew.row).mono ?_); rintro e w1 ⟨rfl, hb⟩; have H1 := Aside0.mk (H0.out.drew.below hb); clear hb; have x0 : w1.cell? ⟨w.heap.size, 0, none⟩ = some (.slice A ns.length c) := blk_cell H1.out.r2 0; have x1 : w1.cell? ⟨w.heap.size, 1, none⟩ = some (.bool sem) := blk_cell H1.out.r2 1; have x2 : w1.cell? ⟨w.heap.size, 2, none⟩ = some (.string p) := blk_cell H1.out.r2 2; have x3 : w1.cell? ⟨w.heap.size, 3, none⟩ = some (.string b) := blk_cell H1.out.r2 3; skip)
    | (go_at_call 28; (with_reducible refine (HP1.out _ H1.out.row).mono ?_); rintro e w2 ⟨rfl, hb⟩; have H2 := Aside0.mk (H1.out.below hb); clear hb; have y0 : w2.cell? ⟨w.heap.size, 0, none⟩ = some (.slice A ns.length c) := blk_cell H2.out.r2 0; have y1 : w2.cell? ⟨w.heap.size, 1, none⟩ = some (.bool sem) := blk_cell H2.out.r2 1; have y2 : w2.cell? ⟨w.heap.size, 2, none⟩ = some (.string p) := blk_cell H2.out.r2 2; have y3 : w2.cell? ⟨w.heap.size, 3, none⟩ = some (.string b) := blk_cell H2.out.r2 3; skip))
  clear H0 H1 HP0 HP1 v0 v1 v2 v3 x0 x1 x2 x3
  have z0 : w2.cell? ⟨w.heap.size + 1, 0, none⟩ = some (.int .i64 d) := blk_cell H2.out.r3 0; have z1 : w2.cell? ⟨w.heap.size + 1, 1, none⟩ = some (.int .u64 (u : Int)) := blk_cell H2.out.r3 1; have z2 : w2.cell? ⟨w.heap.size + 1, 2, none⟩ = some (.int .i64 off) := blk_cell H2.out.r3 2; have z3 : w2.cell? ⟨w.heap.size + 1, 3, none⟩ = some (.string s) := blk_cell H2.out.r3 3;
  have o0 : w2.cell? ⟨w.heap.size + 1 + 1, 0, none⟩ = some (.slice none 0 0) := blk_cell H2.out.r4 0; have o1 : w2.cell? ⟨w.heap.size + 1 + 1, 1, none⟩ = some (.bool false) := blk_cell H2.out.r4 1; have o2 : w2.cell? ⟨w.heap.size + 1 + 1, 2, none⟩ = some (.string ⟨#[]⟩) := blk_cell H2.out.r4 2; have o3 : w2.cell? ⟨w.heap.size + 1 + 1, 3, none⟩ = some (.string ⟨#[]⟩) := blk_cell H2.out.r4 3; have fo0 := blk_frozen H2.out.r4 0; have fo1 := blk_frozen H2.out.r4 1; have fo2 := blk_frozen H2.out.r4 2; have fo3 := blk_frozen H2.out.r4 3; skip
  rcases hd with hd | hd
  all_goals
    first
    | (have t0 : (d == 5) = false := beq_eq_false_iff_ne.2 (by omega); have t1 : (d != 5) = true := bne_iff_ne.2 (by omega); have t2 : (d != 6) = true := bne_iff_ne.2 (by omega); have t3 : (d = 5) = False := eq_false (by omega); have t4 : (d < 0) = True := eq_true hd; have t5 : (0 ≤ d) = False := eq_false (by omega); have t6 : decide (0 ≤ d) = false := decide_eq_false (by omega))
    | (have t0 : (d == 5) = false := beq_eq_false_iff_ne.2 (by omega); have t1 : (d != 5) = true := bne_iff_ne.2 (by omega); have t2 : (d != 6) = true := bne_iff_ne.2 (by omega); have t3 : (d = 5) = False := eq_false (by omega); have t4 : (d < 0) = False := eq_false (by omega); have t5 : (0 ≤ d) = True := eq_true (by omega); have t6 : decide (0 ≤ d) = true := decide_eq_true (by omega); have t7 : (d ≤ 4) = False := eq_false (by omega); have t8 : decide (d ≤ 4) = false := decide_eq_false (by omega))
  all_goals
    by_cases ho : 0 ≤ off
    · have ho2 : (0 ≤ off) = True := eq_true (by omega)
      have ho3 : decide (0 ≤ off) = true := decide_eq_true (by omega)
      have hnm : zs [pt ns 0, newM (pt ns 1) d u off] = [(pt ns 0 : Int), ((pt ns 1 + V : Nat) : Int)] := by rw [HNM.out, if_pos (by omega)]; rfl
      have HNZ := Aside0.mk hnm
      clear hnm hVn HNM
      by_cases c1 : 2147483647 < V
      · have HW := Aside0.mk (wide_yes (m := pt ns 1) hV (Or.inl c1))
        clear hV
        have c1a : ((2147483647 : Int) < (V : Int)) = True := eq_true (by omega)
        have c1b : (2147483647 < V) = True := eq_true (by omega)
        go_wp2_with fail
        go_region
        go_wp2_with fail
        go_region
        generalize (if off < wrap64 (-off) then wrap64 (-off) else off) = M at HX ⊢
        rw [HX.out]
        go_wp2
        refine bodyPost_ret (results_ct rfl _ _ (w.heap.size + 1 + 1) 26 #[.slice A ns.length c, .bool sem, .string p, .string b] (0, 0) _ rfl (by exact (blk_put (blk_put (blk_put (blk_put (blk_drew (blk_drew H2.out.r4)) 0 (.slice A ns.length c) rfl) 1 (.bool sem) rfl) 2 (.string p) rfl) 3 (.string b) rfl)) Tryd.underlying26 rfl (by kernel_rfl)) rfl ?_
        exact ⟨Or.inl ⟨HW.out, rfl⟩, (by repeat (first | (with_reducible exact H2.out.bel) | refine below_set ?_ (by show w.heap.size ≤ w.heap.size + 1 + 1; omega) | apply below_alloc | apply pw_below_drewN | apply below_drew1))⟩
      · by_cases c2 : 4611686018427387904 < pt ns 1
        · have HW := Aside0.mk (wide_yes (m := pt ns 1) hV (Or.inr c2))
          clear hV
          have c1a : ((2147483647 : Int) < (V : Int)) = False := eq_false (by omega)
          have c1b : (2147483647 < V) = False := eq_false (by omega)
          have c2a : ((4611686018427387904 : Int) < (pt ns 1 : Int)) = True := eq_true (by omega)
          have c2b : (4611686018427387904 < pt ns 1) = True := eq_true (by omega)
          go_wp2_with fail
          go_region
          go_wp2_with fail
          go_region
          generalize (if off < wrap64 (-off) then wrap64 (-off) else off) = M at HX ⊢
          rw [HX.out]
          go_wp2
          refine bodyPost_ret (results_ct rfl _ _ (w.heap.size + 1 + 1) 26 #[.slice A ns.length c, .bool sem, .string p, .string b] (0, 0) _ rfl (by exact (blk_put (blk_put (blk_put (blk_put (blk_drew (blk_drew H2.out.r4)) 0 (.slice A ns.length c) rfl) 1 (.bool sem) rfl) 2 (.string p) rfl) 3 (.string b) rfl)) Tryd.underlying26 rfl (by kernel_rfl)) rfl ?_
          exact ⟨Or.inl ⟨HW.out, rfl⟩, (by repeat (first | (with_reducible exact H2.out.bel) | refine below_set ?_ (by show w.heap.size ≤ w.heap.size + 1 + 1; omega) | apply below_alloc | apply pw_below_drewN | apply below_drew1))⟩
        · have HW := Aside0.mk (wide_no (m := pt ns 1) hV c1 c2)
          clear hV
          have c1a : ((2147483647 : Int) < (V : Int)) = False := eq_false (by omega)
          have c1b : (2147483647 < V) = False := eq_false (by omega)
          have c2a : ((4611686018427387904 : Int) < (pt ns 1 : Int)) = False := eq_false (by omega)
          have c2b : (4611686018427387904 < pt ns 1) = False := eq_false (by omega)
          go_wp2_with fail
          go_region
          go_wp2_with fail
          go_region
          generalize (if off < wrap64 (-off) then wrap64 (-off) else off) = M at HX ⊢
          rw [HX.out]
          go_wp2_with ((with_reducible refine gate_dst (N := 100) rfl ?_); refine Kd.R_lit (Kd.int .u64) (w0 := w2) w2.heap.size 22 ?hg (N := 100) ?hd (xs := [((pt ns 0 : Int) : Int), ((pt ns 1 : Int) + (V : Int) : Int)]) (inner := [.int .u64 ((pt ns 0 : Int) : Int), .int .u64 ((pt ns 1 : Int) + (V : Int) : Int)]) (ok := fun _ => True) (okp := fun _ => True) ?hr ?hp (fun _ hk => hk) trivial ?hB ?hZ (by simp) ?_; (case hd => rfl); (case hg => rfl); (case hr => first | (go_simp; done) | (go_simp; rfl)); (case hB => exact (by repeat (first | (with_reducible exact Below.refl _ _) | apply pw_below_drewN | apply below_drew1))); (case hZ => first | exact Nat.le_refl _ | (simp; done)); (case hp => exact (((Reps.none _ _).snoc (show Kd.M (Kd.int .u64) _ _ _ ((pt ns 0 : Int) : Int) [.int .u64 ((pt ns 0 : Int) : Int)] from rfl) rfl).snoc (show Kd.M (Kd.int .u64) _ _ _ ((pt ns 1 : Int) + (V : Int) : Int) [.int .u64 ((pt ns 1 : Int) + (V : Int) : Int)] from rfl) rfl)); intro v3 w3 ho hb hgr hat; have H3 := Aside0.mk (H2.out.below hb); obtain ⟨bc, cp, e9, h9, -, -⟩ := Kd.R_form ho (by show 0 < 2; decide); have e9 : v3 = .slice (some ⟨bc, 0, none⟩) 2 cp := e9; subst e9; have R3 := Aside0.mk ho; have N3 : Aside0 (bc ≠ w.heap.size + 1 + 1) := ⟨by have := blk_lt H2.out.r4; omega⟩; clear ho hb hgr hat h9 o0 o1 o2 o3 fo0 fo1 fo2 fo3; have o0 : w3.cell? ⟨w.heap.size + 1 + 1, 0, none⟩ = some (.slice none 0 0) := blk_cell H3.out.r4 0; have o1 : w3.cell? ⟨w.heap.size + 1 + 1, 1, none⟩ = some (.bool false) := blk_cell H3.out.r4 1; have o2 : w3.cell? ⟨w.heap.size + 1 + 1, 2, none⟩ = some (.string ⟨#[]⟩) := blk_cell H3.out.r4 2; have o3 : w3.cell? ⟨w.heap.size + 1 + 1, 3, none⟩ = some (.string ⟨#[]⟩) := blk_cell H3.out.r4 3; have fo0 := blk_frozen H3.out.r4 0; have fo1 := blk_frozen H3.out.r4 1; have fo2 := blk_frozen H3.out.r4 2; have fo3 := blk_frozen H3.out.r4 3; skip)
          refine bodyPost_ret (results_ct rfl _ _ (w.heap.size + 1 + 1) 26 #[.slice (some ⟨bc, 0, none⟩) 2 cp, .bool false, .string ⟨#[]⟩, .string ⟨#[]⟩] (0, 0) _ rfl (by exact (blk_put (blk_put (blk_put (blk_put H3.out.r4 0 (.slice (some ⟨bc, 0, none⟩) 2 cp) rfl) 1 (.bool false) rfl) 2 (.string ⟨#[]⟩) rfl) 3 (.string ⟨#[]⟩) rfl)) Tryd.underlying26 rfl (by kernel_rfl)) rfl ?_
          have HN : zs [pt ns 0, newM (pt ns 1) d u off] = [(pt ns 0 : Int), ((pt ns 1 : Int) + (V : Int) : Int)] := HNZ.out.trans (by rw [Int.natCast_add])
          have hE := row_end (Kd.R_far (p := ⟨w.heap.size + 1 + 1, 3, none⟩) (Kd.R_far (p := ⟨w.heap.size + 1 + 1, 2, none⟩) (Kd.R_far (p := ⟨w.heap.size + 1 + 1, 1, none⟩) (Kd.R_far (p := ⟨w.heap.size + 1 + 1, 0, none⟩) (Kd.R_mono (Kd.R_bound R3.out) (ok' := fun k => True ∧ k ≠ w.heap.size + 1 + 1) (fun k hk => ⟨trivial, by have := blk_lt H2.out.r4; have := hk.2.1; omega⟩)) (fun k hk => by exact hk.2) (.slice (some ⟨bc, 0, none⟩) 2 cp)) (fun k hk => by exact hk.2) (.bool false)) (fun k hk => by exact hk.2) (.string ⟨#[]⟩)) (fun k hk => by exact hk.2) (.string ⟨#[]⟩)) HN
          exact ⟨Or.inr ⟨HW.out, _, _, rfl, hE.1, hE.2⟩, (by repeat (first | (with_reducible exact H3.out.bel) | refine below_set ?_ (by show w.heap.size ≤ w.heap.size + 1 + 1; omega) | apply below_alloc | apply pw_below_drewN | apply below_drew1))⟩
    · have ho2 : (0 ≤ off) = False := eq_false (by omega)
      have ho3 : decide (0 ≤ off) = false := decide_eq_false (by omega)
      have hnm : zs [pt ns 0, newM (pt ns 1) d u off] = [(pt ns 0 : Int), ((pt ns 1 - min (pt ns 1) V : Nat) : Int)] := by rw [HNM.out, if_neg (by omega)]; rfl
      have HNZ := Aside0.mk hnm
      clear hnm hVn HNM
      by_cases c1 : 2147483647 < V
      · have HW := Aside0.mk (wide_yes (m := pt ns 1) hV (Or.inl c1))
        clear hV
        have c1a : ((2147483647 : Int) < (V : Int)) = True := eq_true (by omega)
        have c1b : (2147483647 < V) = True := eq_true (by omega)
        go_wp2_with fail
        go_region
        go_wp2_with fail
        go_region
        generalize (if off < wrap64 (-off) then wrap64 (-off) else off) = M at HX ⊢
        rw [HX.out]
        go_wp2
        refine bodyPost_ret (results_ct rfl _ _ (w.heap.size + 1 + 1) 26 #[.slice A ns.length c, .bool sem, .string p, .string b] (0, 0) _ rfl (by exact (blk_put (blk_put (blk_put (blk_put (blk_drew (blk_drew H2.out.r4)) 0 (.slice A ns.length c) rfl) 1 (.bool sem) rfl) 2 (.string p) rfl) 3 (.string b) rfl)) Tryd.underlying26 rfl (by kernel_rfl)) rfl ?_
        exact ⟨Or.inl ⟨HW.out, rfl⟩, (by repeat (first | (with_reducible exact H2.out.bel) | refine below_set ?_ (by show w.heap.size ≤ w.heap.size + 1 + 1; omega) | apply below_alloc | apply pw_below_drewN | apply below_drew1))⟩
      · by_cases c2 : 4611686018427387904 < pt ns 1
        · have HW := Aside0.mk (wide_yes (m := pt ns 1) hV (Or.inr c2))
          clear hV
          have c1a : ((2147483647 : Int) < (V : Int)) = False := eq_false (by omega)
          have c1b : (2147483647 < V) = False := eq_false (by omega)
          have c2a : ((4611686018427387904 : Int) < (pt ns 1 : Int)) = True := eq_true (by omega)
          have c2b : (4611686018427387904 < pt ns 1) = True := eq_true (by omega)
          go_wp2_with fail
          go_region
          go_wp2_with fail
          go_region
          generalize (if off < wrap64 (-off) then wrap64 (-off) else off) = M at HX ⊢
          rw [HX.out]
          go_wp2
          refine bodyPost_ret (results_ct rfl _ _ (w.heap.size + 1 + 1) 26 #[.slice A ns.length c, .bool sem, .string p, .string b] (0, 0) _ rfl (by exact (blk_put (blk_put (blk_put (blk_put (blk_drew (blk_drew H2.out.r4)) 0 (.slice A ns.length c) rfl) 1 (.bool sem) rfl) 2 (.string p) rfl) 3 (.string b) rfl)) Tryd.underlying26 rfl (by kernel_rfl)) rfl ?_
          exact ⟨Or.inl ⟨HW.out, rfl⟩, (by repeat (first | (with_reducible exact H2.out.bel) | refine below_set ?_ (by show w.heap.size ≤ w.heap.size + 1 + 1; omega) | apply below_alloc | apply pw_below_drewN | apply below_drew1))⟩
        · have HW := Aside0.mk (wide_no (m := pt ns 1) hV c1 c2)
          clear hV
          have c1a : ((2147483647 : Int) < (V : Int)) = False := eq_false (by omega)
          have c1b : (2147483647 < V) = False := eq_false (by omega)
          have c2a : ((4611686018427387904 : Int) < (pt ns 1 : Int)) = False := eq_false (by omega)
          have c2b : (4611686018427387904 < pt ns 1) = False := eq_false (by omega)
          by_cases c3 : V < pt ns 1
          · have c3a : ((V : Int) < (pt ns 1 : Int)) = True := eq_true (by omega)
            have c3b : (V < pt ns 1) = True := eq_true c3
            go_wp2_with fail
            go_region
            go_wp2_with fail
            go_region
            generalize (if off < wrap64 (-off) then wrap64 (-off) else off) = M at HX ⊢
            rw [HX.out]
            go_wp2_with ((with_reducible refine gate_dst (N := 108) rfl ?_); refine Kd.R_lit (Kd.int .u64) (w0 := w2) w2.heap.size 22 ?hg (N := 108) ?hd (xs := [((pt ns 0 : Int) : Int), ((pt ns 1 : Int) - (V : Int) : Int)]) (inner := [.int .u64 ((pt ns 0 : Int) : Int), .int .u64 ((pt ns 1 : Int) - (V : Int) : Int)]) (ok := fun _ => True) (okp := fun _ => True) ?hr ?hp (fun _ hk => hk) trivial ?hB ?hZ (by simp) ?_; (case hd => rfl); (case hg => rfl); (case hr => first | (go_simp; done) | (go_simp; rfl)); (case hB => exact (by repeat (first | (with_reducible exact Below.refl _ _) | apply pw_below_drewN | apply below_drew1))); (case hZ => first | exact Nat.le_refl _ | (simp; done)); (case hp => exact (((Reps.none _ _).snoc (show Kd.M (Kd.int .u64) _ _ _ ((pt ns 0 : Int) : Int) [.int .u64 ((pt ns 0 : Int) : Int)] from rfl) rfl).snoc (show Kd.M (Kd.int .u64) _ _ _ ((pt ns 1 : Int) - (V : Int) : Int) [.int .u64 ((pt ns 1 : Int) - (V : Int) : Int)] from rfl) rfl)); intro v3 w3 ho hb hgr hat; have H3 := Aside0.mk (H2.out.below hb); obtain ⟨bc, cp, e9, h9, -, -⟩ := Kd.R_form ho (by show 0 < 2; decide); have e9 : v3 = .slice (some ⟨bc, 0, none⟩) 2 cp := e9; subst e9; have R3 := Aside0.mk ho; have N3 : Aside0 (bc ≠ w.heap.size + 1 + 1) := ⟨by have := blk_lt H2.out.r4; omega⟩; clear ho hb hgr hat h9 o0 o1 o2 o3 fo0 fo1 fo2 fo3; have o0 : w3.cell? ⟨w.heap.size + 1 + 1, 0, none⟩ = some (.slice none 0 0) := blk_cell H3.out.r4 0; have o1 : w3.cell? ⟨w.heap.size + 1 + 1, 1, none⟩ = some (.bool false) := blk_cell H3.out.r4 1; have o2 : w3.cell? ⟨w.heap.size + 1 + 1, 2, none⟩ = some (.string ⟨#[]⟩) := blk_cell H3.out.r4 2; have o3 : w3.cell? ⟨w.heap.size + 1 + 1, 3, none⟩ = some (.string ⟨#[]⟩) := blk_cell H3.out.r4 3; have fo0 := blk_frozen H3.out.r4 0; have fo1 := blk_frozen H3.out.r4 1; have fo2 := blk_frozen H3.out.r4 2; have fo3 := blk_frozen H3.out.r4 3; skip)
            refine bodyPost_ret (results_ct rfl _ _ (w.heap.size + 1 + 1) 26 #[.slice (some ⟨bc, 0, none⟩) 2 cp, .bool false, .string ⟨#[]⟩, .string ⟨#[]⟩] (0, 0) _ rfl (by exact (blk_put (blk_put (blk_put (blk_put H3.out.r4 0 (.slice (some ⟨bc, 0, none⟩) 2 cp) rfl) 1 (.bool false) rfl) 2 (.string ⟨#[]⟩) rfl) 3 (.string ⟨#[]⟩) rfl)) Tryd.underlying26 rfl (by kernel_rfl)) rfl ?_
            have HN : zs [pt ns 0, newM (pt ns 1) d u off] = [(pt ns 0 : Int), ((pt ns 1 : Int) - (V : Int) : Int)] := HNZ.out.trans (by rw [show ((pt ns 1 - min (pt ns 1) V : Nat) : Int) = (pt ns 1 : Int) - (V : Int) by omega])
            have hE := row_end (Kd.R_far (p := ⟨w.heap.size + 1 + 1, 3, none⟩) (Kd.R_far (p := ⟨w.heap.size + 1 + 1, 2, none⟩) (Kd.R_far (p := ⟨w.heap.size + 1 + 1, 1, none⟩) (Kd.R_far (p := ⟨w.heap.size + 1 + 1, 0, none⟩) (Kd.R_mono (Kd.R_bound R3.out) (ok' := fun k => True ∧ k ≠ w.heap.size + 1 + 1) (fun k hk => ⟨trivial, by have := blk_lt H2.out.r4; have := hk.2.1; omega⟩)) (fun k hk => by exact hk.2) (.slice (some ⟨bc, 0, none⟩) 2 cp)) (fun k hk => by exact hk.2) (.bool false)) (fun k hk => by exact hk.2) (.string ⟨#[]⟩)) (fun k hk => by exact hk.2) (.string ⟨#[]⟩)) HN
            exact ⟨Or.inr ⟨HW.out, _, _, rfl, hE.1, hE.2⟩, (by repeat (first | (with_reducible exact H3.out.bel) | refine below_set ?_ (by show w.heap.size ≤ w.heap.size + 1 + 1; omega) | apply below_alloc | apply pw_below_drewN | apply below_drew1))⟩
          · have c3a : ((V : Int) < (pt ns 1 : Int)) = False := eq_false (by omega)
            have c3b : (V < pt ns 1) = False := eq_false c3
            go_wp2_with fail
            go_region
            go_wp2_with fail
            go_region
            generalize (if off < wrap64 (-off) then wrap64 (-off) else off) = M at HX ⊢
            rw [HX.out]
            go_wp2_with ((with_reducible refine gate_dst (N := 108) rfl ?_); refine Kd.R_lit (Kd.int .u64) (w0 := w2) w2.heap.size 22 ?hg (N := 108) ?hd (xs := [((pt ns 0 : Int) : Int), (0 : Int)]) (inner := [.int .u64 ((pt ns 0 : Int) : Int), .int .u64 (0 : Int)]) (ok := fun _ => True) (okp := fun _ => True) ?hr ?hp (fun _ hk => hk) trivial ?hB ?hZ (by simp) ?_; (case hd => rfl); (case hg => rfl); (case hr => first | (go_simp; done) | (go_simp; rfl)); (case hB => exact (by repeat (first | (with_reducible exact Below.refl _ _) | apply pw_below_drewN | apply below_drew1))); (case hZ => first | exact Nat.le_refl _ | (simp; done)); (case hp => exact (((Reps.none _ _).snoc (show Kd.M (Kd.int .u64) _ _ _ ((pt ns 0 : Int) : Int) [.int .u64 ((pt ns 0 : Int) : Int)] from rfl) rfl).snoc (show Kd.M (Kd.int .u64) _ _ _ (0 : Int) [.int .u64 (0 : Int)] from rfl) rfl)); intro v3 w3 ho hb hgr hat; have H3 := Aside0.mk (H2.out.below hb); obtain ⟨bc, cp, e9, h9, -, -⟩ := Kd.R_form ho (by show 0 < 2; decide); have e9 : v3 = .slice (some ⟨bc, 0, none⟩) 2 cp := e9; subst e9; have R3 := Aside0.mk ho; have N3 : Aside0 (bc ≠ w.heap.size + 1 + 1) := ⟨by have := blk_lt H2.out.r4; omega⟩; clear ho hb hgr hat h9 o0 o1 o2 o3 fo0 fo1 fo2 fo3; have o0 : w3.cell? ⟨w.heap.size + 1 + 1, 0, none⟩ = some (.slice none 0 0) := blk_cell H3.out.r4 0; have o1 : w3.cell? ⟨w.heap.size + 1 + 1, 1, none⟩ = some (.bool false) := blk_cell H3.out.r4 1; have o2 : w3.cell? ⟨w.heap.size + 1 + 1, 2, none⟩ = some (.string ⟨#[]⟩) := blk_cell H3.out.r4 2; have o3 : w3.cell? ⟨w.heap.size + 1 + 1, 3, none⟩ = some (.string ⟨#[]⟩) := blk_cell H3.out.r4 3; have fo0 := blk_frozen H3.out.r4 0; have fo1 := blk_frozen H3.out.r4 1; have fo2 := blk_frozen H3.out.r4 2; have fo3 := blk_frozen H3.out.r4 3; skip)
            refine bodyPost_ret (results_ct rfl _ _ (w.heap.size + 1 + 1) 26 #[.slice (some ⟨bc, 0, none⟩) 2 cp, .bool false, .string ⟨#[]⟩, .string ⟨#[]⟩] (0, 0) _ rfl (by exact (blk_put (blk_put (blk_put (blk_put H3.out.r4 0 (.slice (some ⟨bc, 0, none⟩) 2 cp) rfl) 1 (.bool false) rfl) 2 (.string ⟨#[]⟩) rfl) 3 (.string ⟨#[]⟩) rfl)) Tryd.underlying26 rfl (by kernel_rfl)) rfl ?_
            have HN : zs [pt ns 0, newM (pt ns 1) d u off] = [(pt ns 0 : Int), (0 : Int)] := HNZ.out.trans (by rw [show ((pt ns 1 - min (pt ns 1) V : Nat) : Int) = 0 by omega])
            have hE := row_end (Kd.R_far (p := ⟨w.heap.size + 1 + 1, 3, none⟩) (Kd.R_far (p := ⟨w.heap.size + 1 + 1, 2, none⟩) (Kd.R_far (p := ⟨w.heap.size + 1 + 1, 1, none⟩) (Kd.R_far (p := ⟨w.heap.size + 1 + 1, 0, none⟩) (Kd.R_mono (Kd.R_bound R3.out) (ok' := fun k => True ∧ k ≠ w.heap.size + 1 + 1) (fun k hk => ⟨trivial, by have := blk_lt H2.out.r4; have := hk.2.1; omega⟩)) (fun k hk => by exact hk.2) (.slice (some ⟨bc, 0, none⟩) 2 cp)) (fun k hk => by exact hk.2) (.bool false)) (fun k hk => by exact hk.2) (.string ⟨#[]⟩)) (fun k hk => by exact hk.2) (.string ⟨#[]⟩)) HN
            exact ⟨Or.inr ⟨HW.out, _, _, rfl, hE.1, hE.2⟩, (by repeat (first | (with_reducible exact H3.out.bel) | refine below_set ?_ (by show w.heap.size ≤ w.heap.size + 1 + 1; omega) | apply below_alloc | apply pw_below_drewN | apply below_drew1))⟩
end Go.Proofs.YtomoefldmgfaoaaDoor.Pv.SFnVersionSteps
