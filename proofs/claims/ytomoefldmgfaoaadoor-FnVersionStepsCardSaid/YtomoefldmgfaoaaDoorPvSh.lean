/- Versions: the reference's comparison with what the program told, where they are the same: walked. -/
import Derived.Test.YtomoefldmgfaoaaDoorPvSf
import Derived.Test.YtomoefldmgfaoaaDoorPvVd
import Derived.Deep.RegionHeld3
import Derived.Test.YtomoefldmgfaoaaDoorPFnVersionStepsx9
set_option linter.unusedVariables false
set_option linter.unusedSimpArgs false
namespace Go.Proofs.YtomoefldmgfaoaaDoor.Pv.SFnVersionSteps
open Go Go.RowKit Go.Proofs.YtomoefldmgfaoaaDoor Go.Proofs.YtomoefldmgfaoaaDoorW.PrintWords Go.Proofs.YtomoefldmgfaoaaDoor.PFnVersionSteps Go.Proofs.YtomoefldmgfaoaaDoor.Txt Go.Proofs.YtomoefldmgfaoaaDoor.Small Go.Proofs.YtomoefldmgfaoaaDoor.Pv

abbrev boxI (A1 : Option Addr) (c1 : Nat) (ns : List Nat) (p b : Bs) : Obj := .cells #[.bool true, .slice A1 ns.length c1, .string (mk p), .string (mk b), .string (mk (vtxt ns p b)), .int .u64 (pt ns 0 : Int), .int .u64 (pt ns 1 : Int), .int .u64 (pt ns 2 : Int)] 28 (0, 0)
structure AtM (w W : World) (A : Option Addr) (c : Nat) (A1 : Option Addr) (c1 : Nat) (ns : List Nat) (sem : Bool) (p b : Bs) : Prop where
  r2 : W.heap[w.heap.size]? = some (boxV A ns.length c sem (mk p) (mk b))
  r3 : W.heap[w.heap.size + 1]? = some (boxI A1 c1 ns p b)
  bel : Below w.heap.size w W
  row : Row W A c ns
  row1 : Row W A1 c1 ns
theorem AtM.below {w W W' : World} {A : Option Addr} {c : Nat} {A1 : Option Addr} {c1 : Nat} {ns : List Nat} {sem : Bool} {p b : Bs} (h : AtM w W A c A1 c1 ns sem p b) (hb : Below W.heap.size W W') : AtM w W' A c A1 c1 ns sem p b :=
  ⟨blk_below h.r2 hb, blk_below h.r3 hb, below_step h.bel hb, ⟨Kd.C_below h.row.1 hb, h.row.2⟩, ⟨Kd.C_below h.row1.1 hb, h.row1.2⟩⟩
theorem AtM.drew {w W : World} {A : Option Addr} {c : Nat} {A1 : Option Addr} {c1 : Nat} {ns : List Nat} {sem : Bool} {p b : Bs} (h : AtM w W A c A1 c1 ns sem p b) : AtM w W.drew A c A1 c1 ns sem p b := h.below (below_drew1 (Below.refl _ _))
theorem atM_start {w : World} {A : Option Addr} {c : Nat} {A1 : Option Addr} {c1 : Nat} {ns : List Nat} (sem : Bool) (p b : Bs) (h : Row w A c ns) (h1 : Row w A1 c1 ns) : AtM w ((w.alloc (boxV A ns.length c sem (mk p) (mk b))).alloc (boxI A1 c1 ns p b)) A c A1 c1 ns sem p b :=
  ⟨blk_alloc (blk_new w _) _, new2 w _ _, by repeat (first | exact Below.refl _ _ | apply below_alloc), ⟨Kd.C_below h.1 (by repeat (first | exact Below.refl _ _ | apply below_alloc)), h.2⟩, ⟨Kd.C_below h1.1 (by repeat (first | exact Below.refl _ _ | apply below_alloc)), h1.2⟩⟩
set_option maxHeartbeats 25600000 in
set_option maxRecDepth 100000 in
theorem sm_calls (A : Option Addr) (c : Nat) (A1 : Option Addr) (c1 : Nat) (ns : List Nat) (sem : Bool) (p b : Bs) (hns : ∀ n ∈ ns, n < 18446744073709551616) (hl : ns.length ≤ 8589934594) (hp : p.length ≤ 8589934592) (hb : b.length ≤ 8589934592) (w : World) (h : Row w A c ns) (h1 : Row w A1 c1 ns) :
    Calls Tryd.prog 9 #[.agg #[.slice A ns.length c, .bool sem, .string (mk p), .string (mk b)], .agg #[.bool true, .slice A1 ns.length c1, .string (mk p), .string (mk b), .string (mk (vtxt ns p b)), .int .u64 (pt ns 0 : Int), .int .u64 (pt ns 1 : Int), .int .u64 (pt ns 2 : Int)]] w fun e w' => e = .returned (.bool true) ∧ Below w.heap.size w w' := by
  have mixed : Tryd.prog.follows .mixedOrders = true := by kernel_rfl
  have hu1 := Tryd.underlying26
  have hu2 := Tryd.underlying28
  obtain ⟨K, hK⟩ := text_ev ns sem p b hns hl hp hb
  have HT := Aside0.mk (fun W (hr : Row W A c ns) => spec_Version_Text.calls K A c (zs ns) sem (mk p) (mk b) _ W hr.1 hr.2 (hK K (Nat.le_refl _)))
  have HP0 := Aside0.mk (fun W (hr : Row W A c ns) => spec_Version_part.calls A c (zs ns) sem (mk p) (mk b) 0 (pt ns 0 : Int) W hr.1 hr.2 (partZ ns sem (mk p) (mk b) 0))
  have HP1 := Aside0.mk (fun W (hr : Row W A c ns) => spec_Version_part.calls A c (zs ns) sem (mk p) (mk b) 1 (pt ns 1 : Int) W hr.1 hr.2 (partZ ns sem (mk p) (mk b) 1))
  have HP2 := Aside0.mk (fun W (hr : Row W A c ns) => spec_Version_part.calls A c (zs ns) sem (mk p) (mk b) 2 (pt ns 2 : Int) W hr.1 hr.2 (partZ ns sem (mk p) (mk b) 2))
  rw [List.length_map] at HT HP0 HP1 HP2
  have HS := Aside0.mk (atM_start sem p b h h1)
  have HL := Aside0.mk hl
  clear h h1 hns hl hp hb hK
  go_enter Tryd.func9, Tryd.ntmps9
  go_wp2_with fail
  have H0 := HS
  clear HS
  generalize ((w.alloc (boxV A ns.length c sem (mk p) (mk b))).alloc (boxI A1 c1 ns p b)) = W0 at H0 ⊢
  have v0 : W0.cell? ⟨w.heap.size, 0, none⟩ = some (.slice A ns.length c) := blk_cell H0.out.r2 0; have v1 : W0.cell? ⟨w.heap.size, 1, none⟩ = some (.bool sem) := blk_cell H0.out.r2 1; have v2 : W0.cell? ⟨w.heap.size, 2, none⟩ = some (.string (mk p)) := blk_cell H0.out.r2 2; have v3 : W0.cell? ⟨w.heap.size, 3, none⟩ = some (.string (mk b)) := blk_cell H0.out.r2 3; have u0 : W0.cell? ⟨w.heap.size + 1, 0, none⟩ = some (.bool true) := blk_cell H0.out.r3 0; have u1 : W0.cell? ⟨w.heap.size + 1, 1, none⟩ = some (.slice A1 ns.length c1) := blk_cell H0.out.r3 1; have u2 : W0.cell? ⟨w.heap.size + 1, 2, none⟩ = some (.string (mk p)) := blk_cell H0.out.r3 2; have u3 : W0.cell? ⟨w.heap.size + 1, 3, none⟩ = some (.string (mk b)) := blk_cell H0.out.r3 3; have u4 : W0.cell? ⟨w.heap.size + 1, 4, none⟩ = some (.string (mk (vtxt ns p b))) := blk_cell H0.out.r3 4; have u5 : W0.cell? ⟨w.heap.size + 1, 5, none⟩ = some (.int .u64 (pt ns 0 : Int)) := blk_cell H0.out.r3 5; have u6 : W0.cell? ⟨w.heap.size + 1, 6, none⟩ = some (.int .u64 (pt ns 1 : Int)) := blk_cell H0.out.r3 6; have u7 : W0.cell? ⟨w.heap.size + 1, 7, none⟩ = some (.int .u64 (pt ns 2 : Int)) := blk_cell H0.out.r3 7; skip
  go_region_held3 (fun w' => w'.cell? ⟨w.heap.size, 0, none⟩ = some (.slice A ns.length c) ∧ w'.cell? ⟨w.heap.size, 1, none⟩ = some (.bool sem) ∧ w'.cell? ⟨w.heap.size, 2, none⟩ = some (.string (mk p)) ∧ w'.cell? ⟨w.heap.size, 3, none⟩ = some (.string (mk b)) ∧ w'.cell? ⟨w.heap.size + 1, 0, none⟩ = some (.bool true) ∧ w'.cell? ⟨w.heap.size + 1, 1, none⟩ = some (.slice A1 ns.length c1) ∧ w'.cell? ⟨w.heap.size + 1, 2, none⟩ = some (.string (mk p)) ∧ w'.cell? ⟨w.heap.size + 1, 3, none⟩ = some (.string (mk b)) ∧ w'.cell? ⟨w.heap.size + 1, 4, none⟩ = some (.string (mk (vtxt ns p b))) ∧ w'.cell? ⟨w.heap.size + 1, 5, none⟩ = some (.int .u64 (pt ns 0 : Int)) ∧ w'.cell? ⟨w.heap.size + 1, 6, none⟩ = some (.int .u64 (pt ns 1 : Int)) ∧ w'.cell? ⟨w.heap.size + 1, 7, none⟩ = some (.int .u64 (pt ns 2 : Int))) (first | exact ⟨v0, v1, v2, v3, u0, u1, u2, u3, u4, u5, u6, u7⟩ | exact ⟨x0, x1, x2, x3, xx0, xx1, xx2, xx3, xx4, xx5, xx6, xx7⟩ | exact ⟨y0, y1, y2, y3, yy0, yy1, yy2, yy3, yy4, yy5, yy6, yy7⟩ | exact ⟨z0, z1, z2, z3, zz0, zz1, zz2, zz3, zz4, zz5, zz6, zz7⟩) (first
    | (go_at_call 13; (with_reducible refine (HT.out _ H0.out.drew.row).mono ?_); rintro e w1 ⟨rfl, hb⟩; have H1 := Aside0.mk (H0.out.drew.below hb); clear hb; have x0 : w1.cell? ⟨w.heap.size, 0, none⟩ = some (.slice A ns.length c) := blk_cell H1.out.r2 0; have x1 : w1.cell? ⟨w.heap.size, 1, none⟩ = some (.bool sem) := blk_cell H1.out.r2 1; have x2 : w1.cell? ⟨w.heap.size, 2, none⟩ = some (.string (mk p)) := blk_cell H1.out.r2 2; have x3 : w1.cell? ⟨w.heap.size, 3, none⟩ = some (.string (mk b)) := blk_cell H1.out.r2 3; have xx0 : w1.cell? ⟨w.heap.size + 1, 0, none⟩ = some (.bool true) := blk_cell H1.out.r3 0; have xx1 : w1.cell? ⟨w.heap.size + 1, 1, none⟩ = some (.slice A1 ns.length c1) := blk_cell H1.out.r3 1; have xx2 : w1.cell? ⟨w.heap.size + 1, 2, none⟩ = some (.string (mk p)) := blk_cell H1.out.r3 2; have xx3 : w1.cell? ⟨w.heap.size + 1, 3, none⟩ = some (.string (mk b)) := blk_cell H1.out.r3 3; have xx4 : w1.cell? ⟨w.heap.size + 1, 4, none⟩ = some (.string (mk (vtxt ns p b))) := blk_cell H1.out.r3 4; have xx5 : w1.cell? ⟨w.heap.size + 1, 5, none⟩ = some (.int .u64 (pt ns 0 : Int)) := blk_cell H1.out.r3 5; have xx6 : w1.cell? ⟨w.heap.size + 1, 6, none⟩ = some (.int .u64 (pt ns 1 : Int)) := blk_cell H1.out.r3 6; have xx7 : w1.cell? ⟨w.heap.size + 1, 7, none⟩ = some (.int .u64 (pt ns 2 : Int)) := blk_cell H1.out.r3 7; skip)
    | (go_at_call 28; (with_reducible refine (HP0.out _ H1.out.row).mono ?_); rintro e w2 ⟨rfl, hb⟩; have H2 := Aside0.mk (H1.out.below hb); clear hb; have y0 : w2.cell? ⟨w.heap.size, 0, none⟩ = some (.slice A ns.length c) := blk_cell H2.out.r2 0; have y1 : w2.cell? ⟨w.heap.size, 1, none⟩ = some (.bool sem) := blk_cell H2.out.r2 1; have y2 : w2.cell? ⟨w.heap.size, 2, none⟩ = some (.string (mk p)) := blk_cell H2.out.r2 2; have y3 : w2.cell? ⟨w.heap.size, 3, none⟩ = some (.string (mk b)) := blk_cell H2.out.r2 3; have yy0 : w2.cell? ⟨w.heap.size + 1, 0, none⟩ = some (.bool true) := blk_cell H2.out.r3 0; have yy1 : w2.cell? ⟨w.heap.size + 1, 1, none⟩ = some (.slice A1 ns.length c1) := blk_cell H2.out.r3 1; have yy2 : w2.cell? ⟨w.heap.size + 1, 2, none⟩ = some (.string (mk p)) := blk_cell H2.out.r3 2; have yy3 : w2.cell? ⟨w.heap.size + 1, 3, none⟩ = some (.string (mk b)) := blk_cell H2.out.r3 3; have yy4 : w2.cell? ⟨w.heap.size + 1, 4, none⟩ = some (.string (mk (vtxt ns p b))) := blk_cell H2.out.r3 4; have yy5 : w2.cell? ⟨w.heap.size + 1, 5, none⟩ = some (.int .u64 (pt ns 0 : Int)) := blk_cell H2.out.r3 5; have yy6 : w2.cell? ⟨w.heap.size + 1, 6, none⟩ = some (.int .u64 (pt ns 1 : Int)) := blk_cell H2.out.r3 6; have yy7 : w2.cell? ⟨w.heap.size + 1, 7, none⟩ = some (.int .u64 (pt ns 2 : Int)) := blk_cell H2.out.r3 7; skip)
    | (go_at_call 28; (with_reducible refine (HP1.out _ H2.out.row).mono ?_); rintro e w3 ⟨rfl, hb⟩; have H3 := Aside0.mk (H2.out.below hb); clear hb; have z0 : w3.cell? ⟨w.heap.size, 0, none⟩ = some (.slice A ns.length c) := blk_cell H3.out.r2 0; have z1 : w3.cell? ⟨w.heap.size, 1, none⟩ = some (.bool sem) := blk_cell H3.out.r2 1; have z2 : w3.cell? ⟨w.heap.size, 2, none⟩ = some (.string (mk p)) := blk_cell H3.out.r2 2; have z3 : w3.cell? ⟨w.heap.size, 3, none⟩ = some (.string (mk b)) := blk_cell H3.out.r2 3; have zz0 : w3.cell? ⟨w.heap.size + 1, 0, none⟩ = some (.bool true) := blk_cell H3.out.r3 0; have zz1 : w3.cell? ⟨w.heap.size + 1, 1, none⟩ = some (.slice A1 ns.length c1) := blk_cell H3.out.r3 1; have zz2 : w3.cell? ⟨w.heap.size + 1, 2, none⟩ = some (.string (mk p)) := blk_cell H3.out.r3 2; have zz3 : w3.cell? ⟨w.heap.size + 1, 3, none⟩ = some (.string (mk b)) := blk_cell H3.out.r3 3; have zz4 : w3.cell? ⟨w.heap.size + 1, 4, none⟩ = some (.string (mk (vtxt ns p b))) := blk_cell H3.out.r3 4; have zz5 : w3.cell? ⟨w.heap.size + 1, 5, none⟩ = some (.int .u64 (pt ns 0 : Int)) := blk_cell H3.out.r3 5; have zz6 : w3.cell? ⟨w.heap.size + 1, 6, none⟩ = some (.int .u64 (pt ns 1 : Int)) := blk_cell H3.out.r3 6; have zz7 : w3.cell? ⟨w.heap.size + 1, 7, none⟩ = some (.int .u64 (pt ns 2 : Int)) := blk_cell H3.out.r3 7; skip))
  clear H0 H1 H2 HT HP0 HP1 v0 x0 y0 z0 v1 x1 y1 z1 v2 x2 y2 z2 v3 x3 y3 z3 u0 xx0 yy0 zz0 u1 xx1 yy1 zz1 u2 xx2 yy2 zz2 u3 xx3 yy3 zz3 u4 xx4 yy4 zz4 u5 xx5 yy5 zz5 u6 xx6 yy6 zz6 u7 xx7 yy7 zz7
  go_wp2_with fail
  go_loopw [5] (fun i wr => ∃ k : Nat, k ≤ ns.length ∧ i = .int .i64 (k : Int) ∧ Aside0 (AtM w wr A c A1 c1 ns sem p b)) (fun i _ => ns.length - (intOf i).toNat)
  case atStart => exact ⟨0, Nat.zero_le _, rfl, H3⟩
  case round =>
    clear H3
    obtain ⟨k, hk, rfl, HM⟩ := hrel
    have p0 : (0 ≤ (k : Int)) = True := eq_true (by omega)
    have m0 : wr.cell? ⟨w.heap.size, 0, none⟩ = some (.slice A ns.length c) := blk_cell HM.out.r2 0; have m1 : wr.cell? ⟨w.heap.size, 1, none⟩ = some (.bool sem) := blk_cell HM.out.r2 1; have m2 : wr.cell? ⟨w.heap.size, 2, none⟩ = some (.string (mk p)) := blk_cell HM.out.r2 2; have m3 : wr.cell? ⟨w.heap.size, 3, none⟩ = some (.string (mk b)) := blk_cell HM.out.r2 3; have n0 : wr.cell? ⟨w.heap.size + 1, 0, none⟩ = some (.bool true) := blk_cell HM.out.r3 0; have n1 : wr.cell? ⟨w.heap.size + 1, 1, none⟩ = some (.slice A1 ns.length c1) := blk_cell HM.out.r3 1; have n2 : wr.cell? ⟨w.heap.size + 1, 2, none⟩ = some (.string (mk p)) := blk_cell HM.out.r3 2; have n3 : wr.cell? ⟨w.heap.size + 1, 3, none⟩ = some (.string (mk b)) := blk_cell HM.out.r3 3; have n4 : wr.cell? ⟨w.heap.size + 1, 4, none⟩ = some (.string (mk (vtxt ns p b))) := blk_cell HM.out.r3 4; have n5 : wr.cell? ⟨w.heap.size + 1, 5, none⟩ = some (.int .u64 (pt ns 0 : Int)) := blk_cell HM.out.r3 5; have n6 : wr.cell? ⟨w.heap.size + 1, 6, none⟩ = some (.int .u64 (pt ns 1 : Int)) := blk_cell HM.out.r3 6; have n7 : wr.cell? ⟨w.heap.size + 1, 7, none⟩ = some (.int .u64 (pt ns 2 : Int)) := blk_cell HM.out.r3 7; skip
    by_cases hlt : k < ns.length
    · have q1 : ((k : Int) < (ns.length : Int)) = True := eq_true (by omega)
      have w9 : wrap64 ((k : Int) + 1) = (k : Int) + 1 := w64 _ (by omega) (by have := HL.out; omega)
      obtain ⟨ad, eA, hx⟩ := Kd.at_int HM.out.row.1 (k : Int) (by omega) (by rw [List.length_map]; omega)
      obtain ⟨ad1, eA1, hx1⟩ := Kd.at_int HM.out.row1.1 (k : Int) (by omega) (by rw [List.length_map]; omega)
      cases eA
      cases eA1
      rw [Int.toNat_natCast] at hx hx1
      generalize rdOf (0 : Int) (zs ns) (k : Int) = N at hx hx1
      have HK := Aside0.mk (show k + 1 ≤ ns.length from hlt)
      have HMM := Aside0.mk (show ns.length - ((k : Int) + 1).toNat < ns.length - (k : Int).toNat by omega)
      go_wp2_with fail
      go_region
      go_wp2
      go_roundw
      case measure => rw [w9]; exact HMM.out
      case rel => exact ⟨k + 1, HK.out, by rw [w9]; simp, ⟨HM.out.drew⟩⟩
    · have q1 : ((k : Int) < (ns.length : Int)) = False := eq_false (by omega)
      cases hB : (!sem && decide (2 < ns.length)) with
      | true =>
        obtain ⟨rfl, q2⟩ : sem = false ∧ 2 < ns.length := by simpa using hB
        have q3 : ((2 : Int) < (ns.length : Int)) = True := eq_true (by omega)
        have q4 : (2 < ns.length) = True := eq_true q2
        have q5 : decide ((2 : Int) < (ns.length : Int)) = true := decide_eq_true (by omega)
        have q6 : decide (2 < ns.length) = true := decide_eq_true q2
        clear hB q2
        go_wp2_with fail
        go_region
        all_goals go_wp2
        all_goals go_ret
        all_goals exact ⟨rfl, by repeat (first | (with_reducible exact HM.out.bel) | apply below_drew1 | apply pw_below_drewN)⟩
      | false =>
        have hB2 : sem = true ∨ (sem = false ∧ ¬ 2 < ns.length) := by cases sem <;> simp at hB ⊢; omega
        rcases hB2 with rfl | ⟨rfl, q2⟩
        · clear hB
          go_wp2_with fail
          first | go_region_with ((go_at_call 28; (with_reducible refine (HP2.out _ HM.out.drew.row).mono ?_); rintro e w9 ⟨rfl, hb⟩; have H9 := Aside0.mk (HM.out.drew.below hb); clear hb; have o0 : w9.cell? ⟨w.heap.size, 0, none⟩ = some (.slice A ns.length c) := blk_cell H9.out.r2 0; have o1 : w9.cell? ⟨w.heap.size, 1, none⟩ = some (.bool true) := blk_cell H9.out.r2 1; have o2 : w9.cell? ⟨w.heap.size, 2, none⟩ = some (.string (mk p)) := blk_cell H9.out.r2 2; have o3 : w9.cell? ⟨w.heap.size, 3, none⟩ = some (.string (mk b)) := blk_cell H9.out.r2 3; have oo0 : w9.cell? ⟨w.heap.size + 1, 0, none⟩ = some (.bool true) := blk_cell H9.out.r3 0; have oo1 : w9.cell? ⟨w.heap.size + 1, 1, none⟩ = some (.slice A1 ns.length c1) := blk_cell H9.out.r3 1; have oo2 : w9.cell? ⟨w.heap.size + 1, 2, none⟩ = some (.string (mk p)) := blk_cell H9.out.r3 2; have oo3 : w9.cell? ⟨w.heap.size + 1, 3, none⟩ = some (.string (mk b)) := blk_cell H9.out.r3 3; have oo4 : w9.cell? ⟨w.heap.size + 1, 4, none⟩ = some (.string (mk (vtxt ns p b))) := blk_cell H9.out.r3 4; have oo5 : w9.cell? ⟨w.heap.size + 1, 5, none⟩ = some (.int .u64 (pt ns 0 : Int)) := blk_cell H9.out.r3 5; have oo6 : w9.cell? ⟨w.heap.size + 1, 6, none⟩ = some (.int .u64 (pt ns 1 : Int)) := blk_cell H9.out.r3 6; have oo7 : w9.cell? ⟨w.heap.size + 1, 7, none⟩ = some (.int .u64 (pt ns 2 : Int)) := blk_cell H9.out.r3 7; skip)) | fail "no"
          all_goals go_wp2
          all_goals go_ret
          all_goals exact ⟨rfl, H9.out.bel⟩
        · have q3 : ((2 : Int) < (ns.length : Int)) = False := eq_false (by omega)
          have q4 : (2 < ns.length) = False := eq_false q2
          have q5 : decide ((2 : Int) < (ns.length : Int)) = false := decide_eq_false (by omega)
          have q6 : decide (2 < ns.length) = false := decide_eq_false q2
          clear hB q2
          go_wp2_with fail
          go_region_held3 (fun w' => w'.cell? ⟨w.heap.size, 0, none⟩ = some (.slice A ns.length c) ∧ w'.cell? ⟨w.heap.size, 1, none⟩ = some (.bool false) ∧ w'.cell? ⟨w.heap.size, 2, none⟩ = some (.string (mk p)) ∧ w'.cell? ⟨w.heap.size, 3, none⟩ = some (.string (mk b)) ∧ w'.cell? ⟨w.heap.size + 1, 0, none⟩ = some (.bool true) ∧ w'.cell? ⟨w.heap.size + 1, 1, none⟩ = some (.slice A1 ns.length c1) ∧ w'.cell? ⟨w.heap.size + 1, 2, none⟩ = some (.string (mk p)) ∧ w'.cell? ⟨w.heap.size + 1, 3, none⟩ = some (.string (mk b)) ∧ w'.cell? ⟨w.heap.size + 1, 4, none⟩ = some (.string (mk (vtxt ns p b))) ∧ w'.cell? ⟨w.heap.size + 1, 5, none⟩ = some (.int .u64 (pt ns 0 : Int)) ∧ w'.cell? ⟨w.heap.size + 1, 6, none⟩ = some (.int .u64 (pt ns 1 : Int)) ∧ w'.cell? ⟨w.heap.size + 1, 7, none⟩ = some (.int .u64 (pt ns 2 : Int))) (first | exact ⟨m0, m1, m2, m3, n0, n1, n2, n3, n4, n5, n6, n7⟩ | exact ⟨o0, o1, o2, o3, oo0, oo1, oo2, oo3, oo4, oo5, oo6, oo7⟩) (first | (go_at_call 28; (with_reducible refine (HP2.out _ HM.out.drew.row).mono ?_); rintro e w9 ⟨rfl, hb⟩; have H9 := Aside0.mk (HM.out.drew.below hb); clear hb; have o0 : w9.cell? ⟨w.heap.size, 0, none⟩ = some (.slice A ns.length c) := blk_cell H9.out.r2 0; have o1 : w9.cell? ⟨w.heap.size, 1, none⟩ = some (.bool false) := blk_cell H9.out.r2 1; have o2 : w9.cell? ⟨w.heap.size, 2, none⟩ = some (.string (mk p)) := blk_cell H9.out.r2 2; have o3 : w9.cell? ⟨w.heap.size, 3, none⟩ = some (.string (mk b)) := blk_cell H9.out.r2 3; have oo0 : w9.cell? ⟨w.heap.size + 1, 0, none⟩ = some (.bool true) := blk_cell H9.out.r3 0; have oo1 : w9.cell? ⟨w.heap.size + 1, 1, none⟩ = some (.slice A1 ns.length c1) := blk_cell H9.out.r3 1; have oo2 : w9.cell? ⟨w.heap.size + 1, 2, none⟩ = some (.string (mk p)) := blk_cell H9.out.r3 2; have oo3 : w9.cell? ⟨w.heap.size + 1, 3, none⟩ = some (.string (mk b)) := blk_cell H9.out.r3 3; have oo4 : w9.cell? ⟨w.heap.size + 1, 4, none⟩ = some (.string (mk (vtxt ns p b))) := blk_cell H9.out.r3 4; have oo5 : w9.cell? ⟨w.heap.size + 1, 5, none⟩ = some (.int .u64 (pt ns 0 : Int)) := blk_cell H9.out.r3 5; have oo6 : w9.cell? ⟨w.heap.size + 1, 6, none⟩ = some (.int .u64 (pt ns 1 : Int)) := blk_cell H9.out.r3 6; have oo7 : w9.cell? ⟨w.heap.size + 1, 7, none⟩ = some (.int .u64 (pt ns 2 : Int)) := blk_cell H9.out.r3 7; skip))
          go_wp2
          go_ret
          exact ⟨rfl, H9.out.bel⟩
end Go.Proofs.YtomoefldmgfaoaaDoor.Pv.SFnVersionSteps

/- Versions: the law of the steps: what its walk needs. -/
set_option linter.unusedVariables false
set_option linter.unusedSimpArgs false
namespace Go.Proofs.YtomoefldmgfaoaaDoor.Pv.SFnVersionSteps
open Go Go.RowKit Go.Proofs.YtomoefldmgfaoaaDoor Go.Proofs.YtomoefldmgfaoaaDoorW.PrintWords Go.Proofs.YtomoefldmgfaoaaDoor.PFnVersionSteps Go.Proofs.YtomoefldmgfaoaaDoor.Txt Go.Proofs.YtomoefldmgfaoaaDoor.Small Go.Proofs.YtomoefldmgfaoaaDoor.Pv

theorem fitsI_ev (ls : List S47) (hl : ls.length ≤ 2147483647) : ∀ (n i : Nat), ls.length - i = n → i ≤ ls.length → ∃ b, Ev (fun k => laws_zzFits15.l0 k ls (ls.length : Int) (i : Int)) b ∧ (b = true → ∀ s ∈ ls.drop i, s.f3.size ≤ 2147483647) := by
  intro n
  induction n with
  | zero =>
    intro i h1 h2
    exact ⟨true, Evs.at1 fun k => by rw [laws_zzFits15.l0, if_neg (by omega)], fun _ s hs => by rw [List.drop_eq_nil_of_le (by omega)] at hs; cases hs⟩
  | succ n ih =>
    intro i h1 h2
    have hlt : i < ls.length := by omega
    have hr : rd_T47 ls (i : Int) = ls[i] := by
      unfold rd_T47
      rw [Int.toNat_natCast, List.getD_eq_getElem?_getD, List.getElem?_eq_getElem hlt]; rfl
    obtain ⟨b, hb, hq⟩ := ih (i + 1) (by omega) hlt
    by_cases c : ((ls[i]).f3.size : Int) > 2147483647
    · exact ⟨false, Evs.at1 fun k => by rw [laws_zzFits15.l0, if_pos (by omega), if_pos (by omega), if_pos (by omega), hr, laws_zzFits16.f, if_pos c]; rfl, fun h => by cases h⟩
    · refine ⟨b, step (fun k => by rw [laws_zzFits15.l0, if_pos (by omega), if_pos (by omega), if_pos (by omega), hr, laws_zzFits16.f, if_neg c, Option.bind_some, if_pos rfl, w64s i (by omega)]) hb, fun h s hs => ?_⟩
      rw [List.drop_eq_getElem_cons hlt] at hs
      rcases List.mem_cons.1 hs with hs | hs
      · subst hs; omega
      · exact hq h s hs
theorem fits_ev (ls : List S47) : ∃ b, Ev (fun k => laws_zzFits15.f k ls) b ∧ (b = true → ls.length ≤ 2147483647 ∧ ∀ s ∈ ls, s.f3.size ≤ 2147483647) := by
  by_cases h : (ls.length : Int) > 2147483647
  · exact ⟨false, congr (f := fun _ => some false) (fun k => by unfold laws_zzFits15.f; rw [if_pos h]) (const _), fun h => by cases h⟩
  · obtain ⟨b, hb, hq⟩ := fitsI_ev ls (by omega) _ 0 rfl (Nat.zero_le _)
    exact ⟨b, congr (fun k => by unfold laws_zzFits15.f; rw [if_neg h]; rfl) hb, fun hh => ⟨by omega, by have := hq hh; rw [List.drop_zero] at this; exact this⟩⟩
abbrev aggV (A : Option Addr) (c : Nat) (q : Pd) : Value := .agg #[.slice A q.2.1.length c, .bool q.1, .string (mk q.2.2.1), .string (mk q.2.2.2)]
abbrev aggI (A : Option Addr) (c : Nat) (q : Pd) : Value := .agg #[.bool true, .slice A q.2.1.length c, .string (mk q.2.2.1), .string (mk q.2.2.2), .string (mk (vtxt q.2.1 q.2.2.1 q.2.2.2)), .int .u64 (pt q.2.1 0 : Int), .int .u64 (pt q.2.1 1 : Int), .int .u64 (pt q.2.1 2 : Int)]
theorem same_calls {q : Pd} (hf : FitP 8589934592 q) (A : Option Addr) (c : Nat) (A1 : Option Addr) (c1 : Nat) (W : World) (h : Row W A c q.2.1) (h1 : Row W A1 c1 q.2.1) :
    Calls Tryd.prog 9 #[aggV A c q, aggI A1 c1 q] W fun e w' => e = .returned (.bool true) ∧ Below W.heap.size W w' := by
  exact sm_calls A c A1 c1 q.2.1 q.1 q.2.2.1 q.2.2.2 hf.2.2.1 (by have := hf.2.1; omega) (by have := hf.2.2.2.1; omega) (by have := hf.2.2.2.2; omega) W h h1
theorem row_block {W : World} {A : Option Addr} {c : Nat} {ns : List Nat} {g n0 c0 : Nat} {A0 : Option Addr} {sem : Bool} {p b : ByteArray} (h : Row W A c ns) (hn : 0 < ns.length) (hb : W.heap[g]? = some (boxV A0 n0 c0 sem p b)) : ∃ ad, A = some ad ∧ ad.block ≠ g := by
  obtain ⟨ad, e, hx⟩ := row_cells h.1 hn
  refine ⟨ad, e, fun hg => ?_⟩
  obtain ⟨n, rs, rfl⟩ : ∃ n rs, ns = n :: rs := by cases ns with | nil => simp at hn | cons n rs => exact ⟨n, rs, rfl⟩
  have h0 := hx 0 (.int .u64 (n : Int)) rfl
  unfold World.cell? at h0
  rw [show (ad.add 0).block = g from hg, hb] at h0
  simp only at h0
  split at h0
  · cases h0
  · generalize (ad.add 0).off = k at h0
    match k, h0 with
    | 0, h0 => cases h0
    | 1, h0 => cases h0
    | 2, h0 => cases h0
    | 3, h0 => cases h0
    | k + 4, h0 => simp at h0
theorem add_block (a : Addr) (n : Nat) : (a.add n).block = a.block := by unfold Addr.add; split <;> rfl
theorem row_set {W : World} {A : Option Addr} {c : Nat} {ns : List Nat} {g n0 c0 : Nat} {A0 : Option Addr} {sem : Bool} {p b : ByteArray} (h : Row W A c ns) (hn : 0 < ns.length) (hb : W.heap[g]? = some (boxV A0 n0 c0 sem p b)) (i : Nat) (v : Value) : Row (W.setCell ⟨g, i, none⟩ v) A c ns := by
  obtain ⟨ad, rfl, hne⟩ := row_block h hn hb
  obtain ⟨⟨h1, h2, h3⟩, hc⟩ := h
  refine ⟨⟨h1, h2, fun h0 => ?_⟩, hc⟩
  obtain ⟨ad', e, hx⟩ := h3 h0
  cases e
  refine ⟨ad, rfl, fun j p hj => ?_⟩
  obtain ⟨cc, hl, hk, hcell⟩ := hx j p hj
  refine ⟨cc, hl, hk, fun i' u hu => ?_⟩
  have := hcell i' u hu
  unfold World.cell? at this ⊢
  have e := Below.heap_setCell W ⟨g, i, none⟩ v (ad.add (j * (Kd.int .u64).sz + i')).block (by rw [add_block]; exact hne)
  rw [e]
  exact this
theorem got_cells {W : World} {base : Nat} {ok : Nat → Prop} {ad : Addr} {n cG : Nat} {r : List S28} (h : Kd.R k28 28 W base ok (.slice (some ad) n cG) r) (i : Nat) (q : Pd) (hi : r[i]? = some (verData q)) :
    ∃ A1 c1, W.cell? (ad.add (i * 8)) = some (.bool true) ∧ W.cell? ⟨(ad.add (i * 8)).block, (ad.add (i * 8)).off + 1, none⟩ = some (.slice A1 q.2.1.length c1) ∧ W.cell? ⟨(ad.add (i * 8)).block, (ad.add (i * 8)).off + 2, none⟩ = some (.string (mk q.2.2.1)) ∧ W.cell? ⟨(ad.add (i * 8)).block, (ad.add (i * 8)).off + 3, none⟩ = some (.string (mk q.2.2.2)) ∧ W.cell? ⟨(ad.add (i * 8)).block, (ad.add (i * 8)).off + 4, none⟩ = some (.string (mk (vtxt q.2.1 q.2.2.1 q.2.2.2))) ∧ W.cell? ⟨(ad.add (i * 8)).block, (ad.add (i * 8)).off + 5, none⟩ = some (.int .u64 (pt q.2.1 0 : Int)) ∧ W.cell? ⟨(ad.add (i * 8)).block, (ad.add (i * 8)).off + 6, none⟩ = some (.int .u64 (pt q.2.1 1 : Int)) ∧ W.cell? ⟨(ad.add (i * 8)).block, (ad.add (i * 8)).off + 7, none⟩ = some (.int .u64 (pt q.2.1 2 : Int)) ∧ Row W A1 c1 q.2.1 := by
  obtain ⟨-, -, hC⟩ := Kd.R_reads' h
  have hl : i < r.length := (List.getElem?_eq_some_iff.1 hi).1
  have hrd : rd_T28 r (i : Int) = verData q := by unfold rd_T28; rw [Int.toNat_natCast, List.getD_eq_getElem?_getD, hi]; rfl
  obtain ⟨ad', A1, c1, e, h0, h1, h2, h3, h4, h5, h6, h7, h8, h9⟩ := at_T28 hC (i : Int) (by omega) (by omega)
  cases e
  rw [hrd] at h0 h1 h2 h3 h4 h5 h6 h7 h8 h9
  rw [Int.toNat_natCast] at h0 h1 h2 h3 h4 h5 h6 h7
  refine ⟨A1, c1, h0, ?_, h2, h3, h4, h5, h6, h7, h9, h8⟩
  have : (verData q).f1.length = q.2.1.length := List.length_map ..
  rw [this] at h1
  exact h1
end Go.Proofs.YtomoefldmgfaoaaDoor.Pv.SFnVersionSteps

/- Versions: the law of the steps, walked. -/
set_option linter.unusedVariables false
set_option linter.unusedSimpArgs false
namespace Go.Proofs.YtomoefldmgfaoaaDoor.Pv.SFnVersionSteps
open Go Go.RowKit Go.Proofs.YtomoefldmgfaoaaDoor Go.Proofs.YtomoefldmgfaoaaDoorW.PrintWords Go.Proofs.YtomoefldmgfaoaaDoor.PFnVersionSteps Go.Proofs.YtomoefldmgfaoaaDoor.Txt Go.Proofs.YtomoefldmgfaoaaDoor.Small Go.Proofs.YtomoefldmgfaoaaDoor.Pv

/-- What the numbers of a step may be. -/
def Fits (x : S47) : Prop := (-9223372036854775808 ≤ x.f0 ∧ x.f0 ≤ 9223372036854775807) ∧ (0 ≤ x.f1 ∧ x.f1 < 18446744073709551616) ∧ (-9223372036854775808 ≤ x.f2 ∧ x.f2 ≤ 9223372036854775807)
theorem fits_of {x : S47} (h : (Lit.int .i64 x.f0).wf = true ∧ (Lit.int .u64 x.f1).wf = true ∧ (Lit.int .i64 x.f2).wf = true ∧ x.f3.size ≤ maxLen) : Fits x := by
  obtain ⟨h0, h1, h2, -⟩ := h
  refine ⟨wf64 h0, ?_, wf64 h2⟩
  simp [Lit.wf, IntKind.min, IntKind.max, IntKind.signed, IntKind.bits] at h1
  omega
theorem stepsV_len : ∀ (l : List S47) (q : Pd), (stepsV q l).length = l.length
  | [], _ => rfl
  | x :: l, q => by show (stepsV _ l).length + 1 = l.length + 1; rw [stepsV_len l]
/-- What stands at a round's head: the version, and what was told. -/
structure LoopS (w wr : World) (g : Nat) (ad : Addr) (n cG : Nat) (r : List S28) (q : Pd) (A : Option Addr) (c : Nat) : Prop where
  h7 : wr.heap[g]? = some (boxV A q.2.1.length c q.1 (mk q.2.2.1) (mk q.2.2.2))
  row : Row wr A c q.2.1
  got : Kd.R k28 28 wr w.heap.size (fun k => k ≠ g) (.slice (some ad) n cG) r
  bel : Below w.heap.size w wr
  fit : FitP 8589934592 q
  three : Three q
  low : w.heap.size ≤ g
theorem LoopS.below {w wr w1 : World} {g : Nat} {ad : Addr} {n cG : Nat} {r : List S28} {q : Pd} {A : Option Addr} {c : Nat} (h : LoopS w wr g ad n cG r q A c) (hb : Below wr.heap.size wr w1) : LoopS w w1 g ad n cG r q A c :=
  ⟨blk_below h.h7 hb, ⟨Kd.C_below h.row.1 hb, h.row.2⟩, Kd.R_below h.got hb, below_step h.bel hb, h.fit, h.three, h.low⟩
set_option maxHeartbeats 64000000 in
set_option maxRecDepth 200000 in
theorem law_walk (a0 : Int) (a1 : ByteArray) (A2 : Option Addr) (c2 : Nat) (l2 : List S47) (w : World) (hr2 : Kd.C k47 w A2 l2.length l2) (hc2 : l2.length ≤ c2) (hx2 : ∀ x ∈ l2, Fits x) (hg : Good w) :
    Calls Tryd.prog 6 #[.int .i64 a0, .string a1, .slice A2 l2.length c2] w fun e w' => e = .returned (.bool true) ∧ Below w.heap.size w w' := by
  have mixed : Tryd.prog.follows .mixedOrders = true := by kernel_rfl
  have hu1 := Tryd.underlying26
  have hu2 := Tryd.underlying47
  have hu3 := Tryd.underlying28
  have HR := Aside0.mk hr2
  have HC := Aside0.mk hc2
  have HX := Aside0.mk hx2
  have HG := Aside0.mk hg
  clear hr2 hc2 hx2 hg
  by_cases hs : 2147483647 < a1.size
  · have s1 : ((2147483647 : Int) < (a1.size : Int)) = True := eq_true (by omega)
    have s2 : (2147483647 < a1.size) = True := eq_true hs
    clear hs
    go_enter Tryd.func6, Tryd.ntmps6
    go_wp2
    go_ret
    exact ⟨rfl, Below.refl _ _⟩
  have s1 : ((2147483647 : Int) < (a1.size : Int)) = False := eq_false (by omega)
  have s2 : (2147483647 < a1.size) = False := eq_false hs
  obtain ⟨b, hb, hq⟩ := fits_ev l2
  obtain ⟨k1, hk1⟩ := hb
  have F1 := Aside0.mk (fun W (h : Below w.heap.size w W) => laws_zzFits15.calls k1 A2 c2 l2 b W (Kd.C_below HR.out h) HC.out (hk1 k1 (Nat.le_refl _)))
  clear hk1
  cases b with
  | false =>
    clear hs hq
    go_enter Tryd.func6, Tryd.ntmps6
    go_wp2_with (go_at_call 17; (with_reducible refine (F1.out _ (by repeat (first | (with_reducible exact Below.refl _ _) | apply below_alloc | apply pw_below_drewN | apply below_drew1))).mono ?_); rintro e w1 ⟨rfl, hb⟩; have B1 := Aside0.mk hb; clear hb)
    go_ret
    exact ⟨rfl, B1.out⟩
  | true =>
    obtain ⟨hl, hsz⟩ := hq rfl
    obtain ⟨kd, hkd⟩ : ∃ kd, laws_verKind.f a0 = some kd := ⟨_, rfl⟩
    have F2 := Aside0.mk (fun W => laws_verKind.calls a0 kd W hkd)
    have hla : (Lb a1).length ≤ 2147483647 := by have e : a1.size = (Lb a1).length := Go.Proofs.YtomoefldmgfaoaaDoor.Txt.size_len a1; omega
    obtain ⟨⟨R1, R2, R3, R4, R5, R6⟩, ⟨k2, hR⟩, hS⟩ := parsed_ev kd (Lb a1) (by omega)
    have hR2 : spec_VerParsed.f k2 kd a1 = some (R1, R2, R3, R4, R5, R6) := by have := hR k2 (Nat.le_refl _); rw [show mk (Lb a1) = a1 from Go.Proofs.YtomoefldmgfaoaaDoor.Txt.ext rfl] at this; exact this
    have F3 := Aside0.mk (fun W => spec_VerParsed.calls k2 kd a1 R1 R2 R3 R4 R5 R6 W hR2)
    clear hR hR2 hkd hq
    rcases hS with h6 | ⟨h6, hS⟩
    · obtain rfl : R6 = false := h6
      clear hs hl hsz hla
      go_enter Tryd.func6, Tryd.ntmps6
      go_wp2_with (first
        | (go_at_call 17; (with_reducible refine (F1.out _ (by repeat (first | (with_reducible exact Below.refl _ _) | apply below_alloc | apply pw_below_drewN | apply below_drew1))).mono ?_); rintro e w1 ⟨rfl, hb⟩; have B1 := Aside0.mk hb; clear hb)
        | (go_at_call 15; (with_reducible refine (F2.out _).mono ?_); rintro e w2 ⟨rfl, ⟨nd, rfl⟩⟩)
        | (go_at_call 16; (with_reducible refine (F3.out _).mono ?_); rintro e w3 ⟨v0, rfl, ho, hb⟩; have B3 := Aside0.mk (below_step (pw_below_drewN B1.out _) hb); obtain ⟨Ap, cp, rfl, hcp, hCp⟩ := Kd.R_reads ho; clear hb ho hcp hCp))
      go_ret
      exact ⟨rfl, below_alloc B3.out _⟩
    obtain rfl : R6 = true := h6
    cases hpk : pkind kd (Lb a1) with
    | none =>
      rw [hpk] at hS
      obtain rfl : R5 = false := hS
      have F4 := Aside0.mk (fun W (h : Below w.heap.size w W) => impl_VersionSteps.calls kd a1 A2 c2 l2 [] W (Kd.C_below HR.out h) HC.out (by
        unfold impl_VersionSteps.f
        rw [if_pos ⟨by omega, by omega, List.all_eq_true.2 (fun x hx => by
          have h1 := HX.out x hx
          have h2 := hsz x hx
          unfold Fits at h1
          unfold stepFits
          simp only [Bool.and_eq_true, decide_eq_true_eq]
          exact ⟨⟨⟨⟨h1.1.1, h1.1.2⟩, h1.2.1⟩, h1.2.2⟩, by omega⟩)⟩, hpk]) (HG.out.below h))
      clear hs hl hsz hla hpk
      go_enter Tryd.func6, Tryd.ntmps6
      go_wp2_with (first
        | (go_at_call 17; (with_reducible refine (F1.out _ (by repeat (first | (with_reducible exact Below.refl _ _) | apply below_alloc | apply pw_below_drewN | apply below_drew1))).mono ?_); rintro e w1 ⟨rfl, hb⟩; have B1 := Aside0.mk hb; clear hb)
        | (go_at_call 15; (with_reducible refine (F2.out _).mono ?_); rintro e w2 ⟨rfl, ⟨nd, rfl⟩⟩)
        | (go_at_call 16; (with_reducible refine (F3.out _).mono ?_); rintro e w3 ⟨v0, rfl, ho, hb⟩; have B3 := Aside0.mk (below_step (pw_below_drewN B1.out _) hb); obtain ⟨Ap, cp, rfl, hcp, hCp⟩ := Kd.R_reads ho; clear hb ho hcp hCp)
        | (go_at_call 18; (with_reducible refine (F4.out _ (by repeat (first | (with_reducible exact B3.out) | apply below_alloc))).mono ?_); rintro e w4 ⟨v1, rfl, ho, hb⟩; have B4 := Aside0.mk (below_step (by repeat (first | (with_reducible exact B3.out) | apply below_alloc)) hb); obtain ⟨Ag, cg, rfl, hcg, hCg⟩ := Kd.R_reads ho; clear hb ho hcg hCg))
      go_ret
      exact ⟨rfl, B4.out⟩
    | some q0 =>
      rw [hpk] at hS
      obtain ⟨rfl, rfl, rfl, rfl, rfl⟩ : R1 = zs q0.2.1 ∧ R2 = q0.1 ∧ R3 = mk q0.2.2.1 ∧ R4 = mk q0.2.2.2 ∧ R5 = true := by have h : (R1, R2, R3, R4, R5, true) = (zs q0.2.1, q0.1, mk q0.2.2.1, mk q0.2.2.2, true, true) := hS; simpa using h
      have hf0 : FitP 8589934592 q0 := by have h := pkind_fit hpk; exact ⟨h.1, by have := h.2.1; omega, h.2.2.1, by have := h.2.2.2.1; omega, by have := h.2.2.2.2; omega⟩
      have ht0 : Three q0 := kind_three hpk
      have F4 := Aside0.mk (fun W (h : Below w.heap.size w W) => impl_VersionSteps.calls kd a1 A2 c2 l2 (verData q0 :: (stepsV q0 l2).map verData) W (Kd.C_below HR.out h) HC.out (by
        unfold impl_VersionSteps.f
        rw [if_pos ⟨by omega, by omega, List.all_eq_true.2 (fun x hx => by
          have h1 := HX.out x hx
          have h2 := hsz x hx
          unfold Fits at h1
          unfold stepFits
          simp only [Bool.and_eq_true, decide_eq_true_eq]
          exact ⟨⟨⟨⟨h1.1.1, h1.1.2⟩, h1.2.1⟩, h1.2.2⟩, by omega⟩)⟩, hpk]) (HG.out.below h))
      have HF0 := Aside0.mk hf0
      have HT0 := Aside0.mk ht0
      have HS := Aside0.mk hsz
      have HL := Aside0.mk hl
      clear hs hl hsz hla hpk hf0 ht0 hS
      go_enter Tryd.func6, Tryd.ntmps6
      have w9 : wrap64 ((l2.length : Int) + 1) = (l2.length : Int) + 1 := w64 _ (by omega) (by have := HL.out; omega)
      have w7 : IntKind.i64.wrap ((l2.length : Int) + 1) = (l2.length : Int) + 1 := (IntWalk.i64_left _).trans w9
      have w8 : ((l2.length : Int) + 1 != (l2.length : Int) + 1) = false := by simp
      go_wp2_with (first
        | (go_at_call 17; (with_reducible refine (F1.out _ (by repeat (first | (with_reducible exact Below.refl _ _) | apply below_alloc | apply pw_below_drewN | apply below_drew1))).mono ?_); rintro e w1 ⟨rfl, hb⟩; have B1 := Aside0.mk hb; clear hb)
        | (go_at_call 15; (with_reducible refine (F2.out _).mono ?_); rintro e w2 ⟨rfl, ⟨nd, rfl⟩⟩)
        | (go_at_call 16; (with_reducible refine (F3.out _).mono ?_); rintro e w3 ⟨v0, rfl, ho, hb⟩; have B3 := Aside0.mk (below_step (pw_below_drewN B1.out _) hb); obtain ⟨Ap, cp, rfl, hcp, hCp⟩ := Kd.R_reads ho; have RP : Aside0 (Row w3 Ap cp q0.2.1) := ⟨hCp, hcp⟩; clear hb ho hcp hCp; rw [List.length_map])
        | (go_at_call 18; (with_reducible refine (F4.out _ (by repeat (first | (with_reducible exact B3.out) | apply below_alloc))).mono ?_); rintro e w4 ⟨v1, rfl, ho, hb⟩; have B4 := Aside0.mk (below_step (by repeat (first | (with_reducible exact B3.out) | apply below_alloc)) hb); have H7 : Aside0 (w4.heap[w3.heap.size]? = some (boxV Ap q0.2.1.length cp q0.1 (mk q0.2.2.1) (mk q0.2.2.2))) := ⟨blk_below (blk_new w3 _) hb⟩; have RQ : Aside0 (Row w4 Ap cp q0.2.1) := ⟨Kd.C_below (Kd.C_alloc RP.out.1 _) hb, RP.out.2⟩; obtain ⟨AG, cG, e8, h9, hG9⟩ := Kd.R_reads ho; obtain ⟨ad, eA, -⟩ := hG9.2.2 (by simp); subst eA; have e9 : v1 = .slice (some ad) (l2.length + 1) cG := (by rw [e8]; simp [stepsV_len]); clear e8; subst e9; have RG : Aside0 (Kd.R k28 28 w4 w.heap.size (fun k => k ≠ w3.heap.size) (.slice (some ad) (l2.length + 1) cG) (verData q0 :: (stepsV q0 l2).map verData)) := ⟨Kd.R_lower (Kd.R_mono (Kd.R_bound ho) (fun k hk => by have := hk.2.1; simp at this; omega)) (by have := B3.out.size; simp; omega)⟩; clear hb ho h9 hG9))
      have LOW : Aside0 (w.heap.size ≤ w3.heap.size) := ⟨B3.out.size⟩
      clear F1 F2 F3 F4 B1 B3
      have v0 : w4.cell? ⟨w3.heap.size, 0, none⟩ = some (.slice Ap q0.2.1.length cp) := blk_cell H7.out 0; have v1 : w4.cell? ⟨w3.heap.size, 1, none⟩ = some (.bool q0.1) := blk_cell H7.out 1; have v2 : w4.cell? ⟨w3.heap.size, 2, none⟩ = some (.string (mk q0.2.2.1)) := blk_cell H7.out 2; have v3 : w4.cell? ⟨w3.heap.size, 3, none⟩ = some (.string (mk q0.2.2.2)) := blk_cell H7.out 3; skip
      obtain ⟨A1, c1, g0, g1, g2, g3, g4, g5, g6, g7, RI⟩ := got_cells RG.out 0 q0 rfl
      have HRI := Aside0.mk RI
      clear RI
      have FS := Aside0.mk (fun W h h1 => same_calls HF0.out Ap cp A1 c1 W h h1)
      simp only [Nat.zero_mul] at g0 g1 g2 g3 g4 g5 g6 g7
      rw [show ad.add 0 = ad from rfl] at g0 g1 g2 g3 g4 g5 g6 g7
      go_region_held3 (fun w' => w'.cell? ⟨w3.heap.size, 0, none⟩ = some (.slice Ap q0.2.1.length cp) ∧ w'.cell? ⟨w3.heap.size, 1, none⟩ = some (.bool q0.1) ∧ w'.cell? ⟨w3.heap.size, 2, none⟩ = some (.string (mk q0.2.2.1)) ∧ w'.cell? ⟨w3.heap.size, 3, none⟩ = some (.string (mk q0.2.2.2)) ∧ w'.cell? ad = some (.bool true) ∧ w'.cell? ⟨ad.block, ad.off + 1, none⟩ = some (.slice A1 q0.2.1.length c1) ∧ w'.cell? ⟨ad.block, ad.off + 2, none⟩ = some (.string (mk q0.2.2.1)) ∧ w'.cell? ⟨ad.block, ad.off + 3, none⟩ = some (.string (mk q0.2.2.2)) ∧ w'.cell? ⟨ad.block, ad.off + 4, none⟩ = some (.string (mk (vtxt q0.2.1 q0.2.2.1 q0.2.2.2))) ∧ w'.cell? ⟨ad.block, ad.off + 5, none⟩ = some (.int .u64 (pt q0.2.1 0 : Int)) ∧ w'.cell? ⟨ad.block, ad.off + 6, none⟩ = some (.int .u64 (pt q0.2.1 1 : Int)) ∧ w'.cell? ⟨ad.block, ad.off + 7, none⟩ = some (.int .u64 (pt q0.2.1 2 : Int))) (first | exact ⟨v0, v1, v2, v3, g0, g1, g2, g3, g4, g5, g6, g7⟩  | exact ⟨pw_cell_below BB.out v0, pw_cell_below BB.out v1, pw_cell_below BB.out v2, pw_cell_below BB.out v3, pw_cell_below BB.out g0, pw_cell_below BB.out g1, pw_cell_below BB.out g2, pw_cell_below BB.out g3, pw_cell_below BB.out g4, pw_cell_below BB.out g5, pw_cell_below BB.out g6, pw_cell_below BB.out g7⟩) (first
        | (go_at_call 9; (with_reducible refine (FS.out _ ⟨Kd.C_below RQ.out.1 (by repeat (first | (with_reducible exact Below.refl _ _) | apply below_alloc | apply pw_below_drewN | apply below_drew1)), RQ.out.2⟩ ⟨Kd.C_below HRI.out.1 (by repeat (first | (with_reducible exact Below.refl _ _) | apply below_alloc | apply pw_below_drewN | apply below_drew1)), HRI.out.2⟩).mono ?_); rintro e w5 ⟨rfl, hb⟩; have BB : Aside0 (Below w4.heap.size w4 w5) := ⟨below_step (pw_below_drewN (Below.refl _ _) _) hb⟩; clear hb; skip))
      have S5 : Aside0 (LoopS w w5 w3.heap.size ad (l2.length + 1) cG (verData q0 :: (stepsV q0 l2).map verData) q0 Ap cp) := ⟨blk_below H7.out BB.out, ⟨Kd.C_below RQ.out.1 BB.out, RQ.out.2⟩, Kd.R_below RG.out BB.out, below_step B4.out BB.out, HF0.out, HT0.out, LOW.out⟩
      clear H7 RQ RG B4 HRI FS BB RP v0 v1 v2 v3 g0 g1 g2 g3 g4 g5 g6 g7 w7 w8 w9
      go_wp2_with fail
      go_loopw [11] (fun i wr => ∃ (k : Nat) (q : Pd) (A : Option Addr) (c : Nat), k ≤ l2.length ∧ i = .int .i64 (k : Int) ∧ Aside0 (LoopS w wr w3.heap.size ad (l2.length + 1) cG (verData q0 :: (stepsV q0 l2).map verData) q A c) ∧ Aside0 ((verData q0 :: (stepsV q0 l2).map verData).drop k = verData q :: (stepsV q (l2.drop k)).map verData)) (fun i _ => l2.length - (intOf i).toNat)
      case atStart => exact ⟨0, q0, Ap, cp, Nat.zero_le _, rfl, S5, ⟨by rw [List.drop_zero, List.drop_zero]⟩⟩
      case round =>
        clear S5
        obtain ⟨k, q, A, c, hk, rfl, S, HD⟩ := hrel
        by_cases hlt : k < l2.length
        · have p0 : (0 ≤ (k : Int)) = True := eq_true (by omega)
          have q1 : ((k : Int) < (l2.length : Int)) = True := eq_true (by omega)
          have q2 : decide ((k : Int) < (l2.length : Int)) = true := decide_eq_true (by omega)
          have hlen := HL.out
          have w9 : wrap64 ((k : Int) + 1) = (k : Int) + 1 := w64 _ (by omega) (by omega)
          have w7 : IntKind.i64.wrap ((k : Int) + 1) = (k : Int) + 1 := (IntWalk.i64_left _).trans w9
          have p1 : (0 ≤ (k : Int) + 1) = True := eq_true (by omega)
          have q3 : ((k : Int) + 1 < (l2.length : Int) + 1) = True := eq_true (by omega)
          have tn : ((k : Int) + 1).toNat = k + 1 := by omega
          have HM := Aside0.mk (show l2.length - ((k : Int) + 1).toNat < l2.length - (k : Int).toNat by omega)
          have HK := Aside0.mk (show k + 1 ≤ l2.length from hlt)
          obtain ⟨ax, ex, hx0, hx1, hx2, hx3⟩ := at_T47 (Kd.C_below HR.out S.out.bel) (k : Int) (by omega) (by omega)
          cases ex
          have hrd : rd_T47 l2 (k : Int) = l2[k] := by unfold rd_T47; rw [Int.toNat_natCast, List.getD_eq_getElem?_getD, List.getElem?_eq_getElem hlt]; rfl
          have hfx := HX.out l2[k] (List.getElem_mem hlt)
          have hsx := HS.out l2[k] (List.getElem_mem hlt)
          have hD := HD.out
          rw [List.drop_eq_getElem_cons hlt, stepsV, List.map_cons] at hD
          rw [hrd] at hx0 hx1 hx2 hx3
          rw [Int.toNat_natCast] at hx0 hx1 hx2 hx3
          clear hrd HD hlen hk
          generalize l2[k] = x at hx0 hx1 hx2 hx3 hfx hsx hD
          obtain ⟨d, n, off, s⟩ := x
          have hfx' : (-9223372036854775808 ≤ d ∧ d ≤ 9223372036854775807) ∧ (0 ≤ n ∧ n < 18446744073709551616) ∧ (-9223372036854775808 ≤ off ∧ off ≤ 9223372036854775807) := hfx
          have hsx' : s.size ≤ 2147483647 := hsx
          clear hfx hsx
          obtain ⟨⟨d0, d1⟩, ⟨n0, n1⟩, ⟨o0, o1⟩⟩ := hfx'
          obtain ⟨u, rfl⟩ := Int.eq_ofNat_of_zero_le n0
          simp only [Int.toNat_natCast] at hD hx0 hx1 hx2 hx3
          obtain ⟨Q, hQ⟩ : ∃ Q, Q = stepV q d u off (Lb s) := ⟨_, rfl⟩
          have hls : (Lb s).length ≤ 8589934592 := by have e : s.size = (Lb s).length := Go.Proofs.YtomoefldmgfaoaaDoor.Txt.size_len s; omega
          have hfQ : FitP 8589934592 Q := by rw [hQ]; exact stepV_fit S.out.fit (by omega) d u (by omega) off (Lb s) hls
          have htQ : Three Q := by rw [hQ]; exact three_step S.out.three d u off (Lb s)
          rw [← hQ] at hD
          have hD2 : (verData q0 :: (stepsV q0 l2).map verData).drop (k + 1) = verData Q :: (stepsV Q (l2.drop (k + 1))).map verData := by rw [← List.drop_drop (i := 1) (j := k), hD]; rfl
          have hgQ : (verData q0 :: (stepsV q0 l2).map verData)[k + 1]? = some (verData Q) := by rw [← List.head?_drop, hD2]; rfl
          have HQ := Aside0.mk (And.intro hfQ htQ)
          have HD2 := Aside0.mk hD2
          have HGQ := Aside0.mk hgQ
          have HU : Aside0 (u < 18446744073709551616) := ⟨by omega⟩
          have HO := Aside0.mk (And.intro o0 o1)
          have HQE := Aside0.mk hQ
          clear hD hD2 hgQ hfQ htQ hls hsx' d0 d1 n0 n1 o0 o1 hlt hQ
          have hS := S.out.h7
          have v0 : wr.cell? ⟨w3.heap.size, 0, none⟩ = some (.slice A q.2.1.length c) := blk_cell hS 0; have v1 : wr.cell? ⟨w3.heap.size, 1, none⟩ = some (.bool q.1) := blk_cell hS 1; have v2 : wr.cell? ⟨w3.heap.size, 2, none⟩ = some (.string (mk q.2.2.1)) := blk_cell hS 2; have v3 : wr.cell? ⟨w3.heap.size, 3, none⟩ = some (.string (mk q.2.2.2)) := blk_cell hS 3; skip
          clear hS
          cases hfi : fineV q d u off with
          | false =>
            have FN := Aside0.mk (fun W h => stepped_no A c q d u off s S.out.fit S.out.three HU.out HO.out.1 HO.out.2 hfi W h)
            clear hfi
            go_wp2_with fail
            go_region_held3 (fun w' => w'.cell? ⟨w3.heap.size, 0, none⟩ = some (.slice A q.2.1.length c) ∧ w'.cell? ⟨w3.heap.size, 1, none⟩ = some (.bool q.1) ∧ w'.cell? ⟨w3.heap.size, 2, none⟩ = some (.string (mk q.2.2.1)) ∧ w'.cell? ⟨w3.heap.size, 3, none⟩ = some (.string (mk q.2.2.2)) ∧ w'.cell? (ax.add (k * 4)) = some (.int .i64 d) ∧ w'.cell? ⟨(ax.add (k * 4)).block, (ax.add (k * 4)).off + 1, none⟩ = some (.int .u64 (u : Int)) ∧ w'.cell? ⟨(ax.add (k * 4)).block, (ax.add (k * 4)).off + 2, none⟩ = some (.int .i64 off) ∧ w'.cell? ⟨(ax.add (k * 4)).block, (ax.add (k * 4)).off + 3, none⟩ = some (.string s)) (first | exact ⟨v0, v1, v2, v3, hx0, hx1, hx2, hx3⟩ | exact ⟨pw_cell_below (by repeat (first | (with_reducible exact Below.refl _ _) | (with_reducible exact BW.out) | apply below_alloc | refine below_set ?_ (by first | exact Nat.le_refl _ | exact Nat.le_succ _ | exact BW.out.size) | apply pw_below_drewN | apply below_drew1) : Below wr.heap.size wr _) v0, pw_cell_below (by repeat (first | (with_reducible exact Below.refl _ _) | (with_reducible exact BW.out) | apply below_alloc | refine below_set ?_ (by first | exact Nat.le_refl _ | exact Nat.le_succ _ | exact BW.out.size) | apply pw_below_drewN | apply below_drew1) : Below wr.heap.size wr _) v1, pw_cell_below (by repeat (first | (with_reducible exact Below.refl _ _) | (with_reducible exact BW.out) | apply below_alloc | refine below_set ?_ (by first | exact Nat.le_refl _ | exact Nat.le_succ _ | exact BW.out.size) | apply pw_below_drewN | apply below_drew1) : Below wr.heap.size wr _) v2, pw_cell_below (by repeat (first | (with_reducible exact Below.refl _ _) | (with_reducible exact BW.out) | apply below_alloc | refine below_set ?_ (by first | exact Nat.le_refl _ | exact Nat.le_succ _ | exact BW.out.size) | apply pw_below_drewN | apply below_drew1) : Below wr.heap.size wr _) v3, pw_cell_below (by repeat (first | (with_reducible exact Below.refl _ _) | (with_reducible exact BW.out) | apply below_alloc | refine below_set ?_ (by first | exact Nat.le_refl _ | exact Nat.le_succ _ | exact BW.out.size) | apply pw_below_drewN | apply below_drew1) : Below wr.heap.size wr _) hx0, pw_cell_below (by repeat (first | (with_reducible exact Below.refl _ _) | (with_reducible exact BW.out) | apply below_alloc | refine below_set ?_ (by first | exact Nat.le_refl _ | exact Nat.le_succ _ | exact BW.out.size) | apply pw_below_drewN | apply below_drew1) : Below wr.heap.size wr _) hx1, pw_cell_below (by repeat (first | (with_reducible exact Below.refl _ _) | (with_reducible exact BW.out) | apply below_alloc | refine below_set ?_ (by first | exact Nat.le_refl _ | exact Nat.le_succ _ | exact BW.out.size) | apply pw_below_drewN | apply below_drew1) : Below wr.heap.size wr _) hx2, pw_cell_below (by repeat (first | (with_reducible exact Below.refl _ _) | (with_reducible exact BW.out) | apply below_alloc | refine below_set ?_ (by first | exact Nat.le_refl _ | exact Nat.le_succ _ | exact BW.out.size) | apply pw_below_drewN | apply below_drew1) : Below wr.heap.size wr _) hx3⟩) (first
              | (go_at_call 19; (with_reducible refine (FN.out _ ⟨Kd.C_below S.out.row.1 (by repeat (first | (with_reducible exact Below.refl _ _) | apply below_alloc | apply pw_below_drewN | apply below_drew1)), S.out.row.2⟩).mono ?_); rintro e w6 ⟨rfl, hb⟩; have BW : Aside0 (Below wr.heap.size wr w6) := ⟨below_step (by repeat (first | (with_reducible exact Below.refl _ _) | apply below_alloc | apply pw_below_drewN | apply below_drew1)) hb⟩; (first | (have hzv : Aside0 (w6.heap[wr.heap.size]? = some (boxV none 0 0 false ⟨#[]⟩ ⟨#[]⟩)) := ⟨blk_below (blk_drew (blk_new wr _)) hb⟩; have g0 : w6.cell? ⟨wr.heap.size, 0, none⟩ = some (.slice none 0 0) := blk_cell hzv.out 0; have fg0 := blk_frozen hzv.out 0; have g1 : w6.cell? ⟨wr.heap.size, 1, none⟩ = some (.bool false) := blk_cell hzv.out 1; have fg1 := blk_frozen hzv.out 1; have g2 : w6.cell? ⟨wr.heap.size, 2, none⟩ = some (.string ⟨#[]⟩) := blk_cell hzv.out 2; have fg2 := blk_frozen hzv.out 2; have g3 : w6.cell? ⟨wr.heap.size, 3, none⟩ = some (.string ⟨#[]⟩) := blk_cell hzv.out 3; have fg3 := blk_frozen hzv.out 3; clear hb) | (clear hb))))
            all_goals go_wp2
            all_goals go_ret
            all_goals exact ⟨rfl, below_step S.out.bel (by repeat (first | (with_reducible exact Below.refl _ _) | (with_reducible exact BW.out) | apply below_alloc | refine below_set ?_ (by first | exact Nat.le_refl _ | exact Nat.le_succ _ | exact BW.out.size) | apply pw_below_drewN | apply below_drew1))⟩
          | true =>
            have FY := Aside0.mk (fun W h => stepped_yes A c q d u off s S.out.fit S.out.three HU.out HO.out.1 HO.out.2 hfi W h Q HQE.out)
            clear hfi
            go_wp2_with fail
            go_region_held3 (fun w' => w'.cell? ⟨w3.heap.size, 0, none⟩ = some (.slice A q.2.1.length c) ∧ w'.cell? ⟨w3.heap.size, 1, none⟩ = some (.bool q.1) ∧ w'.cell? ⟨w3.heap.size, 2, none⟩ = some (.string (mk q.2.2.1)) ∧ w'.cell? ⟨w3.heap.size, 3, none⟩ = some (.string (mk q.2.2.2)) ∧ w'.cell? (ax.add (k * 4)) = some (.int .i64 d) ∧ w'.cell? ⟨(ax.add (k * 4)).block, (ax.add (k * 4)).off + 1, none⟩ = some (.int .u64 (u : Int)) ∧ w'.cell? ⟨(ax.add (k * 4)).block, (ax.add (k * 4)).off + 2, none⟩ = some (.int .i64 off) ∧ w'.cell? ⟨(ax.add (k * 4)).block, (ax.add (k * 4)).off + 3, none⟩ = some (.string s)) (first | exact ⟨v0, v1, v2, v3, hx0, hx1, hx2, hx3⟩ | exact ⟨pw_cell_below (by repeat (first | (with_reducible exact Below.refl _ _) | (with_reducible exact BW.out) | apply below_alloc | refine below_set ?_ (by first | exact Nat.le_refl _ | exact Nat.le_succ _ | exact BW.out.size) | apply pw_below_drewN | apply below_drew1) : Below wr.heap.size wr _) v0, pw_cell_below (by repeat (first | (with_reducible exact Below.refl _ _) | (with_reducible exact BW.out) | apply below_alloc | refine below_set ?_ (by first | exact Nat.le_refl _ | exact Nat.le_succ _ | exact BW.out.size) | apply pw_below_drewN | apply below_drew1) : Below wr.heap.size wr _) v1, pw_cell_below (by repeat (first | (with_reducible exact Below.refl _ _) | (with_reducible exact BW.out) | apply below_alloc | refine below_set ?_ (by first | exact Nat.le_refl _ | exact Nat.le_succ _ | exact BW.out.size) | apply pw_below_drewN | apply below_drew1) : Below wr.heap.size wr _) v2, pw_cell_below (by repeat (first | (with_reducible exact Below.refl _ _) | (with_reducible exact BW.out) | apply below_alloc | refine below_set ?_ (by first | exact Nat.le_refl _ | exact Nat.le_succ _ | exact BW.out.size) | apply pw_below_drewN | apply below_drew1) : Below wr.heap.size wr _) v3, pw_cell_below (by repeat (first | (with_reducible exact Below.refl _ _) | (with_reducible exact BW.out) | apply below_alloc | refine below_set ?_ (by first | exact Nat.le_refl _ | exact Nat.le_succ _ | exact BW.out.size) | apply pw_below_drewN | apply below_drew1) : Below wr.heap.size wr _) hx0, pw_cell_below (by repeat (first | (with_reducible exact Below.refl _ _) | (with_reducible exact BW.out) | apply below_alloc | refine below_set ?_ (by first | exact Nat.le_refl _ | exact Nat.le_succ _ | exact BW.out.size) | apply pw_below_drewN | apply below_drew1) : Below wr.heap.size wr _) hx1, pw_cell_below (by repeat (first | (with_reducible exact Below.refl _ _) | (with_reducible exact BW.out) | apply below_alloc | refine below_set ?_ (by first | exact Nat.le_refl _ | exact Nat.le_succ _ | exact BW.out.size) | apply pw_below_drewN | apply below_drew1) : Below wr.heap.size wr _) hx2, pw_cell_below (by repeat (first | (with_reducible exact Below.refl _ _) | (with_reducible exact BW.out) | apply below_alloc | refine below_set ?_ (by first | exact Nat.le_refl _ | exact Nat.le_succ _ | exact BW.out.size) | apply pw_below_drewN | apply below_drew1) : Below wr.heap.size wr _) hx3⟩) (first
              | (go_at_call 19; (with_reducible refine (FY.out _ ⟨Kd.C_below S.out.row.1 (by repeat (first | (with_reducible exact Below.refl _ _) | apply below_alloc | apply pw_below_drewN | apply below_drew1)), S.out.row.2⟩).mono ?_); rintro e w6 ⟨A', c', rfl, hrow, hb⟩; have BW : Aside0 (Below wr.heap.size wr w6) := ⟨below_step (by repeat (first | (with_reducible exact Below.refl _ _) | apply below_alloc | apply pw_below_drewN | apply below_drew1)) hb⟩; have RW := Aside0.mk hrow; clear hrow; (first | (have hzv : Aside0 (w6.heap[wr.heap.size]? = some (boxV none 0 0 false ⟨#[]⟩ ⟨#[]⟩)) := ⟨blk_below (blk_drew (blk_new wr _)) hb⟩; have g0 : w6.cell? ⟨wr.heap.size, 0, none⟩ = some (.slice none 0 0) := blk_cell hzv.out 0; have fg0 := blk_frozen hzv.out 0; have g1 : w6.cell? ⟨wr.heap.size, 1, none⟩ = some (.bool false) := blk_cell hzv.out 1; have fg1 := blk_frozen hzv.out 1; have g2 : w6.cell? ⟨wr.heap.size, 2, none⟩ = some (.string ⟨#[]⟩) := blk_cell hzv.out 2; have fg2 := blk_frozen hzv.out 2; have g3 : w6.cell? ⟨wr.heap.size, 3, none⟩ = some (.string ⟨#[]⟩) := blk_cell hzv.out 3; have fg3 := blk_frozen hzv.out 3; clear hb) | (clear hb))))
            all_goals clear v0 v1 v2 v3 hx0 hx1 hx2 hx3
            all_goals first
              | (
                 have HV : Aside0 ((((((w6.setCell ⟨wr.heap.size, 0, none⟩ (.slice A' Q.2.1.length c')).setCell ⟨wr.heap.size, 1, none⟩ (.bool Q.1)).setCell ⟨wr.heap.size, 2, none⟩ (.string (mk Q.2.2.1))).setCell ⟨wr.heap.size, 3, none⟩ (.string (mk Q.2.2.2)))).heap[wr.heap.size]? = some (boxV A' Q.2.1.length c' Q.1 (mk Q.2.2.1) (mk Q.2.2.2))) := ⟨(blk_put (blk_put (blk_put (blk_put hzv.out 0 (.slice A' Q.2.1.length c') rfl) 1 (.bool Q.1) rfl) 2 (.string (mk Q.2.2.1)) rfl) 3 (.string (mk Q.2.2.2)) rfl)⟩
                 have S4 : Aside0 (LoopS w (((((w6.setCell ⟨wr.heap.size, 0, none⟩ (.slice A' Q.2.1.length c')).setCell ⟨wr.heap.size, 1, none⟩ (.bool Q.1)).setCell ⟨wr.heap.size, 2, none⟩ (.string (mk Q.2.2.1))).setCell ⟨wr.heap.size, 3, none⟩ (.string (mk Q.2.2.2)))) w3.heap.size ad (l2.length + 1) cG (verData q0 :: (stepsV q0 l2).map verData) q A c) := ⟨S.out.below (by repeat (first | (with_reducible exact Below.refl _ _) | (with_reducible exact BW.out) | apply below_alloc | refine below_set ?_ (by first | exact Nat.le_refl _ | exact Nat.le_succ _ | exact BW.out.size) | apply pw_below_drewN | apply below_drew1) : Below wr.heap.size wr _)⟩
                 have RQ4 : Aside0 (Row (((((w6.setCell ⟨wr.heap.size, 0, none⟩ (.slice A' Q.2.1.length c')).setCell ⟨wr.heap.size, 1, none⟩ (.bool Q.1)).setCell ⟨wr.heap.size, 2, none⟩ (.string (mk Q.2.2.1))).setCell ⟨wr.heap.size, 3, none⟩ (.string (mk Q.2.2.2)))) A' c' Q.2.1) := ⟨(row_set (row_set (row_set (row_set RW.out (show 0 < Q.2.1.length by have := HQ.out.1.1; omega) hzv.out 0 (.slice A' Q.2.1.length c')) (show 0 < Q.2.1.length by have := HQ.out.1.1; omega) (blk_put hzv.out 0 (.slice A' Q.2.1.length c') rfl) 1 (.bool Q.1)) (show 0 < Q.2.1.length by have := HQ.out.1.1; omega) (blk_put (blk_put hzv.out 0 (.slice A' Q.2.1.length c') rfl) 1 (.bool Q.1) rfl) 2 (.string (mk Q.2.2.1))) (show 0 < Q.2.1.length by have := HQ.out.1.1; omega) (blk_put (blk_put (blk_put hzv.out 0 (.slice A' Q.2.1.length c') rfl) 1 (.bool Q.1) rfl) 2 (.string (mk Q.2.2.1)) rfl) 3 (.string (mk Q.2.2.2)))⟩
                 have NG : Aside0 (w3.heap.size < wr.heap.size) := ⟨(show w3.heap.size < wr.heap.size from blk_lt S.out.h7)⟩
                 clear RW BW S FY
                 (try clear hzv g0 g1 g2 g3 fg0 fg1 fg2 fg3)
                 generalize ((((w6.setCell ⟨wr.heap.size, 0, none⟩ (.slice A' Q.2.1.length c')).setCell ⟨wr.heap.size, 1, none⟩ (.bool Q.1)).setCell ⟨wr.heap.size, 2, none⟩ (.string (mk Q.2.2.1))).setCell ⟨wr.heap.size, 3, none⟩ (.string (mk Q.2.2.2))) = W4 at HV S4 RQ4 ⊢
                 generalize wr.heap.size = gv at HV NG ⊢)
              | (
                 have HV : Aside0 ((w6.alloc (boxV A' Q.2.1.length c' Q.1 (mk Q.2.2.1) (mk Q.2.2.2))).heap[w6.heap.size]? = some (boxV A' Q.2.1.length c' Q.1 (mk Q.2.2.1) (mk Q.2.2.2))) := ⟨blk_new w6 _⟩
                 have S4 : Aside0 (LoopS w (w6.alloc (boxV A' Q.2.1.length c' Q.1 (mk Q.2.2.1) (mk Q.2.2.2))) w3.heap.size ad (l2.length + 1) cG (verData q0 :: (stepsV q0 l2).map verData) q A c) := ⟨S.out.below (by repeat (first | (with_reducible exact Below.refl _ _) | (with_reducible exact BW.out) | apply below_alloc | refine below_set ?_ (by first | exact Nat.le_refl _ | exact Nat.le_succ _ | exact BW.out.size) | apply pw_below_drewN | apply below_drew1) : Below wr.heap.size wr _)⟩
                 have RQ4 : Aside0 (Row (w6.alloc (boxV A' Q.2.1.length c' Q.1 (mk Q.2.2.1) (mk Q.2.2.2))) A' c' Q.2.1) := ⟨⟨Kd.C_alloc RW.out.1 _, RW.out.2⟩⟩
                 have NG : Aside0 (w3.heap.size < w6.heap.size) := ⟨(Nat.lt_of_lt_of_le (blk_lt S.out.h7) BW.out.size)⟩
                 clear RW BW S FY
                 (try clear hzv g0 g1 g2 g3 fg0 fg1 fg2 fg3)
                 generalize w6.alloc (boxV A' Q.2.1.length c' Q.1 (mk Q.2.2.1) (mk Q.2.2.2)) = W4 at HV S4 RQ4 ⊢
                 generalize w6.heap.size = gv at HV NG ⊢)
            all_goals (have z0 : W4.cell? ⟨gv, 0, none⟩ = some (.slice A' Q.2.1.length c') := blk_cell HV.out 0; have z1 : W4.cell? ⟨gv, 1, none⟩ = some (.bool Q.1) := blk_cell HV.out 1; have z2 : W4.cell? ⟨gv, 2, none⟩ = some (.string (mk Q.2.2.1)) := blk_cell HV.out 2; have z3 : W4.cell? ⟨gv, 3, none⟩ = some (.string (mk Q.2.2.2)) := blk_cell HV.out 3; skip)
            all_goals (have S7 := S4.out.h7)
            all_goals clear S7
            all_goals (obtain ⟨A2', c2', g0, g1, g2, g3, g4, g5, g6, g7, RI⟩ := got_cells S4.out.got (k + 1) Q HGQ.out)
            all_goals (have HRI := Aside0.mk RI; clear RI)
            all_goals (have FS := Aside0.mk (fun W h h1 => same_calls HQ.out.1 A' c' A2' c2' W h h1))
            all_goals go_wp2_with fail
            all_goals go_region_held3 (fun w' => w'.cell? ⟨gv, 0, none⟩ = some (.slice A' Q.2.1.length c') ∧ w'.cell? ⟨gv, 1, none⟩ = some (.bool Q.1) ∧ w'.cell? ⟨gv, 2, none⟩ = some (.string (mk Q.2.2.1)) ∧ w'.cell? ⟨gv, 3, none⟩ = some (.string (mk Q.2.2.2)) ∧ w'.cell? (ad.add ((k + 1) * 8)) = some (.bool true) ∧ w'.cell? ⟨(ad.add ((k + 1) * 8)).block, (ad.add ((k + 1) * 8)).off + 1, none⟩ = some (.slice A2' Q.2.1.length c2') ∧ w'.cell? ⟨(ad.add ((k + 1) * 8)).block, (ad.add ((k + 1) * 8)).off + 2, none⟩ = some (.string (mk Q.2.2.1)) ∧ w'.cell? ⟨(ad.add ((k + 1) * 8)).block, (ad.add ((k + 1) * 8)).off + 3, none⟩ = some (.string (mk Q.2.2.2)) ∧ w'.cell? ⟨(ad.add ((k + 1) * 8)).block, (ad.add ((k + 1) * 8)).off + 4, none⟩ = some (.string (mk (vtxt Q.2.1 Q.2.2.1 Q.2.2.2))) ∧ w'.cell? ⟨(ad.add ((k + 1) * 8)).block, (ad.add ((k + 1) * 8)).off + 5, none⟩ = some (.int .u64 (pt Q.2.1 0 : Int)) ∧ w'.cell? ⟨(ad.add ((k + 1) * 8)).block, (ad.add ((k + 1) * 8)).off + 6, none⟩ = some (.int .u64 (pt Q.2.1 1 : Int)) ∧ w'.cell? ⟨(ad.add ((k + 1) * 8)).block, (ad.add ((k + 1) * 8)).off + 7, none⟩ = some (.int .u64 (pt Q.2.1 2 : Int))) (first | exact ⟨z0, z1, z2, z3, g0, g1, g2, g3, g4, g5, g6, g7⟩ | exact ⟨pw_cell_below BB.out z0, pw_cell_below BB.out z1, pw_cell_below BB.out z2, pw_cell_below BB.out z3, pw_cell_below BB.out g0, pw_cell_below BB.out g1, pw_cell_below BB.out g2, pw_cell_below BB.out g3, pw_cell_below BB.out g4, pw_cell_below BB.out g5, pw_cell_below BB.out g6, pw_cell_below BB.out g7⟩) (first
              | (go_at_call 9; (with_reducible refine (FS.out _ ⟨Kd.C_below RQ4.out.1 (by repeat (first | (with_reducible exact Below.refl _ _) | apply below_alloc | apply pw_below_drewN | apply below_drew1)), RQ4.out.2⟩ ⟨Kd.C_below HRI.out.1 (by repeat (first | (with_reducible exact Below.refl _ _) | apply below_alloc | apply pw_below_drewN | apply below_drew1)), HRI.out.2⟩).mono ?_); rintro e w8 ⟨rfl, hb⟩; have BB : Aside0 (Below W4.heap.size W4 w8) := ⟨below_step (pw_below_drewN (Below.refl _ _) _) hb⟩; clear hb; skip))
            all_goals (have S8 := Aside0.mk (S4.out.below BB.out))
            all_goals (have HV8 : Aside0 (w8.heap[gv]? = some (boxV A' Q.2.1.length c' Q.1 (mk Q.2.2.1) (mk Q.2.2.2))) := ⟨blk_below HV.out BB.out⟩)
            all_goals (have RQ8 : Aside0 (Row w8 A' c' Q.2.1) := ⟨Kd.C_below RQ4.out.1 BB.out, RQ4.out.2⟩)
            all_goals clear S4 HV RQ4 HRI FS BB z0 z1 z2 z3 g0 g1 g2 g3 g4 g5 g6 g7 HGQ w7 q3 p1 tn
            all_goals (have x0 : w8.cell? ⟨gv, 0, none⟩ = some (.slice A' Q.2.1.length c') := blk_cell HV8.out 0; have x1 : w8.cell? ⟨gv, 1, none⟩ = some (.bool Q.1) := blk_cell HV8.out 1; have x2 : w8.cell? ⟨gv, 2, none⟩ = some (.string (mk Q.2.2.1)) := blk_cell HV8.out 2; have x3 : w8.cell? ⟨gv, 3, none⟩ = some (.string (mk Q.2.2.2)) := blk_cell HV8.out 3; skip)
            all_goals (have o0 : w8.cell? ⟨w3.heap.size, 0, none⟩ = some (.slice A q.2.1.length c) := blk_cell S8.out.h7 0; have o1 : w8.cell? ⟨w3.heap.size, 1, none⟩ = some (.bool q.1) := blk_cell S8.out.h7 1; have o2 : w8.cell? ⟨w3.heap.size, 2, none⟩ = some (.string (mk q.2.2.1)) := blk_cell S8.out.h7 2; have o3 : w8.cell? ⟨w3.heap.size, 3, none⟩ = some (.string (mk q.2.2.2)) := blk_cell S8.out.h7 3; have fo0 := blk_frozen S8.out.h7 0; have fo1 := blk_frozen S8.out.h7 1; have fo2 := blk_frozen S8.out.h7 2; have fo3 := blk_frozen S8.out.h7 3; skip)
            all_goals (have n1 : gv ≠ w3.heap.size := Nat.ne_of_gt NG.out)
            all_goals (have n2 : w3.heap.size ≠ gv := n1.symm)
            all_goals go_wp2
            all_goals go_roundw
            all_goals first
              | (rw [w9]; exact HM.out)
              | exact ⟨k + 1, Q, A', c', HK.out, by rw [w9]; simp, ⟨(blk_put (blk_put (blk_put (blk_put S8.out.h7 0 (.slice A' Q.2.1.length c') rfl) 1 (.bool Q.1) rfl) 2 (.string (mk Q.2.2.1)) rfl) 3 (.string (mk Q.2.2.2)) rfl), (row_set (row_set (row_set (row_set RQ8.out (show 0 < Q.2.1.length by have := HQ.out.1.1; omega) S8.out.h7 0 (.slice A' Q.2.1.length c')) (show 0 < Q.2.1.length by have := HQ.out.1.1; omega) (blk_put S8.out.h7 0 (.slice A' Q.2.1.length c') rfl) 1 (.bool Q.1)) (show 0 < Q.2.1.length by have := HQ.out.1.1; omega) (blk_put (blk_put S8.out.h7 0 (.slice A' Q.2.1.length c') rfl) 1 (.bool Q.1) rfl) 2 (.string (mk Q.2.2.1))) (show 0 < Q.2.1.length by have := HQ.out.1.1; omega) (blk_put (blk_put (blk_put S8.out.h7 0 (.slice A' Q.2.1.length c') rfl) 1 (.bool Q.1) rfl) 2 (.string (mk Q.2.2.1)) rfl) 3 (.string (mk Q.2.2.2))), (Kd.R_far (p := ⟨w3.heap.size, 3, none⟩) (Kd.R_far (p := ⟨w3.heap.size, 2, none⟩) (Kd.R_far (p := ⟨w3.heap.size, 1, none⟩) (Kd.R_far (p := ⟨w3.heap.size, 0, none⟩) S8.out.got (fun k hk => hk) _) (fun k hk => hk) _) (fun k hk => hk) _) (fun k hk => hk) _), (by repeat (first | (with_reducible exact S8.out.bel) | refine below_set ?_ LOW.out)), HQ.out.1, HQ.out.2, LOW.out⟩, HD2⟩
        · have q1 : ((k : Int) < (l2.length : Int)) = False := eq_false (by omega)
          have q2 : decide ((k : Int) < (l2.length : Int)) = false := decide_eq_false (by omega)
          go_wp2
          go_ret
          exact ⟨rfl, S.out.bel⟩
end Go.Proofs.YtomoefldmgfaoaaDoor.Pv.SFnVersionSteps
