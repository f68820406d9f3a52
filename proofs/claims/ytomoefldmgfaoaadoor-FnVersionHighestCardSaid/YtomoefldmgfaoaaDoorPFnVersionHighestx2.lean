/- Functions of the program as plain Lean functions, and that the machine's calls do what these say: written for this claim by wip/myprint.py over the kit's print.py. -/
import Derived.Test.YtomoefldmgfaoaaDoorPFnVersionHighestx0
import Derived.Test.YtomoefldmgfaoaaDoorPFnVersionHighestx1
namespace Go.Proofs.YtomoefldmgfaoaaDoor.PFnVersionHighest
open Go.RowKit Go.Proofs.YtomoefldmgfaoaaDoorW.PrintWords Go.Proofs.YtomoefldmgfaoaaDoorW.PrintLast Go.Proofs.YtomoefldmgfaoaaDoorW.PrintMore
attribute [local go_sem] max2_int min2_int max_two min_two max_three min_three max_four min_four   -- for this text's walks alone
set_option linter.unusedVariables false
set_option linter.unusedSimpArgs false

/-! ### spec_Versions: function 23 -/
mutual
def spec_Versions.l0 : Nat → Int → List Int → Bool → ByteArray → ByteArray → List Int → Bool → ByteArray → ByteArray → Option (Int)
 | 0, _, _, _, _, _, _, _, _, _ => none
 | k + 1, x5, x105000, x105001, x105002, x105003, x106000, x106001, x106002, x106003 => if x5 < (x105000.length : Int) then (spec_Versions.j1 k x5 true x105000 x105001 x105002 x105003 x106000 x106001 x106002 x106003) else (spec_Versions.j1 k x5 (decide (x5 < (x106000.length : Int))) x105000 x105001 x105002 x105003 x106000 x106001 x106002 x106003)
def spec_Versions.j1 : Nat → Int → Bool → List Int → Bool → ByteArray → ByteArray → List Int → Bool → ByteArray → ByteArray → Option (Int)
 | 0, _, _, _, _, _, _, _, _, _, _ => none
 | k + 1, x5, x17, x105000, x105001, x105002, x105003, x106000, x106001, x106002, x106003 => if x17 = true then ((spec_Version_part.f x105000 x105001 x105002 x105003 x5).bind fun t107 => ((spec_Version_part.f x106000 x106001 x106002 x106003 x5).bind fun t108 => (if t107 < t108 then (some (-1)) else ((spec_Version_part.f x105000 x105001 x105002 x105003 x5).bind fun t109 => ((spec_Version_part.f x106000 x106001 x106002 x106003 x5).bind fun t110 => (if t109 > t110 then (some 1) else (spec_Versions.l0 k (wrap64 (x5 + 1)) x105000 x105001 x105002 x105003 x106000 x106001 x106002 x106003))))))) else (if x105001 = true then (if x106001 = true then ((spec_VerPrecedence.f x105002 x106002).bind fun t106 => (some t106)) else (some 0)) else (some 0))
end
def spec_Versions.f (k : Nat) (l0_0 : List Int) (a0_1 : Bool) (a0_2 : ByteArray) (a0_3 : ByteArray) (l1_0 : List Int) (a1_1 : Bool) (a1_2 : ByteArray) (a1_3 : ByteArray) : Option (Int) := spec_Versions.l0 k 0 l0_0 a0_1 a0_2 a0_3 l1_0 a1_1 a1_2 a1_3
theorem spec_Versions.mono_l : ∀ k, (∀ y0 y1 y2 y3 y4 y5 y6 y7 y8, LeO (spec_Versions.l0 k y0 y1 y2 y3 y4 y5 y6 y7 y8) (spec_Versions.l0 (k + 1) y0 y1 y2 y3 y4 y5 y6 y7 y8)) ∧ (∀ y0 y1 y2 y3 y4 y5 y6 y7 y8 y9, LeO (spec_Versions.j1 k y0 y1 y2 y3 y4 y5 y6 y7 y8 y9) (spec_Versions.j1 (k + 1) y0 y1 y2 y3 y4 y5 y6 y7 y8 y9))
 | 0 => ⟨fun _ _ _ _ _ _ _ _ _ r h => by simp [spec_Versions.l0] at h, fun _ _ _ _ _ _ _ _ _ _ r h => by simp [spec_Versions.j1] at h⟩
 | k + 1 => by
  obtain ⟨ih0, ih1⟩ := spec_Versions.mono_l k
  refine ⟨?_, ?_⟩
  ·
   intro y0 y1 y2 y3 y4 y5 y6 y7 y8
   unfold spec_Versions.l0
   repeat' first
   | (with_reducible exact ih0 _ _ _ _ _ _ _ _ _)
   | (with_reducible exact ih1 _ _ _ _ _ _ _ _ _ _)
   | (with_reducible exact LeO.refl _)
   | (with_reducible exact LeO.none _)
   | (with_reducible refine LeO.ite ?_ ?_)
   | (with_reducible refine LeO.bind ?_ (fun _ => ?_))
   | exact ih0 _ _ _ _ _ _ _ _ _
   | exact ih1 _ _ _ _ _ _ _ _ _ _
   | exact LeO.none _
   | refine LeO.ite ?_ ?_
   | refine LeO.bind ?_ (fun _ => ?_)
  ·
   intro y0 y1 y2 y3 y4 y5 y6 y7 y8 y9
   unfold spec_Versions.j1
   repeat' first
   | (with_reducible exact ih0 _ _ _ _ _ _ _ _ _)
   | (with_reducible exact ih1 _ _ _ _ _ _ _ _ _ _)
   | (with_reducible exact LeO.refl _)
   | (with_reducible exact LeO.none _)
   | (with_reducible refine LeO.ite ?_ ?_)
   | (with_reducible refine LeO.bind ?_ (fun _ => ?_))
   | exact ih0 _ _ _ _ _ _ _ _ _
   | exact ih1 _ _ _ _ _ _ _ _ _ _
   | exact LeO.none _
   | refine LeO.ite ?_ ?_
   | refine LeO.bind ?_ (fun _ => ?_)
theorem spec_Versions.mono : ∀ a0 a1 a2 a3 a4 a5 a6 a7 k, LeO (spec_Versions.f k a0 a1 a2 a3 a4 a5 a6 a7) (spec_Versions.f (k + 1) a0 a1 a2 a3 a4 a5 a6 a7) := by
 intro a0 a1 a2 a3 a4 a5 a6 a7 k
 obtain ⟨ih0, ih1⟩ := spec_Versions.mono_l k
 unfold spec_Versions.f
 repeat' first
   | (with_reducible exact ih0 _ _ _ _ _ _ _ _ _)
   | (with_reducible exact ih1 _ _ _ _ _ _ _ _ _ _)
   | (with_reducible exact LeO.refl _)
   | (with_reducible exact LeO.none _)
   | (with_reducible refine LeO.ite ?_ ?_)
   | (with_reducible refine LeO.bind ?_ (fun _ => ?_))
   | exact ih0 _ _ _ _ _ _ _ _ _
   | exact ih1 _ _ _ _ _ _ _ _ _ _
   | exact LeO.none _
   | refine LeO.ite ?_ ?_
   | refine LeO.bind ?_ (fun _ => ?_)
set_option maxHeartbeats 8000000 in
set_option maxRecDepth 100000 in
theorem spec_Versions.calls (k : Nat) (A0_0 : Option Addr) (c0_0 : Nat) (l0_0 : List Int) (a0_1 : Bool) (a0_2 : ByteArray) (a0_3 : ByteArray) (A1_0 : Option Addr) (c1_0 : Nat) (l1_0 : List Int) (a1_1 : Bool) (a1_2 : ByteArray) (a1_3 : ByteArray) (r : Int) (w : World) (hr0_0 : Kd.C (Kd.int .u64) w A0_0 l0_0.length l0_0) (hc0_0 : l0_0.length ≤ c0_0) (hr1_0 : Kd.C (Kd.int .u64) w A1_0 l1_0.length l1_0) (hc1_0 : l1_0.length ≤ c1_0) (h : spec_Versions.f k l0_0 a0_1 a0_2 a0_3 l1_0 a1_1 a1_2 a1_3 = some r) :
  Calls Tryd.prog 23 #[.agg #[.slice A0_0 l0_0.length c0_0, .bool a0_1, .string a0_2, .string a0_3], .agg #[.slice A1_0 l1_0.length c1_0, .bool a1_1, .string a1_2, .string a1_3]] w fun e w' => e = .returned (.int .i64 r) ∧ Below w.heap.size w w' := by
 have hu26 := Tryd.underlying26
 have HR0_0 := aM_ hr0_0
 have HC0_0 := aM_ hc0_0
 clear hr0_0 hc0_0
 have HR1_0 := aM_ hr1_0
 have HC1_0 := aM_ hc1_0
 clear hr1_0 hc1_0
 have HB := aM_ (Below.refl w.heap.size w)
 have H : (spec_Versions.l0 k 0 l0_0 a0_1 a0_2 a0_3 l1_0 a1_1 a1_2 a1_3) = some r := h
 clear h
 have H' := aM_ H
 clear H
 go_enter Tryd.func23, Tryd.ntmps23
 go_wp2_with (first | ((with_reducible refine gate_dst (N := 2) rfl ?_); (try (refine gate_guard (by rfl) ?_; dsimp only)); refine box_event ?hg (N := 2) ?hd (cs := #[.slice A0_0 l0_0.length c0_0, .bool a0_1, .string a0_2, .string a0_3]) (t := 26) ?hr ?_; (case hd => rfl); (case hg => rfl); (case hr => first | (go_simp; done) | (go_simp; rfl)); intro gb104 hg w3 hbox hb; have n0_ := aM_ (below_step (by repeat (first | (with_reducible first | exact HB.out | apply bB_ | apply wN_ | apply bE_) | exact HB.out)) hb); have n1_ := aM_ (hbox); have n2_ := aM_ ((by rw [hg]; exact (below_size (by repeat (first | (with_reducible first | exact HB.out | apply bB_ | apply wN_ | apply bE_) | exact HB.out))) : w.heap.size ≤ gb104)); have n3_ := aM_ ((by rw [hg]; exact (below_size (by repeat (first | (with_reducible first | exact HB.out | apply bB_ | apply wN_ | apply bE_) | exact HB.out))) : w.heap.size ≤ gb104)); clear HB; have HB := n0_; have BK104 := n1_; have GW104 := n2_; have GE104 := n3_; clear n0_ n1_ n2_ n3_; clear hb hbox hg) | ((with_reducible refine gate_dst (N := 3) rfl ?_); (try (refine gate_guard (by rfl) ?_; dsimp only)); refine box_event ?hg (N := 3) ?hd (cs := #[.slice A1_0 l1_0.length c1_0, .bool a1_1, .string a1_2, .string a1_3]) (t := 26) ?hr ?_; (case hd => rfl); (case hg => rfl); (case hr => first | (go_simp; done) | (go_simp; rfl)); intro gb105 hg w4 hbox hb; have n0_ := aM_ (blk_below (g := gb104) (o := .cells #[.slice A0_0 l0_0.length c0_0, .bool a0_1, .string a0_2, .string a0_3] 26 (0, 0)) (by (with_reducible repeat (first | refine bN_ ?_ _ | refine bD_ ?_ | refine bA_ ?_ _)); exact BK104.out) hb); have n1_ := aM_ (below_step (by repeat (first | (with_reducible first | exact HB.out | apply bB_ | apply wN_ | apply bE_ | refine bS_ ?_ GE104.out) | exact HB.out)) hb); have n2_ := aM_ (hbox); have n3_ := aM_ ((by rw [hg]; exact (below_size (by repeat (first | (with_reducible first | exact HB.out | apply bB_ | apply wN_ | apply bE_ | refine bS_ ?_ GE104.out) | exact HB.out))) : w.heap.size ≤ gb105)); have n4_ := aM_ ((by rw [hg]; exact (below_size (by repeat (first | (with_reducible first | exact HB.out | apply bB_ | apply wN_ | apply bE_ | refine bS_ ?_ GE104.out) | exact HB.out))) : w.heap.size ≤ gb105)); have n5_ := aM_ ((by rw [hg]; exact Nat.ne_of_lt (blk_lt (g := gb104) (o := .cells #[.slice A0_0 l0_0.length c0_0, .bool a0_1, .string a0_2, .string a0_3] 26 (0, 0)) (by (with_reducible repeat (first | refine bN_ ?_ _ | refine bD_ ?_ | refine bA_ ?_ _)); exact BK104.out)) : gb104 ≠ gb105)); have n6_ := aM_ ((by rw [hg]; exact Nat.ne_of_gt (blk_lt (g := gb104) (o := .cells #[.slice A0_0 l0_0.length c0_0, .bool a0_1, .string a0_2, .string a0_3] 26 (0, 0)) (by (with_reducible repeat (first | refine bN_ ?_ _ | refine bD_ ?_ | refine bA_ ?_ _)); exact BK104.out)) : gb105 ≠ gb104)); clear BK104; clear HB; have BK104 := n0_; have HB := n1_; have BK105 := n2_; have GW105 := n3_; have GE105 := n4_; have NB104_105 := n5_; have NB105_104 := n6_; clear n0_ n1_ n2_ n3_ n4_ n5_ n6_; clear hb hbox hg))
 go_loopg [5] k (fun kq v5 w' => ∃ (x5_1 : Int), v5 = .int .i64 x5_1 ∧ Aside0 (spec_Versions.l0 kq x5_1 l0_0 a0_1 a0_2 a0_3 l1_0 a1_1 a1_2 a1_3 = some r) ∧ Aside0 (kq ≤ k) ∧ Aside0 (w'.heap[gb104]? = some (.cells #[(.slice A0_0 l0_0.length c0_0), .bool a0_1, .string a0_2, .string a0_3] 26 (0, 0))) ∧ Aside0 (w'.heap[gb105]? = some (.cells #[(.slice A1_0 l1_0.length c1_0), .bool a1_1, .string a1_2, .string a1_3] 26 (0, 0))) ∧ Aside0 (Below w.heap.size w w'))
 case atStart => exact ⟨(0), (by first | rfl | (simp; done) | (simp [*]; done)), H', ⟨Nat.le_refl _⟩, ⟨by (with_reducible repeat (first | refine bN_ ?_ _ | refine bD_ ?_ | refine bA_ ?_ _)); exact BK104.out⟩, ⟨by (with_reducible repeat (first | refine bN_ ?_ _ | refine bD_ ?_ | refine bA_ ?_ _)); exact BK105.out⟩, ⟨by repeat (first | (with_reducible first | exact HB.out | apply bB_ | apply wN_ | apply bE_ | refine bS_ ?_ GE104.out | refine bS_ ?_ GE105.out) | exact HB.out)⟩⟩
 case round =>
  clear H'
  try clear c1
  try clear c2
  try clear p2
  obtain ⟨x5_1, rfl, HA, HK1, BK104, BK105, HB⟩ := hrel
  cases gk with
  | zero => exact absurd HA.out (by simp [spec_Versions.l0])
  | succ k1 =>
   have H := HA.out
   clear HA
   simp only [spec_Versions.l0] at H
   have HC5 := aM_ H
   clear H
   go_upto_region 2 with (fail)
   go_cut [17] (fun v17 wc => ∃ (kq : Nat) (x17_4 : Bool), v17 = .bool x17_4 ∧ Aside0 (spec_Versions.j1 kq x5_1 x17_4 l0_0 a0_1 a0_2 a0_3 l1_0 a1_1 a1_2 a1_3 = some r) ∧ Aside0 (kq ≤ k1) ∧ Aside0 (wc.heap[gb104]? = some (.cells #[(.slice A0_0 l0_0.length c0_0), .bool a0_1, .string a0_2, .string a0_3] 26 (0, 0))) ∧ Aside0 (wc.heap[gb105]? = some (.cells #[(.slice A1_0 l1_0.length c1_0), .bool a1_1, .string a1_2, .string a1_3] 26 (0, 0))) ∧ Aside0 (Below w.heap.size w wc))
   case first =>
    have H := HC5.out
    clear HC5
    by_cases c6 : x5_1 < (l0_0.length : Int)
    ·
     rw [if_pos c6] at H
     have c6b0 : decide (x5_1 < (l0_0.length : Int)) = true := decide_eq_true c6
     clear c6
     (first | rw [c6b0] | (simp only [i64_w, i32_w]; rw [c6b0]) | skip)
     have H' := aM_ H
     clear H
     have hnb7 := NB104_105.out
     have hnc7 := NB105_104.out
     have hcz8_0 : wr.cell? ⟨gb104, 0, none⟩ = some (.slice A0_0 l0_0.length c0_0) := (bC_ BK104.out 0).trans rfl
     have hcz8_1 : wr.cell? ⟨gb104, 1, none⟩ = some (.bool a0_1) := (bC_ BK104.out 1).trans rfl
     have hcz8_2 : wr.cell? ⟨gb104, 2, none⟩ = some (.string a0_2) := (bC_ BK104.out 2).trans rfl
     have hcz8_3 : wr.cell? ⟨gb104, 3, none⟩ = some (.string a0_3) := (bC_ BK104.out 3).trans rfl
     have hfz8_0 := bF_ BK104.out 0
     have hfz8_1 := bF_ BK104.out 1
     have hfz8_2 := bF_ BK104.out 2
     have hfz8_3 := bF_ BK104.out 3
     go_wp2
     go_meet
     case rel => exact ⟨_, (true), (by first | rfl | (simp; done) | (simp [*]; done)), H', ⟨by have := HK1.out; first | omega | exact Nat.le_refl _⟩, ⟨by (with_reducible repeat (first | refine bN_ ?_ _ | refine bD_ ?_ | refine bA_ ?_ _)); exact BK104.out⟩, ⟨by (with_reducible repeat (first | refine bN_ ?_ _ | refine bD_ ?_ | refine bA_ ?_ _)); exact BK105.out⟩, ⟨by repeat (first | (with_reducible first | exact HB.out | apply bB_ | apply wN_ | apply bE_ | refine bS_ ?_ GE104.out | refine bS_ ?_ GE105.out) | exact HB.out)⟩⟩
    ·
     rw [if_neg c6] at H
     have c6b0 : decide (x5_1 < (l0_0.length : Int)) = false := decide_eq_false c6
     clear c6
     (first | rw [c6b0] | (simp only [i64_w, i32_w]; rw [c6b0]) | skip)
     have H' := aM_ H
     clear H
     have hnb9 := NB104_105.out
     have hnc9 := NB105_104.out
     have hcz10_0 : wr.cell? ⟨gb104, 0, none⟩ = some (.slice A0_0 l0_0.length c0_0) := (bC_ BK104.out 0).trans rfl
     have hcz10_1 : wr.cell? ⟨gb104, 1, none⟩ = some (.bool a0_1) := (bC_ BK104.out 1).trans rfl
     have hcz10_2 : wr.cell? ⟨gb104, 2, none⟩ = some (.string a0_2) := (bC_ BK104.out 2).trans rfl
     have hcz10_3 : wr.cell? ⟨gb104, 3, none⟩ = some (.string a0_3) := (bC_ BK104.out 3).trans rfl
     have hfz10_0 := bF_ BK104.out 0
     have hfz10_1 := bF_ BK104.out 1
     have hfz10_2 := bF_ BK104.out 2
     have hfz10_3 := bF_ BK104.out 3
     have hcz11_0 : wr.cell? ⟨gb105, 0, none⟩ = some (.slice A1_0 l1_0.length c1_0) := (bC_ BK105.out 0).trans rfl
     have hcz11_1 : wr.cell? ⟨gb105, 1, none⟩ = some (.bool a1_1) := (bC_ BK105.out 1).trans rfl
     have hcz11_2 : wr.cell? ⟨gb105, 2, none⟩ = some (.string a1_2) := (bC_ BK105.out 2).trans rfl
     have hcz11_3 : wr.cell? ⟨gb105, 3, none⟩ = some (.string a1_3) := (bC_ BK105.out 3).trans rfl
     have hfz11_0 := bF_ BK105.out 0
     have hfz11_1 := bF_ BK105.out 1
     have hfz11_2 := bF_ BK105.out 2
     have hfz11_3 := bF_ BK105.out 3
     go_wp2
     go_meet
     case rel => exact ⟨_, (decide (x5_1 < (l1_0.length : Int))), (by first | rfl | (simp; done) | (simp [*]; done)), H', ⟨by have := HK1.out; first | omega | exact Nat.le_refl _⟩, ⟨by (with_reducible repeat (first | refine bN_ ?_ _ | refine bD_ ?_ | refine bA_ ?_ _)); exact BK104.out⟩, ⟨by (with_reducible repeat (first | refine bN_ ?_ _ | refine bD_ ?_ | refine bA_ ?_ _)); exact BK105.out⟩, ⟨by repeat (first | (with_reducible first | exact HB.out | apply bB_ | apply wN_ | apply bE_ | refine bS_ ?_ GE104.out | refine bS_ ?_ GE105.out) | exact HB.out)⟩⟩
   case rest =>
    clear HC5
    try clear c1
    try clear c2
    try clear p2
    try clear c6
    try clear c6b0
    try clear c7
    try clear c9
    try clear hcz10_0
    try clear hcz10_1
    try clear hcz10_2
    try clear hcz10_3
    try clear hcz11_0
    try clear hcz11_1
    try clear hcz11_2
    try clear hcz11_3
    try clear hcz8_0
    try clear hcz8_1
    try clear hcz8_2
    try clear hcz8_3
    try clear hfz10_0
    try clear hfz10_1
    try clear hfz10_2
    try clear hfz10_3
    try clear hfz11_0
    try clear hfz11_1
    try clear hfz11_2
    try clear hfz11_3
    try clear hfz8_0
    try clear hfz8_1
    try clear hfz8_2
    try clear hfz8_3
    try clear p2
    obtain ⟨kq, x17_4, rfl, HA, HJ4, BK104, BK105, HB⟩ := hcut
    cases kq with
    | zero => exact absurd HA.out (by simp [spec_Versions.j1])
    | succ kj4 =>
     have H := HA.out
     clear HA
     simp only [spec_Versions.j1] at H
     by_cases c12 : x17_4 = true
     ·
      subst c12
      have H1 : ((spec_Version_part.f l0_0 a0_1 a0_2 a0_3 x5_1).bind fun t107 => ((spec_Version_part.f l1_0 a1_1 a1_2 a1_3 x5_1).bind fun t108 => (if t107 < t108 then (some (-1)) else ((spec_Version_part.f l0_0 a0_1 a0_2 a0_3 x5_1).bind fun t109 => ((spec_Version_part.f l1_0 a1_1 a1_2 a1_3 x5_1).bind fun t110 => (if t109 > t110 then (some 1) else (spec_Versions.l0 kj4 (wrap64 (x5_1 + 1)) l0_0 a0_1 a0_2 a0_3 l1_0 a1_1 a1_2 a1_3))))))) = some r := by rw [if_pos rfl] at H; exact H
      clear H
      have H := H1
      clear H1
      replace H := Option.bind_eq_some_iff.mp H
      obtain ⟨t107, A130, H⟩ := H
      replace H : ((spec_Version_part.f l1_0 a1_1 a1_2 a1_3 x5_1).bind fun t108 => (if t107 < t108 then (some (-1)) else ((spec_Version_part.f l0_0 a0_1 a0_2 a0_3 x5_1).bind fun t109 => ((spec_Version_part.f l1_0 a1_1 a1_2 a1_3 x5_1).bind fun t110 => (if t109 > t110 then (some 1) else (spec_Versions.l0 kj4 (wrap64 (x5_1 + 1)) l0_0 a0_1 a0_2 a0_3 l1_0 a1_1 a1_2 a1_3)))))) = some r := H
      have A13 := aM_ A130
      clear A130
      replace H := Option.bind_eq_some_iff.mp H
      obtain ⟨t108, A140, H⟩ := H
      replace H : (if t107 < t108 then (some (-1)) else ((spec_Version_part.f l0_0 a0_1 a0_2 a0_3 x5_1).bind fun t109 => ((spec_Version_part.f l1_0 a1_1 a1_2 a1_3 x5_1).bind fun t110 => (if t109 > t110 then (some 1) else (spec_Versions.l0 kj4 (wrap64 (x5_1 + 1)) l0_0 a0_1 a0_2 a0_3 l1_0 a1_1 a1_2 a1_3))))) = some r := H
      have A14 := aM_ A140
      clear A140
      by_cases c15 : t107 < t108
      ·
       rw [if_pos c15] at H
       have c15b0 : decide (t107 < t108) = true := decide_eq_true c15
       clear c15
       obtain rfl := Option.some.inj H
       try go_wp2
       have n0_ := aM_ (bD_ BK104.out)
       have n1_ := aM_ (bD_ BK105.out)
       have n2_ := aM_ (bE_ HB.out)
       clear BK104
       clear BK105
       clear HB
       have BK104 := n0_
       have BK105 := n1_
       have HB := n2_
       clear n0_ n1_ n2_
       refine start_ (n := 7) (S := fun w' => w'.cell? ⟨gb104, 0, none⟩ = some (.slice A0_0 l0_0.length c0_0) ∧ w'.cell? ⟨gb104, 1, none⟩ = some (.bool a0_1) ∧ w'.cell? ⟨gb104, 2, none⟩ = some (.string a0_2) ∧ w'.cell? ⟨gb104, 3, none⟩ = some (.string a0_3) ∧ w'.cell? ⟨gb105, 0, none⟩ = some (.slice A1_0 l1_0.length c1_0) ∧ w'.cell? ⟨gb105, 1, none⟩ = some (.bool a1_1) ∧ w'.cell? ⟨gb105, 2, none⟩ = some (.string a1_2) ∧ w'.cell? ⟨gb105, 3, none⟩ = some (.string a1_3)) (ds := []) #[false, false, false, false, false, false, false] (by kernel_rfl) rfl rfl ⟨(bC_ BK104.out 0).trans rfl, (bC_ BK104.out 1).trans rfl, (bC_ BK104.out 2).trans rfl, (bC_ BK104.out 3).trans rfl, (bC_ BK105.out 0).trans rfl, (bC_ BK105.out 1).trans rfl, (bC_ BK105.out 2).trans rfl, (bC_ BK105.out 3).trans rfl⟩ (fun hHeld => ?_)
       generalize wc.drew = w16 at BK104 BK105 HB hHeld ⊢
       refine pure_ (i := 1) (N := some 21) (v := ?_) (a' := ?_) #[false, true, false, false, false, false, false] rfl rfl (by kernel_rfl) (fun _ _ _ h => h) (Or.inl ⟨by rfl, ?_⟩) ?_ ?_
       rotate_left
       ·
        intro w'
        go_simp
        with_reducible rfl
       rotate_left
       ·
        simp only [Act.put, List.setIfInBounds_toArray, List.set_cons_zero, List.set_cons_succ, i64_w, i32_w]
        rfl
       refine pure_ (i := 4) (N := some 24) (v := ?_) (a' := ?_) #[false, true, false, false, true, false, false] rfl rfl (by kernel_rfl) (fun _ _ _ h => h) (Or.inl ⟨by rfl, ?_⟩) ?_ ?_
       rotate_left
       ·
        intro w'
        go_simp
        with_reducible rfl
       rotate_left
       ·
        simp only [Act.put, List.setIfInBounds_toArray, List.set_cons_zero, List.set_cons_succ, i64_w, i32_w]
        rfl
       refine take_ (i := 0) (N := some 20) (v := ?_) (a' := ?_) #[true, true, false, false, true, false, false] rfl rfl (by kernel_rfl) (fun _ _ _ h => h) (Or.inl ⟨by rfl, ?_⟩) hHeld ?_ ?_
       rotate_left
       ·
        rintro w' ⟨s0, s1, s2, s3, s4, s5, s6, s7⟩
        go_simp
        with_reducible rfl
       rotate_left
       ·
        simp only [Act.put, List.setIfInBounds_toArray, List.set_cons_zero, List.set_cons_succ, i64_w, i32_w]
        rfl
       refine take_ (i := 3) (N := some 23) (v := ?_) (a' := ?_) #[true, true, false, true, true, false, false] rfl rfl (by kernel_rfl) (fun _ _ _ h => h) (Or.inl ⟨by rfl, ?_⟩) hHeld ?_ ?_
       rotate_left
       ·
        rintro w' ⟨s0, s1, s2, s3, s4, s5, s6, s7⟩
        go_simp
        with_reducible rfl
       rotate_left
       ·
        simp only [Act.put, List.setIfInBounds_toArray, List.set_cons_zero, List.set_cons_succ, i64_w, i32_w]
        rfl
       refine one_ (i := 2) (N := some 22) #[true, true, true, true, true, false, false] rfl rfl (by kernel_rfl) (by decide) (fun K hK => ?_)
       refine goes_ Tryd.func28 (by kernel_rfl) rfl #[.agg #[.slice A0_0 l0_0.length c0_0, .bool a0_1, .string a0_2, .string a0_3], .int .i64 x5_1] (by rfl) rfl rfl (by (try simp only [List.map_toArray, List.map_cons, List.map_nil]); first | done | rfl | (simp only [List.length_drop, List.length_take]; rfl)) ?_
       with_reducible refine (spec_Version_part.calls _ _ l0_0 a0_1 a0_2 a0_3 x5_1 t107 _ ?side1 ?side2 A13.out).mono ?_
       (case side1 => repeat (first | exact (Kd.C_below HR0_0.out HB.out) | (with_reducible refine Kd.C_alloc ?_ _) | (with_reducible refine Kd.C_drewN ?_ _) | (with_reducible refine Kd.C_drew ?_)))
       (case side2 => exact HC0_0.out)
       rintro e w17 ⟨rfl, hb⟩
       refine ⟨_, rfl, ?_⟩
       have n0_ := aM_ (blk_below (g := gb104) (o := .cells #[.slice A0_0 l0_0.length c0_0, .bool a0_1, .string a0_2, .string a0_3] 26 (0, 0)) (by (with_reducible repeat (first | refine bN_ ?_ _ | refine bD_ ?_ | refine bA_ ?_ _)); exact BK104.out) hb)
       have n1_ := aM_ (blk_below (g := gb105) (o := .cells #[.slice A1_0 l1_0.length c1_0, .bool a1_1, .string a1_2, .string a1_3] 26 (0, 0)) (by (with_reducible repeat (first | refine bN_ ?_ _ | refine bD_ ?_ | refine bA_ ?_ _)); exact BK105.out) hb)
       have n2_ := aM_ (below_step (by repeat (first | (with_reducible first | exact HB.out | apply bB_ | apply wN_ | apply bE_ | refine bS_ ?_ GE104.out | refine bS_ ?_ GE105.out) | exact HB.out)) hb)
       clear BK104
       clear BK105
       clear HB
       have BK104 := n0_
       have BK105 := n1_
       have HB := n2_
       clear n0_ n1_ n2_
       (try clear hb)
       (try clear hb2)
       (try clear hk)
       (try clear hi)
       refine hK.out _ _ ⟨(bC_ BK104.out 0).trans rfl, (bC_ BK104.out 1).trans rfl, (bC_ BK104.out 2).trans rfl, (bC_ BK104.out 3).trans rfl, (bC_ BK105.out 0).trans rfl, (bC_ BK105.out 1).trans rfl, (bC_ BK105.out 2).trans rfl, (bC_ BK105.out 3).trans rfl⟩ (fun hHeld => ?_)
       clear hK K
       refine norm_ (a' := ?_) ?_ ?_
       rotate_left
       ·
        show Act.put _ (some 22) _ = _
        simp only [Act.put, List.setIfInBounds_toArray, List.set_cons_zero, List.set_cons_succ, i64_w, i32_w]
        rfl
       refine one_ (i := 5) (N := some 25) #[true, true, true, true, true, true, false] rfl rfl (by kernel_rfl) (by decide) (fun K hK => ?_)
       refine goes_ Tryd.func28 (by kernel_rfl) rfl #[.agg #[.slice A1_0 l1_0.length c1_0, .bool a1_1, .string a1_2, .string a1_3], .int .i64 x5_1] (by rfl) rfl rfl (by (try simp only [List.map_toArray, List.map_cons, List.map_nil]); first | done | rfl | (simp only [List.length_drop, List.length_take]; rfl)) ?_
       with_reducible refine (spec_Version_part.calls _ _ l1_0 a1_1 a1_2 a1_3 x5_1 t108 _ ?side1 ?side2 A14.out).mono ?_
       (case side1 => repeat (first | exact (Kd.C_below HR1_0.out HB.out) | (with_reducible refine Kd.C_alloc ?_ _) | (with_reducible refine Kd.C_drewN ?_ _) | (with_reducible refine Kd.C_drew ?_)))
       (case side2 => exact HC1_0.out)
       rintro e w18 ⟨rfl, hb⟩
       refine ⟨_, rfl, ?_⟩
       have n0_ := aM_ (blk_below (g := gb104) (o := .cells #[.slice A0_0 l0_0.length c0_0, .bool a0_1, .string a0_2, .string a0_3] 26 (0, 0)) (by (with_reducible repeat (first | refine bN_ ?_ _ | refine bD_ ?_ | refine bA_ ?_ _)); exact BK104.out) hb)
       have n1_ := aM_ (blk_below (g := gb105) (o := .cells #[.slice A1_0 l1_0.length c1_0, .bool a1_1, .string a1_2, .string a1_3] 26 (0, 0)) (by (with_reducible repeat (first | refine bN_ ?_ _ | refine bD_ ?_ | refine bA_ ?_ _)); exact BK105.out) hb)
       have n2_ := aM_ (below_step (by repeat (first | (with_reducible first | exact HB.out | apply bB_ | apply wN_ | apply bE_ | refine bS_ ?_ GE104.out | refine bS_ ?_ GE105.out) | exact HB.out)) hb)
       clear BK104
       clear BK105
       clear HB
       have BK104 := n0_
       have BK105 := n1_
       have HB := n2_
       clear n0_ n1_ n2_
       (try clear hb)
       (try clear hb2)
       (try clear hk)
       (try clear hi)
       refine hK.out _ _ ⟨(bC_ BK104.out 0).trans rfl, (bC_ BK104.out 1).trans rfl, (bC_ BK104.out 2).trans rfl, (bC_ BK104.out 3).trans rfl, (bC_ BK105.out 0).trans rfl, (bC_ BK105.out 1).trans rfl, (bC_ BK105.out 2).trans rfl, (bC_ BK105.out 3).trans rfl⟩ (fun hHeld => ?_)
       clear hK K
       refine norm_ (a' := ?_) ?_ ?_
       rotate_left
       ·
        show Act.put _ (some 25) _ = _
        simp only [Act.put, List.setIfInBounds_toArray, List.set_cons_zero, List.set_cons_succ, i64_w, i32_w]
        rfl
       refine pure_ (i := 6) (N := some 26) (v := ?_) (a' := ?_) #[true, true, true, true, true, true, true] rfl rfl (by kernel_rfl) (fun _ _ _ h => h) (Or.inl ⟨by rfl, ?_⟩) ?_ ?_
       rotate_left
       ·
        intro w'
        go_simp
        with_reducible rfl
       rotate_left
       ·
        simp only [Act.put, List.setIfInBounds_toArray, List.set_cons_zero, List.set_cons_succ, i64_w, i32_w]
        rfl
       refine done_ (by kernel_rfl) ?_
       try go_wp2
       go_ret
       exact ⟨by first | rfl | (simp [errW_none, errW_some] <;> rfl) | (simp [*, errW_none, errW_some] <;> rfl) | (exfalso; contradiction), by repeat (first | (with_reducible first | exact HB.out | apply bB_ | apply wN_ | apply bE_ | refine bS_ ?_ GE104.out | refine bS_ ?_ GE105.out) | exact HB.out)⟩
      ·
       rw [if_neg c15] at H
       have c15b0 : decide (t107 < t108) = false := decide_eq_false c15
       clear c15
       replace H := Option.bind_eq_some_iff.mp H
       obtain ⟨t109, A190, H⟩ := H
       replace H : ((spec_Version_part.f l1_0 a1_1 a1_2 a1_3 x5_1).bind fun t110 => (if t109 > t110 then (some 1) else (spec_Versions.l0 kj4 (wrap64 (x5_1 + 1)) l0_0 a0_1 a0_2 a0_3 l1_0 a1_1 a1_2 a1_3))) = some r := H
       have A19 := aM_ A190
       clear A190
       replace H := Option.bind_eq_some_iff.mp H
       obtain ⟨t110, A200, H⟩ := H
       replace H : (if t109 > t110 then (some 1) else (spec_Versions.l0 kj4 (wrap64 (x5_1 + 1)) l0_0 a0_1 a0_2 a0_3 l1_0 a1_1 a1_2 a1_3)) = some r := H
       have A20 := aM_ A200
       clear A200
       by_cases c21 : t109 > t110
       ·
        rw [if_pos c21] at H
        have c21b0 : decide (t110 < t109) = true := decide_eq_true c21
        clear c21
        obtain rfl := Option.some.inj H
        try go_wp2
        have n0_ := aM_ (bD_ BK104.out)
        have n1_ := aM_ (bD_ BK105.out)
        have n2_ := aM_ (bE_ HB.out)
        clear BK104
        clear BK105
        clear HB
        have BK104 := n0_
        have BK105 := n1_
        have HB := n2_
        clear n0_ n1_ n2_
        refine start_ (n := 7) (S := fun w' => w'.cell? ⟨gb104, 0, none⟩ = some (.slice A0_0 l0_0.length c0_0) ∧ w'.cell? ⟨gb104, 1, none⟩ = some (.bool a0_1) ∧ w'.cell? ⟨gb104, 2, none⟩ = some (.string a0_2) ∧ w'.cell? ⟨gb104, 3, none⟩ = some (.string a0_3) ∧ w'.cell? ⟨gb105, 0, none⟩ = some (.slice A1_0 l1_0.length c1_0) ∧ w'.cell? ⟨gb105, 1, none⟩ = some (.bool a1_1) ∧ w'.cell? ⟨gb105, 2, none⟩ = some (.string a1_2) ∧ w'.cell? ⟨gb105, 3, none⟩ = some (.string a1_3)) (ds := []) #[false, false, false, false, false, false, false] (by kernel_rfl) rfl rfl ⟨(bC_ BK104.out 0).trans rfl, (bC_ BK104.out 1).trans rfl, (bC_ BK104.out 2).trans rfl, (bC_ BK104.out 3).trans rfl, (bC_ BK105.out 0).trans rfl, (bC_ BK105.out 1).trans rfl, (bC_ BK105.out 2).trans rfl, (bC_ BK105.out 3).trans rfl⟩ (fun hHeld => ?_)
        generalize wc.drew = w22 at BK104 BK105 HB hHeld ⊢
        refine pure_ (i := 1) (N := some 21) (v := ?_) (a' := ?_) #[false, true, false, false, false, false, false] rfl rfl (by kernel_rfl) (fun _ _ _ h => h) (Or.inl ⟨by rfl, ?_⟩) ?_ ?_
        rotate_left
        ·
         intro w'
         go_simp
         with_reducible rfl
        rotate_left
        ·
         simp only [Act.put, List.setIfInBounds_toArray, List.set_cons_zero, List.set_cons_succ, i64_w, i32_w]
         rfl
        refine pure_ (i := 4) (N := some 24) (v := ?_) (a' := ?_) #[false, true, false, false, true, false, false] rfl rfl (by kernel_rfl) (fun _ _ _ h => h) (Or.inl ⟨by rfl, ?_⟩) ?_ ?_
        rotate_left
        ·
         intro w'
         go_simp
         with_reducible rfl
        rotate_left
        ·
         simp only [Act.put, List.setIfInBounds_toArray, List.set_cons_zero, List.set_cons_succ, i64_w, i32_w]
         rfl
        refine take_ (i := 0) (N := some 20) (v := ?_) (a' := ?_) #[true, true, false, false, true, false, false] rfl rfl (by kernel_rfl) (fun _ _ _ h => h) (Or.inl ⟨by rfl, ?_⟩) hHeld ?_ ?_
        rotate_left
        ·
         rintro w' ⟨s0, s1, s2, s3, s4, s5, s6, s7⟩
         go_simp
         with_reducible rfl
        rotate_left
        ·
         simp only [Act.put, List.setIfInBounds_toArray, List.set_cons_zero, List.set_cons_succ, i64_w, i32_w]
         rfl
        refine take_ (i := 3) (N := some 23) (v := ?_) (a' := ?_) #[true, true, false, true, true, false, false] rfl rfl (by kernel_rfl) (fun _ _ _ h => h) (Or.inl ⟨by rfl, ?_⟩) hHeld ?_ ?_
        rotate_left
        ·
         rintro w' ⟨s0, s1, s2, s3, s4, s5, s6, s7⟩
         go_simp
         with_reducible rfl
        rotate_left
        ·
         simp only [Act.put, List.setIfInBounds_toArray, List.set_cons_zero, List.set_cons_succ, i64_w, i32_w]
         rfl
        refine one_ (i := 2) (N := some 22) #[true, true, true, true, true, false, false] rfl rfl (by kernel_rfl) (by decide) (fun K hK => ?_)
        refine goes_ Tryd.func28 (by kernel_rfl) rfl #[.agg #[.slice A0_0 l0_0.length c0_0, .bool a0_1, .string a0_2, .string a0_3], .int .i64 x5_1] (by rfl) rfl rfl (by (try simp only [List.map_toArray, List.map_cons, List.map_nil]); first | done | rfl | (simp only [List.length_drop, List.length_take]; rfl)) ?_
        with_reducible refine (spec_Version_part.calls _ _ l0_0 a0_1 a0_2 a0_3 x5_1 t107 _ ?side1 ?side2 A13.out).mono ?_
        (case side1 => repeat (first | exact (Kd.C_below HR0_0.out HB.out) | (with_reducible refine Kd.C_alloc ?_ _) | (with_reducible refine Kd.C_drewN ?_ _) | (with_reducible refine Kd.C_drew ?_)))
        (case side2 => exact HC0_0.out)
        rintro e w23 ⟨rfl, hb⟩
        refine ⟨_, rfl, ?_⟩
        have n0_ := aM_ (blk_below (g := gb104) (o := .cells #[.slice A0_0 l0_0.length c0_0, .bool a0_1, .string a0_2, .string a0_3] 26 (0, 0)) (by (with_reducible repeat (first | refine bN_ ?_ _ | refine bD_ ?_ | refine bA_ ?_ _)); exact BK104.out) hb)
        have n1_ := aM_ (blk_below (g := gb105) (o := .cells #[.slice A1_0 l1_0.length c1_0, .bool a1_1, .string a1_2, .string a1_3] 26 (0, 0)) (by (with_reducible repeat (first | refine bN_ ?_ _ | refine bD_ ?_ | refine bA_ ?_ _)); exact BK105.out) hb)
        have n2_ := aM_ (below_step (by repeat (first | (with_reducible first | exact HB.out | apply bB_ | apply wN_ | apply bE_ | refine bS_ ?_ GE104.out | refine bS_ ?_ GE105.out) | exact HB.out)) hb)
        clear BK104
        clear BK105
        clear HB
        have BK104 := n0_
        have BK105 := n1_
        have HB := n2_
        clear n0_ n1_ n2_
        (try clear hb)
        (try clear hb2)
        (try clear hk)
        (try clear hi)
        refine hK.out _ _ ⟨(bC_ BK104.out 0).trans rfl, (bC_ BK104.out 1).trans rfl, (bC_ BK104.out 2).trans rfl, (bC_ BK104.out 3).trans rfl, (bC_ BK105.out 0).trans rfl, (bC_ BK105.out 1).trans rfl, (bC_ BK105.out 2).trans rfl, (bC_ BK105.out 3).trans rfl⟩ (fun hHeld => ?_)
        clear hK K
        refine norm_ (a' := ?_) ?_ ?_
        rotate_left
        ·
         show Act.put _ (some 22) _ = _
         simp only [Act.put, List.setIfInBounds_toArray, List.set_cons_zero, List.set_cons_succ, i64_w, i32_w]
         rfl
        refine one_ (i := 5) (N := some 25) #[true, true, true, true, true, true, false] rfl rfl (by kernel_rfl) (by decide) (fun K hK => ?_)
        refine goes_ Tryd.func28 (by kernel_rfl) rfl #[.agg #[.slice A1_0 l1_0.length c1_0, .bool a1_1, .string a1_2, .string a1_3], .int .i64 x5_1] (by rfl) rfl rfl (by (try simp only [List.map_toArray, List.map_cons, List.map_nil]); first | done | rfl | (simp only [List.length_drop, List.length_take]; rfl)) ?_
        with_reducible refine (spec_Version_part.calls _ _ l1_0 a1_1 a1_2 a1_3 x5_1 t108 _ ?side1 ?side2 A14.out).mono ?_
        (case side1 => repeat (first | exact (Kd.C_below HR1_0.out HB.out) | (with_reducible refine Kd.C_alloc ?_ _) | (with_reducible refine Kd.C_drewN ?_ _) | (with_reducible refine Kd.C_drew ?_)))
        (case side2 => exact HC1_0.out)
        rintro e w24 ⟨rfl, hb⟩
        refine ⟨_, rfl, ?_⟩
        have n0_ := aM_ (blk_below (g := gb104) (o := .cells #[.slice A0_0 l0_0.length c0_0, .bool a0_1, .string a0_2, .string a0_3] 26 (0, 0)) (by (with_reducible repeat (first | refine bN_ ?_ _ | refine bD_ ?_ | refine bA_ ?_ _)); exact BK104.out) hb)
        have n1_ := aM_ (blk_below (g := gb105) (o := .cells #[.slice A1_0 l1_0.length c1_0, .bool a1_1, .string a1_2, .string a1_3] 26 (0, 0)) (by (with_reducible repeat (first | refine bN_ ?_ _ | refine bD_ ?_ | refine bA_ ?_ _)); exact BK105.out) hb)
        have n2_ := aM_ (below_step (by repeat (first | (with_reducible first | exact HB.out | apply bB_ | apply wN_ | apply bE_ | refine bS_ ?_ GE104.out | refine bS_ ?_ GE105.out) | exact HB.out)) hb)
        clear BK104
        clear BK105
        clear HB
        have BK104 := n0_
        have BK105 := n1_
        have HB := n2_
        clear n0_ n1_ n2_
        (try clear hb)
        (try clear hb2)
        (try clear hk)
        (try clear hi)
        refine hK.out _ _ ⟨(bC_ BK104.out 0).trans rfl, (bC_ BK104.out 1).trans rfl, (bC_ BK104.out 2).trans rfl, (bC_ BK104.out 3).trans rfl, (bC_ BK105.out 0).trans rfl, (bC_ BK105.out 1).trans rfl, (bC_ BK105.out 2).trans rfl, (bC_ BK105.out 3).trans rfl⟩ (fun hHeld => ?_)
        clear hK K
        refine norm_ (a' := ?_) ?_ ?_
        rotate_left
        ·
         show Act.put _ (some 25) _ = _
         simp only [Act.put, List.setIfInBounds_toArray, List.set_cons_zero, List.set_cons_succ, i64_w, i32_w]
         rfl
        refine pure_ (i := 6) (N := some 26) (v := ?_) (a' := ?_) #[true, true, true, true, true, true, true] rfl rfl (by kernel_rfl) (fun _ _ _ h => h) (Or.inl ⟨by rfl, ?_⟩) ?_ ?_
        rotate_left
        ·
         intro w'
         go_simp
         with_reducible rfl
        rotate_left
        ·
         simp only [Act.put, List.setIfInBounds_toArray, List.set_cons_zero, List.set_cons_succ, i64_w, i32_w]
         rfl
        refine done_ (by kernel_rfl) ?_
        try go_wp2
        have n0_ := aM_ (bD_ BK104.out)
        have n1_ := aM_ (bD_ BK105.out)
        have n2_ := aM_ (bE_ HB.out)
        clear BK104
        clear BK105
        clear HB
        have BK104 := n0_
        have BK105 := n1_
        have HB := n2_
        clear n0_ n1_ n2_
        refine start_ (n := 7) (S := fun w' => w'.cell? ⟨gb104, 0, none⟩ = some (.slice A0_0 l0_0.length c0_0) ∧ w'.cell? ⟨gb104, 1, none⟩ = some (.bool a0_1) ∧ w'.cell? ⟨gb104, 2, none⟩ = some (.string a0_2) ∧ w'.cell? ⟨gb104, 3, none⟩ = some (.string a0_3) ∧ w'.cell? ⟨gb105, 0, none⟩ = some (.slice A1_0 l1_0.length c1_0) ∧ w'.cell? ⟨gb105, 1, none⟩ = some (.bool a1_1) ∧ w'.cell? ⟨gb105, 2, none⟩ = some (.string a1_2) ∧ w'.cell? ⟨gb105, 3, none⟩ = some (.string a1_3)) (ds := []) #[false, false, false, false, false, false, false] (by kernel_rfl) rfl rfl ⟨(bC_ BK104.out 0).trans rfl, (bC_ BK104.out 1).trans rfl, (bC_ BK104.out 2).trans rfl, (bC_ BK104.out 3).trans rfl, (bC_ BK105.out 0).trans rfl, (bC_ BK105.out 1).trans rfl, (bC_ BK105.out 2).trans rfl, (bC_ BK105.out 3).trans rfl⟩ (fun hHeld => ?_)
        generalize w24.drew = w25 at BK104 BK105 HB hHeld ⊢
        refine pure_ (i := 1) (N := some 28) (v := ?_) (a' := ?_) #[false, true, false, false, false, false, false] rfl rfl (by kernel_rfl) (fun _ _ _ h => h) (Or.inl ⟨by rfl, ?_⟩) ?_ ?_
        rotate_left
        ·
         intro w'
         go_simp
         with_reducible rfl
        rotate_left
        ·
         simp only [Act.put, List.setIfInBounds_toArray, List.set_cons_zero, List.set_cons_succ, i64_w, i32_w]
         rfl
        refine pure_ (i := 4) (N := some 31) (v := ?_) (a' := ?_) #[false, true, false, false, true, false, false] rfl rfl (by kernel_rfl) (fun _ _ _ h => h) (Or.inl ⟨by rfl, ?_⟩) ?_ ?_
        rotate_left
        ·
         intro w'
         go_simp
         with_reducible rfl
        rotate_left
        ·
         simp only [Act.put, List.setIfInBounds_toArray, List.set_cons_zero, List.set_cons_succ, i64_w, i32_w]
         rfl
        refine take_ (i := 0) (N := some 27) (v := ?_) (a' := ?_) #[true, true, false, false, true, false, false] rfl rfl (by kernel_rfl) (fun _ _ _ h => h) (Or.inl ⟨by rfl, ?_⟩) hHeld ?_ ?_
        rotate_left
        ·
         rintro w' ⟨s0, s1, s2, s3, s4, s5, s6, s7⟩
         go_simp
         with_reducible rfl
        rotate_left
        ·
         simp only [Act.put, List.setIfInBounds_toArray, List.set_cons_zero, List.set_cons_succ, i64_w, i32_w]
         rfl
        refine take_ (i := 3) (N := some 30) (v := ?_) (a' := ?_) #[true, true, false, true, true, false, false] rfl rfl (by kernel_rfl) (fun _ _ _ h => h) (Or.inl ⟨by rfl, ?_⟩) hHeld ?_ ?_
        rotate_left
        ·
         rintro w' ⟨s0, s1, s2, s3, s4, s5, s6, s7⟩
         go_simp
         with_reducible rfl
        rotate_left
        ·
         simp only [Act.put, List.setIfInBounds_toArray, List.set_cons_zero, List.set_cons_succ, i64_w, i32_w]
         rfl
        refine one_ (i := 2) (N := some 29) #[true, true, true, true, true, false, false] rfl rfl (by kernel_rfl) (by decide) (fun K hK => ?_)
        refine goes_ Tryd.func28 (by kernel_rfl) rfl #[.agg #[.slice A0_0 l0_0.length c0_0, .bool a0_1, .string a0_2, .string a0_3], .int .i64 x5_1] (by rfl) rfl rfl (by (try simp only [List.map_toArray, List.map_cons, List.map_nil]); first | done | rfl | (simp only [List.length_drop, List.length_take]; rfl)) ?_
        with_reducible refine (spec_Version_part.calls _ _ l0_0 a0_1 a0_2 a0_3 x5_1 t109 _ ?side1 ?side2 A19.out).mono ?_
        (case side1 => repeat (first | exact (Kd.C_below HR0_0.out HB.out) | (with_reducible refine Kd.C_alloc ?_ _) | (with_reducible refine Kd.C_drewN ?_ _) | (with_reducible refine Kd.C_drew ?_)))
        (case side2 => exact HC0_0.out)
        rintro e w26 ⟨rfl, hb⟩
        refine ⟨_, rfl, ?_⟩
        have n0_ := aM_ (blk_below (g := gb104) (o := .cells #[.slice A0_0 l0_0.length c0_0, .bool a0_1, .string a0_2, .string a0_3] 26 (0, 0)) (by (with_reducible repeat (first | refine bN_ ?_ _ | refine bD_ ?_ | refine bA_ ?_ _)); exact BK104.out) hb)
        have n1_ := aM_ (blk_below (g := gb105) (o := .cells #[.slice A1_0 l1_0.length c1_0, .bool a1_1, .string a1_2, .string a1_3] 26 (0, 0)) (by (with_reducible repeat (first | refine bN_ ?_ _ | refine bD_ ?_ | refine bA_ ?_ _)); exact BK105.out) hb)
        have n2_ := aM_ (below_step (by repeat (first | (with_reducible first | exact HB.out | apply bB_ | apply wN_ | apply bE_ | refine bS_ ?_ GE104.out | refine bS_ ?_ GE105.out) | exact HB.out)) hb)
        clear BK104
        clear BK105
        clear HB
        have BK104 := n0_
        have BK105 := n1_
        have HB := n2_
        clear n0_ n1_ n2_
        (try clear hb)
        (try clear hb2)
        (try clear hk)
        (try clear hi)
        refine hK.out _ _ ⟨(bC_ BK104.out 0).trans rfl, (bC_ BK104.out 1).trans rfl, (bC_ BK104.out 2).trans rfl, (bC_ BK104.out 3).trans rfl, (bC_ BK105.out 0).trans rfl, (bC_ BK105.out 1).trans rfl, (bC_ BK105.out 2).trans rfl, (bC_ BK105.out 3).trans rfl⟩ (fun hHeld => ?_)
        clear hK K
        refine norm_ (a' := ?_) ?_ ?_
        rotate_left
        ·
         show Act.put _ (some 29) _ = _
         simp only [Act.put, List.setIfInBounds_toArray, List.set_cons_zero, List.set_cons_succ, i64_w, i32_w]
         rfl
        refine one_ (i := 5) (N := some 32) #[true, true, true, true, true, true, false] rfl rfl (by kernel_rfl) (by decide) (fun K hK => ?_)
        refine goes_ Tryd.func28 (by kernel_rfl) rfl #[.agg #[.slice A1_0 l1_0.length c1_0, .bool a1_1, .string a1_2, .string a1_3], .int .i64 x5_1] (by rfl) rfl rfl (by (try simp only [List.map_toArray, List.map_cons, List.map_nil]); first | done | rfl | (simp only [List.length_drop, List.length_take]; rfl)) ?_
        with_reducible refine (spec_Version_part.calls _ _ l1_0 a1_1 a1_2 a1_3 x5_1 t110 _ ?side1 ?side2 A20.out).mono ?_
        (case side1 => repeat (first | exact (Kd.C_below HR1_0.out HB.out) | (with_reducible refine Kd.C_alloc ?_ _) | (with_reducible refine Kd.C_drewN ?_ _) | (with_reducible refine Kd.C_drew ?_)))
        (case side2 => exact HC1_0.out)
        rintro e w27 ⟨rfl, hb⟩
        refine ⟨_, rfl, ?_⟩
        have n0_ := aM_ (blk_below (g := gb104) (o := .cells #[.slice A0_0 l0_0.length c0_0, .bool a0_1, .string a0_2, .string a0_3] 26 (0, 0)) (by (with_reducible repeat (first | refine bN_ ?_ _ | refine bD_ ?_ | refine bA_ ?_ _)); exact BK104.out) hb)
        have n1_ := aM_ (blk_below (g := gb105) (o := .cells #[.slice A1_0 l1_0.length c1_0, .bool a1_1, .string a1_2, .string a1_3] 26 (0, 0)) (by (with_reducible repeat (first | refine bN_ ?_ _ | refine bD_ ?_ | refine bA_ ?_ _)); exact BK105.out) hb)
        have n2_ := aM_ (below_step (by repeat (first | (with_reducible first | exact HB.out | apply bB_ | apply wN_ | apply bE_ | refine bS_ ?_ GE104.out | refine bS_ ?_ GE105.out) | exact HB.out)) hb)
        clear BK104
        clear BK105
        clear HB
        have BK104 := n0_
        have BK105 := n1_
        have HB := n2_
        clear n0_ n1_ n2_
        (try clear hb)
        (try clear hb2)
        (try clear hk)
        (try clear hi)
        refine hK.out _ _ ⟨(bC_ BK104.out 0).trans rfl, (bC_ BK104.out 1).trans rfl, (bC_ BK104.out 2).trans rfl, (bC_ BK104.out 3).trans rfl, (bC_ BK105.out 0).trans rfl, (bC_ BK105.out 1).trans rfl, (bC_ BK105.out 2).trans rfl, (bC_ BK105.out 3).trans rfl⟩ (fun hHeld => ?_)
        clear hK K
        refine norm_ (a' := ?_) ?_ ?_
        rotate_left
        ·
         show Act.put _ (some 32) _ = _
         simp only [Act.put, List.setIfInBounds_toArray, List.set_cons_zero, List.set_cons_succ, i64_w, i32_w]
         rfl
        refine pure_ (i := 6) (N := some 33) (v := ?_) (a' := ?_) #[true, true, true, true, true, true, true] rfl rfl (by kernel_rfl) (fun _ _ _ h => h) (Or.inl ⟨by rfl, ?_⟩) ?_ ?_
        rotate_left
        ·
         intro w'
         go_simp
         with_reducible rfl
        rotate_left
        ·
         simp only [Act.put, List.setIfInBounds_toArray, List.set_cons_zero, List.set_cons_succ, i64_w, i32_w]
         rfl
        refine done_ (by kernel_rfl) ?_
        try go_wp2
        go_ret
        exact ⟨by first | rfl | (simp [errW_none, errW_some] <;> rfl) | (simp [*, errW_none, errW_some] <;> rfl) | (exfalso; contradiction), by repeat (first | (with_reducible first | exact HB.out | apply bB_ | apply wN_ | apply bE_ | refine bS_ ?_ GE104.out | refine bS_ ?_ GE105.out) | exact HB.out)⟩
       ·
        rw [if_neg c21] at H
        have c21b0 : decide (t110 < t109) = false := decide_eq_false c21
        clear c21
        have H' := aM_ H
        clear H
        try go_wp2
        have n0_ := aM_ (bD_ BK104.out)
        have n1_ := aM_ (bD_ BK105.out)
        have n2_ := aM_ (bE_ HB.out)
        clear BK104
        clear BK105
        clear HB
        have BK104 := n0_
        have BK105 := n1_
        have HB := n2_
        clear n0_ n1_ n2_
        refine start_ (n := 7) (S := fun w' => w'.cell? ⟨gb104, 0, none⟩ = some (.slice A0_0 l0_0.length c0_0) ∧ w'.cell? ⟨gb104, 1, none⟩ = some (.bool a0_1) ∧ w'.cell? ⟨gb104, 2, none⟩ = some (.string a0_2) ∧ w'.cell? ⟨gb104, 3, none⟩ = some (.string a0_3) ∧ w'.cell? ⟨gb105, 0, none⟩ = some (.slice A1_0 l1_0.length c1_0) ∧ w'.cell? ⟨gb105, 1, none⟩ = some (.bool a1_1) ∧ w'.cell? ⟨gb105, 2, none⟩ = some (.string a1_2) ∧ w'.cell? ⟨gb105, 3, none⟩ = some (.string a1_3)) (ds := []) #[false, false, false, false, false, false, false] (by kernel_rfl) rfl rfl ⟨(bC_ BK104.out 0).trans rfl, (bC_ BK104.out 1).trans rfl, (bC_ BK104.out 2).trans rfl, (bC_ BK104.out 3).trans rfl, (bC_ BK105.out 0).trans rfl, (bC_ BK105.out 1).trans rfl, (bC_ BK105.out 2).trans rfl, (bC_ BK105.out 3).trans rfl⟩ (fun hHeld => ?_)
        generalize wc.drew = w28 at BK104 BK105 HB hHeld ⊢
        refine pure_ (i := 1) (N := some 21) (v := ?_) (a' := ?_) #[false, true, false, false, false, false, false] rfl rfl (by kernel_rfl) (fun _ _ _ h => h) (Or.inl ⟨by rfl, ?_⟩) ?_ ?_
        rotate_left
        ·
         intro w'
         go_simp
         with_reducible rfl
        rotate_left
        ·
         simp only [Act.put, List.setIfInBounds_toArray, List.set_cons_zero, List.set_cons_succ, i64_w, i32_w]
         rfl
        refine pure_ (i := 4) (N := some 24) (v := ?_) (a' := ?_) #[false, true, false, false, true, false, false] rfl rfl (by kernel_rfl) (fun _ _ _ h => h) (Or.inl ⟨by rfl, ?_⟩) ?_ ?_
        rotate_left
        ·
         intro w'
         go_simp
         with_reducible rfl
        rotate_left
        ·
         simp only [Act.put, List.setIfInBounds_toArray, List.set_cons_zero, List.set_cons_succ, i64_w, i32_w]
         rfl
        refine take_ (i := 0) (N := some 20) (v := ?_) (a' := ?_) #[true, true, false, false, true, false, false] rfl rfl (by kernel_rfl) (fun _ _ _ h => h) (Or.inl ⟨by rfl, ?_⟩) hHeld ?_ ?_
        rotate_left
        ·
         rintro w' ⟨s0, s1, s2, s3, s4, s5, s6, s7⟩
         go_simp
         with_reducible rfl
        rotate_left
        ·
         simp only [Act.put, List.setIfInBounds_toArray, List.set_cons_zero, List.set_cons_succ, i64_w, i32_w]
         rfl
        refine take_ (i := 3) (N := some 23) (v := ?_) (a' := ?_) #[true, true, false, true, true, false, false] rfl rfl (by kernel_rfl) (fun _ _ _ h => h) (Or.inl ⟨by rfl, ?_⟩) hHeld ?_ ?_
        rotate_left
        ·
         rintro w' ⟨s0, s1, s2, s3, s4, s5, s6, s7⟩
         go_simp
         with_reducible rfl
        rotate_left
        ·
         simp only [Act.put, List.setIfInBounds_toArray, List.set_cons_zero, List.set_cons_succ, i64_w, i32_w]
         rfl
        refine one_ (i := 2) (N := some 22) #[true, true, true, true, true, false, false] rfl rfl (by kernel_rfl) (by decide) (fun K hK => ?_)
        refine goes_ Tryd.func28 (by kernel_rfl) rfl #[.agg #[.slice A0_0 l0_0.length c0_0, .bool a0_1, .string a0_2, .string a0_3], .int .i64 x5_1] (by rfl) rfl rfl (by (try simp only [List.map_toArray, List.map_cons, List.map_nil]); first | done | rfl | (simp only [List.length_drop, List.length_take]; rfl)) ?_
        with_reducible refine (spec_Version_part.calls _ _ l0_0 a0_1 a0_2 a0_3 x5_1 t107 _ ?side1 ?side2 A13.out).mono ?_
        (case side1 => repeat (first | exact (Kd.C_below HR0_0.out HB.out) | (with_reducible refine Kd.C_alloc ?_ _) | (with_reducible refine Kd.C_drewN ?_ _) | (with_reducible refine Kd.C_drew ?_)))
        (case side2 => exact HC0_0.out)
        rintro e w29 ⟨rfl, hb⟩
        refine ⟨_, rfl, ?_⟩
        have n0_ := aM_ (blk_below (g := gb104) (o := .cells #[.slice A0_0 l0_0.length c0_0, .bool a0_1, .string a0_2, .string a0_3] 26 (0, 0)) (by (with_reducible repeat (first | refine bN_ ?_ _ | refine bD_ ?_ | refine bA_ ?_ _)); exact BK104.out) hb)
        have n1_ := aM_ (blk_below (g := gb105) (o := .cells #[.slice A1_0 l1_0.length c1_0, .bool a1_1, .string a1_2, .string a1_3] 26 (0, 0)) (by (with_reducible repeat (first | refine bN_ ?_ _ | refine bD_ ?_ | refine bA_ ?_ _)); exact BK105.out) hb)
        have n2_ := aM_ (below_step (by repeat (first | (with_reducible first | exact HB.out | apply bB_ | apply wN_ | apply bE_ | refine bS_ ?_ GE104.out | refine bS_ ?_ GE105.out) | exact HB.out)) hb)
        clear BK104
        clear BK105
        clear HB
        have BK104 := n0_
        have BK105 := n1_
        have HB := n2_
        clear n0_ n1_ n2_
        (try clear hb)
        (try clear hb2)
        (try clear hk)
        (try clear hi)
        refine hK.out _ _ ⟨(bC_ BK104.out 0).trans rfl, (bC_ BK104.out 1).trans rfl, (bC_ BK104.out 2).trans rfl, (bC_ BK104.out 3).trans rfl, (bC_ BK105.out 0).trans rfl, (bC_ BK105.out 1).trans rfl, (bC_ BK105.out 2).trans rfl, (bC_ BK105.out 3).trans rfl⟩ (fun hHeld => ?_)
        clear hK K
        refine norm_ (a' := ?_) ?_ ?_
        rotate_left
        ·
         show Act.put _ (some 22) _ = _
         simp only [Act.put, List.setIfInBounds_toArray, List.set_cons_zero, List.set_cons_succ, i64_w, i32_w]
         rfl
        refine one_ (i := 5) (N := some 25) #[true, true, true, true, true, true, false] rfl rfl (by kernel_rfl) (by decide) (fun K hK => ?_)
        refine goes_ Tryd.func28 (by kernel_rfl) rfl #[.agg #[.slice A1_0 l1_0.length c1_0, .bool a1_1, .string a1_2, .string a1_3], .int .i64 x5_1] (by rfl) rfl rfl (by (try simp only [List.map_toArray, List.map_cons, List.map_nil]); first | done | rfl | (simp only [List.length_drop, List.length_take]; rfl)) ?_
        with_reducible refine (spec_Version_part.calls _ _ l1_0 a1_1 a1_2 a1_3 x5_1 t108 _ ?side1 ?side2 A14.out).mono ?_
        (case side1 => repeat (first | exact (Kd.C_below HR1_0.out HB.out) | (with_reducible refine Kd.C_alloc ?_ _) | (with_reducible refine Kd.C_drewN ?_ _) | (with_reducible refine Kd.C_drew ?_)))
        (case side2 => exact HC1_0.out)
        rintro e w30 ⟨rfl, hb⟩
        refine ⟨_, rfl, ?_⟩
        have n0_ := aM_ (blk_below (g := gb104) (o := .cells #[.slice A0_0 l0_0.length c0_0, .bool a0_1, .string a0_2, .string a0_3] 26 (0, 0)) (by (with_reducible repeat (first | refine bN_ ?_ _ | refine bD_ ?_ | refine bA_ ?_ _)); exact BK104.out) hb)
        have n1_ := aM_ (blk_below (g := gb105) (o := .cells #[.slice A1_0 l1_0.length c1_0, .bool a1_1, .string a1_2, .string a1_3] 26 (0, 0)) (by (with_reducible repeat (first | refine bN_ ?_ _ | refine bD_ ?_ | refine bA_ ?_ _)); exact BK105.out) hb)
        have n2_ := aM_ (below_step (by repeat (first | (with_reducible first | exact HB.out | apply bB_ | apply wN_ | apply bE_ | refine bS_ ?_ GE104.out | refine bS_ ?_ GE105.out) | exact HB.out)) hb)
        clear BK104
        clear BK105
        clear HB
        have BK104 := n0_
        have BK105 := n1_
        have HB := n2_
        clear n0_ n1_ n2_
        (try clear hb)
        (try clear hb2)
        (try clear hk)
        (try clear hi)
        refine hK.out _ _ ⟨(bC_ BK104.out 0).trans rfl, (bC_ BK104.out 1).trans rfl, (bC_ BK104.out 2).trans rfl, (bC_ BK104.out 3).trans rfl, (bC_ BK105.out 0).trans rfl, (bC_ BK105.out 1).trans rfl, (bC_ BK105.out 2).trans rfl, (bC_ BK105.out 3).trans rfl⟩ (fun hHeld => ?_)
        clear hK K
        refine norm_ (a' := ?_) ?_ ?_
        rotate_left
        ·
         show Act.put _ (some 25) _ = _
         simp only [Act.put, List.setIfInBounds_toArray, List.set_cons_zero, List.set_cons_succ, i64_w, i32_w]
         rfl
        refine pure_ (i := 6) (N := some 26) (v := ?_) (a' := ?_) #[true, true, true, true, true, true, true] rfl rfl (by kernel_rfl) (fun _ _ _ h => h) (Or.inl ⟨by rfl, ?_⟩) ?_ ?_
        rotate_left
        ·
         intro w'
         go_simp
         with_reducible rfl
        rotate_left
        ·
         simp only [Act.put, List.setIfInBounds_toArray, List.set_cons_zero, List.set_cons_succ, i64_w, i32_w]
         rfl
        refine done_ (by kernel_rfl) ?_
        try go_wp2
        have n0_ := aM_ (bD_ BK104.out)
        have n1_ := aM_ (bD_ BK105.out)
        have n2_ := aM_ (bE_ HB.out)
        clear BK104
        clear BK105
        clear HB
        have BK104 := n0_
        have BK105 := n1_
        have HB := n2_
        clear n0_ n1_ n2_
        refine start_ (n := 7) (S := fun w' => w'.cell? ⟨gb104, 0, none⟩ = some (.slice A0_0 l0_0.length c0_0) ∧ w'.cell? ⟨gb104, 1, none⟩ = some (.bool a0_1) ∧ w'.cell? ⟨gb104, 2, none⟩ = some (.string a0_2) ∧ w'.cell? ⟨gb104, 3, none⟩ = some (.string a0_3) ∧ w'.cell? ⟨gb105, 0, none⟩ = some (.slice A1_0 l1_0.length c1_0) ∧ w'.cell? ⟨gb105, 1, none⟩ = some (.bool a1_1) ∧ w'.cell? ⟨gb105, 2, none⟩ = some (.string a1_2) ∧ w'.cell? ⟨gb105, 3, none⟩ = some (.string a1_3)) (ds := []) #[false, false, false, false, false, false, false] (by kernel_rfl) rfl rfl ⟨(bC_ BK104.out 0).trans rfl, (bC_ BK104.out 1).trans rfl, (bC_ BK104.out 2).trans rfl, (bC_ BK104.out 3).trans rfl, (bC_ BK105.out 0).trans rfl, (bC_ BK105.out 1).trans rfl, (bC_ BK105.out 2).trans rfl, (bC_ BK105.out 3).trans rfl⟩ (fun hHeld => ?_)
        generalize w30.drew = w31 at BK104 BK105 HB hHeld ⊢
        refine pure_ (i := 1) (N := some 28) (v := ?_) (a' := ?_) #[false, true, false, false, false, false, false] rfl rfl (by kernel_rfl) (fun _ _ _ h => h) (Or.inl ⟨by rfl, ?_⟩) ?_ ?_
        rotate_left
        ·
         intro w'
         go_simp
         with_reducible rfl
        rotate_left
        ·
         simp only [Act.put, List.setIfInBounds_toArray, List.set_cons_zero, List.set_cons_succ, i64_w, i32_w]
         rfl
        refine pure_ (i := 4) (N := some 31) (v := ?_) (a' := ?_) #[false, true, false, false, true, false, false] rfl rfl (by kernel_rfl) (fun _ _ _ h => h) (Or.inl ⟨by rfl, ?_⟩) ?_ ?_
        rotate_left
        ·
         intro w'
         go_simp
         with_reducible rfl
        rotate_left
        ·
         simp only [Act.put, List.setIfInBounds_toArray, List.set_cons_zero, List.set_cons_succ, i64_w, i32_w]
         rfl
        refine take_ (i := 0) (N := some 27) (v := ?_) (a' := ?_) #[true, true, false, false, true, false, false] rfl rfl (by kernel_rfl) (fun _ _ _ h => h) (Or.inl ⟨by rfl, ?_⟩) hHeld ?_ ?_
        rotate_left
        ·
         rintro w' ⟨s0, s1, s2, s3, s4, s5, s6, s7⟩
         go_simp
         with_reducible rfl
        rotate_left
        ·
         simp only [Act.put, List.setIfInBounds_toArray, List.set_cons_zero, List.set_cons_succ, i64_w, i32_w]
         rfl
        refine take_ (i := 3) (N := some 30) (v := ?_) (a' := ?_) #[true, true, false, true, true, false, false] rfl rfl (by kernel_rfl) (fun _ _ _ h => h) (Or.inl ⟨by rfl, ?_⟩) hHeld ?_ ?_
        rotate_left
        ·
         rintro w' ⟨s0, s1, s2, s3, s4, s5, s6, s7⟩
         go_simp
         with_reducible rfl
        rotate_left
        ·
         simp only [Act.put, List.setIfInBounds_toArray, List.set_cons_zero, List.set_cons_succ, i64_w, i32_w]
         rfl
        refine one_ (i := 2) (N := some 29) #[true, true, true, true, true, false, false] rfl rfl (by kernel_rfl) (by decide) (fun K hK => ?_)
        refine goes_ Tryd.func28 (by kernel_rfl) rfl #[.agg #[.slice A0_0 l0_0.length c0_0, .bool a0_1, .string a0_2, .string a0_3], .int .i64 x5_1] (by rfl) rfl rfl (by (try simp only [List.map_toArray, List.map_cons, List.map_nil]); first | done | rfl | (simp only [List.length_drop, List.length_take]; rfl)) ?_
        with_reducible refine (spec_Version_part.calls _ _ l0_0 a0_1 a0_2 a0_3 x5_1 t109 _ ?side1 ?side2 A19.out).mono ?_
        (case side1 => repeat (first | exact (Kd.C_below HR0_0.out HB.out) | (with_reducible refine Kd.C_alloc ?_ _) | (with_reducible refine Kd.C_drewN ?_ _) | (with_reducible refine Kd.C_drew ?_)))
        (case side2 => exact HC0_0.out)
        rintro e w32 ⟨rfl, hb⟩
        refine ⟨_, rfl, ?_⟩
        have n0_ := aM_ (blk_below (g := gb104) (o := .cells #[.slice A0_0 l0_0.length c0_0, .bool a0_1, .string a0_2, .string a0_3] 26 (0, 0)) (by (with_reducible repeat (first | refine bN_ ?_ _ | refine bD_ ?_ | refine bA_ ?_ _)); exact BK104.out) hb)
        have n1_ := aM_ (blk_below (g := gb105) (o := .cells #[.slice A1_0 l1_0.length c1_0, .bool a1_1, .string a1_2, .string a1_3] 26 (0, 0)) (by (with_reducible repeat (first | refine bN_ ?_ _ | refine bD_ ?_ | refine bA_ ?_ _)); exact BK105.out) hb)
        have n2_ := aM_ (below_step (by repeat (first | (with_reducible first | exact HB.out | apply bB_ | apply wN_ | apply bE_ | refine bS_ ?_ GE104.out | refine bS_ ?_ GE105.out) | exact HB.out)) hb)
        clear BK104
        clear BK105
        clear HB
        have BK104 := n0_
        have BK105 := n1_
        have HB := n2_
        clear n0_ n1_ n2_
        (try clear hb)
        (try clear hb2)
        (try clear hk)
        (try clear hi)
        refine hK.out _ _ ⟨(bC_ BK104.out 0).trans rfl, (bC_ BK104.out 1).trans rfl, (bC_ BK104.out 2).trans rfl, (bC_ BK104.out 3).trans rfl, (bC_ BK105.out 0).trans rfl, (bC_ BK105.out 1).trans rfl, (bC_ BK105.out 2).trans rfl, (bC_ BK105.out 3).trans rfl⟩ (fun hHeld => ?_)
        clear hK K
        refine norm_ (a' := ?_) ?_ ?_
        rotate_left
        ·
         show Act.put _ (some 29) _ = _
         simp only [Act.put, List.setIfInBounds_toArray, List.set_cons_zero, List.set_cons_succ, i64_w, i32_w]
         rfl
        refine one_ (i := 5) (N := some 32) #[true, true, true, true, true, true, false] rfl rfl (by kernel_rfl) (by decide) (fun K hK => ?_)
        refine goes_ Tryd.func28 (by kernel_rfl) rfl #[.agg #[.slice A1_0 l1_0.length c1_0, .bool a1_1, .string a1_2, .string a1_3], .int .i64 x5_1] (by rfl) rfl rfl (by (try simp only [List.map_toArray, List.map_cons, List.map_nil]); first | done | rfl | (simp only [List.length_drop, List.length_take]; rfl)) ?_
        with_reducible refine (spec_Version_part.calls _ _ l1_0 a1_1 a1_2 a1_3 x5_1 t110 _ ?side1 ?side2 A20.out).mono ?_
        (case side1 => repeat (first | exact (Kd.C_below HR1_0.out HB.out) | (with_reducible refine Kd.C_alloc ?_ _) | (with_reducible refine Kd.C_drewN ?_ _) | (with_reducible refine Kd.C_drew ?_)))
        (case side2 => exact HC1_0.out)
        rintro e w33 ⟨rfl, hb⟩
        refine ⟨_, rfl, ?_⟩
        have n0_ := aM_ (blk_below (g := gb104) (o := .cells #[.slice A0_0 l0_0.length c0_0, .bool a0_1, .string a0_2, .string a0_3] 26 (0, 0)) (by (with_reducible repeat (first | refine bN_ ?_ _ | refine bD_ ?_ | refine bA_ ?_ _)); exact BK104.out) hb)
        have n1_ := aM_ (blk_below (g := gb105) (o := .cells #[.slice A1_0 l1_0.length c1_0, .bool a1_1, .string a1_2, .string a1_3] 26 (0, 0)) (by (with_reducible repeat (first | refine bN_ ?_ _ | refine bD_ ?_ | refine bA_ ?_ _)); exact BK105.out) hb)
        have n2_ := aM_ (below_step (by repeat (first | (with_reducible first | exact HB.out | apply bB_ | apply wN_ | apply bE_ | refine bS_ ?_ GE104.out | refine bS_ ?_ GE105.out) | exact HB.out)) hb)
        clear BK104
        clear BK105
        clear HB
        have BK104 := n0_
        have BK105 := n1_
        have HB := n2_
        clear n0_ n1_ n2_
        (try clear hb)
        (try clear hb2)
        (try clear hk)
        (try clear hi)
        refine hK.out _ _ ⟨(bC_ BK104.out 0).trans rfl, (bC_ BK104.out 1).trans rfl, (bC_ BK104.out 2).trans rfl, (bC_ BK104.out 3).trans rfl, (bC_ BK105.out 0).trans rfl, (bC_ BK105.out 1).trans rfl, (bC_ BK105.out 2).trans rfl, (bC_ BK105.out 3).trans rfl⟩ (fun hHeld => ?_)
        clear hK K
        refine norm_ (a' := ?_) ?_ ?_
        rotate_left
        ·
         show Act.put _ (some 32) _ = _
         simp only [Act.put, List.setIfInBounds_toArray, List.set_cons_zero, List.set_cons_succ, i64_w, i32_w]
         rfl
        refine pure_ (i := 6) (N := some 33) (v := ?_) (a' := ?_) #[true, true, true, true, true, true, true] rfl rfl (by kernel_rfl) (fun _ _ _ h => h) (Or.inl ⟨by rfl, ?_⟩) ?_ ?_
        rotate_left
        ·
         intro w'
         go_simp
         with_reducible rfl
        rotate_left
        ·
         simp only [Act.put, List.setIfInBounds_toArray, List.set_cons_zero, List.set_cons_succ, i64_w, i32_w]
         rfl
        refine done_ (by kernel_rfl) ?_
        try go_wp2
        go_roundg kj4
        case measure => have := HK1.out; have := HJ4.out; omega
        case rel => exact ⟨(wrap64 (x5_1 + 1)), (by first | rfl | (simp; done) | (simp [*]; done)), H', ⟨by have := HK1.out; have := HJ4.out; omega⟩, ⟨by (with_reducible repeat (first | refine bN_ ?_ _ | refine bD_ ?_ | refine bA_ ?_ _)); exact BK104.out⟩, ⟨by (with_reducible repeat (first | refine bN_ ?_ _ | refine bD_ ?_ | refine bA_ ?_ _)); exact BK105.out⟩, ⟨by repeat (first | (with_reducible first | exact HB.out | apply bB_ | apply wN_ | apply bE_ | refine bS_ ?_ GE104.out | refine bS_ ?_ GE105.out) | exact HB.out)⟩⟩
     ·
      replace c12 := Bool.eq_false_iff.mpr c12
      subst c12
      have H1 : (if a0_1 = true then (if a1_1 = true then ((spec_VerPrecedence.f a0_2 a1_2).bind fun t106 => (some t106)) else (some 0)) else (some 0)) = some r := by rw [if_neg (show ¬ (false = true) by decide)] at H; exact H
      clear H
      have H := H1
      clear H1
      by_cases c34 : a0_1 = true
      ·
       subst c34
       have H1 : (if a1_1 = true then ((spec_VerPrecedence.f a0_2 a1_2).bind fun t106 => (some t106)) else (some 0)) = some r := by rw [if_pos rfl] at H; exact H
       clear H
       have H := H1
       clear H1
       by_cases c35 : a1_1 = true
       ·
        subst c35
        have H1 : ((spec_VerPrecedence.f a0_2 a1_2).bind fun t106 => (some t106)) = some r := by rw [if_pos rfl] at H; exact H
        clear H
        have H := H1
        clear H1
        replace H := Option.bind_eq_some_iff.mp H
        obtain ⟨t106, A360, H⟩ := H
        replace H : (some t106) = some r := H
        have A36 := aM_ A360
        clear A360
        obtain rfl := Option.some.inj H
        have hnb37 := NB104_105.out
        have hnc37 := NB105_104.out
        have hcz38_0 : wc.cell? ⟨gb104, 0, none⟩ = some (.slice A0_0 l0_0.length c0_0) := (bC_ BK104.out 0).trans rfl
        have hcz38_1 : wc.cell? ⟨gb104, 1, none⟩ = some (.bool true) := (bC_ BK104.out 1).trans rfl
        have hcz38_2 : wc.cell? ⟨gb104, 2, none⟩ = some (.string a0_2) := (bC_ BK104.out 2).trans rfl
        have hcz38_3 : wc.cell? ⟨gb104, 3, none⟩ = some (.string a0_3) := (bC_ BK104.out 3).trans rfl
        have hfz38_0 := bF_ BK104.out 0
        have hfz38_1 := bF_ BK104.out 1
        have hfz38_2 := bF_ BK104.out 2
        have hfz38_3 := bF_ BK104.out 3
        have hcz39_0 : wc.cell? ⟨gb105, 0, none⟩ = some (.slice A1_0 l1_0.length c1_0) := (bC_ BK105.out 0).trans rfl
        have hcz39_1 : wc.cell? ⟨gb105, 1, none⟩ = some (.bool true) := (bC_ BK105.out 1).trans rfl
        have hcz39_2 : wc.cell? ⟨gb105, 2, none⟩ = some (.string a1_2) := (bC_ BK105.out 2).trans rfl
        have hcz39_3 : wc.cell? ⟨gb105, 3, none⟩ = some (.string a1_3) := (bC_ BK105.out 3).trans rfl
        have hfz39_0 := bF_ BK105.out 0
        have hfz39_1 := bF_ BK105.out 1
        have hfz39_2 := bF_ BK105.out 2
        have hfz39_3 := bF_ BK105.out 3
        go_wp2_with (first | ((with_reducible refine gate_callee (f := 53) rfl ?_); refine goesL_ (some 44) rfl rfl Tryd.func53 (by kernel_rfl) rfl #[.string a0_2, .string a1_2] rfl (by (try simp only [List.map_toArray, List.map_cons, List.map_nil]); first | done | rfl | (simp only [List.length_drop, List.length_take]; rfl)) ?_; (with_reducible refine (spec_VerPrecedence.calls a0_2 a1_2 t106 _ A36.out).mono ?_); rintro e w40 ⟨rfl, hb⟩; refine ⟨_, rfl, ?_⟩; have n0_ := aM_ (blk_below (g := gb104) (o := .cells #[.slice A0_0 l0_0.length c0_0, .bool true, .string a0_2, .string a0_3] 26 (0, 0)) (by (with_reducible repeat (first | refine bN_ ?_ _ | refine bD_ ?_ | refine bA_ ?_ _)); exact BK104.out) hb); have n1_ := aM_ (blk_below (g := gb105) (o := .cells #[.slice A1_0 l1_0.length c1_0, .bool true, .string a1_2, .string a1_3] 26 (0, 0)) (by (with_reducible repeat (first | refine bN_ ?_ _ | refine bD_ ?_ | refine bA_ ?_ _)); exact BK105.out) hb); have n2_ := aM_ (below_step (by repeat (first | (with_reducible first | exact HB.out | apply bB_ | apply wN_ | apply bE_ | refine bS_ ?_ GE104.out | refine bS_ ?_ GE105.out) | exact HB.out)) hb); clear BK104; clear BK105; clear HB; have BK104 := n0_; have BK105 := n1_; have HB := n2_; clear n0_ n1_ n2_; (try clear hb); (try clear hb2); (try clear hk); (try clear hi)))
        go_ret
        exact ⟨by first | rfl | (simp [errW_none, errW_some] <;> rfl) | (simp [*, errW_none, errW_some] <;> rfl) | (exfalso; contradiction), by repeat (first | (with_reducible first | exact HB.out | apply bB_ | apply wN_ | apply bE_ | refine bS_ ?_ GE104.out | refine bS_ ?_ GE105.out) | exact HB.out)⟩
       ·
        replace c35 := Bool.eq_false_iff.mpr c35
        subst c35
        have H1 : (some 0) = some r := by rw [if_neg (show ¬ (false = true) by decide)] at H; exact H
        clear H
        have H := H1
        clear H1
        obtain rfl := Option.some.inj H
        have hnb41 := NB104_105.out
        have hnc41 := NB105_104.out
        have hcz42_0 : wc.cell? ⟨gb104, 0, none⟩ = some (.slice A0_0 l0_0.length c0_0) := (bC_ BK104.out 0).trans rfl
        have hcz42_1 : wc.cell? ⟨gb104, 1, none⟩ = some (.bool true) := (bC_ BK104.out 1).trans rfl
        have hcz42_2 : wc.cell? ⟨gb104, 2, none⟩ = some (.string a0_2) := (bC_ BK104.out 2).trans rfl
        have hcz42_3 : wc.cell? ⟨gb104, 3, none⟩ = some (.string a0_3) := (bC_ BK104.out 3).trans rfl
        have hfz42_0 := bF_ BK104.out 0
        have hfz42_1 := bF_ BK104.out 1
        have hfz42_2 := bF_ BK104.out 2
        have hfz42_3 := bF_ BK104.out 3
        have hcz43_0 : wc.cell? ⟨gb105, 0, none⟩ = some (.slice A1_0 l1_0.length c1_0) := (bC_ BK105.out 0).trans rfl
        have hcz43_1 : wc.cell? ⟨gb105, 1, none⟩ = some (.bool false) := (bC_ BK105.out 1).trans rfl
        have hcz43_2 : wc.cell? ⟨gb105, 2, none⟩ = some (.string a1_2) := (bC_ BK105.out 2).trans rfl
        have hcz43_3 : wc.cell? ⟨gb105, 3, none⟩ = some (.string a1_3) := (bC_ BK105.out 3).trans rfl
        have hfz43_0 := bF_ BK105.out 0
        have hfz43_1 := bF_ BK105.out 1
        have hfz43_2 := bF_ BK105.out 2
        have hfz43_3 := bF_ BK105.out 3
        go_wp2
        go_ret
        exact ⟨by first | rfl | (simp [errW_none, errW_some] <;> rfl) | (simp [*, errW_none, errW_some] <;> rfl) | (exfalso; contradiction), by repeat (first | (with_reducible first | exact HB.out | apply bB_ | apply wN_ | apply bE_ | refine bS_ ?_ GE104.out | refine bS_ ?_ GE105.out) | exact HB.out)⟩
      ·
       replace c34 := Bool.eq_false_iff.mpr c34
       subst c34
       have H1 : (some 0) = some r := by rw [if_neg (show ¬ (false = true) by decide)] at H; exact H
       clear H
       have H := H1
       clear H1
       obtain rfl := Option.some.inj H
       have hnb44 := NB104_105.out
       have hnc44 := NB105_104.out
       have hcz45_0 : wc.cell? ⟨gb104, 0, none⟩ = some (.slice A0_0 l0_0.length c0_0) := (bC_ BK104.out 0).trans rfl
       have hcz45_1 : wc.cell? ⟨gb104, 1, none⟩ = some (.bool false) := (bC_ BK104.out 1).trans rfl
       have hcz45_2 : wc.cell? ⟨gb104, 2, none⟩ = some (.string a0_2) := (bC_ BK104.out 2).trans rfl
       have hcz45_3 : wc.cell? ⟨gb104, 3, none⟩ = some (.string a0_3) := (bC_ BK104.out 3).trans rfl
       have hfz45_0 := bF_ BK104.out 0
       have hfz45_1 := bF_ BK104.out 1
       have hfz45_2 := bF_ BK104.out 2
       have hfz45_3 := bF_ BK104.out 3
       go_wp2
       go_ret
       exact ⟨by first | rfl | (simp [errW_none, errW_some] <;> rfl) | (simp [*, errW_none, errW_some] <;> rfl) | (exfalso; contradiction), by repeat (first | (with_reducible first | exact HB.out | apply bB_ | apply wN_ | apply bE_ | refine bS_ ?_ GE104.out | refine bS_ ?_ GE105.out) | exact HB.out)⟩

end Go.Proofs.YtomoefldmgfaoaaDoor.PFnVersionHighest
