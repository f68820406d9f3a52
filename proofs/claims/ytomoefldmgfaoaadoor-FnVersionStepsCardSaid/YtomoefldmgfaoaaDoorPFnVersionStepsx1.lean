/- Functions of the program as plain Lean functions, and that the machine's calls do what these say: written for this claim by wip/myprint.py over the kit's print.py. -/
import Derived.Test.YtomoefldmgfaoaaDoorPFnVersionStepsx0
namespace Go.Proofs.YtomoefldmgfaoaaDoor.PFnVersionSteps
open Go.RowKit Go.Proofs.YtomoefldmgfaoaaDoorW.PrintWords Go.Proofs.YtomoefldmgfaoaaDoorW.PrintLast Go.Proofs.YtomoefldmgfaoaaDoorW.PrintMore
attribute [local go_sem] max2_int min2_int max_two min_two max_three min_three max_four min_four   -- for this text's walks alone
set_option linter.unusedVariables false
set_option linter.unusedSimpArgs false

/-! ### spec_VerUintText: function 35 -/
def spec_VerUintText.f : Nat → Int → Option (ByteArray)
 | 0, _ => none
 | k + 1, a0 => (some (([(IntKind.u64.wrap (48 + (Int.tmod a0 10))) % 256] : List Int) : List Int)).bind fun y101 => (if a0 < 10 then (some (strOfNums y101)) else ((spec_VerUintText.f k (IntKind.u64.wrap (Int.tdiv a0 10))).bind fun t104 => (if t104.size + (strOfNums y101).size ≤ 9223372036854775807 then (some (t104 ++ (strOfNums y101))) else (none))))
set_option maxHeartbeats 8000000 in
set_option maxRecDepth 100000 in
theorem spec_VerUintText.calls (k : Nat) : ∀ (a0 : Int) (r : ByteArray) (w : World) (h : spec_VerUintText.f k a0 = some r),
  Calls Tryd.prog 35 #[.int .u64 a0] w fun e w' => e = .returned (.string r) ∧ Below w.heap.size w w' := by
 induction k using Nat.strongRecOn with
 | _ k ih =>
 intro a0 r w h
 cases k with
 | zero => exact absurd h (by simp [spec_VerUintText.f])
 | succ k =>
 simp only [spec_VerUintText.f] at h
 have HB := aM_ (Below.refl w.heap.size w)
 have H : ((some (([(IntKind.u64.wrap (48 + (Int.tmod a0 10))) % 256] : List Int) : List Int)).bind fun y101 => (if a0 < 10 then (some (strOfNums y101)) else ((spec_VerUintText.f k (IntKind.u64.wrap (Int.tdiv a0 10))).bind fun t104 => (if t104.size + (strOfNums y101).size ≤ 9223372036854775807 then (some (t104 ++ (strOfNums y101))) else (none))))) = some r := h
 clear h
 obtain ⟨y101, hy101⟩ : ∃ y_ : List Int, y_ = (([(IntKind.u64.wrap (48 + (Int.tmod a0 10))) % 256] : List Int)) := ⟨_, rfl⟩
 replace H : (if a0 < 10 then (some (strOfNums y101)) else ((spec_VerUintText.f k (IntKind.u64.wrap (Int.tdiv a0 10))).bind fun t104 => (if t104.size + (strOfNums y101).size ≤ 9223372036854775807 then (some (t104 ++ (strOfNums y101))) else (none)))) = some r := by first | (rw [hy101]; with_reducible exact H) | (have H2_ := (Option.bind_some _ _).symm.trans H; rw [hy101]; with_reducible exact H2_) | (have H2_ := (Option.bind_some _ _).symm.trans H; with_reducible exact H2_) | with_reducible exact H | (rw [hy101]; exact H) | exact H
 have Ny101 := aM_ hy101
 clear hy101
 by_cases c2 : a0 < 10
 ·
  rw [if_pos c2] at H
  have c2b0 : decide (a0 < 10) = true := decide_eq_true c2
  clear c2
  obtain rfl := Option.some.inj H
  go_enter Tryd.func35, Tryd.ntmps35
  go_wp2_with (first | ((with_reducible refine gate_dst (N := 8) rfl ?_); refine Kd.R_lit (Kd.int .u8) _ 5 ?hg (N := 8) ?hd (xs := ([(IntKind.u64.wrap (48 + (Int.tmod a0 10))) % 256] : List Int)) (inner := [.int .u8 ((IntKind.u64.wrap (48 + (Int.tmod a0 10))) % 256)]) (ok := fun _ => True) (okp := fun _ => True) ?hr ?hp (fun _ hk => hk) trivial (Below.refl _ _) (Nat.le_refl _) (by simp) ?_; (case hd => rfl); (case hg => rfl); (case hr => first | (go_simp; done) | (go_simp; rfl)); (case hp => exact (Reps.one (show Kd.M (Kd.int .u8) _ _ _ ((IntKind.u64.wrap (48 + (Int.tmod a0 10))) % 256) [.int .u8 ((IntKind.u64.wrap (48 + (Int.tmod a0 10))) % 256)] from rfl) (Reps.none _ _))); intro v102 w3 ho4 hb hg_ hnew_; clear hg_ hnew_; (first | rw [← Ny101.out] at ho4 | (simp only [Int.reduceToNat] at ho4; rw [← Ny101.out] at ho4)); have n0_ := aM_ (Kd.R_lower ho4 (below_size (by repeat (first | (with_reducible first | exact HB.out | apply bB_ | apply wN_ | apply bE_) | exact HB.out)))); have n1_ := aM_ (below_step (by repeat (first | (with_reducible first | exact HB.out | apply bB_ | apply wN_ | apply bE_) | exact HB.out)) hb); clear HB; have HO103 := n0_; have HB := n1_; clear n0_ n1_; clear hb ho4; have hcv5 := own_string (P := Tryd.prog) Tryd.underlying91 Tryd.underlying5 Tryd.underlying9 (Kd.own_of_R HO103.out)))
  go_ret
  exact ⟨by first | rfl | (simp [errW_none, errW_some] <;> rfl) | (simp [*, errW_none, errW_some] <;> rfl) | (exfalso; contradiction), by repeat (first | (with_reducible first | exact HB.out | apply bB_ | apply wN_ | apply bE_) | exact HB.out)⟩
 ·
  rw [if_neg c2] at H
  have c2b0 : decide (a0 < 10) = false := decide_eq_false c2
  clear c2
  replace H := Option.bind_eq_some_iff.mp H
  obtain ⟨t104, A60, H⟩ := H
  replace H : (if t104.size + (strOfNums y101).size ≤ 9223372036854775807 then (some (t104 ++ (strOfNums y101))) else (none)) = some r := H
  have A6 := aM_ A60
  clear A60
  by_cases c7 : t104.size + (strOfNums y101).size ≤ 9223372036854775807
  ·
   rw [if_pos c7] at H
   have c7b0 := eq_true c7
   have c7b1 : decide (t104.size + (strOfNums y101).size ≤ 9223372036854775807) = true := decide_eq_true c7
   try have c7b2 : (9223372036854775807 < t104.size + (strOfNums y101).size) = False := eq_false (Nat.not_lt.2 c7)
   obtain rfl := Option.some.inj H
   go_enter Tryd.func35, Tryd.ntmps35
   go_wp2_with (first | ((with_reducible refine gate_dst (N := 8) rfl ?_); refine Kd.R_lit (Kd.int .u8) _ 5 ?hg (N := 8) ?hd (xs := ([(IntKind.u64.wrap (48 + (Int.tmod a0 10))) % 256] : List Int)) (inner := [.int .u8 ((IntKind.u64.wrap (48 + (Int.tmod a0 10))) % 256)]) (ok := fun _ => True) (okp := fun _ => True) ?hr ?hp (fun _ hk => hk) trivial (Below.refl _ _) (Nat.le_refl _) (by simp) ?_; (case hd => rfl); (case hg => rfl); (case hr => first | (go_simp; done) | (go_simp; rfl)); (case hp => exact (Reps.one (show Kd.M (Kd.int .u8) _ _ _ ((IntKind.u64.wrap (48 + (Int.tmod a0 10))) % 256) [.int .u8 ((IntKind.u64.wrap (48 + (Int.tmod a0 10))) % 256)] from rfl) (Reps.none _ _))); intro v102 w8 ho9 hb hg_ hnew_; clear hg_ hnew_; (first | rw [← Ny101.out] at ho9 | (simp only [Int.reduceToNat] at ho9; rw [← Ny101.out] at ho9)); have n0_ := aM_ (Kd.R_lower ho9 (below_size (by repeat (first | (with_reducible first | exact HB.out | apply bB_ | apply wN_ | apply bE_) | exact HB.out)))); have n1_ := aM_ (below_step (by repeat (first | (with_reducible first | exact HB.out | apply bB_ | apply wN_ | apply bE_) | exact HB.out)) hb); clear HB; have HO103 := n0_; have HB := n1_; clear n0_ n1_; clear hb ho9; have hcv10 := own_string (P := Tryd.prog) Tryd.underlying91 Tryd.underlying5 Tryd.underlying9 (Kd.own_of_R HO103.out)) | ((with_reducible refine gate_callee (f := 35) rfl ?_); refine goesL_ (some 15) rfl rfl Tryd.func35 (by kernel_rfl) rfl #[.int .u64 (IntKind.u64.wrap (Int.tdiv a0 10))] rfl (by (try simp only [List.map_toArray, List.map_cons, List.map_nil]); first | done | rfl | (simp only [List.length_drop, List.length_take]; rfl)) ?_; (with_reducible refine (ih k (by omega) (IntKind.u64.wrap (Int.tdiv a0 10)) t104 _ A6.out).mono ?_); rintro e w11 ⟨rfl, hb⟩; refine ⟨_, rfl, ?_⟩; have n0_ := aM_ (Kd.R_below (by (with_reducible repeat (first | apply kA_ | apply kN_ | apply kD_)); exact HO103.out) hb); have n1_ := aM_ (below_step (by repeat (first | (with_reducible first | exact HB.out | apply bB_ | apply wN_ | apply bE_) | exact HB.out)) hb); clear HO103; clear HB; have HO103 := n0_; have HB := n1_; clear n0_ n1_; (try clear hb); (try clear hb2); (try clear hk); (try clear hi)))
   go_ret
   exact ⟨by first | rfl | (simp [errW_none, errW_some] <;> rfl) | (simp [*, errW_none, errW_some] <;> rfl) | (exfalso; contradiction), by repeat (first | (with_reducible first | exact HB.out | apply bB_ | apply wN_ | apply bE_) | exact HB.out)⟩
  ·
   rw [if_neg c7] at H
   exact absurd H (by simp)

/-! ### spec_Version_Text: function 13 -/
def spec_Version_Text.l0 : Nat → ByteArray → Int → List Int → Bool → ByteArray → ByteArray → Option (ByteArray)
 | 0, _, _, _, _, _, _ => none
 | k + 1, x3, x4, x106000, x106001, x106002, x106003 => if x4 < (x106000.length : Int) then (if x4 > 0 then (if x3.size + 1 ≤ 9223372036854775807 then (if 0 ≤ x4 then ((spec_VerUintText.f k (rd x106000 x4)).bind fun t107 => (if (x3 ++ (⟨#[46]⟩ : ByteArray)).size + t107.size ≤ 9223372036854775807 then (spec_Version_Text.l0 k ((x3 ++ (⟨#[46]⟩ : ByteArray)) ++ t107) (wrap64 (x4 + 1)) x106000 x106001 x106002 x106003) else (none))) else (none)) else (none)) else (if 0 ≤ x4 then ((spec_VerUintText.f k (rd x106000 x4)).bind fun t109 => (if x3.size + t109.size ≤ 9223372036854775807 then (spec_Version_Text.l0 k (x3 ++ t109) (wrap64 (x4 + 1)) x106000 x106001 x106002 x106003) else (none))) else (none))) else (if x106002.toList = ([] : List UInt8) then (if x106003.toList = ([] : List UInt8) then (some x3) else (if x3.size + 1 ≤ 9223372036854775807 then (if (x3 ++ (⟨#[43]⟩ : ByteArray)).size + x106003.size ≤ 9223372036854775807 then (some ((x3 ++ (⟨#[43]⟩ : ByteArray)) ++ x106003)) else (none)) else (none))) else (if x3.size + 1 ≤ 9223372036854775807 then (if (x3 ++ (⟨#[45]⟩ : ByteArray)).size + x106002.size ≤ 9223372036854775807 then (if x106003.toList = ([] : List UInt8) then (some ((x3 ++ (⟨#[45]⟩ : ByteArray)) ++ x106002)) else (if ((x3 ++ (⟨#[45]⟩ : ByteArray)) ++ x106002).size + 1 ≤ 9223372036854775807 then (if (((x3 ++ (⟨#[45]⟩ : ByteArray)) ++ x106002) ++ (⟨#[43]⟩ : ByteArray)).size + x106003.size ≤ 9223372036854775807 then (some ((((x3 ++ (⟨#[45]⟩ : ByteArray)) ++ x106002) ++ (⟨#[43]⟩ : ByteArray)) ++ x106003)) else (none)) else (none))) else (none)) else (none)))
def spec_Version_Text.f (k : Nat) (l0_0 : List Int) (a0_1 : Bool) (a0_2 : ByteArray) (a0_3 : ByteArray) : Option (ByteArray) := spec_Version_Text.l0 k (⟨#[]⟩ : ByteArray) 0 l0_0 a0_1 a0_2 a0_3
set_option maxHeartbeats 8000000 in
set_option maxRecDepth 100000 in
theorem spec_Version_Text.calls (k : Nat) (A0_0 : Option Addr) (c0_0 : Nat) (l0_0 : List Int) (a0_1 : Bool) (a0_2 : ByteArray) (a0_3 : ByteArray) (r : ByteArray) (w : World) (hr0_0 : Kd.C (Kd.int .u64) w A0_0 l0_0.length l0_0) (hc0_0 : l0_0.length ≤ c0_0) (h : spec_Version_Text.f k l0_0 a0_1 a0_2 a0_3 = some r) :
  Calls Tryd.prog 13 #[.agg #[.slice A0_0 l0_0.length c0_0, .bool a0_1, .string a0_2, .string a0_3]] w fun e w' => e = .returned (.string r) ∧ Below w.heap.size w w' := by
 have hu26 := Tryd.underlying26
 have HR0_0 := aM_ hr0_0
 have HC0_0 := aM_ hc0_0
 clear hr0_0 hc0_0
 have HB := aM_ (Below.refl w.heap.size w)
 have H : (spec_Version_Text.l0 k (⟨#[]⟩ : ByteArray) 0 l0_0 a0_1 a0_2 a0_3) = some r := h
 clear h
 have H' := aM_ H
 clear H
 go_enter Tryd.func13, Tryd.ntmps13
 go_wp2_with (first | ((with_reducible refine gate_dst (N := 1) rfl ?_); refine box_event ?hg (N := 1) ?hd (cs := #[.slice A0_0 l0_0.length c0_0, .bool a0_1, .string a0_2, .string a0_3]) (t := 26) ?hr ?_; (case hd => rfl); (case hg => rfl); (case hr => first | (go_simp; done) | (go_simp; rfl)); intro gb105 hg w2 hbox hb; have n0_ := aM_ (below_step (by repeat (first | (with_reducible first | exact HB.out | apply bB_ | apply wN_ | apply bE_) | exact HB.out)) hb); have n1_ := aM_ (hbox); have n2_ := aM_ ((by rw [hg]; exact (below_size (by repeat (first | (with_reducible first | exact HB.out | apply bB_ | apply wN_ | apply bE_) | exact HB.out))) : w.heap.size ≤ gb105)); have n3_ := aM_ ((by rw [hg]; exact (below_size (by repeat (first | (with_reducible first | exact HB.out | apply bB_ | apply wN_ | apply bE_) | exact HB.out))) : w.heap.size ≤ gb105)); clear HB; have HB := n0_; have BK105 := n1_; have GW105 := n2_; have GE105 := n3_; clear n0_ n1_ n2_ n3_; clear hb hbox hg))
 go_loopg [3, 4] k (fun kq v3 v4 w' => ∃ (x3_1 : ByteArray) (x4_1 : Int), v3 = .string x3_1 ∧ v4 = .int .i64 x4_1 ∧ Aside0 (spec_Version_Text.l0 kq x3_1 x4_1 l0_0 a0_1 a0_2 a0_3 = some r) ∧ Aside0 (kq ≤ k) ∧ Aside0 (w'.heap[gb105]? = some (.cells #[(.slice A0_0 l0_0.length c0_0), .bool a0_1, .string a0_2, .string a0_3] 26 (0, 0))) ∧ Aside0 (Below w.heap.size w w'))
 case atStart => exact ⟨((⟨#[]⟩ : ByteArray)), (0), (by first | rfl | (simp; done) | (simp [*]; done)), (by first | rfl | (simp; done) | (simp [*]; done)), H', ⟨Nat.le_refl _⟩, ⟨by (with_reducible repeat (first | refine bN_ ?_ _ | refine bD_ ?_ | refine bA_ ?_ _)); exact BK105.out⟩, ⟨by repeat (first | (with_reducible first | exact HB.out | apply bB_ | apply wN_ | apply bE_ | refine bS_ ?_ GE105.out) | exact HB.out)⟩⟩
 case round =>
  clear H'
  try clear c1
  try clear p2
  obtain ⟨x3_1, x4_1, rfl, rfl, HA, HK1, BK105, HB⟩ := hrel
  cases gk with
  | zero => exact absurd HA.out (by simp [spec_Version_Text.l0])
  | succ k1 =>
   have H := HA.out
   clear HA
   simp only [spec_Version_Text.l0] at H
   by_cases c3 : x4_1 < (l0_0.length : Int)
   ·
    rw [if_pos c3] at H
    have c3b0 : decide (x4_1 < (l0_0.length : Int)) = true := decide_eq_true c3
    clear c3
    by_cases c4 : x4_1 > 0
    ·
     rw [if_pos c4] at H
     have c4b0 : decide (0 < x4_1) = true := decide_eq_true c4
     clear c4
     by_cases c5 : x3_1.size + 1 ≤ 9223372036854775807
     ·
      rw [if_pos c5] at H
      have c5b0 := eq_true c5
      have c5b1 : decide (x3_1.size + 1 ≤ 9223372036854775807) = true := decide_eq_true c5
      try have c5b2 : (9223372036854775807 < x3_1.size + 1) = False := eq_false (Nat.not_lt.2 c5)
      by_cases c6 : 0 ≤ x4_1
      ·
       rw [if_pos c6] at H
       have c6b0 : decide (0 ≤ x4_1) = true := decide_eq_true c6
       clear c6
       replace H := Option.bind_eq_some_iff.mp H
       obtain ⟨t107, A70, H⟩ := H
       replace H : (if (x3_1 ++ (⟨#[46]⟩ : ByteArray)).size + t107.size ≤ 9223372036854775807 then (spec_Version_Text.l0 k1 ((x3_1 ++ (⟨#[46]⟩ : ByteArray)) ++ t107) (wrap64 (x4_1 + 1)) l0_0 a0_1 a0_2 a0_3) else (none)) = some r := H
       have A7 := aM_ A70
       clear A70
       by_cases c8 : (x3_1 ++ (⟨#[46]⟩ : ByteArray)).size + t107.size ≤ 9223372036854775807
       ·
        rw [if_pos c8] at H
        have c8b0 := eq_true c8
        have c8b1 : decide ((x3_1 ++ (⟨#[46]⟩ : ByteArray)).size + t107.size ≤ 9223372036854775807) = true := decide_eq_true c8
        try have c8b2 : (9223372036854775807 < (x3_1 ++ (⟨#[46]⟩ : ByteArray)).size + t107.size) = False := eq_false (Nat.not_lt.2 c8)
        try have c8b7 : (9223372036854775807 < x3_1.size + 1 + t107.size) = False := eq_false (Nat.not_lt.2 (by have h_ := c8; simp only [ByteArray.size_append] at h_; exact h_))
        have H' := aM_ H
        clear H
        have hcz9_0 : wr.cell? ⟨gb105, 0, none⟩ = some (.slice A0_0 l0_0.length c0_0) := (bC_ BK105.out 0).trans rfl
        have hcz9_1 : wr.cell? ⟨gb105, 1, none⟩ = some (.bool a0_1) := (bC_ BK105.out 1).trans rfl
        have hcz9_2 : wr.cell? ⟨gb105, 2, none⟩ = some (.string a0_2) := (bC_ BK105.out 2).trans rfl
        have hcz9_3 : wr.cell? ⟨gb105, 3, none⟩ = some (.string a0_3) := (bC_ BK105.out 3).trans rfl
        have hfz9_0 := bF_ BK105.out 0
        have hfz9_1 := bF_ BK105.out 1
        have hfz9_2 := bF_ BK105.out 2
        have hfz9_3 := bF_ BK105.out 3
        have p106 : 0 ≤ (x4_1 : Int) := of_decide_eq_true (by first | (with_reducible assumption) | assumption)
        have q106 : x4_1 < (l0_0.length : Int) := of_decide_eq_true (by first | (with_reducible assumption) | assumption)
        obtain ⟨ad106, e106, hx106_0⟩ := Kd.at_int HR0_0.out x4_1 p106 q106
        cases e106
        replace hx106_0 := (HB.out.cell (World.block_lt_of_cell? w _ hx106_0)).trans hx106_0
        replace p106 := eq_true p106
        replace q106 := eq_true q106
        go_wp2_with (first | ((with_reducible refine gate_callee (f := 35) rfl ?_); refine goesL_ (some 22) rfl rfl Tryd.func35 (by kernel_rfl) rfl #[.int .u64 (rd l0_0 x4_1)] rfl (by (try simp only [List.map_toArray, List.map_cons, List.map_nil]); first | done | rfl | (simp only [List.length_drop, List.length_take]; rfl)) ?_; (with_reducible refine (spec_VerUintText.calls k1 (rd l0_0 x4_1) t107 _ A7.out).mono ?_); rintro e w10 ⟨rfl, hb⟩; refine ⟨_, rfl, ?_⟩; have n0_ := aM_ (blk_below (g := gb105) (o := .cells #[.slice (some ad106) l0_0.length c0_0, .bool a0_1, .string a0_2, .string a0_3] 26 (0, 0)) (by (with_reducible repeat (first | refine bN_ ?_ _ | refine bD_ ?_ | refine bA_ ?_ _)); exact BK105.out) hb); have n1_ := aM_ (below_step (by repeat (first | (with_reducible first | exact HB.out | apply bB_ | apply wN_ | apply bE_ | refine bS_ ?_ GE105.out) | exact HB.out)) hb); clear BK105; clear HB; have BK105 := n0_; have HB := n1_; clear n0_ n1_; (try clear hb); (try clear hb2); (try clear hk); (try clear hi)))
        go_roundg k1
        case measure => have := HK1.out; omega
        case rel => exact ⟨((x3_1 ++ (⟨#[46]⟩ : ByteArray)) ++ t107), (wrap64 (x4_1 + 1)), (by first | rfl | (simp; done) | (simp [*]; done)), (by first | rfl | (simp; done) | (simp [*]; done)), H', ⟨by have := HK1.out; omega⟩, ⟨by (with_reducible repeat (first | refine bN_ ?_ _ | refine bD_ ?_ | refine bA_ ?_ _)); exact BK105.out⟩, ⟨by repeat (first | (with_reducible first | exact HB.out | apply bB_ | apply wN_ | apply bE_ | refine bS_ ?_ GE105.out) | exact HB.out)⟩⟩
       ·
        rw [if_neg c8] at H
        exact absurd H (by simp)
      ·
       rw [if_neg c6] at H
       exact absurd H (by simp)
     ·
      rw [if_neg c5] at H
      exact absurd H (by simp)
    ·
     rw [if_neg c4] at H
     have c4b0 : decide (0 < x4_1) = false := decide_eq_false c4
     clear c4
     by_cases c11 : 0 ≤ x4_1
     ·
      rw [if_pos c11] at H
      have c11b0 : decide (0 ≤ x4_1) = true := decide_eq_true c11
      clear c11
      replace H := Option.bind_eq_some_iff.mp H
      obtain ⟨t109, A120, H⟩ := H
      replace H : (if x3_1.size + t109.size ≤ 9223372036854775807 then (spec_Version_Text.l0 k1 (x3_1 ++ t109) (wrap64 (x4_1 + 1)) l0_0 a0_1 a0_2 a0_3) else (none)) = some r := H
      have A12 := aM_ A120
      clear A120
      by_cases c13 : x3_1.size + t109.size ≤ 9223372036854775807
      ·
       rw [if_pos c13] at H
       have c13b0 := eq_true c13
       have c13b1 : decide (x3_1.size + t109.size ≤ 9223372036854775807) = true := decide_eq_true c13
       try have c13b2 : (9223372036854775807 < x3_1.size + t109.size) = False := eq_false (Nat.not_lt.2 c13)
       have H' := aM_ H
       clear H
       have hcz14_0 : wr.cell? ⟨gb105, 0, none⟩ = some (.slice A0_0 l0_0.length c0_0) := (bC_ BK105.out 0).trans rfl
       have hcz14_1 : wr.cell? ⟨gb105, 1, none⟩ = some (.bool a0_1) := (bC_ BK105.out 1).trans rfl
       have hcz14_2 : wr.cell? ⟨gb105, 2, none⟩ = some (.string a0_2) := (bC_ BK105.out 2).trans rfl
       have hcz14_3 : wr.cell? ⟨gb105, 3, none⟩ = some (.string a0_3) := (bC_ BK105.out 3).trans rfl
       have hfz14_0 := bF_ BK105.out 0
       have hfz14_1 := bF_ BK105.out 1
       have hfz14_2 := bF_ BK105.out 2
       have hfz14_3 := bF_ BK105.out 3
       have p108 : 0 ≤ (x4_1 : Int) := of_decide_eq_true (by first | (with_reducible assumption) | assumption)
       have q108 : x4_1 < (l0_0.length : Int) := of_decide_eq_true (by first | (with_reducible assumption) | assumption)
       obtain ⟨ad108, e108, hx108_0⟩ := Kd.at_int HR0_0.out x4_1 p108 q108
       cases e108
       replace hx108_0 := (HB.out.cell (World.block_lt_of_cell? w _ hx108_0)).trans hx108_0
       replace p108 := eq_true p108
       replace q108 := eq_true q108
       go_wp2_with (first | ((with_reducible refine gate_callee (f := 35) rfl ?_); refine goesL_ (some 22) rfl rfl Tryd.func35 (by kernel_rfl) rfl #[.int .u64 (rd l0_0 x4_1)] rfl (by (try simp only [List.map_toArray, List.map_cons, List.map_nil]); first | done | rfl | (simp only [List.length_drop, List.length_take]; rfl)) ?_; (with_reducible refine (spec_VerUintText.calls k1 (rd l0_0 x4_1) t109 _ A12.out).mono ?_); rintro e w15 ⟨rfl, hb⟩; refine ⟨_, rfl, ?_⟩; have n0_ := aM_ (blk_below (g := gb105) (o := .cells #[.slice (some ad108) l0_0.length c0_0, .bool a0_1, .string a0_2, .string a0_3] 26 (0, 0)) (by (with_reducible repeat (first | refine bN_ ?_ _ | refine bD_ ?_ | refine bA_ ?_ _)); exact BK105.out) hb); have n1_ := aM_ (below_step (by repeat (first | (with_reducible first | exact HB.out | apply bB_ | apply wN_ | apply bE_ | refine bS_ ?_ GE105.out) | exact HB.out)) hb); clear BK105; clear HB; have BK105 := n0_; have HB := n1_; clear n0_ n1_; (try clear hb); (try clear hb2); (try clear hk); (try clear hi)))
       go_roundg k1
       case measure => have := HK1.out; omega
       case rel => exact ⟨(x3_1 ++ t109), (wrap64 (x4_1 + 1)), (by first | rfl | (simp; done) | (simp [*]; done)), (by first | rfl | (simp; done) | (simp [*]; done)), H', ⟨by have := HK1.out; omega⟩, ⟨by (with_reducible repeat (first | refine bN_ ?_ _ | refine bD_ ?_ | refine bA_ ?_ _)); exact BK105.out⟩, ⟨by repeat (first | (with_reducible first | exact HB.out | apply bB_ | apply wN_ | apply bE_ | refine bS_ ?_ GE105.out) | exact HB.out)⟩⟩
      ·
       rw [if_neg c13] at H
       exact absurd H (by simp)
     ·
      rw [if_neg c11] at H
      exact absurd H (by simp)
   ·
    rw [if_neg c3] at H
    have c3b0 : decide (x4_1 < (l0_0.length : Int)) = false := decide_eq_false c3
    clear c3
    by_cases c16 : a0_2.toList = ([] : List UInt8)
    ·
     rw [if_pos c16] at H
     have c16b0 : (a0_2.toList == ([] : List UInt8)) = true := beq_iff_eq.mpr c16
     have c16b1 : (a0_2.toList != ([] : List UInt8)) = false := bne_eq_false_iff_eq.mpr c16
     clear c16
     by_cases c17 : a0_3.toList = ([] : List UInt8)
     ·
      rw [if_pos c17] at H
      have c17b0 : (a0_3.toList == ([] : List UInt8)) = true := beq_iff_eq.mpr c17
      have c17b1 : (a0_3.toList != ([] : List UInt8)) = false := bne_eq_false_iff_eq.mpr c17
      clear c17
      obtain rfl := Option.some.inj H
      have hcz18_0 : wr.cell? ⟨gb105, 0, none⟩ = some (.slice A0_0 l0_0.length c0_0) := (bC_ BK105.out 0).trans rfl
      have hcz18_1 : wr.cell? ⟨gb105, 1, none⟩ = some (.bool a0_1) := (bC_ BK105.out 1).trans rfl
      have hcz18_2 : wr.cell? ⟨gb105, 2, none⟩ = some (.string a0_2) := (bC_ BK105.out 2).trans rfl
      have hcz18_3 : wr.cell? ⟨gb105, 3, none⟩ = some (.string a0_3) := (bC_ BK105.out 3).trans rfl
      have hfz18_0 := bF_ BK105.out 0
      have hfz18_1 := bF_ BK105.out 1
      have hfz18_2 := bF_ BK105.out 2
      have hfz18_3 := bF_ BK105.out 3
      go_wp2
      go_ret
      exact ⟨by first | rfl | (simp [errW_none, errW_some] <;> rfl) | (simp [*, errW_none, errW_some] <;> rfl) | (exfalso; contradiction), by repeat (first | (with_reducible first | exact HB.out | apply bB_ | apply wN_ | apply bE_ | refine bS_ ?_ GE105.out) | exact HB.out)⟩
     ·
      rw [if_neg c17] at H
      have c17b0 : (a0_3.toList == ([] : List UInt8)) = false := beq_eq_false_iff_ne.mpr c17
      have c17b1 : (a0_3.toList != ([] : List UInt8)) = true := bne_iff_ne.mpr c17
      by_cases c19 : x3_1.size + 1 ≤ 9223372036854775807
      ·
       rw [if_pos c19] at H
       have c19b0 := eq_true c19
       have c19b1 : decide (x3_1.size + 1 ≤ 9223372036854775807) = true := decide_eq_true c19
       try have c19b2 : (9223372036854775807 < x3_1.size + 1) = False := eq_false (Nat.not_lt.2 c19)
       by_cases c20 : (x3_1 ++ (⟨#[43]⟩ : ByteArray)).size + a0_3.size ≤ 9223372036854775807
       ·
        rw [if_pos c20] at H
        have c20b0 := eq_true c20
        have c20b1 : decide ((x3_1 ++ (⟨#[43]⟩ : ByteArray)).size + a0_3.size ≤ 9223372036854775807) = true := decide_eq_true c20
        try have c20b2 : (9223372036854775807 < (x3_1 ++ (⟨#[43]⟩ : ByteArray)).size + a0_3.size) = False := eq_false (Nat.not_lt.2 c20)
        try have c20b7 : (9223372036854775807 < x3_1.size + 1 + a0_3.size) = False := eq_false (Nat.not_lt.2 (by have h_ := c20; simp only [ByteArray.size_append] at h_; exact h_))
        obtain rfl := Option.some.inj H
        have hcz21_0 : wr.cell? ⟨gb105, 0, none⟩ = some (.slice A0_0 l0_0.length c0_0) := (bC_ BK105.out 0).trans rfl
        have hcz21_1 : wr.cell? ⟨gb105, 1, none⟩ = some (.bool a0_1) := (bC_ BK105.out 1).trans rfl
        have hcz21_2 : wr.cell? ⟨gb105, 2, none⟩ = some (.string a0_2) := (bC_ BK105.out 2).trans rfl
        have hcz21_3 : wr.cell? ⟨gb105, 3, none⟩ = some (.string a0_3) := (bC_ BK105.out 3).trans rfl
        have hfz21_0 := bF_ BK105.out 0
        have hfz21_1 := bF_ BK105.out 1
        have hfz21_2 := bF_ BK105.out 2
        have hfz21_3 := bF_ BK105.out 3
        go_wp2
        go_ret
        exact ⟨by first | rfl | (simp [errW_none, errW_some] <;> rfl) | (simp [*, errW_none, errW_some] <;> rfl) | (exfalso; contradiction), by repeat (first | (with_reducible first | exact HB.out | apply bB_ | apply wN_ | apply bE_ | refine bS_ ?_ GE105.out) | exact HB.out)⟩
       ·
        rw [if_neg c20] at H
        exact absurd H (by simp)
      ·
       rw [if_neg c19] at H
       exact absurd H (by simp)
    ·
     rw [if_neg c16] at H
     have c16b0 : (a0_2.toList == ([] : List UInt8)) = false := beq_eq_false_iff_ne.mpr c16
     have c16b1 : (a0_2.toList != ([] : List UInt8)) = true := bne_iff_ne.mpr c16
     by_cases c22 : x3_1.size + 1 ≤ 9223372036854775807
     ·
      rw [if_pos c22] at H
      have c22b0 := eq_true c22
      have c22b1 : decide (x3_1.size + 1 ≤ 9223372036854775807) = true := decide_eq_true c22
      try have c22b2 : (9223372036854775807 < x3_1.size + 1) = False := eq_false (Nat.not_lt.2 c22)
      by_cases c23 : (x3_1 ++ (⟨#[45]⟩ : ByteArray)).size + a0_2.size ≤ 9223372036854775807
      ·
       rw [if_pos c23] at H
       have c23b0 := eq_true c23
       have c23b1 : decide ((x3_1 ++ (⟨#[45]⟩ : ByteArray)).size + a0_2.size ≤ 9223372036854775807) = true := decide_eq_true c23
       try have c23b2 : (9223372036854775807 < (x3_1 ++ (⟨#[45]⟩ : ByteArray)).size + a0_2.size) = False := eq_false (Nat.not_lt.2 c23)
       try have c23b7 : (9223372036854775807 < x3_1.size + 1 + a0_2.size) = False := eq_false (Nat.not_lt.2 (by have h_ := c23; simp only [ByteArray.size_append] at h_; exact h_))
       by_cases c24 : a0_3.toList = ([] : List UInt8)
       ·
        rw [if_pos c24] at H
        have c24b0 : (a0_3.toList == ([] : List UInt8)) = true := beq_iff_eq.mpr c24
        have c24b1 : (a0_3.toList != ([] : List UInt8)) = false := bne_eq_false_iff_eq.mpr c24
        clear c24
        obtain rfl := Option.some.inj H
        have hcz25_0 : wr.cell? ⟨gb105, 0, none⟩ = some (.slice A0_0 l0_0.length c0_0) := (bC_ BK105.out 0).trans rfl
        have hcz25_1 : wr.cell? ⟨gb105, 1, none⟩ = some (.bool a0_1) := (bC_ BK105.out 1).trans rfl
        have hcz25_2 : wr.cell? ⟨gb105, 2, none⟩ = some (.string a0_2) := (bC_ BK105.out 2).trans rfl
        have hcz25_3 : wr.cell? ⟨gb105, 3, none⟩ = some (.string a0_3) := (bC_ BK105.out 3).trans rfl
        have hfz25_0 := bF_ BK105.out 0
        have hfz25_1 := bF_ BK105.out 1
        have hfz25_2 := bF_ BK105.out 2
        have hfz25_3 := bF_ BK105.out 3
        go_wp2
        go_ret
        exact ⟨by first | rfl | (simp [errW_none, errW_some] <;> rfl) | (simp [*, errW_none, errW_some] <;> rfl) | (exfalso; contradiction), by repeat (first | (with_reducible first | exact HB.out | apply bB_ | apply wN_ | apply bE_ | refine bS_ ?_ GE105.out) | exact HB.out)⟩
       ·
        rw [if_neg c24] at H
        have c24b0 : (a0_3.toList == ([] : List UInt8)) = false := beq_eq_false_iff_ne.mpr c24
        have c24b1 : (a0_3.toList != ([] : List UInt8)) = true := bne_iff_ne.mpr c24
        by_cases c26 : ((x3_1 ++ (⟨#[45]⟩ : ByteArray)) ++ a0_2).size + 1 ≤ 9223372036854775807
        ·
         rw [if_pos c26] at H
         have c26b0 := eq_true c26
         have c26b1 : decide (((x3_1 ++ (⟨#[45]⟩ : ByteArray)) ++ a0_2).size + 1 ≤ 9223372036854775807) = true := decide_eq_true c26
         try have c26b2 : (9223372036854775807 < ((x3_1 ++ (⟨#[45]⟩ : ByteArray)) ++ a0_2).size + 1) = False := eq_false (Nat.not_lt.2 c26)
         try have c26b7 : (9223372036854775807 < x3_1.size + 1 + a0_2.size + 1) = False := eq_false (Nat.not_lt.2 (by have h_ := c26; simp only [ByteArray.size_append] at h_; exact h_))
         by_cases c27 : (((x3_1 ++ (⟨#[45]⟩ : ByteArray)) ++ a0_2) ++ (⟨#[43]⟩ : ByteArray)).size + a0_3.size ≤ 9223372036854775807
         ·
          rw [if_pos c27] at H
          have c27b0 := eq_true c27
          have c27b1 : decide ((((x3_1 ++ (⟨#[45]⟩ : ByteArray)) ++ a0_2) ++ (⟨#[43]⟩ : ByteArray)).size + a0_3.size ≤ 9223372036854775807) = true := decide_eq_true c27
          try have c27b2 : (9223372036854775807 < (((x3_1 ++ (⟨#[45]⟩ : ByteArray)) ++ a0_2) ++ (⟨#[43]⟩ : ByteArray)).size + a0_3.size) = False := eq_false (Nat.not_lt.2 c27)
          try have c27b7 : (9223372036854775807 < x3_1.size + 1 + a0_2.size + 1 + a0_3.size) = False := eq_false (Nat.not_lt.2 (by have h_ := c27; simp only [ByteArray.size_append] at h_; exact h_))
          obtain rfl := Option.some.inj H
          have hcz28_0 : wr.cell? ⟨gb105, 0, none⟩ = some (.slice A0_0 l0_0.length c0_0) := (bC_ BK105.out 0).trans rfl
          have hcz28_1 : wr.cell? ⟨gb105, 1, none⟩ = some (.bool a0_1) := (bC_ BK105.out 1).trans rfl
          have hcz28_2 : wr.cell? ⟨gb105, 2, none⟩ = some (.string a0_2) := (bC_ BK105.out 2).trans rfl
          have hcz28_3 : wr.cell? ⟨gb105, 3, none⟩ = some (.string a0_3) := (bC_ BK105.out 3).trans rfl
          have hfz28_0 := bF_ BK105.out 0
          have hfz28_1 := bF_ BK105.out 1
          have hfz28_2 := bF_ BK105.out 2
          have hfz28_3 := bF_ BK105.out 3
          go_wp2
          go_ret
          exact ⟨by first | rfl | (simp [errW_none, errW_some] <;> rfl) | (simp [*, errW_none, errW_some] <;> rfl) | (exfalso; contradiction), by repeat (first | (with_reducible first | exact HB.out | apply bB_ | apply wN_ | apply bE_ | refine bS_ ?_ GE105.out) | exact HB.out)⟩
         ·
          rw [if_neg c27] at H
          exact absurd H (by simp)
        ·
         rw [if_neg c26] at H
         exact absurd H (by simp)
      ·
       rw [if_neg c23] at H
       exact absurd H (by simp)
     ·
      rw [if_neg c22] at H
      exact absurd H (by simp)

/-! ### spec_Version_part: function 28 -/
def spec_Version_part.f (l0_0 : List Int) (a0_1 : Bool) (a0_2 : ByteArray) (a0_3 : ByteArray) (a1 : Int) : Option (Int) := if a1 < (l0_0.length : Int) then (if 0 ≤ a1 then (some (rd l0_0 a1)) else (none)) else (some 0)
set_option maxHeartbeats 8000000 in
set_option maxRecDepth 100000 in
theorem spec_Version_part.calls (A0_0 : Option Addr) (c0_0 : Nat) (l0_0 : List Int) (a0_1 : Bool) (a0_2 : ByteArray) (a0_3 : ByteArray) (a1 : Int) (r : Int) (w : World) (hr0_0 : Kd.C (Kd.int .u64) w A0_0 l0_0.length l0_0) (hc0_0 : l0_0.length ≤ c0_0) (h : spec_Version_part.f l0_0 a0_1 a0_2 a0_3 a1 = some r) :
  Calls Tryd.prog 28 #[.agg #[.slice A0_0 l0_0.length c0_0, .bool a0_1, .string a0_2, .string a0_3], .int .i64 a1] w fun e w' => e = .returned (.int .u64 r) ∧ Below w.heap.size w w' := by
 have hu26 := Tryd.underlying26
 have HR0_0 := aM_ hr0_0
 have HC0_0 := aM_ hc0_0
 clear hr0_0 hc0_0
 have HB := aM_ (Below.refl w.heap.size w)
 have H : (if a1 < (l0_0.length : Int) then (if 0 ≤ a1 then (some (rd l0_0 a1)) else (none)) else (some 0)) = some r := h
 clear h
 by_cases c3 : a1 < (l0_0.length : Int)
 ·
  rw [if_pos c3] at H
  have c3b0 : decide (a1 < (l0_0.length : Int)) = true := decide_eq_true c3
  clear c3
  by_cases c4 : 0 ≤ a1
  ·
   rw [if_pos c4] at H
   have c4b0 : decide (0 ≤ a1) = true := decide_eq_true c4
   clear c4
   obtain rfl := Option.some.inj H
   go_enter Tryd.func28, Tryd.ntmps28
   go_wp2_with (first | ((with_reducible refine gate_dst (N := 2) rfl ?_); refine box_event ?hg (N := 2) ?hd (cs := #[.slice A0_0 l0_0.length c0_0, .bool a0_1, .string a0_2, .string a0_3]) (t := 26) ?hr ?_; (case hd => rfl); (case hg => rfl); (case hr => first | (go_simp; done) | (go_simp; rfl)); intro gb110 hg w5 hbox hb; have n0_ := aM_ (below_step (by repeat (first | (with_reducible first | exact HB.out | apply bB_ | apply wN_ | apply bE_) | exact HB.out)) hb); have n1_ := aM_ (hbox); have n2_ := aM_ ((by rw [hg]; exact (below_size (by repeat (first | (with_reducible first | exact HB.out | apply bB_ | apply wN_ | apply bE_) | exact HB.out))) : w.heap.size ≤ gb110)); have n3_ := aM_ ((by rw [hg]; exact (below_size (by repeat (first | (with_reducible first | exact HB.out | apply bB_ | apply wN_ | apply bE_) | exact HB.out))) : w.heap.size ≤ gb110)); clear HB; have HB := n0_; have BK110 := n1_; have GW110 := n2_; have GE110 := n3_; clear n0_ n1_ n2_ n3_; clear hb hbox hg; have hcz6_0 : w5.cell? ⟨gb110, 0, none⟩ = some (.slice A0_0 l0_0.length c0_0) := (bC_ BK110.out 0).trans rfl; have hcz6_1 : w5.cell? ⟨gb110, 1, none⟩ = some (.bool a0_1) := (bC_ BK110.out 1).trans rfl; have hcz6_2 : w5.cell? ⟨gb110, 2, none⟩ = some (.string a0_2) := (bC_ BK110.out 2).trans rfl; have hcz6_3 : w5.cell? ⟨gb110, 3, none⟩ = some (.string a0_3) := (bC_ BK110.out 3).trans rfl; have hfz6_0 := bF_ BK110.out 0; have hfz6_1 := bF_ BK110.out 1; have hfz6_2 := bF_ BK110.out 2; have hfz6_3 := bF_ BK110.out 3; have p111 : 0 ≤ (a1 : Int) := of_decide_eq_true (by first | (with_reducible assumption) | assumption); have q111 : a1 < (l0_0.length : Int) := of_decide_eq_true (by first | (with_reducible assumption) | assumption); obtain ⟨ad111, e111, hx111_0⟩ := Kd.at_int HR0_0.out a1 p111 q111; cases e111; replace hx111_0 := (HB.out.cell (World.block_lt_of_cell? w _ hx111_0)).trans hx111_0; replace p111 := eq_true p111; replace q111 := eq_true q111))
   go_ret
   exact ⟨by first | rfl | (simp [errW_none, errW_some] <;> rfl) | (simp [*, errW_none, errW_some] <;> rfl) | (exfalso; contradiction), by repeat (first | (with_reducible first | exact HB.out | apply bB_ | apply wN_ | apply bE_ | refine bS_ ?_ GE110.out) | exact HB.out)⟩
  ·
   rw [if_neg c4] at H
   exact absurd H (by simp)
 ·
  rw [if_neg c3] at H
  have c3b0 : decide (a1 < (l0_0.length : Int)) = false := decide_eq_false c3
  clear c3
  obtain rfl := Option.some.inj H
  go_enter Tryd.func28, Tryd.ntmps28
  go_wp2_with (first | ((with_reducible refine gate_dst (N := 2) rfl ?_); refine box_event ?hg (N := 2) ?hd (cs := #[.slice A0_0 l0_0.length c0_0, .bool a0_1, .string a0_2, .string a0_3]) (t := 26) ?hr ?_; (case hd => rfl); (case hg => rfl); (case hr => first | (go_simp; done) | (go_simp; rfl)); intro gb110 hg w7 hbox hb; have n0_ := aM_ (below_step (by repeat (first | (with_reducible first | exact HB.out | apply bB_ | apply wN_ | apply bE_) | exact HB.out)) hb); have n1_ := aM_ (hbox); have n2_ := aM_ ((by rw [hg]; exact (below_size (by repeat (first | (with_reducible first | exact HB.out | apply bB_ | apply wN_ | apply bE_) | exact HB.out))) : w.heap.size ≤ gb110)); have n3_ := aM_ ((by rw [hg]; exact (below_size (by repeat (first | (with_reducible first | exact HB.out | apply bB_ | apply wN_ | apply bE_) | exact HB.out))) : w.heap.size ≤ gb110)); clear HB; have HB := n0_; have BK110 := n1_; have GW110 := n2_; have GE110 := n3_; clear n0_ n1_ n2_ n3_; clear hb hbox hg; have hcz8_0 : w7.cell? ⟨gb110, 0, none⟩ = some (.slice A0_0 l0_0.length c0_0) := (bC_ BK110.out 0).trans rfl; have hcz8_1 : w7.cell? ⟨gb110, 1, none⟩ = some (.bool a0_1) := (bC_ BK110.out 1).trans rfl; have hcz8_2 : w7.cell? ⟨gb110, 2, none⟩ = some (.string a0_2) := (bC_ BK110.out 2).trans rfl; have hcz8_3 : w7.cell? ⟨gb110, 3, none⟩ = some (.string a0_3) := (bC_ BK110.out 3).trans rfl; have hfz8_0 := bF_ BK110.out 0; have hfz8_1 := bF_ BK110.out 1; have hfz8_2 := bF_ BK110.out 2; have hfz8_3 := bF_ BK110.out 3))
  go_ret
  exact ⟨by first | rfl | (simp [errW_none, errW_some] <;> rfl) | (simp [*, errW_none, errW_some] <;> rfl) | (exfalso; contradiction), by repeat (first | (with_reducible first | exact HB.out | apply bB_ | apply wN_ | apply bE_ | refine bS_ ?_ GE110.out) | exact HB.out)⟩

end Go.Proofs.YtomoefldmgfaoaaDoor.PFnVersionSteps
